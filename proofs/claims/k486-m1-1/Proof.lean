import JvmDerived
import JvmDerived.Pilot.@@N@@Statement
import JvmDerived.Pilot.@@N@@Code
set_option linter.unusedVariables false
set_option linter.unusedSimpArgs false
namespace Jvm.Pilot.@@N@@
/-- the frame is the narrow one -/
def NW : Bool := false
end Jvm.Pilot.@@N@@
/- laws to paste: Road.backV, Road.codOf, Road.eqW, Road.chN (cut by pick.py; bodies as the Statement names them) -/
namespace Jvm.Pilot.@@N@@
namespace StrChars
open Jvm Sem ClassFile Op Lib Jvm.Stand Jvm.Free.XT Jvm.Free.ALB Jvm.Free.JM Jvm.Free
open Jvm.Lib.Cold (StaticIs)
/-- a char array whose places are chars -/
def Ch (a : Addr) (A : Cell) (U : State) : Prop := Arr .char a A U ∧ Typed .char A
theorem Ch.mv {a : Addr} {A : Cell} {U U' : State} (h : Ch a A U) (hal : U.vm.Alike U'.vm) (hh : U'.heap = U.heap) : Ch a A U' := ⟨h.1.mv hal hh, h.2⟩
theorem Ch.keep {a : Addr} {A : Cell} {U U' : State} (h : Ch a A U) (hal : U.vm.Alike U'.vm) (hk : U'.heap[a]? = some A) : Ch a A U' := ⟨h.1.keep hal hk, h.2⟩
/-- what place i of a char[]'s cell holds -/
def cv (A : Cell) (i : Nat) : Int32 := match A.slots[i]? with | some (.int x) => x | _ => 0
theorem Ch.get {a : Addr} {A : Cell} {U : State} (h : Ch a A U) {i : Nat} (hi : i < A.slots.size) : A.slots[i]? = some (.int (cv A i)) := by
  have e := Array.getElem?_eq_getElem hi
  have f := h.2 i _ e
  unfold cv; rw [e]
  generalize A.slots[i] = v at f
  cases v <;> simp [fits] at f ⊢
/-- the byte that i2b leaves of a char -/
def lo8 (x : Int32) : Int32 := x.toInt8.toInt32
theorem fits_lo8 (y : Int32) : fits .byte (.int (lo8 y)) = true := by
  have h1 := y.toInt8.le_toInt
  have h2 := y.toInt8.toInt_lt
  simp only [lo8, fits, Bool.and_eq_true, decide_eq_true_eq, Int32.le_iff_toInt_le, Int8.toInt_toInt32, show (-128 : Int32).toInt = -128 from by decide, show (127 : Int32).toInt = 127 from by decide]
  omega
/-- A' is A but that each place j of lo .. hi - 1 holds f j -/
def Laid (A A' : Cell) (lo hi : Nat) (f : Nat → Value) : Prop := A'.cls = A.cls ∧ A'.vm = A.vm ∧ A'.slots.size = A.slots.size ∧ ∀ i, A'.slots[i]? = if lo ≤ i ∧ i < hi then some (f i) else A.slots[i]?
theorem Laid.zero (A : Cell) (lo : Nat) (f : Nat → Value) : Laid A A lo (lo + 0) f := ⟨rfl, rfl, rfl, fun i => by rw [if_neg (by omega)]⟩
theorem Laid.step {A Ak : Cell} {lo k : Nat} {f : Nat → Value} {v : Value} (h : Laid A Ak lo k f) (hlo : lo ≤ k) (hk : k < Ak.slots.size) (hv : v = f k) : Laid A (Ak.setSlot k v) lo (k + 1) f := by
  refine ⟨h.1, h.2.1, by simpa [Cell.setSlot] using h.2.2.1, fun i => ?_⟩
  by_cases e : k = i
  · subst e; rw [Cell.slots_setSlot_self v hk, if_pos (by omega), hv]
  · rw [Cell.slots_setSlot_ne v e, h.2.2.2 i]
    by_cases q : lo ≤ i ∧ i < k
    · rw [if_pos q, if_pos (by omega)]
    · rw [if_neg q, if_neg (by omega)]
def U16 : String := "java/lang/StringUTF16"
namespace Cmp5
def yN : MethodName := ⟨"java/lang/StringUTF16", "compress", "([CI[BII)I"⟩
abbrev yB : ByteArray := jdk_52_method_21_code
theorem d0 : decode yB 0 = .ok (.iconst 0, 1) := by decide +kernel
theorem d1 : decode yB 1 = .ok (.istore 5, 2) := by decide +kernel
theorem d3 : decode yB 3 = .ok (.iload 5, 2) := by decide +kernel
theorem d5 : decode yB 5 = .ok (.iload 4, 2) := by decide +kernel
theorem d7 : decode yB 7 = .ok (.if_icmp (.ge) 37, 3) := by decide +kernel
theorem d10 : decode yB 10 = .ok (.aload_n 0, 1) := by decide +kernel
theorem d11 : decode yB 11 = .ok (.iload_n 1, 1) := by decide +kernel
theorem d12 : decode yB 12 = .ok (.caload, 1) := by decide +kernel
theorem d13 : decode yB 13 = .ok (.istore 6, 2) := by decide +kernel
theorem d15 : decode yB 15 = .ok (.iload 6, 2) := by decide +kernel
theorem d17 : decode yB 17 = .ok (.sipush 255, 3) := by decide +kernel
theorem d20 : decode yB 20 = .ok (.if_icmp (.le) 6, 3) := by decide +kernel
theorem d26 : decode yB 26 = .ok (.aload_n 2, 1) := by decide +kernel
theorem d27 : decode yB 27 = .ok (.iload_n 3, 1) := by decide +kernel
theorem d28 : decode yB 28 = .ok (.iload 6, 2) := by decide +kernel
theorem d30 : decode yB 30 = .ok (.i2b, 1) := by decide +kernel
theorem d31 : decode yB 31 = .ok (.bastore, 1) := by decide +kernel
theorem d32 : decode yB 32 = .ok (.iinc 1 1, 3) := by decide +kernel
theorem d35 : decode yB 35 = .ok (.iinc 3 1, 3) := by decide +kernel
theorem d38 : decode yB 38 = .ok (.iinc 5 1, 3) := by decide +kernel
theorem d41 : decode yB 41 = .ok (.goto (-38), 3) := by decide +kernel
theorem d44 : decode yB 44 = .ok (.iload 4, 2) := by decide +kernel
theorem d46 : decode yB 46 = .ok (.ireturn, 1) := by decide +kernel
def site : List Cond := []
def tab : Cond := tabOf yN yB 7 (some .int) site
def P (b : Addr) (A : Cell) (d : Addr) (B : Cell) (o q len : Nat) (args : Array Value) (s : State) : Prop := args = #[.ref b, .int (Int32.ofNat o), .ref d, .int (Int32.ofNat q), .int (Int32.ofNat len)] ∧ Ch b A s ∧ Arr .byte d B s ∧ b ≠ d ∧ o + len ≤ A.slots.size ∧ q + len ≤ B.slots.size ∧ ∀ i, i < len → ¬ 255 < cv A (o + i)
def E (b : Addr) (A : Cell) (d : Addr) (B : Cell) (o q len : Nat) (r : Option Value) (s u : State) : Prop := r = some (.int (Int32.ofNat len)) ∧ ∃ B', Put d B' s u ∧ Laid B B' q (q + len) (fun j => Value.int (lo8 (cv A (o + (j - q)))))
/-- no char of the range above 255: len; the places written hold each char's low byte -/
theorem law (l : Launch) (b : Addr) (A : Cell) (d : Addr) (B : Cell) (o q len : Nat) : Law l yN 5 5 0 0 yB 7 (some .int) site (P b A d B o q len) (E b A d B o q len) (copyLocs d q len) 0 0 := by
  refine Law.of_walk (plainFor_of_name (by decide +kernel)) (by decide +kernel) (by decide +kernel) (by decide) (fun _ _ h => by rw [h.1]; rfl) (fun _ U U' hal hh h => ⟨h.1, h.2.1.mv hal hh, h.2.2.1.mv hal hh, h.2.2.2⟩) (fun r U U' V V' h1 hal h2 h => ⟨h.1, h.2.elim fun B' q => ⟨B', q.1.mv h1 h2, q.2⟩⟩) ?_
  intro p e s m args below meth c s₁ X0 hexec hbytes hml hret hlk hnm hown hh0 W hP
  obtain ⟨rfl, hA, hB, hne, l1, l2, hp⟩ := hP
  have c1 : Steps p.tables e below (s₁.setTop (entryFrame m #[.ref b, .int (Int32.ofNat o), .ref d, .int (Int32.ofNat q), .int (Int32.ofNat len)] 7)) (s₁.setTop (mkF m 0 #[.val (.ref b), .val (.int (Int32.ofNat o)), .val (.ref d), .val (.int (Int32.ofNat q)), .val (.int (Int32.ofNat len)), .unset, .unset] [])) := entry rfl
  have hA0 := hA.1.mv X0.warmed.alike hh0
  have hB0 := hB.mv X0.warmed.alike hh0
  have a31 := hA.1.2.2.2
  have c2 : Steps p.tables e below (s₁.setTop (entryFrame m #[.ref b, .int (Int32.ofNat o), .ref d, .int (Int32.ofNat q), .int (Int32.ofNat len)] 7)) (s₁.setTop (mkF m 3 #[.val (.ref b), .val (.int (Int32.ofNat o)), .val (.ref d), .val (.int (Int32.ofNat q)), .val (.int (Int32.ofNat len)), .val (.int 0), .unset] [])) := c1.trans (by
    refine iconstV X0.here hexec rfl 0 (hb hbytes d0) (by decide) ?_
    refine XS.istore X0.here hexec rfl (hb hbytes d1) rfl rfl ?_
    exact Steps.refl _)
  have loop : ∀ (r i : Nat), i + r = len → ∀ (z : Slot), (z = .unset ∨ ∃ w, z = .val w ∧ w.category = 1) → ∀ (Tl : State) (Bk : Cell), Stand p l e { frames := 0, locals := 0, cells := 0, slots := 0 } s m #[.ref b, .int (Int32.ofNat o), .ref d, .int (Int32.ofNat q), .int (Int32.ofNat len)] below meth c Tl ([] ++ copyLocs d q i) 0 0 → Put d Bk s₁ Tl → Laid B Bk q (q + i) (fun j => Value.int (lo8 (cv A (o + (j - q))))) →
      Steps p.tables e below (s₁.setTop (entryFrame m #[.ref b, .int (Int32.ofNat o), .ref d, .int (Int32.ofNat q), .int (Int32.ofNat len)] 7)) (Tl.setTop (mkF m 3 #[.val (.ref b), .val (.int (Int32.ofNat (o + i))), .val (.ref d), .val (.int (Int32.ofNat (q + i))), .val (.int (Int32.ofNat len)), .val (.int (Int32.ofNat i)), z] [])) → ∃ (T' : State) (B' : Cell) (z' : Slot), Stand p l e { frames := 0, locals := 0, cells := 0, slots := 0 } s m #[.ref b, .int (Int32.ofNat o), .ref d, .int (Int32.ofNat q), .int (Int32.ofNat len)] below meth c T' ([] ++ copyLocs d q len) 0 0 ∧ Put d B' s₁ T' ∧ Laid B B' q (q + len) (fun j => Value.int (lo8 (cv A (o + (j - q))))) ∧
      Steps p.tables e below (s₁.setTop (entryFrame m #[.ref b, .int (Int32.ofNat o), .ref d, .int (Int32.ofNat q), .int (Int32.ofNat len)] 7)) (T'.setTop (mkF m 3 #[.val (.ref b), .val (.int (Int32.ofNat (o + len))), .val (.ref d), .val (.int (Int32.ofNat (q + len))), .val (.int (Int32.ofNat len)), .val (.int (Int32.ofNat len)), z'] [])) := by
    intro r
    induction r with
    | zero =>
      intro i hi z hz Tl Bk Xl pl fl cl
      have hil : i = len := by omega
      rw [hil] at Xl fl cl
      exact ⟨Tl, Bk, z, Xl, pl, fl, cl⟩
    | succ r ih =>
      intro i hi z hz Tl Bk Xl pl fl cl
      have all := X0.warmed.alike.symm.trans Xl.warmed.alike
      have hAl := hA0.keep all (pl.other hne hA0.1)
      have hBk := hB0.like all pl.1 fl.1 fl.2.1 fl.2.2.1
      have hlt : q + i < Bk.slots.size := by rw [fl.2.2.1]; omega
      have c3 : Steps p.tables e below (s₁.setTop (entryFrame m #[.ref b, .int (Int32.ofNat o), .ref d, .int (Int32.ofNat q), .int (Int32.ofNat len)] 7)) (Tl.setTop (mkF m 12 #[.val (.ref b), .val (.int (Int32.ofNat (o + i))), .val (.ref d), .val (.int (Int32.ofNat (q + i))), .val (.int (Int32.ofNat len)), .val (.int (Int32.ofNat i)), z] [.int (Int32.ofNat (o + i)), .ref b])) := cl.trans (by
        refine XS.iload Xl.here hexec rfl (hb hbytes d3) rfl ?_
        refine XS.iload Xl.here hexec rfl (hb hbytes d5) rfl ?_
        refine XS.icmpNo Xl.here hexec rfl (hb hbytes d7) rfl (ii_ge_f (lt32 (by omega) (by omega))) ?_
        refine XS.aloadN Xl.here hexec rfl (hb hbytes d10) rfl rfl ?_
        refine XS.iloadN Xl.here hexec rfl (hb hbytes d11) rfl ?_
        exact Steps.refl _)
      have c4 : Steps p.tables e below (s₁.setTop (entryFrame m #[.ref b, .int (Int32.ofNat o), .ref d, .int (Int32.ofNat q), .int (Int32.ofNat len)] 7)) (Tl.setTop (mkF m 13 #[.val (.ref b), .val (.int (Int32.ofNat (o + i))), .val (.ref d), .val (.int (Int32.ofNat (q + i))), .val (.int (Int32.ofNat len)), .val (.int (Int32.ofNat i)), z] [.int (cv A (o + i))])) := c3.trans (by
        refine Xl.aget hexec hAl rfl (hA.get (i := o + i) (by omega)) rfl rfl (hb hbytes d12) ?_
        exact Steps.refl _)
      have c5 : Steps p.tables e below (s₁.setTop (entryFrame m #[.ref b, .int (Int32.ofNat o), .ref d, .int (Int32.ofNat q), .int (Int32.ofNat len)] 7)) (Tl.setTop (mkF m 15 #[.val (.ref b), .val (.int (Int32.ofNat (o + i))), .val (.ref d), .val (.int (Int32.ofNat (q + i))), .val (.int (Int32.ofNat len)), .val (.int (Int32.ofNat i)), .val (.int (cv A (o + i)))] [])) := c4.trans (by
        refine XS.istoreS Xl.here hexec rfl (hb hbytes d13) rfl rfl hz ?_
        exact Steps.refl _)
      have c6 : Steps p.tables e below (s₁.setTop (entryFrame m #[.ref b, .int (Int32.ofNat o), .ref d, .int (Int32.ofNat q), .int (Int32.ofNat len)] 7)) (Tl.setTop (mkF m 31 #[.val (.ref b), .val (.int (Int32.ofNat (o + i))), .val (.ref d), .val (.int (Int32.ofNat (q + i))), .val (.int (Int32.ofNat len)), .val (.int (Int32.ofNat i)), .val (.int (cv A (o + i)))] [.int (lo8 (cv A (o + i))), .int (Int32.ofNat (q + i)), .ref d])) := c5.trans (by
        refine XS.iload Xl.here hexec rfl (hb hbytes d15) rfl ?_
        refine sipushV Xl.here hexec rfl 255 (hb hbytes d17) (by decide) ?_
        refine XS.icmpYes Xl.here hexec rfl (pc0 := 20) rfl (hb hbytes d20) rfl (ii_le_t (hp i (by omega))) (by decide) rfl ?_
        refine XS.aloadN Xl.here hexec rfl (hb hbytes d26) rfl rfl ?_
        refine XS.iloadN Xl.here hexec rfl (hb hbytes d27) rfl ?_
        refine XS.iload Xl.here hexec rfl (hb hbytes d28) rfl ?_
        refine i2b Xl.here hexec rfl (hb hbytes d30) rfl ?_
        exact Steps.refl _)
      obtain ⟨T7, X7, p7, st7⟩ := Xl.aput hexec hBk rfl hlt rfl (fits_lo8 (cv A (o + i))) (g := (mkF m 31 #[.val (.ref b), .val (.int (Int32.ofNat (o + i))), .val (.ref d), .val (.int (Int32.ofNat (q + i))), .val (.int (Int32.ofNat len)), .val (.int (Int32.ofNat i)), .val (.int (cv A (o + i)))] [.int (lo8 (cv A (o + i))), .int (Int32.ofNat (q + i)), .ref d])) rfl (rest := []) rfl (hb hbytes d31)
      have c8 : Steps p.tables e below (s₁.setTop (entryFrame m #[.ref b, .int (Int32.ofNat o), .ref d, .int (Int32.ofNat q), .int (Int32.ofNat len)] 7)) (T7.setTop (mkF m 32 #[.val (.ref b), .val (.int (Int32.ofNat (o + i))), .val (.ref d), .val (.int (Int32.ofNat (q + i))), .val (.int (Int32.ofNat len)), .val (.int (Int32.ofNat i)), .val (.int (cv A (o + i)))] [])) := c6.trans (st7 _ (Steps.refl _))
      have c9 : Steps p.tables e below (s₁.setTop (entryFrame m #[.ref b, .int (Int32.ofNat o), .ref d, .int (Int32.ofNat q), .int (Int32.ofNat len)] 7)) (T7.setTop (mkF m 3 #[.val (.ref b), .val (.int (Int32.ofNat (o + i) + 1)), .val (.ref d), .val (.int (Int32.ofNat (q + i) + 1)), .val (.int (Int32.ofNat len)), .val (.int (Int32.ofNat i + 1)), .val (.int (cv A (o + i)))] [])) := c8.trans (by
        refine iincV X7.here hexec rfl 1 (hb hbytes d32) (by decide) rfl rfl ?_
        refine iincV X7.here hexec rfl 1 (hb hbytes d35) (by decide) rfl rfl ?_
        refine iincV X7.here hexec rfl 1 (hb hbytes d38) (by decide) rfl rfl ?_
        refine XS.goto X7.here hexec rfl (pc0 := 41) rfl (hb hbytes d41) (by decide) rfl ?_
        exact Steps.refl _)
      have c10 : Steps p.tables e below (s₁.setTop (entryFrame m #[.ref b, .int (Int32.ofNat o), .ref d, .int (Int32.ofNat q), .int (Int32.ofNat len)] 7)) (T7.setTop (mkF m 3 #[.val (.ref b), .val (.int (Int32.ofNat (o + (i + 1)))), .val (.ref d), .val (.int (Int32.ofNat (q + (i + 1)))), .val (.int (Int32.ofNat len)), .val (.int (Int32.ofNat (i + 1))), .val (.int (cv A (o + i)))] [])) := by
        have := c9
        rw [succ32, succ32, succ32] at this
        exact this
      exact ih (i + 1) (by omega) _ (Or.inr ⟨_, rfl, rfl⟩) T7 _ (by rw [copyLocs_step, ← List.append_assoc]; exact X7) (pl.trans p7) (fl.step (by omega) hlt (by simp)) c10
  obtain ⟨T9, B9, z9, X9, p9, f9, g9⟩ := loop len 0 (by omega) .unset (Or.inl rfl) s₁ B (by simpa [copyLocs] using X0) ⟨hB0.1, fun _ _ => rfl, rfl⟩ (Laid.zero _ _ _) c2
  have c11 : Steps p.tables e below (s₁.setTop (entryFrame m #[.ref b, .int (Int32.ofNat o), .ref d, .int (Int32.ofNat q), .int (Int32.ofNat len)] 7)) (T9.setTop (mkF m 46 #[.val (.ref b), .val (.int (Int32.ofNat (o + len))), .val (.ref d), .val (.int (Int32.ofNat (q + len))), .val (.int (Int32.ofNat len)), .val (.int (Int32.ofNat len)), z9] [.int (Int32.ofNat len)])) := g9.trans (by
    refine XS.iload X9.here hexec rfl (hb hbytes d3) rfl ?_
    refine XS.iload X9.here hexec rfl (hb hbytes d5) rfl ?_
    refine XS.icmpYes X9.here hexec rfl (pc0 := 7) rfl (hb hbytes d7) rfl (ii_ge_t (nlt32 (by omega) (Nat.le_refl _))) (by decide) rfl ?_
    refine XS.iload X9.here hexec rfl (hb hbytes d44) rfl ?_
    exact Steps.refl _)
  exact ⟨T9, some (.int (Int32.ofNat len)), _, _, _, X9, by simp, rfl, rfl, (fun h => by cases h), ⟨rfl, B9, p9.from hh0, f9⟩, fun fs hl => c11.trans (X9.ireturnOut hexec hret rfl (Or.inl rfl) (hb hbytes d46) hl)⟩
end Cmp5
namespace Cmp3
def yN : MethodName := ⟨"java/lang/StringUTF16", "compress", "([CII)[B"⟩
abbrev yB : ByteArray := jdk_52_method_16_code
theorem d0 : decode yB 0 = .ok (.iload_n 2, 1) := by decide +kernel
theorem d1 : decode yB 1 = .ok (.newarray .byte, 2) := by decide +kernel
theorem d3 : decode yB 3 = .ok (.astore_n 3, 1) := by decide +kernel
theorem d4 : decode yB 4 = .ok (.aload_n 0, 1) := by decide +kernel
theorem d5 : decode yB 5 = .ok (.iload_n 1, 1) := by decide +kernel
theorem d6 : decode yB 6 = .ok (.aload_n 3, 1) := by decide +kernel
theorem d7 : decode yB 7 = .ok (.iconst 0, 1) := by decide +kernel
theorem d8 : decode yB 8 = .ok (.iload_n 2, 1) := by decide +kernel
theorem d9 : decode yB 9 = .ok (.invokestatic 115, 3) := by decide +kernel
theorem d12 : decode yB 12 = .ok (.istore 4, 2) := by decide +kernel
theorem d14 : decode yB 14 = .ok (.iload 4, 2) := by decide +kernel
theorem d16 : decode yB 16 = .ok (.iload_n 2, 1) := by decide +kernel
theorem d17 : decode yB 17 = .ok (.if_icmp (.eq) 40, 3) := by decide +kernel
theorem d57 : decode yB 57 = .ok (.aload_n 3, 1) := by decide +kernel
theorem d58 : decode yB 58 = .ok (.areturn, 1) := by decide +kernel
def site : List Cond := [.arrayClass .byte, Cmp5.tab] ++ staticW U16 115 Cmp5.yN
def tab : Cond := tabOf yN yB 6 (some (.array .byte)) site
def P (b : Addr) (A : Cell) (o len : Nat) (args : Array Value) (s : State) : Prop := args = #[.ref b, .int (Int32.ofNat o), .int (Int32.ofNat len)] ∧ Ch b A s ∧ o + len ≤ A.slots.size ∧ len ≤ 536870912 ∧ ∀ i, i < len → ¬ 255 < cv A (o + i)
def E (b : Addr) (A : Cell) (o len : Nat) (r : Option Value) (s u : State) : Prop := NewArr .byte "[B" len (fun j => .int (lo8 (cv A (o + j)))) r s u ∧ u.heap.size = s.heap.size + 1
/-- no char of the range above 255: a new byte[] of their low bytes -/
theorem law (l : Launch) (b : Addr) (A : Cell) (o len : Nat) : Law l yN 3 3 1 18 yB 6 (some (.array .byte)) site (P b A o len) (E b A o len) [] 1 len := by
  refine Law.of_walk (plainFor_of_name (by decide +kernel)) (by decide +kernel) (by decide +kernel) (by decide) (fun _ _ h => by rw [h.1]; rfl) (fun _ U U' hal hh h => ⟨h.1, h.2.1.mv hal hh, h.2.2⟩) (fun r U U' V V' h1 hal h2 h => ⟨NewArr.mv r U U' V V' h1 hal h2 h.1, by rw [h1, h2]; exact h.2⟩) ?_
  intro p e s m args below meth c s₁ X0 hexec hbytes hml hret hlk hnm hown hh0 W hP
  obtain ⟨rfl, hA, l1, l2, hp⟩ := hP
  have a31 := hA.1.2.2.2
  have c1 : Steps p.tables e below (s₁.setTop (entryFrame m #[.ref b, .int (Int32.ofNat o), .int (Int32.ofNat len)] 6)) (s₁.setTop (mkF m 0 #[.val (.ref b), .val (.int (Int32.ofNat o)), .val (.int (Int32.ofNat len)), .unset, .unset, .unset] [])) := entry rfl
  have c2 : Steps p.tables e below (s₁.setTop (entryFrame m #[.ref b, .int (Int32.ofNat o), .int (Int32.ofNat len)] 6)) (s₁.setTop (mkF m 1 #[.val (.ref b), .val (.int (Int32.ofNat o)), .val (.int (Int32.ofNat len)), .unset, .unset, .unset] [.int (Int32.ofNat len)])) := c1.trans (by
    refine XS.iloadN X0.here hexec rfl (hb hbytes d0) rfl ?_
    exact Steps.refl _)
  obtain ⟨T3, B3, X3, ba3, bs3, bv3, bh3, bf3, st3⟩ := X0.anew hexec (atype := .byte) (wk W (.arrayClass .byte)) rfl (by show len * 1 ≤ _; omega) (by omega) (g := (mkF m 1 #[.val (.ref b), .val (.int (Int32.ofNat o)), .val (.int (Int32.ofNat len)), .unset, .unset, .unset] [.int (Int32.ofNat len)])) rfl (hb hbytes d1) (rest := []) rfl (Nat.le_refl _) (by show 0 + len ≤ len; omega)
  rw [hh0] at ba3 st3
  have kp3 : XT.Kept s T3 := (XT.Kept.of_eq hh0).push bh3
  have hA3 := hA.keep X3.warmed.alike (kp3 _ _ hA.1.1)
  have hne : b ≠ s.heap.size := hA.1.ne
  have c4 : Steps p.tables e below (s₁.setTop (entryFrame m #[.ref b, .int (Int32.ofNat o), .int (Int32.ofNat len)] 6)) (T3.setTop (mkF m 3 #[.val (.ref b), .val (.int (Int32.ofNat o)), .val (.int (Int32.ofNat len)), .unset, .unset, .unset] [.ref s.heap.size])) := c2.trans (st3 _ (Steps.refl _))
  have c5 : Steps p.tables e below (s₁.setTop (entryFrame m #[.ref b, .int (Int32.ofNat o), .int (Int32.ofNat len)] 6)) (T3.setTop (mkF m 9 #[.val (.ref b), .val (.int (Int32.ofNat o)), .val (.int (Int32.ofNat len)), .val (.ref s.heap.size), .unset, .unset] [.int (Int32.ofNat len), .int 0, .ref s.heap.size, .int (Int32.ofNat o), .ref b])) := c4.trans (by
    refine XS.astoreN X3.here hexec rfl (hb hbytes d3) rfl rfl rfl ?_
    refine XS.aloadN X3.here hexec rfl (hb hbytes d4) rfl rfl ?_
    refine XS.iloadN X3.here hexec rfl (hb hbytes d5) rfl ?_
    refine XS.aloadN X3.here hexec rfl (hb hbytes d6) rfl rfl ?_
    refine iconstV X3.here hexec rfl 0 (hb hbytes d7) (by decide) ?_
    refine XS.iloadN X3.here hexec rfl (hb hbytes d8) rfl ?_
    exact Steps.refl _)
  obtain ⟨v6, T6, X6, E6, g6⟩ := X3.callS hexec (Cmp5.law l b A s.heap.size B3 o 0 len) hown (wks W (staticW U16 115 Cmp5.yN)) (wk W Cmp5.tab) (W := 0) (Nat.le_of_ble_eq_true rfl) (Nat.le_of_ble_eq_true rfl) (Nat.le_refl _) (by show 0 + len + 0 ≤ len; omega) (g := (mkF m 9 #[.val (.ref b), .val (.int (Int32.ofNat o)), .val (.int (Int32.ofNat len)), .val (.ref s.heap.size), .unset, .unset] [.int (Int32.ofNat len), .int (Int32.ofNat 0), .ref s.heap.size, .int (Int32.ofNat o), .ref b])) rfl (by rw [hml]; rfl) c5 (argsL := [.ref b, .int (Int32.ofNat o), .ref s.heap.size, .int (Int32.ofNat 0), .int (Int32.ofNat len)]) (rest := []) rfl rfl (by show 2 * 0 + 0 ≤ _; decide) (hb hbytes d9) (⟨rfl, hA3, ba3, hne, l1, by rw [bs3]; simp, hp⟩)
  obtain ⟨rfl, B6, p6, f6⟩ := E6
  have c7 : Steps p.tables e below (s₁.setTop (entryFrame m #[.ref b, .int (Int32.ofNat o), .int (Int32.ofNat len)] 6)) (T6.setTop (mkF m 12 #[.val (.ref b), .val (.int (Int32.ofNat o)), .val (.int (Int32.ofNat len)), .val (.ref s.heap.size), .unset, .unset] [.int (Int32.ofNat len)])) := g6
  have c8 : Steps p.tables e below (s₁.setTop (entryFrame m #[.ref b, .int (Int32.ofNat o), .int (Int32.ofNat len)] 6)) (T6.setTop (mkF m 58 #[.val (.ref b), .val (.int (Int32.ofNat o)), .val (.int (Int32.ofNat len)), .val (.ref s.heap.size), .val (.int (Int32.ofNat len)), .unset] [.ref s.heap.size])) := c7.trans (by
    refine XS.istore X6.here hexec rfl (hb hbytes d12) rfl rfl ?_
    refine XS.iload X6.here hexec rfl (hb hbytes d14) rfl ?_
    refine XS.iloadN X6.here hexec rfl (hb hbytes d16) rfl ?_
    refine XS.icmpYes X6.here hexec rfl (pc0 := 17) rfl (hb hbytes d17) rfl (ii_eq_t rfl) (by decide) rfl ?_
    refine XS.aloadN X6.here hexec rfl (hb hbytes d57) rfl rfl ?_
    exact Steps.refl _)
  have X8 := X6.wide (L' := []) (cells' := 1) (slots' := len) (fun x hx hlt => by
    simp only [List.nil_append, copyLocs, List.mem_map, List.mem_range] at hx
    obtain ⟨i, -, rfl⟩ := hx
    exact absurd hlt (Nat.lt_irrefl _)) (Nat.le_refl _) (by omega)
  exact ⟨T6, some (.ref s.heap.size), _, _, _, X8, rfl, rfl, rfl, (fun h => by cases h), ⟨⟨rfl, B6, ba3.like (X3.warmed.alike.symm.trans X6.warmed.alike) p6.1 f6.1 f6.2.1 f6.2.2.1, f6.2.1.trans bv3, by rw [X6.warmed.alike.findClass, f6.1]; exact bf3, by rw [f6.2.2.1, bs3]; simp, fun j hj => by rw [f6.2.2.2 j, if_pos (by omega)]; rfl, kp3.put p6 (Nat.le_refl _)⟩, by rw [p6.2.2, bh3, hh0]; simp⟩, fun fs hl => c8.trans (X8.areturnOut hexec rfl hret rfl (hb hbytes d58) hl)⟩
end Cmp3
namespace CodL
def yN : MethodName := ⟨"java/lang/StringUTF16", "coderFromArrayLen", "([BI)B"⟩
abbrev yB : ByteArray := jdk_52_method_15_code
theorem d0 : decode yB 0 = .ok (.iload_n 1, 1) := by decide +kernel
theorem d1 : decode yB 1 = .ok (.aload_n 0, 1) := by decide +kernel
theorem d2 : decode yB 2 = .ok (.arraylength, 1) := by decide +kernel
theorem d3 : decode yB 3 = .ok (.isub, 1) := by decide +kernel
theorem d4 : decode yB 4 = .ok (.bipush 31, 2) := by decide +kernel
theorem d6 : decode yB 6 = .ok (.iushr, 1) := by decide +kernel
theorem d7 : decode yB 7 = .ok (.i2b, 1) := by decide +kernel
theorem d8 : decode yB 8 = .ok (.ireturn, 1) := by decide +kernel
def site : List Cond := []
def tab : Cond := tabOf yN yB 2 (some .byte) site
def P (d : Addr) (B : Cell) (args : Array Value) (s : State) : Prop := args = #[.ref d, .int (Int32.ofNat B.slots.size)] ∧ Arr .byte d B s
def E (r : Option Value) (s u : State) : Prop := XT.PureE (some (.int 0)) r s u
/-- an array as long as the number of chars: LATIN1 -/
theorem law (l : Launch) (d : Addr) (B : Cell) : Law l yN 2 2 0 0 yB 2 (some .byte) site (P d B) E [] 0 0 := by
  refine Law.of_walk (plainFor_of_name (by decide +kernel)) (by decide +kernel) (by decide +kernel) (by decide) (fun _ _ h => by rw [h.1]; rfl) (fun _ U U' hal hh h => ⟨h.1, h.2.mv hal hh⟩) (fun r U U' V V' h1 hal h2 h => XT.PureE.mv r U U' V V' h1 hal h2 h) ?_
  intro p e s m args below meth c s₁ X0 hexec hbytes hml hret hlk hnm hown hh0 W hP
  obtain ⟨rfl, hB⟩ := hP
  have hB0 := hB.mv X0.warmed.alike hh0
  have c1 : Steps p.tables e below (s₁.setTop (entryFrame m #[.ref d, .int (Int32.ofNat B.slots.size)] 2)) (s₁.setTop (mkF m 0 #[.val (.ref d), .val (.int (Int32.ofNat B.slots.size))] [])) := entry rfl
  have c2 : Steps p.tables e below (s₁.setTop (entryFrame m #[.ref d, .int (Int32.ofNat B.slots.size)] 2)) (s₁.setTop (mkF m 2 #[.val (.ref d), .val (.int (Int32.ofNat B.slots.size))] [.ref d, .int (Int32.ofNat B.slots.size)])) := c1.trans (by
    refine XS.iloadN X0.here hexec rfl (hb hbytes d0) rfl ?_
    refine XS.aloadN X0.here hexec rfl (hb hbytes d1) rfl rfl ?_
    exact Steps.refl _)
  have c3 : Steps p.tables e below (s₁.setTop (entryFrame m #[.ref d, .int (Int32.ofNat B.slots.size)] 2)) (s₁.setTop (mkF m 8 #[.val (.ref d), .val (.int (Int32.ofNat B.slots.size))] [.int (lo8 (ushr (Int32.ofNat B.slots.size - Int32.ofNat B.slots.size) 31))])) := c2.trans (by
    refine X0.alen hexec hB0 rfl rfl (hb hbytes d2) ?_
    refine XS.isub X0.here hexec rfl (hb hbytes d3) rfl ?_
    refine bipushV X0.here hexec rfl 31 (hb hbytes d4) (by decide) ?_
    refine iushr X0.here hexec rfl (hb hbytes d6) rfl ?_
    refine i2b X0.here hexec rfl (hb hbytes d7) rfl ?_
    exact Steps.refl _)
  have e0 : lo8 (ushr (Int32.ofNat B.slots.size - Int32.ofNat B.slots.size) 31) = 0 := by rw [Int32.sub_self]; decide
  rw [e0] at c3
  exact ⟨s₁, some (.int 0), _, _, _, X0, rfl, rfl, rfl, (fun h => by cases h), ⟨rfl, hh0⟩, fun fs hl => c3.trans (X0.ireturnOut hexec hret rfl (Or.inr (Or.inr (Or.inl rfl))) (hb hbytes d8) hl)⟩
end CodL
/-- the String at a is Latin-1 over a new byte[] (the heap's one new cell): the low bytes of the len chars of A from o on; every cell but a is kept -/
def Got (a : Addr) (D : Cell) (fV fC : Field) (A : Cell) (o len : Nat) (r : Option Value) (s u : State) : Prop := r = none ∧ ∃ D' V : Cell, Blank "java/lang/String" a D' u ∧ Same D D' [fV.slot, fC.slot] ∧ D'.slots[fV.slot]? = some (.ref s.heap.size) ∧ D'.slots[fC.slot]? = some (.int 0) ∧ Arr .byte s.heap.size V u ∧ V.vm = .none ∧ u.vm.findClass "[B" = some V.cls ∧ V.slots.size = len ∧ (∀ j, j < len → V.slots[j]? = some (.int (lo8 (cv A (o + j))))) ∧ (∀ (y : Addr) (c : Cell), y ≠ a → s.heap[y]? = some c → u.heap[y]? = some c) ∧ u.heap.size = s.heap.size + 1
theorem Got.mv {a : Addr} {D A : Cell} {fV fC : Field} {o len : Nat} : ∀ r (U U' V V' : State), U'.heap = U.heap → V.vm.Alike V'.vm → V'.heap = V.heap → Got a D fV fC A o len r U V → Got a D fV fC A o len r U' V' :=
  fun r U U' V V' h1 hal h2 ⟨e0, D', X, a1, a2, a3, a4, a5, a6, a7, a8, a9, a10, a11⟩ => ⟨e0, D', X, a1.mv hal h2, a2, by rw [h1]; exact a3, a4, by rw [h1]; exact a5.mv hal h2, a6, by rw [hal.findClass]; exact a7, a8, a9, by rw [h1, h2]; exact a10, by rw [h1, h2]; exact a11⟩
namespace New4
def yN : MethodName := ⟨"java/lang/String", "<init>", "([CIILjava/lang/Void;)V"⟩
abbrev yB : ByteArray := jdk_42_method_149_code
theorem d0 : decode yB 0 = .ok (.aload_n 0, 1) := by decide +kernel
theorem d1 : decode yB 1 = .ok (.invokespecial 1, 3) := by decide +kernel
theorem d4 : decode yB 4 = .ok (.iload_n 3, 1) := by decide +kernel
theorem d5 : decode yB 5 = .ok (.ifCond (.ne) 22, 3) := by decide +kernel
theorem d27 : decode yB 27 = .ok (.getstatic 38, 3) := by decide +kernel
theorem d30 : decode yB 30 = .ok (.ifCond (.eq) 28, 3) := by decide +kernel
theorem d33 : decode yB 33 = .ok (.aload_n 1, 1) := by decide +kernel
theorem d34 : decode yB 34 = .ok (.iload_n 2, 1) := by decide +kernel
theorem d35 : decode yB 35 = .ok (.iload_n 3, 1) := by decide +kernel
theorem d36 : decode yB 36 = .ok (.invokestatic 177, 3) := by decide +kernel
theorem d39 : decode yB 39 = .ok (.astore 5, 2) := by decide +kernel
theorem d41 : decode yB 41 = .ok (.aload_n 0, 1) := by decide +kernel
theorem d42 : decode yB 42 = .ok (.aload 5, 2) := by decide +kernel
theorem d44 : decode yB 44 = .ok (.iload_n 3, 1) := by decide +kernel
theorem d45 : decode yB 45 = .ok (.invokestatic 47, 3) := by decide +kernel
theorem d48 : decode yB 48 = .ok (.putfield 15, 3) := by decide +kernel
theorem d51 : decode yB 51 = .ok (.aload_n 0, 1) := by decide +kernel
theorem d52 : decode yB 52 = .ok (.aload 5, 2) := by decide +kernel
theorem d54 : decode yB 54 = .ok (.putfield 9, 3) := by decide +kernel
theorem d57 : decode yB 57 = .ok (.return_, 1) := by decide +kernel
def site : List Cond := [.fieldLink "java/lang/String" 38 "java/lang/String" "COMPACT_STRINGS" "Z", Cmp3.tab, CodL.tab, .laysFinal "java/lang/String" "java/lang/String" "value" "[B", .fieldLink "java/lang/String" 9 "java/lang/String" "value" "[B", .laysFinal "java/lang/String" "java/lang/String" "coder" "B", .fieldLink "java/lang/String" 15 "java/lang/String" "coder" "B"] ++ objW "java/lang/String" 1 ++ staticW "java/lang/String" 177 Cmp3.yN ++ staticW "java/lang/String" 47 CodL.yN
def tab : Cond := tabOf yN yB 6 none site
def P (a : Addr) (D : Cell) (fV fC : Field) (b : Addr) (A : Cell) (z : Int32) (o len : Nat) (args : Array Value) (s : State) : Prop := args = #[.ref a, .ref b, .int (Int32.ofNat o), .int (Int32.ofNat len), .null] ∧ Blank "java/lang/String" a D s ∧ Found "java/lang/String" "value" "[B" fV s ∧ Found "java/lang/String" "coder" "B" fC s ∧ Ch b A s ∧ StaticIs s "java/lang/String" "COMPACT_STRINGS" "Z" (.int z) ∧ ¬ z = 0 ∧ 0 < len ∧ o + len ≤ A.slots.size ∧ len ≤ 536870912 ∧ ∀ i, i < len → ¬ 255 < cv A (o + i)
def E (a : Addr) (D : Cell) (fV fC : Field) (A : Cell) (o len : Nat) (r : Option Value) (s u : State) : Prop := Got a D fV fC A o len r s u
/-- len > 0, no char of the range above 255: a Latin-1 String of their low bytes -/
theorem law (l : Launch) (a : Addr) (D : Cell) (fV fC : Field) (b : Addr) (A : Cell) (z : Int32) (o len : Nat) : Law l yN 5 4 2 35 yB 6 none site (P a D fV fC b A z o len) (E a D fV fC A o len) [⟨a, fC.slot⟩, ⟨a, fV.slot⟩] 1 len := by
  refine Law.of_walk (plainFor_of_name (by decide +kernel)) (by decide +kernel) (by decide +kernel) (by decide) (fun _ _ h => by rw [h.1]; rfl) (fun _ U U' hal hh h => ⟨h.1, h.2.1.mv hal hh, h.2.2.1.al hal, h.2.2.2.1.al hal, h.2.2.2.2.1.mv hal hh, h.2.2.2.2.2.1.there hal hh, h.2.2.2.2.2.2⟩) (fun r U U' V V' h1 hal h2 h => Got.mv r U U' V V' h1 hal h2 h) ?_
  intro p e s m args below meth c s₁ X0 hexec hbytes hml hret hlk hnm hown hh0 W hP
  obtain ⟨rfl, hB, f1, f2, hA, s1, hz, l0, l1, l2, hp⟩ := hP
  have a31 := hA.1.2.2.2
  have c1 : Steps p.tables e below (s₁.setTop (entryFrame m #[.ref a, .ref b, .int (Int32.ofNat o), .int (Int32.ofNat len), .null] 6)) (s₁.setTop (mkF m 0 #[.val (.ref a), .val (.ref b), .val (.int (Int32.ofNat o)), .val (.int (Int32.ofNat len)), .val .null, .unset] [])) := entry rfl
  have c2 : Steps p.tables e below (s₁.setTop (entryFrame m #[.ref a, .ref b, .int (Int32.ofNat o), .int (Int32.ofNat len), .null] 6)) (s₁.setTop (mkF m 1 #[.val (.ref a), .val (.ref b), .val (.int (Int32.ofNat o)), .val (.int (Int32.ofNat len)), .val .null, .unset] [.ref a])) := c1.trans (by
    refine XS.aloadN X0.here hexec rfl (hb hbytes d0) rfl rfl ?_
    exact Steps.refl _)
  obtain ⟨T3, X3, q3, st3⟩ := X0.oinit hexec hown (wks W (objW "java/lang/String" 1)) (g := (mkF m 1 #[.val (.ref a), .val (.ref b), .val (.int (Int32.ofNat o)), .val (.int (Int32.ofNat len)), .val .null, .unset] [.ref a])) rfl (by rw [hml]; rfl) (rest := []) rfl (hb hbytes d1) (W := 0) (by show 2 * 0 + 0 ≤ _; decide) (Nat.le_of_ble_eq_true rfl) (Nat.le_of_ble_eq_true rfl)
  have hh3 := q3.trans hh0
  have c4 : Steps p.tables e below (s₁.setTop (entryFrame m #[.ref a, .ref b, .int (Int32.ofNat o), .int (Int32.ofNat len), .null] 6)) (T3.setTop (mkF m 27 #[.val (.ref a), .val (.ref b), .val (.int (Int32.ofNat o)), .val (.int (Int32.ofNat len)), .val .null, .unset] [])) := (c2.trans (st3 _ (Steps.refl _))).trans (by
    refine XS.iloadN X3.here hexec rfl (hb hbytes d4) rfl ?_
    refine XS.ifYes X3.here hexec rfl (pc0 := 5) rfl (hb hbytes d5) rfl (i0_ne_t (nz32 (by omega) l0)) (by decide) rfl ?_
    exact Steps.refl _)
  obtain ⟨T5, X5, q5, st5⟩ := X3.sget hexec hown (wk W (.fieldLink "java/lang/String" 38 "java/lang/String" "COMPACT_STRINGS" "Z")) s1 (fun _ _ h => by rw [hh3]; exact h) (g := (mkF m 27 #[.val (.ref a), .val (.ref b), .val (.int (Int32.ofNat o)), .val (.int (Int32.ofNat len)), .val .null, .unset] [])) rfl (hb hbytes d27)
  have hh5 := q5.trans hh3
  have c6 : Steps p.tables e below (s₁.setTop (entryFrame m #[.ref a, .ref b, .int (Int32.ofNat o), .int (Int32.ofNat len), .null] 6)) (T5.setTop (mkF m 30 #[.val (.ref a), .val (.ref b), .val (.int (Int32.ofNat o)), .val (.int (Int32.ofNat len)), .val .null, .unset] [.int z])) := c4.trans (st5 _ (Steps.refl _))
  have c7 : Steps p.tables e below (s₁.setTop (entryFrame m #[.ref a, .ref b, .int (Int32.ofNat o), .int (Int32.ofNat len), .null] 6)) (T5.setTop (mkF m 36 #[.val (.ref a), .val (.ref b), .val (.int (Int32.ofNat o)), .val (.int (Int32.ofNat len)), .val .null, .unset] [.int (Int32.ofNat len), .int (Int32.ofNat o), .ref b])) := c6.trans (by
    refine XS.ifNo X5.here hexec rfl (hb hbytes d30) rfl (i0_eq_f hz) ?_
    refine XS.aloadN X5.here hexec rfl (hb hbytes d33) rfl rfl ?_
    refine XS.iloadN X5.here hexec rfl (hb hbytes d34) rfl ?_
    refine XS.iloadN X5.here hexec rfl (hb hbytes d35) rfl ?_
    exact Steps.refl _)
  obtain ⟨v8, T8, X8, E8, g8⟩ := X5.callS hexec (Cmp3.law l b A o len) hown (wks W (staticW "java/lang/String" 177 Cmp3.yN)) (wk W Cmp3.tab) (W := 0) (Nat.le_of_ble_eq_true rfl) (Nat.le_of_ble_eq_true rfl) (Nat.le_refl _) (by show 0 + len ≤ len; omega) (g := (mkF m 36 #[.val (.ref a), .val (.ref b), .val (.int (Int32.ofNat o)), .val (.int (Int32.ofNat len)), .val .null, .unset] [.int (Int32.ofNat len), .int (Int32.ofNat o), .ref b])) rfl (by rw [hml]; rfl) c7 (argsL := [.ref b, .int (Int32.ofNat o), .int (Int32.ofNat len)]) (rest := []) rfl rfl (by show 2 * 0 + 0 ≤ _; decide) (hb hbytes d36) (⟨rfl, hA.mv X5.warmed.alike hh5, l1, l2, hp⟩)
  obtain ⟨e8, z8⟩ := E8
  obtain ⟨rfl, N, n1, n2, n3, n4, n5, n6⟩ := NewArr.mv _ T5 s _ _ hh5.symm (Vm.Alike.refl _) rfl e8
  rw [hh5] at z8
  have hB1 := hB.keep X8.warmed.alike (n6 _ _ hB.1)
  have hne : s.heap.size ≠ a := (Nat.ne_of_lt (Array.getElem?_eq_some_iff.mp hB.1).1).symm
  have c9 : Steps p.tables e below (s₁.setTop (entryFrame m #[.ref a, .ref b, .int (Int32.ofNat o), .int (Int32.ofNat len), .null] 6)) (T8.setTop (mkF m 39 #[.val (.ref a), .val (.ref b), .val (.int (Int32.ofNat o)), .val (.int (Int32.ofNat len)), .val .null, .unset] [.ref s.heap.size])) := g8
  have c10 : Steps p.tables e below (s₁.setTop (entryFrame m #[.ref a, .ref b, .int (Int32.ofNat o), .int (Int32.ofNat len), .null] 6)) (T8.setTop (mkF m 45 #[.val (.ref a), .val (.ref b), .val (.int (Int32.ofNat o)), .val (.int (Int32.ofNat len)), .val .null, .val (.ref s.heap.size)] [.int (Int32.ofNat N.slots.size), .ref s.heap.size, .ref a])) := by
    have hc : Steps p.tables e below (s₁.setTop (entryFrame m #[.ref a, .ref b, .int (Int32.ofNat o), .int (Int32.ofNat len), .null] 6)) (T8.setTop (mkF m 45 #[.val (.ref a), .val (.ref b), .val (.int (Int32.ofNat o)), .val (.int (Int32.ofNat len)), .val .null, .val (.ref s.heap.size)] [.int (Int32.ofNat len), .ref s.heap.size, .ref a])) := c9.trans (by
      refine XS.astore X8.here hexec rfl (hb hbytes d39) rfl rfl rfl ?_
      refine XS.aloadN X8.here hexec rfl (hb hbytes d41) rfl rfl ?_
      refine XS.aload X8.here hexec rfl (hb hbytes d42) rfl rfl ?_
      refine XS.iloadN X8.here hexec rfl (hb hbytes d44) rfl ?_
      exact Steps.refl _)
    rw [n4]; exact hc
  obtain ⟨v11, T11, X11, E11, g11⟩ := X8.callS hexec (CodL.law l s.heap.size N) hown (wks W (staticW "java/lang/String" 47 CodL.yN)) (wk W CodL.tab) (W := 1) (Nat.le_of_ble_eq_true rfl) (Nat.le_of_ble_eq_true rfl) (Nat.le_refl _) (by show 0 + len + 0 ≤ len; omega) (g := (mkF m 45 #[.val (.ref a), .val (.ref b), .val (.int (Int32.ofNat o)), .val (.int (Int32.ofNat len)), .val .null, .val (.ref s.heap.size)] [.int (Int32.ofNat N.slots.size), .ref s.heap.size, .ref a])) rfl (by rw [hml]; rfl) c10 (argsL := [.ref s.heap.size, .int (Int32.ofNat N.slots.size)]) (rest := [.ref a]) rfl rfl (by show 2 * 0 + (1 + 0) ≤ _; decide) (hb hbytes d45) (⟨rfl, n1⟩)
  obtain ⟨rfl, q11⟩ := E11
  have hB11 := hB1.mv (X8.warmed.alike.symm.trans X11.warmed.alike) q11
  have c12 : Steps p.tables e below (s₁.setTop (entryFrame m #[.ref a, .ref b, .int (Int32.ofNat o), .int (Int32.ofNat len), .null] 6)) (T11.setTop (mkF m 48 #[.val (.ref a), .val (.ref b), .val (.int (Int32.ofNat o)), .val (.int (Int32.ofNat len)), .val .null, .val (.ref s.heap.size)] [.int 0, .ref a])) := g11
  obtain ⟨T13, X13, p13, bl13, sl13, st13⟩ := X11.finit hexec hown (wk W (.fieldLink "java/lang/String" 15 "java/lang/String" "coder" "B")) (Or.inr ⟨_, (wk W (.laysFinal "java/lang/String" "java/lang/String" "coder" "B"))⟩) (Or.inl ⟨rfl, hnm⟩) f2 (Or.inl rfl) hB11 (t := .byte) (by decide +kernel) rfl (g := (mkF m 48 #[.val (.ref a), .val (.ref b), .val (.int (Int32.ofNat o)), .val (.int (Int32.ofNat len)), .val .null, .val (.ref s.heap.size)] [.int 0, .ref a])) rfl (rest := []) rfl (hb hbytes d48)
  have c14 : Steps p.tables e below (s₁.setTop (entryFrame m #[.ref a, .ref b, .int (Int32.ofNat o), .int (Int32.ofNat len), .null] 6)) (T13.setTop (mkF m 54 #[.val (.ref a), .val (.ref b), .val (.int (Int32.ofNat o)), .val (.int (Int32.ofNat len)), .val .null, .val (.ref s.heap.size)] [.ref s.heap.size, .ref a])) := (c12.trans (st13 _ (Steps.refl _))).trans (by
    refine XS.aloadN X13.here hexec rfl (hb hbytes d51) rfl rfl ?_
    refine XS.aload X13.here hexec rfl (hb hbytes d52) rfl rfl ?_
    exact Steps.refl _)
  obtain ⟨T15, X15, p15, bl15, sl15, st15⟩ := X13.finit hexec hown (wk W (.fieldLink "java/lang/String" 9 "java/lang/String" "value" "[B")) (Or.inr ⟨_, (wk W (.laysFinal "java/lang/String" "java/lang/String" "value" "[B"))⟩) (Or.inl ⟨rfl, hnm⟩) f1 (Or.inl rfl) bl13 (t := (.array .byte)) (by decide +kernel) rfl (g := (mkF m 54 #[.val (.ref a), .val (.ref b), .val (.int (Int32.ofNat o)), .val (.int (Int32.ofNat len)), .val .null, .val (.ref s.heap.size)] [.ref s.heap.size, .ref a])) rfl (rest := []) rfl (hb hbytes d54)
  have c16 : Steps p.tables e below (s₁.setTop (entryFrame m #[.ref a, .ref b, .int (Int32.ofNat o), .int (Int32.ofNat len), .null] 6)) (T15.setTop (mkF m 57 #[.val (.ref a), .val (.ref b), .val (.int (Int32.ofNat o)), .val (.int (Int32.ofNat len)), .val .null, .val (.ref s.heap.size)] [])) := c14.trans (st15 _ (Steps.refl _))
  have ap := apart (Or.inr ⟨_, (wk W (.laysFinal "java/lang/String" "java/lang/String" "value" "[B"))⟩) (Or.inr ⟨_, (wk W (.laysFinal "java/lang/String" "java/lang/String" "coder" "B"))⟩) f1 f2 (t₁ := .array .byte) (t₂ := .byte) (by decide +kernel) (by decide +kernel) (by decide)
  have al := X8.warmed.alike.symm.trans X15.warmed.alike
  have n7 : T11.heap[s.heap.size]? = some N := by rw [q11]; exact n1.1
  exact ⟨T15, none, _, _, _, X15, by simp, rfl, by omega, (fun _ => rfl), ⟨rfl, _, N, bl15, ((Same.refl D _).set _ (by simp)).set _ (by simp), sl15, (Cell.slots_setSlot_ne _ ap).trans sl13, n1.keep al (p15.other hne (p13.other hne n7)), n2, by rw [al.findClass]; exact n3, n4, n5, fun y c h1 h2 => p15.other h1 (p13.other h1 (by rw [q11]; exact n6 y c h2)), by rw [p15.2.2, p13.2.2, q11]; exact z8⟩, fun fs hl => c16.trans (X15.returnOut hexec hret (hb hbytes d57) hl)⟩
end New4
namespace New1
def yN : MethodName := ⟨"java/lang/String", "<init>", "([C)V"⟩
abbrev yB : ByteArray := jdk_42_method_3_code
theorem d0 : decode yB 0 = .ok (.aload_n 0, 1) := by decide +kernel
theorem d1 : decode yB 1 = .ok (.aload_n 1, 1) := by decide +kernel
theorem d2 : decode yB 2 = .ok (.iconst 0, 1) := by decide +kernel
theorem d3 : decode yB 3 = .ok (.aload_n 1, 1) := by decide +kernel
theorem d4 : decode yB 4 = .ok (.arraylength, 1) := by decide +kernel
theorem d5 : decode yB 5 = .ok (.aconst_null, 1) := by decide +kernel
theorem d6 : decode yB 6 = .ok (.invokespecial 27, 3) := by decide +kernel
theorem d9 : decode yB 9 = .ok (.return_, 1) := by decide +kernel
def site : List Cond := [New4.tab] ++ initW "java/lang/String" 27 New4.yN
def tab : Cond := tabOf yN yB 2 none site
def P (a : Addr) (D : Cell) (fV fC : Field) (b : Addr) (A : Cell) (z : Int32) (args : Array Value) (s : State) : Prop := args = #[.ref a, .ref b] ∧ Blank "java/lang/String" a D s ∧ Found "java/lang/String" "value" "[B" fV s ∧ Found "java/lang/String" "coder" "B" fC s ∧ Ch b A s ∧ StaticIs s "java/lang/String" "COMPACT_STRINGS" "Z" (.int z) ∧ ¬ z = 0 ∧ 0 < A.slots.size ∧ A.slots.size ≤ 536870912 ∧ ∀ i, i < A.slots.size → ¬ 255 < cv A i
def E (a : Addr) (D : Cell) (fV fC : Field) (A : Cell) (r : Option Value) (s u : State) : Prop := Got a D fV fC A 0 A.slots.size r s u
/-- new String(chars), not empty, no char above 255: a Latin-1 String of their low bytes -/
theorem law (l : Launch) (a : Addr) (D : Cell) (fV fC : Field) (b : Addr) (A : Cell) (z : Int32) : Law l yN 2 1 3 52 yB 2 none site (P a D fV fC b A z) (E a D fV fC A) [⟨a, fC.slot⟩, ⟨a, fV.slot⟩] 1 A.slots.size := by
  refine Law.of_walk (plainFor_of_name (by decide +kernel)) (by decide +kernel) (by decide +kernel) (by decide) (fun _ _ h => by rw [h.1]; rfl) (fun _ U U' hal hh h => ⟨h.1, h.2.1.mv hal hh, h.2.2.1.al hal, h.2.2.2.1.al hal, h.2.2.2.2.1.mv hal hh, h.2.2.2.2.2.1.there hal hh, h.2.2.2.2.2.2⟩) (fun r U U' V V' h1 hal h2 h => Got.mv r U U' V V' h1 hal h2 h) ?_
  intro p e s m args below meth c s₁ X0 hexec hbytes hml hret hlk hnm hown hh0 W hP
  obtain ⟨rfl, hB, f1, f2, hA, s1, hz, l0, l2, hp⟩ := hP
  have c1 : Steps p.tables e below (s₁.setTop (entryFrame m #[.ref a, .ref b] 2)) (s₁.setTop (mkF m 0 #[.val (.ref a), .val (.ref b)] [])) := entry rfl
  have c2 : Steps p.tables e below (s₁.setTop (entryFrame m #[.ref a, .ref b] 2)) (s₁.setTop (mkF m 6 #[.val (.ref a), .val (.ref b)] [.null, .int (Int32.ofNat A.slots.size), .int 0, .ref b, .ref a])) := c1.trans (by
    refine XS.aloadN X0.here hexec rfl (hb hbytes d0) rfl rfl ?_
    refine XS.aloadN X0.here hexec rfl (hb hbytes d1) rfl rfl ?_
    refine iconstV X0.here hexec rfl 0 (hb hbytes d2) (by decide) ?_
    refine XS.aloadN X0.here hexec rfl (hb hbytes d3) rfl rfl ?_
    refine X0.alen hexec (hA.1.mv X0.warmed.alike hh0) rfl rfl (hb hbytes d4) ?_
    refine XS.aconstNull X0.here hexec rfl (hb hbytes d5) ?_
    exact Steps.refl _)
  obtain ⟨v3, T3, X3, E3, g3⟩ := X0.callN hexec (New4.law l a D fV fC b A z 0 A.slots.size) rfl hown (wks W (initW "java/lang/String" 27 New4.yN)) (W New4.tab (by simp only [site, List.mem_cons, List.mem_append, true_or, or_true])) (W := 0) (Nat.le_of_ble_eq_true rfl) (Nat.le_of_ble_eq_true rfl) (Nat.le_refl _) (by show 0 + A.slots.size ≤ A.slots.size; omega) (g := (mkF m 6 #[.val (.ref a), .val (.ref b)] [.null, .int (Int32.ofNat A.slots.size), .int (Int32.ofNat 0), .ref b, .ref a])) rfl (by rw [hml]; rfl) c2 (argsL := [.ref b, .int (Int32.ofNat 0), .int (Int32.ofNat A.slots.size), .null]) (rest := []) rfl rfl (by show 2 * 0 + 0 ≤ _; decide) (hb hbytes d6) (⟨rfl, hB.mv X0.warmed.alike hh0, f1.al X0.warmed.alike, f2.al X0.warmed.alike, hA.mv X0.warmed.alike hh0, s1.there X0.warmed.alike hh0, hz, l0, by omega, l2, fun i hi => by rw [Nat.zero_add]; exact hp i hi⟩)
  have e0 := Got.mv _ s₁ s _ _ hh0.symm (Vm.Alike.refl _) rfl E3
  obtain rfl := e0.1
  have c4 : Steps p.tables e below (s₁.setTop (entryFrame m #[.ref a, .ref b] 2)) (T3.setTop (mkF m 9 #[.val (.ref a), .val (.ref b)] [])) := g3
  exact ⟨T3, none, _, _, _, X3, by simp, rfl, by omega, (fun _ => rfl), e0, fun fs hl => c4.trans (X3.returnOut hexec hret (hb hbytes d9) hl)⟩
theorem pays {l : Launch} {R : Room} {p : Program} {e : Env} {below : List Frame} {s : State} {sargs : Array Value} {len W : Nat} (a : Addr) (D : Cell) (fV fC : Field) (b : Addr) (A : Cell) (z : Int32) (htab : tab.before sargs s = true) (hfr : 4 ≤ R.frames) (hlo : W + 65 ≤ R.locals) :
    Back l R p e below s sargs yN len W (fun A₁ a₁ => A₁.cells + 1 ≤ R.cells ∧ A₁.slots + A.slots.size ≤ R.slots ∧ P a D fV fC b A z a₁ A₁.U) (fun A₁ _ v₁ B₁ => E a D fV fC A v₁ A₁.U B₁.U ∧ B₁.locs = A₁.locs ++ [⟨a, fC.slot⟩, ⟨a, fV.slot⟩] ∧ B₁.cells = A₁.cells + 1 ∧ B₁.slots = A₁.slots + A.slots.size) :=
  (law l a D fV fC b A z).pays htab hfr (by omega)
end New1
/-- the byte, read back as charAt reads it, is the char -/
theorem lo8_mask {x : Int32} (h0 : ¬ x < 0) (h1 : ¬ 255 < x) : lo8 x &&& 255 = x := by
  have t : ∀ k : Fin 256, lo8 (Int32.ofNat k.val) &&& 255 = Int32.ofNat k.val := by decide +kernel
  rw [Int32.lt_iff_toInt_lt] at h0 h1
  have e0 : (0 : Int32).toInt = 0 := rfl
  have e1 : (255 : Int32).toInt = 255 := rfl
  obtain ⟨k, hk⟩ : ∃ k : Nat, x.toInt = k := ⟨x.toInt.toNat, by omega⟩
  have hx : x = Int32.ofNat k := Int32.toInt_inj.mp (by rw [hk, Int32.toInt_ofNat_small (by omega)])
  rw [hx]
  exact t ⟨k, by omega⟩
end StrChars
namespace StrChars.Road
open Jvm Sem ClassFile Op Lib Jvm.Stand Jvm.Free Jvm.Free.XT
open Jvm.Lib.Cold (StaticIs)
abbrev ST : String := "java/lang/String"
/-- every table word that New1's law asks, flat -/
abbrev words : List Jvm.Cond := [.code New1.yN New1.yB 2 none, .initialized ST, .methodLink ST 27 New4.yN, .instanceMethod New4.yN,
  .code New4.yN New4.yB 6 none, .fieldLink ST 38 ST "COMPACT_STRINGS" "Z", .laysFinal ST ST "value" "[B", .fieldLink ST 9 ST "value" "[B", .laysFinal ST ST "coder" "B", .fieldLink ST 15 ST "coder" "B",
  .methodLink ST 1 Lib.objectInit, .instanceMethod Lib.objectInit, .code Lib.objectInit ⟨#[0xb1]⟩ 1 none, .methodLink ST 177 Cmp3.yN, .static Cmp3.yN, .methodLink ST 47 CodL.yN, .static CodL.yN,
  .code Cmp3.yN Cmp3.yB 6 (some (.array .byte)), .initialized U16, .arrayClass .byte, .methodLink U16 115 Cmp5.yN, .static Cmp5.yN, .code Cmp5.yN Cmp5.yB 7 (some .int), .code CodL.yN CodL.yB 2 (some .byte)]
theorem tab_of {a : Array Value} {s : State} (h : ∀ w ∈ words, w.before a s = true) : New1.tab.before a s = true := by
  have h5 : Cmp5.tab.before a s = true := unparts (wk h (.code Cmp5.yN Cmp5.yB 7 (some .int))) (wks h (.initialized Cmp5.yN.cls :: Cmp5.site))
  have hc : CodL.tab.before a s = true := unparts (wk h (.code CodL.yN CodL.yB 2 (some .byte))) (wks h (.initialized CodL.yN.cls :: CodL.site))
  have q5 : ∀ w ∈ Cmp5.tab :: words, w.before a s = true := fun w hw => (List.mem_cons.mp hw).elim (fun e => e ▸ h5) (h w)
  have h3 : Cmp3.tab.before a s = true := unparts (wk q5 (.code Cmp3.yN Cmp3.yB 6 (some (.array .byte)))) (wks q5 (.initialized Cmp3.yN.cls :: Cmp3.site))
  have q3 : ∀ w ∈ Cmp3.tab :: CodL.tab :: words, w.before a s = true := fun w hw => (List.mem_cons.mp hw).elim (fun e => e ▸ h3) fun hw => (List.mem_cons.mp hw).elim (fun e => e ▸ hc) (h w)
  have h4 : New4.tab.before a s = true := unparts (wk q3 (.code New4.yN New4.yB 6 none)) (wks q3 (.initialized New4.yN.cls :: New4.site))
  have q4 : ∀ w ∈ New4.tab :: words, w.before a s = true := fun w hw => (List.mem_cons.mp hw).elim (fun e => e ▸ h4) (h w)
  exact unparts (wk q4 (.code New1.yN New1.yB 2 none)) (wks q4 (.initialized New1.yN.cls :: New1.site))
/-- the words ride from the start Z to the walk's own state -/
theorem moved {Z s : State} {a0 args : Array Value} (hZ : Z.Warmed39 s.vm) (hw : ∀ d ∈ words, d.before a0 Z = true) : ∀ d ∈ words, d.before args s = true := fun d hd => by
  have q := hw d hd
  have t : ∀ d ∈ words, d = .arrayClass .byte ∨ (d.onTables && d.keepsFace) = true := by decide +kernel
  rcases t d hd with rfl | t
  · exact RoadKit.mvA hZ q
  · exact RoadKit.mv hZ q t
/-- WHAT COMES BACK, over the tables of the start Z: h the heap at the call, h' behind it -/
def Q (Z : State) (x : Addr) (A : Cell) (h : Heap) (v : Option Value) (h' : Heap) (L : List Loc) : Prop := v = none ∧ (∀ y ∈ L, y.base = x) ∧ RoadKit.Keep h h' [x] ∧ h'.size = h.size + 1 ∧ RoadKit.Exa Z h' x ST ∧ RoadKit.Fld Z h' x ST "value" "[B" (.ref h.size) ∧ RoadKit.Fld Z h' x ST "coder" "B" (.int 0) ∧
  (∃ V : Cell, RoadKit.Arr Z h' h.size V .byte ∧ V.vm = .none ∧ Z.vm.findClass "[B" = some V.cls ∧ V.slots.size = A.slots.size ∧ ∀ j, j < A.slots.size → V.slots[j]? = some (.int (lo8 (cv A j)))) ∧
  ∀ (O n d : String) (w : Value), RoadKit.Fld Z h x O n d w → RoadKit.slotOf Z O n d ≠ RoadKit.slotOf Z ST "value" "[B" → RoadKit.slotOf Z O n d ≠ RoadKit.slotOf Z ST "coder" "B" → RoadKit.Fld Z h' x O n d w
/-- **new String(chars) AT A CALL, IN THE ROAD'S FORM**: for specialBack behind newO: x the fresh String, b the char[] with the cell A -/
theorem back {p : Program} {l : Launch} {e : Env} {R : Room} {s : State} {args : Array Value} {below : List Frame} {len W : Nat} {Z : State} {a0 : Array Value} {h : Heap} (hZ : Z.Warmed39 s.vm) (hw : ∀ d ∈ words, d.before a0 Z = true) {kI : Nat} (wi : (Jvm.Cond.instantiable ST kI).before a0 Z = true)
    {x b : Addr} {A : Cell} {z : Int32} {v0 c0 : Value} (E : RoadKit.Exa Z h x ST) (V : RoadKit.Fld Z h x ST "value" "[B" v0) (C : RoadKit.Fld Z h x ST "coder" "B" c0) (K : RoadKit.Arr Z h b A .char) (hty : Typed .char A) (S : RoadKit.Sta Z h ST "COMPACT_STRINGS" "Z" (.int z)) (hz : ¬ z = 0)
    (l0 : 0 < A.slots.size) (l2 : A.slots.size ≤ 536870912) (hp : ∀ i, i < A.slots.size → ¬ 255 < cv A i) (hfr : 4 ≤ R.frames) (hlo : W + 65 ≤ R.locals) :
    Back l R p e below s args New1.yN len W (fun P a => a = #[.ref x, .ref b] ∧ P.U.heap = h ∧ P.cells + 1 ≤ R.cells ∧ P.slots + A.slots.size ≤ R.slots)
      (fun P _ v B => ∃ L, Q Z x A h v B.U.heap L ∧ B.locs = P.locs ++ L ∧ B.cells = P.cells + 1 ∧ B.slots = P.slots + A.slots.size) := by
  intro m meth c P g ig mk a X hg hsize hdg hW hn hp'
  obtain ⟨rfl, rfl, r1, r2⟩ := hp'
  have al : Z.vm.Alike P.U.vm := hZ.alike.trans X.warmed.alike
  obtain ⟨D, cfV, kV, iV, fV, hD, gV, stV, knV, obV, asV, slV⟩ := id V
  obtain ⟨D', cfC, kC, iC, fC, hD', gC, stC, -, -, asC, slC⟩ := id C
  cases hD.symm.trans hD'
  obtain ⟨D2, kD, e1, e2, e3, e4, e5⟩ := id E
  cases hD.symm.trans e1
  obtain ⟨c2, k2, i1, i2, i3, -⟩ := Cond.instantiable_spec wi
  cases e2.symm.trans i1
  cases e3.symm.trans i2
  obtain ⟨kU, u1, u2⟩ := al.2.2 _ _ e3
  have hB : Blank ST x D P.U := ⟨hD, ⟨knV, fun q hq => by rw [hq] at obV; cases obV⟩, by rw [al.findClass]; exact e2, kU, u1, by rw [u2]; exact i3, by rw [u2]; exact e5 i3⟩
  have F1 : Found ST "value" "[B" fV P.U := ⟨SBG.found_only al ⟨cfV, kV, iV, gV⟩, stV⟩
  have F2 : Found ST "coder" "B" fC P.U := ⟨SBG.found_only al ⟨cfC, kC, iC, gC⟩, stC⟩
  have hA : Ch b A P.U := ⟨⟨K.1, State.isArrayOf_alike al K.2.1, K.2.2, by omega⟩, hty⟩
  have hS : StaticIs P.U ST "COMPACT_STRINGS" "Z" (.int z) := by
    obtain ⟨cfS, iS, kS, fS, st, cS, t1, t2, t3, t4, t5, t6, t7⟩ := S
    exact StaticIs.there (s := { Z with heap := P.U.heap }) ⟨cfS, iS, kS, fS, st, cS, t1, t2, t3, t4, t5, (fun q => by rw [q] at t6; cases t6), t7⟩ al rfl
  obtain ⟨v, B, X', ⟨⟨hv, E', V', q1, q2, q3, q4, q5, q6, q7, q8, q9, q10, q11⟩, hl, hc, hs⟩, st⟩ := New1.pays x D fV fC b A z (tab_of (moved hZ hw)) hfr hlo m meth c P g ig mk _ X hg hsize hdg hW hn ⟨r1, r2, rfl, hB, F1, F2, hA, hS, hz, l0, l2, hp⟩
  have al' : Z.vm.Alike B.U.vm := hZ.alike.trans X'.warmed.alike
  have hsz : E'.slots.size = D.slots.size := by
    obtain ⟨-, -, -, kB, w1, w2, w3⟩ := q1
    obtain ⟨kB', y1, y2⟩ := al'.2.2 _ _ e3
    rw [q2.2.1] at w1
    cases w1.symm.trans y1
    rw [w3, e5 i3, y2]
  refine ⟨v, B, X', ⟨_, ⟨hv, ?_, ⟨by omega, fun y cy hy hn' => q10 y cy (by simpa using hn') hy, fun y cy hy => ?_⟩, q11, ⟨E', _, q1.1, by rw [q2.2.1]; exact e2, by rw [q2.2.1]; exact e3, by rw [q2.1]; exact obV, fun _ => by rw [hsz]; exact e5 i3⟩,
    ⟨E', cfV, kV, iV, fV, q1.1, gV, stV, by rw [q2.1]; exact knV, by rw [q2.1]; exact obV, by rw [q2.2.1]; exact asV, q3⟩, ⟨E', cfC, kC, iC, fC, q1.1, gC, stC, by rw [q2.1]; exact knV, by rw [q2.1]; exact obV, by rw [q2.2.1]; exact asC, q4⟩,
    ⟨V', ⟨q5.1, State.isArrayOf_alike al'.symm q5.2.1, q5.2.2.1⟩, q6, by rw [← al'.findClass]; exact q7, q8, fun j hj => by have := q9 j hj; rwa [Nat.zero_add] at this⟩, fun O n d w F n1 n2 => ?_⟩, hl, hc, hs⟩, st⟩
  · intro y hy
    simp only [List.mem_cons, List.not_mem_nil, or_false] at hy
    rcases hy with rfl | rfl <;> rfl
  · by_cases q : y = x
    · subst q
      cases hD.symm.trans hy
      exact ⟨E', q1.1, q2.2.1, q2.1, hsz⟩
    · exact ⟨cy, q10 y cy q hy, rfl, rfl, rfl⟩
  · obtain ⟨D3, cf, k, i, f, g1, g2, g3, g4, g5, g6, g7⟩ := F
    cases hD.symm.trans g1
    simp only [RoadKit.slotOf, g2, gV, gC, Option.map_some, Option.getD_some] at n1 n2
    exact ⟨E', cf, k, i, f, q1.1, g2, g3, by rw [q2.1]; exact g4, by rw [q2.1]; exact g5, by rw [q2.2.1]; exact g6, by rw [q2.2.2 f.slot (by simp [n1, n2])]; exact g7⟩
end StrChars.Road
namespace StrChars.Road
open Jvm Sem ClassFile Op Lib Jvm.Stand Jvm.Free Jvm.Free.XT
/-- WHAT COMES BACK, the byte[] as a list of values -/
def QA (Z : State) (x : Addr) (zn : Int32) (cs : List Int32) (h : Heap) (v : Option Value) (h' : Heap) (L : List Loc) : Prop := v = none ∧ (∀ y ∈ L, y.base = x) ∧ RoadKit.Keep h h' [x] ∧ h'.size = h.size + 1 ∧ RoadKit.Exa Z h' x ST ∧ RoadKit.Fld Z h' x ST "value" "[B" (.ref h.size) ∧ RoadKit.Fld Z h' x ST "coder" "B" (.int 0) ∧
  (∃ kb, Z.vm.findClass "[B" = some kb ∧ RoadKit.Arv Z h' h.size kb .byte zn (cs.map fun c => .int (lo8 c)) (.int 0)) ∧
  ∀ (O n d : String) (w : Value), RoadKit.Fld Z h x O n d w → RoadKit.slotOf Z O n d ≠ RoadKit.slotOf Z ST "value" "[B" → RoadKit.slotOf Z O n d ≠ RoadKit.slotOf Z ST "coder" "B" → RoadKit.Fld Z h' x O n d w
/-- **new String(chars) AT A CALL, THE ARRAYS AS LISTS**: the char[] at b holds cs, not empty, no char above 255 -/
theorem backArv {p : Program} {l : Launch} {e : Env} {R : Room} {s : State} {args : Array Value} {below : List Frame} {len W : Nat} {Z : State} {a0 : Array Value} {h : Heap} (hZ : Z.Warmed39 s.vm) (hw : ∀ d ∈ words, d.before a0 Z = true) {kI : Nat} (wi : (Jvm.Cond.instantiable ST kI).before a0 Z = true)
    {x b : Addr} {k : ClassId} {zn z : Int32} {cs : List Int32} {dv v0 c0 : Value} (E : RoadKit.Exa Z h x ST) (V : RoadKit.Fld Z h x ST "value" "[B" v0) (C : RoadKit.Fld Z h x ST "coder" "B" c0) (K : RoadKit.Arv Z h b k .char zn (cs.map Value.int) dv) (S : RoadKit.Sta Z h ST "COMPACT_STRINGS" "Z" (.int z)) (hz : ¬ z = 0)
    (hlen : zn.toNatClampNeg = cs.length) (h0 : 0 < cs.length) (hbig : cs.length ≤ 536870912) (hall : ∀ c ∈ cs, ¬ 255 < c) (hfr : 4 ≤ R.frames) (hlo : W + 65 ≤ R.locals) :
    Back l R p e below s args New1.yN len W (fun P a => a = #[.ref x, .ref b] ∧ P.U.heap = h ∧ P.cells + 1 ≤ R.cells ∧ P.slots + cs.length ≤ R.slots)
      (fun P _ v B => ∃ L, QA Z x zn cs h v B.U.heap L ∧ B.locs = P.locs ++ L ∧ B.cells = P.cells + 1 ∧ B.slots = P.slots + cs.length) := by
  obtain ⟨A, K1, K2, K3, K4, K5, K6⟩ := K
  have e : A.slots.size = cs.length := K3.trans hlen
  have hat : ∀ (i : Nat) (hi : i < cs.length), A.slots[i]? = some (.int cs[i]) := fun i hi => by rw [K5 i (by omega)]; simp [List.getD_eq_getElem?_getD, hi]
  have hcv : ∀ (i : Nat) (hi : i < cs.length), cv A i = cs[i] := fun i hi => by unfold cv; rw [hat i hi]
  have hty : Typed .char A := fun i v hv => by
    have hi : i < A.slots.size := (Array.getElem?_eq_some_iff.mp hv).1
    have q := K5 i hi
    rw [hv] at q
    rw [Option.some.inj q]
    exact K6 i hi
  refine Back.mono (back hZ hw wi E V C K1 hty S hz (by omega) (by omega) (fun i hi => by rw [hcv i (by omega)]; exact hall _ (List.getElem_mem _)) hfr hlo) (fun P a hp => ⟨hp.1, hp.2.1, hp.2.2.1, by rw [e]; exact hp.2.2.2⟩) (fun P a v B hp hq => ?_)
  obtain ⟨L, ⟨q1, q2, q3, q4, q5, q6, q7, ⟨V', v1, v2, v3, v4, v5⟩, q9⟩, hl, hc, hs⟩ := hq
  refine ⟨L, ⟨q1, q2, q3, q4, q5, q6, q7, ⟨V'.cls, v3, V', v1, rfl, by rw [v4, e, hlen], K4, fun i hi => ?_, fun i hi => ?_⟩, q9⟩, hl, hc, by rw [hs, e]⟩
  · have hi' : i < cs.length := by omega
    rw [v5 i (by omega), hcv i hi']; simp [List.getD_eq_getElem?_getD, hi']
  · have hi' : i < cs.length := by omega
    simp only [List.getD_eq_getElem?_getD, List.getElem?_map, List.getElem?_eq_getElem hi', Option.map_some, Option.getD_some]
    exact fits_lo8 _
end StrChars.Road
namespace StrChars.Road
open Jvm Sem ClassFile Op Lib Jvm.Stand Jvm.Free Jvm.Free.XT
/-- WHAT COMES BACK, in the writer's own shape -/
def QV (Z : State) (x : Addr) (N : Int32) (bs : List Int32) (h : Heap) (n0 : Nat) (v : Option Value) (h' : Heap) (L : List Loc) : Prop := v = none ∧ RoadKit.Fr n0 L ∧ RoadKit.Keep h h' [x] ∧ RoadKit.Exa Z h' x ST ∧ RoadKit.Fld Z h' x ST "coder" "B" (.int 0) ∧
  ∃ (t : Addr) (kb : ClassId), n0 ≤ t ∧ h.size ≤ t ∧ ¬ t = x ∧ RoadKit.Fld Z h' x ST "value" "[B" (.ref t) ∧ RoadKit.Arv Z h' t kb .byte N (bs.map Value.int) (.int 0)
/-- **new String(chars) AT A CALL, FOR THE WRITER**: a char[] of n known ints, each 0 to 255 -/
theorem backV {p : Program} {l : Launch} {e : Env} {R : Room} {s : State} {args : Array Value} {below : List Frame} {len W : Nat} {Z : State} {a0 : Array Value} {h : Heap} (hZ : Z.Warmed39 s.vm) (hw : ∀ d ∈ words, d.before a0 Z = true) {kI : Nat} (wi : (Jvm.Cond.instantiable ST kI).before a0 Z = true)
    {x b : Addr} {kC : ClassId} {cs bs : List Int32} {d v0 c0 : Value} {z N : Int32} {n n0 : Nat} (hx0 : n0 ≤ x) (hh0 : n0 ≤ h.size) (E : RoadKit.Exa Z h x ST) (V : RoadKit.Fld Z h x ST "value" "[B" v0) (C : RoadKit.Fld Z h x ST "coder" "B" c0) (K : RoadKit.Arv Z h b kC .char N (cs.map Value.int) d) (S : RoadKit.Sta Z h ST "COMPACT_STRINGS" "Z" (.int z)) (hz : ¬ z = 0)
    (hn : cs.length = n) (hN : N = Int32.ofNat n) (l0 : 0 < n) (l2 : n ≤ 4000) (hp : ∀ c ∈ cs, ¬ c < 0 ∧ ¬ (255 : Int32) < c) (hb : bs = cs.map (fun c => c.toInt8.toInt32)) (hfr : 4 ≤ R.frames) (hlo : W + 65 ≤ R.locals) :
    Back l R p e below s args (⟨"java/lang/String", "<init>", "([C)V"⟩ : MethodName) len W (fun P a => a = #[.ref x, .ref b] ∧ P.U.heap = h ∧ P.cells + 1 ≤ R.cells ∧ P.slots + n ≤ R.slots)
      (fun P _ v B => ∃ L, QV Z x N bs h n0 v B.U.heap L ∧ B.locs = P.locs ++ L ∧ B.cells = P.cells + 1 ∧ B.slots = P.slots + n) := by
  subst hn hN hb
  refine Back.mono (backArv hZ hw wi E V C K S hz (n32 (by omega)) l0 (by omega) (fun c hc => (hp c hc).2) hfr hlo) (fun P a hp => hp) (fun P a v B hp hq => ?_)
  obtain ⟨L, ⟨q1, q2, q3, q4, q5, q6, q7, ⟨kb, v1, v2⟩, q9⟩, hl, hc, hs⟩ := hq
  exact ⟨L, ⟨q1, fun y hy => by rw [q2 y hy]; exact hx0, q3, q5, q7, h.size, kb, hh0, Nat.le_refl _, Nat.ne_of_gt E.lt, q6, by rw [List.map_map]; exact v2⟩, hl, hc, hs⟩
end StrChars.Road
namespace StrChars
open Jvm Sem ClassFile Op Lib Jvm.Stand Jvm.Free.XT Jvm.Free.ALB Jvm.Free.JM Jvm.Free
open Jvm.Lib.Cold (StaticIs)
def hi8 (x : Int32) : Int32 := lo8 (x >>> ((8 : Int32) &&& 31))
/-- what StringUTF16.getChar makes of two bytes -/
def pairCh (u v : Int32) : Int32 := (((u &&& 255) <<< ((0 : Int32) &&& 31)) ||| ((v &&& 255) <<< ((8 : Int32) &&& 31))).toUInt32.toUInt16.toUInt32.toInt32
theorem lo8_and (x : Int32) : (lo8 x &&& 255).toBitVec.toNat = x.toBitVec.toNat % 256 := by
  have h : (lo8 x).toBitVec = (x.toBitVec.signExtend 8).signExtend 32 := by rw [lo8, Int8.toBitVec_toInt32, Int32.toBitVec_toInt8]
  rw [Int32.toBitVec_and, BitVec.toNat_and, h]
  have e : ((x.toBitVec.signExtend 8).signExtend 32).toNat % 256 = x.toBitVec.toNat % 256 := by
    rw [BitVec.toNat_signExtend]
    have hlt := x.toBitVec.isLt
    simp only [BitVec.toNat_setWidth, BitVec.toNat_signExtend]
    split <;> split <;> omega
  rw [← e]
  exact Nat.and_two_pow_sub_one_eq_mod _ 8
theorem pair_says {c : Int32} (h0 : ¬ c < 0) (h1 : ¬ 65535 < c) : pairCh (lo8 c) (hi8 c) = c := by
  rw [Int32.lt_iff_toInt_lt] at h0 h1
  have e0 : (0 : Int32).toInt = 0 := rfl
  have e1 : (65535 : Int32).toInt = 65535 := rfl
  have hc : c.toInt = c.toBitVec.toNat := by
    have := c.toBitVec.isLt
    have e : c.toInt = c.toBitVec.toInt := rfl
    rw [e] at h0 h1
    rw [e]
    rw [BitVec.toInt_eq_toNat_cond] at h0 h1 ⊢
    split at h0 <;> split <;> omega
  have hn : c.toBitVec.toNat < 65536 := by omega
  have a1 := lo8_and c
  have a2 : (hi8 c &&& 255).toBitVec.toNat = c.toBitVec.toNat / 256 := by
    rw [hi8, lo8_and]
    have e : ((8 : Int32) &&& 31) = 8 := by decide
    rw [e, Int32.toBitVec_shiftRight]
    have e2 : ((8 : Int32).toBitVec.smod 32) = 8#32 := by decide
    rw [e2, BitVec.sshiftRight_eq', BitVec.toNat_sshiftRight_of_msb_false (by rw [BitVec.msb_eq_false_iff_two_mul_lt]; omega)]
    show c.toBitVec.toNat >>> 8 % 256 = _
    rw [Nat.shiftRight_eq_div_pow]
    omega
  unfold pairCh
  apply Int32.toBitVec_inj.mp
  apply BitVec.eq_of_toNat_eq
  have f0 : ((0 : Int32) &&& 31) = 0 := by decide
  have f8 : ((8 : Int32) &&& 31) = 8 := by decide
  rw [f0, f8]
  have g : (((lo8 c &&& 255) <<< (0 : Int32)) ||| ((hi8 c &&& 255) <<< (8 : Int32))).toBitVec.toNat = c.toBitVec.toNat := by
    rw [Int32.toBitVec_or, Int32.toBitVec_shiftLeft, Int32.toBitVec_shiftLeft]
    have s0 : ((0 : Int32).toBitVec.smod 32) = 0#32 := by decide
    have s8 : ((8 : Int32).toBitVec.smod 32) = 8#32 := by decide
    rw [s0, s8, BitVec.toNat_or]
    simp only [BitVec.shiftLeft_eq', BitVec.toNat_shiftLeft, a1, a2]
    show (c.toBitVec.toNat % 256) <<< 0 % 2 ^ 32 ||| (c.toBitVec.toNat / 256) <<< 8 % 2 ^ 32 = _
    rw [Nat.shiftLeft_zero, Nat.mod_eq_of_lt (show c.toBitVec.toNat % 256 < 2 ^ 32 by omega), Nat.mod_eq_of_lt (show (c.toBitVec.toNat / 256) <<< 8 < 2 ^ 32 by rw [Nat.shiftLeft_eq]; omega), Nat.or_comm, ← Nat.shiftLeft_add_eq_or_of_lt (by omega), Nat.shiftLeft_eq]
    omega
  show BitVec.toNat (((((lo8 c &&& 255) <<< (0 : Int32)) ||| ((hi8 c &&& 255) <<< (8 : Int32))).toBitVec.setWidth 16).setWidth 32) = _
  rw [BitVec.toNat_setWidth, BitVec.toNat_setWidth, g]
  omega
end StrChars
namespace StrChars
open Jvm Sem ClassFile Op Lib Jvm.Stand Jvm.Free.XT Jvm.Free.ALB Jvm.Free.JM Jvm.Free
open Jvm.Lib.Cold (StaticIs)
/-- charAt's cast of a byte read back -/
def chr8 (u : Int32) : Int32 := (u &&& 255).toUInt32.toUInt16.toUInt32.toInt32
theorem chr8_lo8 {c : Int32} (h0 : ¬ c < 0) (h1 : ¬ 255 < c) : chr8 (lo8 c) = c := by
  have t : ∀ k : Fin 256, (Int32.ofNat k.val).toUInt32.toUInt16.toUInt32.toInt32 = Int32.ofNat k.val := by decide +kernel
  unfold chr8
  rw [lo8_mask h0 h1]
  rw [Int32.lt_iff_toInt_lt] at h0 h1
  have e0 : (0 : Int32).toInt = 0 := rfl
  have e1 : (255 : Int32).toInt = 255 := rfl
  obtain ⟨k, hk⟩ : ∃ k : Nat, c.toInt = k := ⟨c.toInt.toNat, by omega⟩
  have hx : c = Int32.ofNat k := Int32.toInt_inj.mp (by rw [hk, Int32.toInt_ofNat_small (by omega)])
  rw [hx]
  exact t ⟨k, by omega⟩
theorem narrow_ch {c : Int32} (h0 : ¬ c < 0) (h1 : ¬ 65535 < c) : narrow .char (.int c) = .int c := by
  have q : narrow .char (.int (pairCh (lo8 c) (hi8 c))) = .int (pairCh (lo8 c) (hi8 c)) := narrow_c _
  rwa [pair_says h0 h1] at q
/-- the array's cell V codes the n chars f 0 .. f (n - 1) by the coder cd, as the JDK does: coder 1 just where some char is above 255 -/
def Cod (cd : Int32) (n : Nat) (f : Nat → Int32) (V : Cell) : Prop := (cd = 0 ∧ V.slots.size = n ∧ ∀ j, j < n → V.slots[j]? = some (.int (lo8 (f j))) ∧ ¬ 255 < f j) ∨ (cd = 1 ∧ V.slots.size = 2 * n ∧ (∀ j, j < n → V.slots[2 * j]? = some (.int (lo8 (f j))) ∧ V.slots[2 * j + 1]? = some (.int (hi8 (f j)))) ∧ ∃ j, j < n ∧ 255 < f j)
theorem Cod.cd {cd : Int32} {n : Nat} {f : Nat → Int32} {V : Cell} (h : Cod cd n f V) : cd = 0 ∨ cd = 1 := h.imp (fun q => q.1) fun q => q.1
/-- **x is a String of the n chars f 0 .. f (n - 1)**, Latin-1 or UTF-16; its array at t has the cell V -/
def Txt (x t : Addr) (V : Cell) (cd : Int32) (n : Nat) (f : Nat → Int32) (U : State) : Prop := Exact "java/lang/String" x U ∧ Has x "java/lang/String" "value" "[B" (.ref t) U ∧ Has x "java/lang/String" "coder" "B" (.int cd) U ∧ XT.Arr .byte t V U ∧ Cod cd n f V ∧ ∀ j, j < n → ¬ f j < 0 ∧ ¬ 65535 < f j
theorem Txt.mv {x t : Addr} {V : Cell} {cd : Int32} {n : Nat} {f : Nat → Int32} {U U' : State} (h : Txt x t V cd n f U) (hal : U.vm.Alike U'.vm) (hh : U'.heap = U.heap) : Txt x t V cd n f U' := ⟨h.1.mv hal hh, h.2.1.mv hal hh, h.2.2.1.mv hal hh, h.2.2.2.1.mv hal hh, h.2.2.2.2⟩
namespace IsL
def yN : MethodName := ⟨"java/lang/String", "isLatin1", "()Z"⟩
abbrev yB : ByteArray := jdk_42_method_154_code
theorem d0 : decode yB 0 = .ok (.getstatic 38, 3) := by decide +kernel
theorem d3 : decode yB 3 = .ok (.ifCond (.eq) 14, 3) := by decide +kernel
theorem d6 : decode yB 6 = .ok (.aload_n 0, 1) := by decide +kernel
theorem d7 : decode yB 7 = .ok (.getfield 15, 3) := by decide +kernel
theorem d10 : decode yB 10 = .ok (.ifCond (.ne) 7, 3) := by decide +kernel
theorem d13 : decode yB 13 = .ok (.iconst 1, 1) := by decide +kernel
theorem d14 : decode yB 14 = .ok (.goto 4, 3) := by decide +kernel
theorem d17 : decode yB 17 = .ok (.iconst 0, 1) := by decide +kernel
theorem d18 : decode yB 18 = .ok (.ireturn, 1) := by decide +kernel
def site : List Cond := [.fieldLink "java/lang/String" 38 "java/lang/String" "COMPACT_STRINGS" "Z", .fieldLink "java/lang/String" 15 "java/lang/String" "coder" "B"]
def tab : Cond := tabOf yN yB 1 (some .boolean) site
def P (x : Addr) (cd z : Int32) (args : Array Value) (s : State) : Prop := args = #[.ref x] ∧ Has x "java/lang/String" "coder" "B" (.int cd) s ∧ (cd = 0 ∨ cd = 1) ∧ StaticIs s "java/lang/String" "COMPACT_STRINGS" "Z" (.int z) ∧ ¬ z = 0
def E (cd : Int32) (r : Option Value) (s u : State) : Prop := XT.PureE (some (.int (1 - cd))) r s u
theorem law (l : Launch) (x : Addr) (cd z : Int32) : Law l yN 1 0 0 0 yB 1 (some .boolean) site (P x cd z) (E cd) [] 0 0 := by
  refine Law.of_walk (plainFor_of_name (by decide +kernel)) (by decide +kernel) (by decide +kernel) (by decide) (fun _ _ h => by rw [h.1]; rfl) (fun _ U U' hal hh h => ⟨h.1, h.2.1.mv hal hh, h.2.2.1, h.2.2.2.1.there hal hh, h.2.2.2.2⟩) (fun r U U' V V' h1 hal h2 h => XT.PureE.mv r U U' V V' h1 hal h2 h) ?_
  intro p e s m args below meth c s₁ X0 hexec hbytes hml hret hlk hnm hown hh0 W hP
  obtain ⟨rfl, hx, hc, s1, hz⟩ := hP
  have c1 : Steps p.tables e below (s₁.setTop (entryFrame m #[.ref x] 1)) (s₁.setTop (mkF m 0 #[.val (.ref x)] [])) := entry rfl
  obtain ⟨T2, X2, q2, st2⟩ := X0.sget hexec hown (wk W (.fieldLink "java/lang/String" 38 "java/lang/String" "COMPACT_STRINGS" "Z")) s1 (fun _ _ h => by rw [hh0]; exact h) (g := (mkF m 0 #[.val (.ref x)] [])) rfl (hb hbytes d0)
  have hh2 := q2.trans hh0
  have c3 : Steps p.tables e below (s₁.setTop (entryFrame m #[.ref x] 1)) (T2.setTop (mkF m 7 #[.val (.ref x)] [.ref x])) := (c1.trans (st2 _ (Steps.refl _))).trans (by
    refine XS.ifNo X2.here hexec rfl (hb hbytes d3) rfl (i0_eq_f hz) ?_
    refine XS.aloadN X2.here hexec rfl (hb hbytes d6) rfl rfl ?_
    exact Steps.refl _)
  obtain ⟨T4, X4, q4, st4⟩ := X2.hget hexec hown (wk W (.fieldLink "java/lang/String" 15 "java/lang/String" "coder" "B")) (hx.mv X2.warmed.alike hh2) (g := (mkF m 7 #[.val (.ref x)] [.ref x])) rfl (rest := []) rfl (hb hbytes d7)
  have c5 : Steps p.tables e below (s₁.setTop (entryFrame m #[.ref x] 1)) (T4.setTop (mkF m 10 #[.val (.ref x)] [.int cd])) := c3.trans (st4 _ (Steps.refl _))
  have c6 : Steps p.tables e below (s₁.setTop (entryFrame m #[.ref x] 1)) (T4.setTop (mkF m 18 #[.val (.ref x)] [.int (1 - cd)])) := by
    rcases hc with rfl | rfl
    · exact c5.trans (by
        refine XS.ifNo X4.here hexec rfl (hb hbytes d10) rfl (i0_ne_f rfl) ?_
        refine iconstV X4.here hexec rfl 1 (hb hbytes d13) (by decide) ?_
        refine XS.goto X4.here hexec rfl (pc0 := 14) rfl (hb hbytes d14) (by decide) rfl ?_
        exact Steps.refl _)
    · exact c5.trans (by
        refine XS.ifYes X4.here hexec rfl (pc0 := 10) rfl (hb hbytes d10) rfl (i0_ne_t (by decide)) (by decide) rfl ?_
        refine iconstV X4.here hexec rfl 0 (hb hbytes d17) (by decide) ?_
        exact Steps.refl _)
  exact ⟨T4, some (.int (1 - cd)), _, _, _, X4, rfl, rfl, rfl, (fun h => by cases h), ⟨rfl, q4.trans hh2⟩, fun fs hl => c6.trans (X4.ireturnOut hexec hret (by rcases hc with rfl | rfl <;> rfl) (Or.inr (Or.inl rfl)) (hb hbytes d18) hl)⟩
end IsL
namespace LChA
def yN : MethodName := ⟨"java/lang/StringLatin1", "charAt", "([BI)C"⟩
abbrev yB : ByteArray := jdk_43_method_2_code
theorem d0 : decode yB 0 = .ok (.iload_n 1, 1) := by decide +kernel
theorem d1 : decode yB 1 = .ok (.aload_n 0, 1) := by decide +kernel
theorem d2 : decode yB 2 = .ok (.arraylength, 1) := by decide +kernel
theorem d3 : decode yB 3 = .ok (.invokestatic 9, 3) := by decide +kernel
theorem d6 : decode yB 6 = .ok (.aload_n 0, 1) := by decide +kernel
theorem d7 : decode yB 7 = .ok (.iload_n 1, 1) := by decide +kernel
theorem d8 : decode yB 8 = .ok (.baload, 1) := by decide +kernel
theorem d9 : decode yB 9 = .ok (.sipush 255, 3) := by decide +kernel
theorem d12 : decode yB 12 = .ok (.iand, 1) := by decide +kernel
theorem d13 : decode yB 13 = .ok (.i2c, 1) := by decide +kernel
theorem d14 : decode yB 14 = .ok (.ireturn, 1) := by decide +kernel
def site : List Cond := [JO.Str_checkIndex.tab] ++ staticW "java/lang/StringLatin1" 9 JO.Str_checkIndex.yN
def tab : Cond := tabOf yN yB 2 (some .char) site
def P (t : Addr) (V : Cell) (i : Nat) (u : Int32) (fm : Value) (args : Array Value) (s : State) : Prop := args = #[.ref t, .int (Int32.ofNat i)] ∧ XT.Arr .byte t V s ∧ V.slots[i]? = some (.int u) ∧ (StaticIs s "jdk/internal/util/Preconditions" "SIOOBE_FORMATTER" "Ljava/util/function/BiFunction;" fm ∧ fm.isRef = true)
def E (u : Int32) (r : Option Value) (s w : State) : Prop := XT.PureE (some (.int (chr8 u))) r s w
theorem law (l : Launch) (t : Addr) (V : Cell) (i : Nat) (u : Int32) (fm : Value) : Law l yN 2 2 2 27 yB 2 (some .char) site (P t V i u fm) (E u) [] 0 0 := by
  refine Law.of_walk (plainFor_of_name (by decide +kernel)) (by decide +kernel) (by decide +kernel) (by decide) (fun _ _ h => by rw [h.1]; rfl) (fun _ U U' hal hh h => ⟨h.1, h.2.1.mv hal hh, h.2.2.1, h.2.2.2.1.there hal hh, h.2.2.2.2⟩) (fun r U U' V V' h1 hal h2 h => XT.PureE.mv r U U' V V' h1 hal h2 h) ?_
  intro p e s m args below meth c s₁ X0 hexec hbytes hml hret hlk hnm hown hh0 W hP
  obtain ⟨rfl, hV, hu, s1, rf⟩ := hP
  have v31 := hV.2.2.2
  have hi : i < V.slots.size := (Array.getElem?_eq_some_iff.mp hu).1
  have c1 : Steps p.tables e below (s₁.setTop (entryFrame m #[.ref t, .int (Int32.ofNat i)] 2)) (s₁.setTop (mkF m 0 #[.val (.ref t), .val (.int (Int32.ofNat i))] [])) := entry rfl
  have c2 : Steps p.tables e below (s₁.setTop (entryFrame m #[.ref t, .int (Int32.ofNat i)] 2)) (s₁.setTop (mkF m 3 #[.val (.ref t), .val (.int (Int32.ofNat i))] [.int (Int32.ofNat V.slots.size), .int (Int32.ofNat i)])) := c1.trans (by
    refine XS.iloadN X0.here hexec rfl (hb hbytes d0) rfl ?_
    refine XS.aloadN X0.here hexec rfl (hb hbytes d1) rfl rfl ?_
    refine X0.alen hexec (hV.mv X0.warmed.alike hh0) rfl rfl (hb hbytes d2) ?_
    exact Steps.refl _)
  obtain ⟨v3, T3, X3, E3, g3⟩ := X0.callS hexec (JO.Str_checkIndex.law l (Int32.ofNat i) (Int32.ofNat V.slots.size) fm) hown (wks W (staticW "java/lang/StringLatin1" 9 JO.Str_checkIndex.yN)) (wk W JO.Str_checkIndex.tab) (W := 0) (Nat.le_of_ble_eq_true rfl) (Nat.le_of_ble_eq_true rfl) (Nat.le_refl _) (Nat.le_refl _) (g := (mkF m 3 #[.val (.ref t), .val (.int (Int32.ofNat i))] [.int (Int32.ofNat V.slots.size), .int (Int32.ofNat i)])) rfl (by rw [hml]; rfl) c2 (argsL := [.int (Int32.ofNat i), .int (Int32.ofNat V.slots.size)]) (rest := []) rfl rfl (by show 2 * 0 + 0 ≤ _; decide) (hb hbytes d3) (⟨rfl, rf, s1.there X0.warmed.alike hh0, Int32.ofNat_not_neg (by omega), lt32 v31 hi⟩)
  obtain ⟨rfl, q3⟩ := E3
  have hh3 := q3.trans hh0
  have c4 : Steps p.tables e below (s₁.setTop (entryFrame m #[.ref t, .int (Int32.ofNat i)] 2)) (T3.setTop (mkF m 14 #[.val (.ref t), .val (.int (Int32.ofNat i))] [.int (chr8 u)])) := Steps.trans g3 (by
    refine XS.aloadN X3.here hexec rfl (hb hbytes d6) rfl rfl ?_
    refine XS.iloadN X3.here hexec rfl (hb hbytes d7) rfl ?_
    refine X3.aget hexec (hV.mv X3.warmed.alike hh3) rfl hu rfl rfl (hb hbytes d8) ?_
    refine sipushV X3.here hexec rfl 255 (hb hbytes d9) (by decide) ?_
    refine XS.iand X3.here hexec rfl (hb hbytes d12) rfl ?_
    refine i2c X3.here hexec rfl (hb hbytes d13) rfl ?_
    exact Steps.refl _)
  exact ⟨T3, some (.int (chr8 u)), _, _, _, X3, rfl, rfl, rfl, (fun h => by cases h), ⟨rfl, hh3⟩, fun fs hl => c4.trans (X3.ireturnOut hexec hret (narrow_c _) (Or.inr (Or.inr (Or.inr (Or.inl rfl)))) (hb hbytes d14) hl)⟩
end LChA
end StrChars
namespace StrChars.Road
open Jvm Sem ClassFile Op Lib Jvm.Stand Jvm.Free Jvm.Free.XT
open Jvm.Lib.Cold (StaticIs)
theorem consq {a : Array Value} {s : State} {c : Jvm.Cond} {L : List Jvm.Cond} (h0 : c.before a s = true) (h : ∀ w ∈ L, w.before a s = true) : ∀ w ∈ c :: L, w.before a s = true := fun w hw => (List.mem_cons.mp hw).elim (fun e => e ▸ h0) (h w)
/-- the bytes of the chars cs, low before high -/
def wideBytes : List Int32 → List Value
  | [] => []
  | c :: cs => .int (lo8 c) :: .int (hi8 c) :: wideBytes cs
theorem wide_lo (d : Value) : ∀ (cs : List Int32) (j : Nat), j < cs.length → (wideBytes cs).getD (2 * j) d = .int (lo8 (cs.getD j 0))
  | [], j, h => absurd h (Nat.not_lt_zero j)
  | c :: cs, 0, _ => rfl
  | c :: cs, j + 1, h => by
    have q := wide_lo d cs j (by simpa using h)
    rw [show 2 * (j + 1) = 2 * j + 1 + 1 from by omega]
    simpa [wideBytes] using q
theorem wide_hi (d : Value) : ∀ (cs : List Int32) (j : Nat), j < cs.length → (wideBytes cs).getD (2 * j + 1) d = .int (hi8 (cs.getD j 0))
  | [], j, h => absurd h (Nat.not_lt_zero j)
  | c :: cs, 0, _ => rfl
  | c :: cs, j + 1, h => by
    have q := wide_hi d cs j (by simpa using h)
    rw [show 2 * (j + 1) + 1 = 2 * j + 1 + 1 + 1 from by omega]
    simpa [wideBytes] using q
theorem low_at (d : Value) (cs : List Int32) (j : Nat) (h : j < cs.length) : (cs.map fun c => Value.int (lo8 c)).getD j d = .int (lo8 (cs.getD j 0)) := by
  simp [List.getD_eq_getElem?_getD, h]
/-- an array of N2 bytes vs codes the chars cs by the coder cd -/
def CodA (cs : List Int32) (cd N2 : Int32) (vs : List Value) : Prop := (cd = 0 ∧ N2 = Int32.ofNat cs.length ∧ vs = (cs.map fun c => Value.int (lo8 c)) ∧ ∀ c ∈ cs, ¬ 255 < c) ∨ (cd = 1 ∧ N2 = Int32.ofNat (2 * cs.length) ∧ vs = wideBytes cs ∧ ∃ c ∈ cs, 255 < c)
theorem CodA.cod {cs : List Int32} {cd N2 : Int32} {vs : List Value} {V : Cell} (h : CodA cs cd N2 vs) (hn : 2 * cs.length < 2 ^ 31) (hs : V.slots.size = N2.toNatClampNeg) (hv : RoadKit.Has V vs (.int 0)) : Cod cd cs.length (fun j => cs.getD j 0) V := by
  rcases h with ⟨rfl, rfl, rfl, h⟩ | ⟨rfl, rfl, rfl, c, hc, hw⟩
  · rw [n32 (by omega)] at hs
    exact Or.inl ⟨rfl, hs, fun j hj => ⟨by rw [hv j (by omega), low_at _ _ _ hj], by
      have e : cs.getD j 0 = cs[j] := by simp [List.getD_eq_getElem?_getD, hj]
      show ¬ 255 < cs.getD j 0
      rw [e]; exact h _ (List.getElem_mem _)⟩⟩
  · rw [n32 (by omega)] at hs
    obtain ⟨j, hj, rfl⟩ := List.getElem_of_mem hc
    exact Or.inr ⟨rfl, hs, fun j hj => ⟨by rw [hv _ (by omega), wide_lo _ _ _ hj], by rw [hv _ (by omega), wide_hi _ _ _ hj]⟩, j, hj, by
      have e : cs.getD j 0 = cs[j] := by simp [List.getD_eq_getElem?_getD, hj]
      show 255 < cs.getD j 0
      rw [e]; exact hw⟩
/-- an object of exactly java/lang/String, its two fields found: as the laws ask it -/
theorem strObj {Z U : State} {a0 : Array Value} {kI : Nat} (wi : (Jvm.Cond.instantiable ST kI).before a0 Z = true) (al : Z.vm.Alike U.vm) {x : Addr} {v0 c0 : Value} (E : RoadKit.Exa Z U.heap x ST) (V : RoadKit.Fld Z U.heap x ST "value" "[B" v0) (C : RoadKit.Fld Z U.heap x ST "coder" "B" c0) :
    ∃ (D : Cell) (fV fC : Field), Blank ST x D U ∧ Found ST "value" "[B" fV U ∧ Found ST "coder" "B" fC U ∧ D.slots[fV.slot]? = some v0 ∧ D.slots[fC.slot]? = some c0 ∧ RoadKit.slotOf Z ST "value" "[B" = fV.slot ∧ RoadKit.slotOf Z ST "coder" "B" = fC.slot := by
  obtain ⟨D, cfV, kV, iV, fV, hD, gV, stV, knV, obV, asV, slV⟩ := V
  obtain ⟨D', cfC, kC, iC, fC, hD', gC, stC, -, -, asC, slC⟩ := C
  cases hD.symm.trans hD'
  obtain ⟨D2, kD, e1, e2, e3, e4, e5⟩ := E
  cases hD.symm.trans e1
  obtain ⟨c2, k2, i1, i2, i3, -⟩ := Cond.instantiable_spec wi
  cases e2.symm.trans i1
  cases e3.symm.trans i2
  obtain ⟨kU, u1, u2⟩ := al.2.2 _ _ e3
  exact ⟨D, fV, fC, ⟨hD, ⟨knV, fun q hq => by rw [hq] at obV; cases obV⟩, by rw [al.findClass]; exact e2, kU, u1, by rw [u2]; exact i3, by rw [u2]; exact e5 i3⟩, ⟨SBG.found_only al ⟨cfV, kV, iV, gV⟩, stV⟩, ⟨SBG.found_only al ⟨cfC, kC, iC, gC⟩, stC⟩, slV, slC, by simp [RoadKit.slotOf, gV], by simp [RoadKit.slotOf, gC]⟩
theorem sta_is {Z U : State} (al : Z.vm.Alike U.vm) {C n d : String} {v : Value} (S : RoadKit.Sta Z U.heap C n d v) : StaticIs U C n d v := by
  obtain ⟨cfS, iS, kS, fS, st, cS, t1, t2, t3, t4, t5, t6, t7⟩ := S
  exact StaticIs.there (s := { Z with heap := U.heap }) ⟨cfS, iS, kS, fS, st, cS, t1, t2, t3, t4, t5, (fun q => by rw [q] at t6; cases t6), t7⟩ al rfl
end StrChars.Road
namespace StrChars
open Jvm Sem ClassFile Op Lib Jvm.Stand Jvm.Free.XT Jvm.Free.ALB Jvm.Free.JM Jvm.Free
open Jvm.Lib.Cold (StaticIs)
/-- what place i of a byte[]'s cell holds -/
def yv (A : Cell) (i : Nat) : Int32 := match A.slots[i]? with | some (.int x) => x | _ => 0
theorem yv_get {a : Addr} {A : Cell} {U : State} (h : XT.Arr .byte a A U) (ht : Typed .byte A) {i : Nat} (hi : i < A.slots.size) : A.slots[i]? = some (.int (yv A i)) := by
  have e := Array.getElem?_eq_getElem hi
  have f := ht i _ e
  unfold yv; rw [e]
  generalize A.slots[i] = v at f
  cases v <;> simp [fits] at f ⊢
/-- the two arrays are equal, place for place -/
def EqC (A B : Cell) : Prop := A.slots.size = B.slots.size ∧ ∀ i, i < A.slots.size → yv A i = yv B i
/-- a boolean that says whether p -/
def Says01 (q : Prop) (r : Option Value) (s u : State) : Prop := ∃ v : Int32, r = some (.int v) ∧ u.heap = s.heap ∧ ((v = 1 ∧ q) ∨ (v = 0 ∧ ¬ q))
theorem Says01.mv {q : Prop} : ∀ r (U U' V V' : State), U'.heap = U.heap → V.vm.Alike V'.vm → V'.heap = V.heap → Says01 q r U V → Says01 q r U' V' :=
  fun r U U' V V' h1 _ h2 ⟨v, a, b, c⟩ => ⟨v, a, by rw [h1, h2]; exact b, c⟩
namespace LEq
def yN : MethodName := ⟨"java/lang/StringLatin1", "equals", "([B[B)Z"⟩
abbrev yB : ByteArray := jdk_43_method_13_code
theorem d0 : decode yB 0 = .ok (.aload_n 0, 1) := by decide +kernel
theorem d1 : decode yB 1 = .ok (.arraylength, 1) := by decide +kernel
theorem d2 : decode yB 2 = .ok (.aload_n 1, 1) := by decide +kernel
theorem d3 : decode yB 3 = .ok (.arraylength, 1) := by decide +kernel
theorem d4 : decode yB 4 = .ok (.if_icmp (.ne) 30, 3) := by decide +kernel
theorem d7 : decode yB 7 = .ok (.iconst 0, 1) := by decide +kernel
theorem d8 : decode yB 8 = .ok (.istore_n 2, 1) := by decide +kernel
theorem d9 : decode yB 9 = .ok (.iload_n 2, 1) := by decide +kernel
theorem d10 : decode yB 10 = .ok (.aload_n 0, 1) := by decide +kernel
theorem d11 : decode yB 11 = .ok (.arraylength, 1) := by decide +kernel
theorem d12 : decode yB 12 = .ok (.if_icmp (.ge) 20, 3) := by decide +kernel
theorem d15 : decode yB 15 = .ok (.aload_n 0, 1) := by decide +kernel
theorem d16 : decode yB 16 = .ok (.iload_n 2, 1) := by decide +kernel
theorem d17 : decode yB 17 = .ok (.baload, 1) := by decide +kernel
theorem d18 : decode yB 18 = .ok (.aload_n 1, 1) := by decide +kernel
theorem d19 : decode yB 19 = .ok (.iload_n 2, 1) := by decide +kernel
theorem d20 : decode yB 20 = .ok (.baload, 1) := by decide +kernel
theorem d21 : decode yB 21 = .ok (.if_icmp (.eq) 5, 3) := by decide +kernel
theorem d24 : decode yB 24 = .ok (.iconst 0, 1) := by decide +kernel
theorem d25 : decode yB 25 = .ok (.ireturn, 1) := by decide +kernel
theorem d26 : decode yB 26 = .ok (.iinc 2 1, 3) := by decide +kernel
theorem d29 : decode yB 29 = .ok (.goto (-20), 3) := by decide +kernel
theorem d32 : decode yB 32 = .ok (.iconst 1, 1) := by decide +kernel
theorem d33 : decode yB 33 = .ok (.ireturn, 1) := by decide +kernel
theorem d34 : decode yB 34 = .ok (.iconst 0, 1) := by decide +kernel
theorem d35 : decode yB 35 = .ok (.ireturn, 1) := by decide +kernel
def site : List Cond := []
def tab : Cond := tabOf yN yB 3 (some .boolean) site
def P (a : Addr) (A : Cell) (b : Addr) (B : Cell) (args : Array Value) (s : State) : Prop := args = #[.ref a, .ref b] ∧ XT.Arr .byte a A s ∧ Typed .byte A ∧ XT.Arr .byte b B s ∧ Typed .byte B
/-- whether two byte[] are equal, place for place -/
theorem law (l : Launch) (a : Addr) (A : Cell) (b : Addr) (B : Cell) : Law l yN 2 2 0 0 yB 3 (some .boolean) site (P a A b B) (Says01 (EqC A B)) [] 0 0 := by
  refine Law.of_walk (plainFor_of_name (by decide +kernel)) (by decide +kernel) (by decide +kernel) (by decide) (fun _ _ h => by rw [h.1]; rfl) (fun _ U U' hal hh h => ⟨h.1, h.2.1.mv hal hh, h.2.2.1, h.2.2.2.1.mv hal hh, h.2.2.2.2⟩) (fun r U U' V V' h1 hal h2 h => Says01.mv r U U' V V' h1 hal h2 h) ?_
  intro p e s m args below meth c s₁ X0 hexec hbytes hml hret hlk hnm hown hh0 W hP
  obtain ⟨rfl, hA, tA, hB, tB⟩ := hP
  have a31 := hA.2.2.2
  have b31 := hB.2.2.2
  have hA0 := hA.mv X0.warmed.alike hh0
  have hB0 := hB.mv X0.warmed.alike hh0
  have c1 : Steps p.tables e below (s₁.setTop (entryFrame m #[.ref a, .ref b] 3)) (s₁.setTop (mkF m 0 #[.val (.ref a), .val (.ref b), .unset] [])) := entry rfl
  have c2 : Steps p.tables e below (s₁.setTop (entryFrame m #[.ref a, .ref b] 3)) (s₁.setTop (mkF m 4 #[.val (.ref a), .val (.ref b), .unset] [.int (Int32.ofNat B.slots.size), .int (Int32.ofNat A.slots.size)])) := c1.trans (by
    refine XS.aloadN X0.here hexec rfl (hb hbytes d0) rfl rfl ?_
    refine X0.alen hexec hA0 rfl rfl (hb hbytes d1) ?_
    refine XS.aloadN X0.here hexec rfl (hb hbytes d2) rfl rfl ?_
    refine X0.alen hexec hB0 rfl rfl (hb hbytes d3) ?_
    exact Steps.refl _)
  by_cases hs : A.slots.size = B.slots.size
  · have c3 : Steps p.tables e below (s₁.setTop (entryFrame m #[.ref a, .ref b] 3)) (s₁.setTop (mkF m 9 #[.val (.ref a), .val (.ref b), .val (.int 0)] [])) := c2.trans (by
      refine XS.icmpNo X0.here hexec rfl (hb hbytes d4) rfl (ii_ne_f (by rw [hs])) ?_
      refine iconstV X0.here hexec rfl 0 (hb hbytes d7) (by decide) ?_
      refine XS.istoreN X0.here hexec rfl (hb hbytes d8) rfl rfl ?_
      exact Steps.refl _)
    have loop : ∀ (r i : Nat), i + r = A.slots.size → (∀ j, j < i → yv A j = yv B j) → Steps p.tables e below (s₁.setTop (entryFrame m #[.ref a, .ref b] 3)) (s₁.setTop (mkF m 9 #[.val (.ref a), .val (.ref b), .val (.int (Int32.ofNat i))] [])) → ∃ (pc : Nat) (Ls : Array Slot) (v : Int32), (pc = 25 ∨ pc = 33) ∧ ((v = 1 ∧ EqC A B) ∨ (v = 0 ∧ ¬ EqC A B)) ∧ Steps p.tables e below (s₁.setTop (entryFrame m #[.ref a, .ref b] 3)) (s₁.setTop (mkF m pc Ls [.int v])) := by
      intro r
      induction r with
      | zero =>
        intro i hi he cl
        exact ⟨33, _, 1, Or.inr rfl, Or.inl ⟨rfl, hs, fun j hj => he j (by omega)⟩, cl.trans (by
          refine XS.iloadN X0.here hexec rfl (hb hbytes d9) rfl ?_
          refine XS.aloadN X0.here hexec rfl (hb hbytes d10) rfl rfl ?_
          refine X0.alen hexec hA0 rfl rfl (hb hbytes d11) ?_
          refine XS.icmpYes X0.here hexec rfl (pc0 := 12) rfl (hb hbytes d12) rfl (ii_ge_t (nlt32 (by omega) (by omega))) (by decide) rfl ?_
          refine iconstV X0.here hexec rfl 1 (hb hbytes d32) (by decide) ?_
          exact Steps.refl _)⟩
      | succ r ih =>
        intro i hi he cl
        have c4 : Steps p.tables e below (s₁.setTop (entryFrame m #[.ref a, .ref b] 3)) (s₁.setTop (mkF m 21 #[.val (.ref a), .val (.ref b), .val (.int (Int32.ofNat i))] [.int (yv B i), .int (yv A i)])) := cl.trans (by
          refine XS.iloadN X0.here hexec rfl (hb hbytes d9) rfl ?_
          refine XS.aloadN X0.here hexec rfl (hb hbytes d10) rfl rfl ?_
          refine X0.alen hexec hA0 rfl rfl (hb hbytes d11) ?_
          refine XS.icmpNo X0.here hexec rfl (hb hbytes d12) rfl (ii_ge_f (lt32 (by omega) (by omega))) ?_
          refine XS.aloadN X0.here hexec rfl (hb hbytes d15) rfl rfl ?_
          refine XS.iloadN X0.here hexec rfl (hb hbytes d16) rfl ?_
          refine X0.aget hexec hA0 rfl (yv_get hA tA (i := i) (by omega)) rfl rfl (hb hbytes d17) ?_
          refine XS.aloadN X0.here hexec rfl (hb hbytes d18) rfl rfl ?_
          refine XS.iloadN X0.here hexec rfl (hb hbytes d19) rfl ?_
          refine X0.aget hexec hB0 rfl (yv_get hB tB (i := i) (by omega)) rfl rfl (hb hbytes d20) ?_
          exact Steps.refl _)
        by_cases hv : yv A i = yv B i
        · have c5 : Steps p.tables e below (s₁.setTop (entryFrame m #[.ref a, .ref b] 3)) (s₁.setTop (mkF m 9 #[.val (.ref a), .val (.ref b), .val (.int (Int32.ofNat i + 1))] [])) := c4.trans (by
            refine XS.icmpYes X0.here hexec rfl (pc0 := 21) rfl (hb hbytes d21) rfl (ii_eq_t hv) (by decide) rfl ?_
            refine iincV X0.here hexec rfl 1 (hb hbytes d26) (by decide) rfl rfl ?_
            refine XS.goto X0.here hexec rfl (pc0 := 29) rfl (hb hbytes d29) (by decide) rfl ?_
            exact Steps.refl _)
          rw [succ32] at c5
          exact ih (i + 1) (by omega) (fun j hj => by
            by_cases e : j = i
            · rw [e]; exact hv
            · exact he j (by omega)) c5
        · exact ⟨25, _, 0, Or.inl rfl, Or.inr ⟨rfl, fun q => hv (q.2 i (by omega))⟩, c4.trans (by
            refine XS.icmpNo X0.here hexec rfl (hb hbytes d21) rfl (ii_eq_f hv) ?_
            refine iconstV X0.here hexec rfl 0 (hb hbytes d24) (by decide) ?_
            exact Steps.refl _)⟩
    obtain ⟨pc, Ls, v, hpc, hv, cz⟩ := loop A.slots.size 0 (by omega) (fun j hj => absurd hj (Nat.not_lt_zero j)) c3
    have nv : narrow .boolean (.int v) = .int v := by rcases hv with ⟨rfl, -⟩ | ⟨rfl, -⟩ <;> rfl
    rcases hpc with rfl | rfl
    · exact ⟨s₁, some (.int v), _, _, _, X0, rfl, rfl, rfl, (fun h => by cases h), ⟨v, rfl, hh0, hv⟩, fun fs hl => cz.trans (X0.ireturnOut hexec hret nv (Or.inr (Or.inl rfl)) (hb hbytes d25) hl)⟩
    · exact ⟨s₁, some (.int v), _, _, _, X0, rfl, rfl, rfl, (fun h => by cases h), ⟨v, rfl, hh0, hv⟩, fun fs hl => cz.trans (X0.ireturnOut hexec hret nv (Or.inr (Or.inl rfl)) (hb hbytes d33) hl)⟩
  · have c3 : Steps p.tables e below (s₁.setTop (entryFrame m #[.ref a, .ref b] 3)) (s₁.setTop (mkF m 35 #[.val (.ref a), .val (.ref b), .unset] [.int 0])) := c2.trans (by
      refine XS.icmpYes X0.here hexec rfl (pc0 := 4) rfl (hb hbytes d4) rfl (ii_ne_t (ne32 a31 b31 hs)) (by decide) rfl ?_
      refine iconstV X0.here hexec rfl 0 (hb hbytes d34) (by decide) ?_
      exact Steps.refl _)
    exact ⟨s₁, some (.int 0), _, _, _, X0, rfl, rfl, rfl, (fun h => by cases h), ⟨0, rfl, hh0, Or.inr ⟨rfl, fun q => hs q.1⟩⟩, fun fs hl => c3.trans (X0.ireturnOut hexec hret rfl (Or.inr (Or.inl rfl)) (hb hbytes d35) hl)⟩
end LEq
theorem Cod.ty {cd : Int32} {n : Nat} {f : Nat → Int32} {V : Cell} (h : Cod cd n f V) : Typed .byte V := fun i v hv => by
  have hi : i < V.slots.size := (Array.getElem?_eq_some_iff.mp hv).1
  rcases h with ⟨-, k1, k2⟩ | ⟨-, k1, k2, -⟩
  · rw [(k2 i (by omega)).1] at hv; cases hv; exact fits_lo8 _
  · rcases Nat.mod_two_eq_zero_or_one i with e | e
    · obtain ⟨j, rfl⟩ : ∃ j, i = 2 * j := ⟨i / 2, by omega⟩
      rw [(k2 j (by omega)).1] at hv; cases hv; exact fits_lo8 _
    · obtain ⟨j, rfl⟩ : ∃ j, i = 2 * j + 1 := ⟨i / 2, by omega⟩
      rw [(k2 j (by omega)).2] at hv; cases hv; exact fits_lo8 _
/-- the same text -/
def SameT (n : Nat) (f : Nat → Int32) (k : Nat) (g : Nat → Int32) : Prop := n = k ∧ ∀ j, j < n → f j = g j
theorem lo8_inj {x y : Int32} (h0 : ¬ x < 0) (h1 : ¬ 255 < x) (k0 : ¬ y < 0) (k1 : ¬ 255 < y) (h : lo8 x = lo8 y) : x = y := by
  rw [← lo8_mask h0 h1, ← lo8_mask k0 k1, h]
/-- arrays coded by one coder are equal just where the texts are -/
theorem Cod.eqv {cd : Int32} {n k : Nat} {f g : Nat → Int32} {V V' : Cell} (h : Cod cd n f V) (h' : Cod cd k g V') (hf : ∀ j, j < n → ¬ f j < 0 ∧ ¬ 65535 < f j) (hg : ∀ j, j < k → ¬ g j < 0 ∧ ¬ 65535 < g j) : EqC V V' ↔ SameT n f k g := by
  have yvv : ∀ {W : Cell} {i : Nat} {x : Int32}, W.slots[i]? = some (.int x) → yv W i = x := fun q => by unfold yv; rw [q]
  rcases h with ⟨rfl, k1, k2⟩ | ⟨rfl, k1, k2, -⟩
  · rcases h' with ⟨-, m1, m2⟩ | ⟨e, -⟩
    · constructor
      · rintro ⟨e1, e2⟩
        refine ⟨by omega, fun j hj => ?_⟩
        have q := e2 j (by omega)
        rw [yvv (k2 j hj).1, yvv (m2 j (by omega)).1] at q
        exact lo8_inj (hf j hj).1 (k2 j hj).2 (hg j (by omega)).1 (m2 j (by omega)).2 q
      · rintro ⟨rfl, e2⟩
        refine ⟨by omega, fun j hj => ?_⟩
        rw [yvv (k2 j (by omega)).1, yvv (m2 j (by omega)).1, e2 j (by omega)]
    · exact absurd e (by decide)
  · rcases h' with ⟨e, -⟩ | ⟨-, m1, m2, -⟩
    · exact absurd e (by decide)
    · constructor
      · rintro ⟨e1, e2⟩
        refine ⟨by omega, fun j hj => ?_⟩
        have q1 := e2 (2 * j) (by omega)
        have q2 := e2 (2 * j + 1) (by omega)
        rw [yvv (k2 j hj).1, yvv (m2 j (by omega)).1] at q1
        rw [yvv (k2 j hj).2, yvv (m2 j (by omega)).2] at q2
        rw [← pair_says (hf j hj).1 (hf j hj).2, ← pair_says (hg j (by omega)).1 (hg j (by omega)).2, q1, q2]
      · rintro ⟨rfl, e2⟩
        refine ⟨by omega, fun i hi => ?_⟩
        rcases Nat.mod_two_eq_zero_or_one i with e | e
        · obtain ⟨j, rfl⟩ : ∃ j, i = 2 * j := ⟨i / 2, by omega⟩
          rw [yvv (k2 j (by omega)).1, yvv (m2 j (by omega)).1, e2 j (by omega)]
        · obtain ⟨j, rfl⟩ : ∃ j, i = 2 * j + 1 := ⟨i / 2, by omega⟩
          rw [yvv (k2 j (by omega)).2, yvv (m2 j (by omega)).2, e2 j (by omega)]
/-- two codings differ: so do the texts -/
theorem Cod.dif {cd cd' : Int32} {n k : Nat} {f g : Nat → Int32} {V V' : Cell} (h : Cod cd n f V) (h' : Cod cd' k g V') (hne : ¬ cd = cd') : ¬ SameT n f k g := by
  rintro ⟨rfl, e⟩
  rcases h with ⟨rfl, -, k2⟩ | ⟨rfl, -, -, j, hj, hw⟩
  · rcases h' with ⟨rfl, -⟩ | ⟨-, -, -, j, hj, hw⟩
    · exact hne rfl
    · exact (k2 j hj).2 (by rw [e j hj]; exact hw)
  · rcases h' with ⟨-, -, m2⟩ | ⟨rfl, -⟩
    · exact (m2 j hj).2 (by rw [← e j hj]; exact hw)
    · exact hne rfl
/-- an object of exactly C is an instance of C -/
theorem cinst {p : Program} {l : Launch} {e : Env} {R : Room} {s : State} {m : MethodId} {args : Array Value} {below : List Frame} {meth : Method} {c : Code} {T : State} {locs : List Loc} {cells slots : Nat} (X : Stand p l e R s m args below meth c T locs cells slots) (hexec : p.tables.exec = Jvm.exec) {own C : String} {index : Nat} (hown : s.vm.findClass own = some m.cls) (hlink : (Cond.classLink own index C).before args s = true) {a : Addr} (hE : Exact C a T)
    {g : JFrame} (hg : g.method = m) {rest : List Value} (hstack : g.stack = .ref a :: rest) (hdg : decode c.code g.pc = .ok (.instanceof index, 3)) :
    ∃ T', Stand p l e R s m args below meth c T' locs cells slots ∧ T'.heap = T.heap ∧ ∀ target, Steps p.tables e below (T'.setTop { g with pc := g.pc + 3, stack := .int 1 :: rest }) target → Steps p.tables e below (T.setTop g) target := by
  obtain ⟨cB, h1, D, h2, h3, h4⟩ := hE
  have h1' : s.vm.findClass C = some cB := by rw [← X.warmed.alike.findClass]; exact h1
  obtain ⟨vm', X', st⟩ := X.instanceofYes hexec hown hlink h2 h4 h1' (by rw [h3]; exact Jvm.Free.SB.assignable_self _ _) hg hstack hdg
  exact ⟨_, X', rfl, st⟩
theorem cself {p : Program} {l : Launch} {e : Env} {R : Room} {s : State} {m : MethodId} {args : Array Value} {below : List Frame} {meth : Method} {c : Code} {T : State} {locs : List Loc} {cells slots : Nat} (X : Stand p l e R s m args below meth c T locs cells slots) (hexec : p.tables.exec = Jvm.exec) {own C : String} {index : Nat} (hown : s.vm.findClass own = some m.cls) (hlink : (Cond.classLink own index C).before args s = true) {a : Addr} (hE : Exact C a T)
    {g : JFrame} (hg : g.method = m) {rest : List Value} (hstack : g.stack = .ref a :: rest) (hdg : decode c.code g.pc = .ok (.checkcast index, 3)) :
    ∃ T', Stand p l e R s m args below meth c T' locs cells slots ∧ T'.heap = T.heap ∧ ∀ target, Steps p.tables e below (T'.setTop { g with pc := g.pc + 3, stack := .ref a :: rest }) target → Steps p.tables e below (T.setTop g) target := by
  obtain ⟨cB, h1, D, h2, h3, h4⟩ := hE
  have h1' : s.vm.findClass C = some cB := by rw [← X.warmed.alike.findClass]; exact h1
  obtain ⟨vm', X', st⟩ := X.checkcastYes hexec hown hlink h2 h4 h1' (by rw [h3]; exact Jvm.Free.SB.assignable_self _ _) hg hstack hdg
  exact ⟨_, X', rfl, fun t h => st t (by rw [← hstack] at h; exact h)⟩
namespace SEq
def yN : MethodName := ⟨"java/lang/String", "equals", "(Ljava/lang/Object;)Z"⟩
abbrev yB : ByteArray := jdk_42_method_66_code
theorem d0 : decode yB 0 = .ok (.aload_n 0, 1) := by decide +kernel
theorem d1 : decode yB 1 = .ok (.aload_n 1, 1) := by decide +kernel
theorem d2 : decode yB 2 = .ok (.if_acmp (.ne) 5, 3) := by decide +kernel
theorem d5 : decode yB 5 = .ok (.iconst 1, 1) := by decide +kernel
theorem d6 : decode yB 6 = .ok (.ireturn, 1) := by decide +kernel
theorem d7 : decode yB 7 = .ok (.aload_n 1, 1) := by decide +kernel
theorem d8 : decode yB 8 = .ok (.instanceof 10, 3) := by decide +kernel
theorem d11 : decode yB 11 = .ok (.ifCond (.eq) 43, 3) := by decide +kernel
theorem d14 : decode yB 14 = .ok (.aload_n 1, 1) := by decide +kernel
theorem d15 : decode yB 15 = .ok (.checkcast 10, 3) := by decide +kernel
theorem d18 : decode yB 18 = .ok (.astore_n 2, 1) := by decide +kernel
theorem d19 : decode yB 19 = .ok (.getstatic 38, 3) := by decide +kernel
theorem d22 : decode yB 22 = .ok (.ifCond (.eq) 14, 3) := by decide +kernel
theorem d25 : decode yB 25 = .ok (.aload_n 0, 1) := by decide +kernel
theorem d26 : decode yB 26 = .ok (.getfield 15, 3) := by decide +kernel
theorem d29 : decode yB 29 = .ok (.aload_n 2, 1) := by decide +kernel
theorem d30 : decode yB 30 = .ok (.getfield 15, 3) := by decide +kernel
theorem d33 : decode yB 33 = .ok (.if_icmp (.ne) 21, 3) := by decide +kernel
theorem d36 : decode yB 36 = .ok (.aload_n 0, 1) := by decide +kernel
theorem d37 : decode yB 37 = .ok (.getfield 9, 3) := by decide +kernel
theorem d40 : decode yB 40 = .ok (.aload_n 2, 1) := by decide +kernel
theorem d41 : decode yB 41 = .ok (.getfield 9, 3) := by decide +kernel
theorem d44 : decode yB 44 = .ok (.invokestatic 541, 3) := by decide +kernel
theorem d47 : decode yB 47 = .ok (.ifCond (.eq) 7, 3) := by decide +kernel
theorem d50 : decode yB 50 = .ok (.iconst 1, 1) := by decide +kernel
theorem d51 : decode yB 51 = .ok (.goto 4, 3) := by decide +kernel
theorem d54 : decode yB 54 = .ok (.iconst 0, 1) := by decide +kernel
theorem d55 : decode yB 55 = .ok (.ireturn, 1) := by decide +kernel
def site : List Cond := [.classLink "java/lang/String" 10 "java/lang/String", .fieldLink "java/lang/String" 38 "java/lang/String" "COMPACT_STRINGS" "Z", .fieldLink "java/lang/String" 15 "java/lang/String" "coder" "B", .fieldLink "java/lang/String" 9 "java/lang/String" "value" "[B", LEq.tab] ++ staticW "java/lang/String" 541 LEq.yN
def tab : Cond := tabOf yN yB 3 (some .boolean) site
def P (x t : Addr) (V : Cell) (cd : Int32) (n : Nat) (f : Nat → Int32) (y t' : Addr) (V' : Cell) (cd' : Int32) (k : Nat) (g : Nat → Int32) (z : Int32) (args : Array Value) (s : State) : Prop := args = #[.ref x, .ref y] ∧ Txt x t V cd n f s ∧ Txt y t' V' cd' k g s ∧ StaticIs s "java/lang/String" "COMPACT_STRINGS" "Z" (.int z) ∧ ¬ z = 0
/-- equals(Object) of two Strings: whether the texts are the same -/
theorem law (l : Launch) (x t : Addr) (V : Cell) (cd : Int32) (n : Nat) (f : Nat → Int32) (y t' : Addr) (V' : Cell) (cd' : Int32) (k : Nat) (g : Nat → Int32) (z : Int32) : Law l yN 2 1 1 14 yB 3 (some .boolean) site (P x t V cd n f y t' V' cd' k g z) (Says01 (SameT n f k g)) [] 0 0 := by
  refine Law.of_walk (plainFor_of_name (by decide +kernel)) (by decide +kernel) (by decide +kernel) (by decide) (fun _ _ h => by rw [h.1]; rfl) (fun _ U U' hal hh h => ⟨h.1, h.2.1.mv hal hh, h.2.2.1.mv hal hh, h.2.2.2.1.there hal hh, h.2.2.2.2⟩) (fun r U U' V V' h1 hal h2 h => Says01.mv r U U' V V' h1 hal h2 h) ?_
  intro p e s m args below meth c s₁ X0 hexec hbytes hml hret hlk hnm hown hh0 W hP
  obtain ⟨rfl, hx, hy, s1, hz⟩ := hP
  have c1 : Steps p.tables e below (s₁.setTop (entryFrame m #[.ref x, .ref y] 3)) (s₁.setTop (mkF m 2 #[.val (.ref x), .val (.ref y), .unset] [.ref y, .ref x])) := Steps.trans (entry rfl) (by
    show Steps p.tables e below (s₁.setTop (mkF m 0 #[.val (.ref x), .val (.ref y), .unset] [])) _
    refine XS.aloadN X0.here hexec rfl (hb hbytes d0) rfl rfl ?_
    refine XS.aloadN X0.here hexec rfl (hb hbytes d1) rfl rfl ?_
    exact Steps.refl _)
  by_cases hxy : x = y
  · have c2 : Steps p.tables e below (s₁.setTop (entryFrame m #[.ref x, .ref y] 3)) (s₁.setTop (mkF m 6 #[.val (.ref x), .val (.ref y), .unset] [.int 1])) := c1.trans (by
      refine acmpNo X0.here hexec rfl (hb hbytes d2) rfl rfl rfl (by simp [acmp, hxy]) ?_
      refine iconstV X0.here hexec rfl 1 (hb hbytes d5) (by decide) ?_
      exact Steps.refl _)
    subst hxy
    have ec : cd = cd' := by
      obtain ⟨D, fd, a1, a2, a3⟩ := hx.2.2.1
      obtain ⟨D', fd', b1, b2, b3⟩ := hy.2.2.1
      cases a1.symm.trans b1
      obtain ⟨q1, q2, q3, q4⟩ := a2.1
      obtain ⟨r1, r2, r3, r4⟩ := b2.1
      cases q4.symm.trans r4
      cases a3.symm.trans b3; rfl
    have et : t = t' := by
      obtain ⟨D, fd, a1, a2, a3⟩ := hx.2.1
      obtain ⟨D', fd', b1, b2, b3⟩ := hy.2.1
      cases a1.symm.trans b1
      obtain ⟨q1, q2, q3, q4⟩ := a2.1
      obtain ⟨r1, r2, r3, r4⟩ := b2.1
      cases q4.symm.trans r4
      cases a3.symm.trans b3; rfl
    subst ec et
    have ev : V = V' := by cases hx.2.2.2.1.1.symm.trans hy.2.2.2.1.1; rfl
    subst ev
    have hs : SameT n f k g := (Cod.eqv hx.2.2.2.2.1 hy.2.2.2.2.1 hx.2.2.2.2.2 hy.2.2.2.2.2).mp ⟨rfl, fun _ _ => rfl⟩
    exact ⟨s₁, some (.int 1), _, _, _, X0, rfl, rfl, rfl, (fun h => by cases h), ⟨1, rfl, hh0, Or.inl ⟨rfl, hs⟩⟩, fun fs hl => c2.trans (X0.ireturnOut hexec hret rfl (Or.inr (Or.inl rfl)) (hb hbytes d6) hl)⟩
  · have c2 : Steps p.tables e below (s₁.setTop (entryFrame m #[.ref x, .ref y] 3)) (s₁.setTop (mkF m 8 #[.val (.ref x), .val (.ref y), .unset] [.ref y])) := c1.trans (by
      refine acmpYes X0.here hexec rfl (pc0 := 2) rfl (hb hbytes d2) rfl rfl rfl (by simp [acmp, hxy]) (by decide) rfl ?_
      refine XS.aloadN X0.here hexec rfl (hb hbytes d7) rfl rfl ?_
      exact Steps.refl _)
    obtain ⟨T3, X3, q3, st3⟩ := cinst X0 hexec hown (wk W (.classLink "java/lang/String" 10 "java/lang/String")) (hy.mv X0.warmed.alike hh0).1 (g := (mkF m 8 #[.val (.ref x), .val (.ref y), .unset] [.ref y])) rfl (rest := []) rfl (hb hbytes d8)
    have hh3 := q3.trans hh0
    have c4 : Steps p.tables e below (s₁.setTop (entryFrame m #[.ref x, .ref y] 3)) (T3.setTop (mkF m 15 #[.val (.ref x), .val (.ref y), .unset] [.ref y])) := (c2.trans (st3 _ (Steps.refl _))).trans (by
      refine XS.ifNo X3.here hexec rfl (hb hbytes d11) rfl (i0_eq_f (by decide)) ?_
      refine XS.aloadN X3.here hexec rfl (hb hbytes d14) rfl rfl ?_
      exact Steps.refl _)
    obtain ⟨T5, X5, q5, st5⟩ := cself X3 hexec hown (wk W (.classLink "java/lang/String" 10 "java/lang/String")) (hy.mv X3.warmed.alike hh3).1 (g := (mkF m 15 #[.val (.ref x), .val (.ref y), .unset] [.ref y])) rfl (rest := []) rfl (hb hbytes d15)
    have hh5 := q5.trans hh3
    have c6 : Steps p.tables e below (s₁.setTop (entryFrame m #[.ref x, .ref y] 3)) (T5.setTop (mkF m 19 #[.val (.ref x), .val (.ref y), .val (.ref y)] [])) := (c4.trans (st5 _ (Steps.refl _))).trans (by
      refine XS.astoreN X5.here hexec rfl (hb hbytes d18) rfl rfl rfl ?_
      exact Steps.refl _)
    obtain ⟨T7, X7, q7, st7⟩ := X5.sget hexec hown (wk W (.fieldLink "java/lang/String" 38 "java/lang/String" "COMPACT_STRINGS" "Z")) s1 (fun _ _ h => by rw [hh5]; exact h) (g := (mkF m 19 #[.val (.ref x), .val (.ref y), .val (.ref y)] [])) rfl (hb hbytes d19)
    have hh7 := q7.trans hh5
    have c8 : Steps p.tables e below (s₁.setTop (entryFrame m #[.ref x, .ref y] 3)) (T7.setTop (mkF m 26 #[.val (.ref x), .val (.ref y), .val (.ref y)] [.ref x])) := (c6.trans (st7 _ (Steps.refl _))).trans (by
      refine XS.ifNo X7.here hexec rfl (hb hbytes d22) rfl (i0_eq_f hz) ?_
      refine XS.aloadN X7.here hexec rfl (hb hbytes d25) rfl rfl ?_
      exact Steps.refl _)
    obtain ⟨T9, X9, q9, st9⟩ := X7.hget hexec hown (wk W (.fieldLink "java/lang/String" 15 "java/lang/String" "coder" "B")) (hx.mv X7.warmed.alike hh7).2.2.1 (g := (mkF m 26 #[.val (.ref x), .val (.ref y), .val (.ref y)] [.ref x])) rfl (rest := []) rfl (hb hbytes d26)
    have hh9 := q9.trans hh7
    have c10 : Steps p.tables e below (s₁.setTop (entryFrame m #[.ref x, .ref y] 3)) (T9.setTop (mkF m 30 #[.val (.ref x), .val (.ref y), .val (.ref y)] [.ref y, .int cd])) := (c8.trans (st9 _ (Steps.refl _))).trans (by
      refine XS.aloadN X9.here hexec rfl (hb hbytes d29) rfl rfl ?_
      exact Steps.refl _)
    obtain ⟨T11, X11, q11, st11⟩ := X9.hget hexec hown (wk W (.fieldLink "java/lang/String" 15 "java/lang/String" "coder" "B")) (hy.mv X9.warmed.alike hh9).2.2.1 (g := (mkF m 30 #[.val (.ref x), .val (.ref y), .val (.ref y)] [.ref y, .int cd])) rfl (rest := [.int cd]) rfl (hb hbytes d30)
    have hh11 := q11.trans hh9
    have c12 : Steps p.tables e below (s₁.setTop (entryFrame m #[.ref x, .ref y] 3)) (T11.setTop (mkF m 33 #[.val (.ref x), .val (.ref y), .val (.ref y)] [.int cd', .int cd])) := c10.trans (st11 _ (Steps.refl _))
    by_cases hcd : cd = cd'
    · subst hcd
      have c13 : Steps p.tables e below (s₁.setTop (entryFrame m #[.ref x, .ref y] 3)) (T11.setTop (mkF m 37 #[.val (.ref x), .val (.ref y), .val (.ref y)] [.ref x])) := c12.trans (by
        refine XS.icmpNo X11.here hexec rfl (hb hbytes d33) rfl (ii_ne_f rfl) ?_
        refine XS.aloadN X11.here hexec rfl (hb hbytes d36) rfl rfl ?_
        exact Steps.refl _)
      obtain ⟨T14, X14, q14, st14⟩ := X11.hget hexec hown (wk W (.fieldLink "java/lang/String" 9 "java/lang/String" "value" "[B")) (hx.mv X11.warmed.alike hh11).2.1 (g := (mkF m 37 #[.val (.ref x), .val (.ref y), .val (.ref y)] [.ref x])) rfl (rest := []) rfl (hb hbytes d37)
      have hh14 := q14.trans hh11
      have c15 : Steps p.tables e below (s₁.setTop (entryFrame m #[.ref x, .ref y] 3)) (T14.setTop (mkF m 41 #[.val (.ref x), .val (.ref y), .val (.ref y)] [.ref y, .ref t])) := (c13.trans (st14 _ (Steps.refl _))).trans (by
        refine XS.aloadN X14.here hexec rfl (hb hbytes d40) rfl rfl ?_
        exact Steps.refl _)
      obtain ⟨T16, X16, q16, st16⟩ := X14.hget hexec hown (wk W (.fieldLink "java/lang/String" 9 "java/lang/String" "value" "[B")) (hy.mv X14.warmed.alike hh14).2.1 (g := (mkF m 41 #[.val (.ref x), .val (.ref y), .val (.ref y)] [.ref y, .ref t])) rfl (rest := [.ref t]) rfl (hb hbytes d41)
      have hh16 := q16.trans hh14
      have c17 : Steps p.tables e below (s₁.setTop (entryFrame m #[.ref x, .ref y] 3)) (T16.setTop (mkF m 44 #[.val (.ref x), .val (.ref y), .val (.ref y)] [.ref t', .ref t])) := c15.trans (st16 _ (Steps.refl _))
      obtain ⟨v18, T18, X18, E18, g18⟩ := X16.callS hexec (LEq.law l t V t' V') hown (wks W (staticW "java/lang/String" 541 LEq.yN)) (wk W LEq.tab) (W := 0) (Nat.le_of_ble_eq_true rfl) (Nat.le_of_ble_eq_true rfl) (Nat.le_refl _) (Nat.le_refl _) (g := (mkF m 44 #[.val (.ref x), .val (.ref y), .val (.ref y)] [.ref t', .ref t])) rfl (by rw [hml]; rfl) c17 (argsL := [.ref t, .ref t']) (rest := []) rfl rfl (by show 2 * 0 + 0 ≤ _; decide) (hb hbytes d44) (⟨rfl, hx.2.2.2.1.mv X16.warmed.alike hh16, hx.2.2.2.2.1.ty, hy.2.2.2.1.mv X16.warmed.alike hh16, hy.2.2.2.2.1.ty⟩)
      obtain ⟨v, rfl, q18, hv⟩ := E18
      have iff := Cod.eqv hx.2.2.2.2.1 hy.2.2.2.2.1 hx.2.2.2.2.2 hy.2.2.2.2.2
      rcases hv with ⟨rfl, he⟩ | ⟨rfl, he⟩
      · have c19 : Steps p.tables e below (s₁.setTop (entryFrame m #[.ref x, .ref y] 3)) (T18.setTop (mkF m 55 #[.val (.ref x), .val (.ref y), .val (.ref y)] [.int 1])) := Steps.trans g18 (by
          refine XS.ifNo X18.here hexec rfl (hb hbytes d47) rfl (i0_eq_f (by decide)) ?_
          refine iconstV X18.here hexec rfl 1 (hb hbytes d50) (by decide) ?_
          refine XS.goto X18.here hexec rfl (pc0 := 51) rfl (hb hbytes d51) (by decide) rfl ?_
          exact Steps.refl _)
        exact ⟨T18, some (.int 1), _, _, _, X18, rfl, rfl, rfl, (fun h => by cases h), ⟨1, rfl, q18.trans hh16, Or.inl ⟨rfl, iff.mp he⟩⟩, fun fs hl => c19.trans (X18.ireturnOut hexec hret rfl (Or.inr (Or.inl rfl)) (hb hbytes d55) hl)⟩
      · have c19 : Steps p.tables e below (s₁.setTop (entryFrame m #[.ref x, .ref y] 3)) (T18.setTop (mkF m 55 #[.val (.ref x), .val (.ref y), .val (.ref y)] [.int 0])) := Steps.trans g18 (by
          refine XS.ifYes X18.here hexec rfl (pc0 := 47) rfl (hb hbytes d47) rfl (i0_eq_t rfl) (by decide) rfl ?_
          refine iconstV X18.here hexec rfl 0 (hb hbytes d54) (by decide) ?_
          exact Steps.refl _)
        exact ⟨T18, some (.int 0), _, _, _, X18, rfl, rfl, rfl, (fun h => by cases h), ⟨0, rfl, q18.trans hh16, Or.inr ⟨rfl, fun q => he (iff.mpr q)⟩⟩, fun fs hl => c19.trans (X18.ireturnOut hexec hret rfl (Or.inr (Or.inl rfl)) (hb hbytes d55) hl)⟩
    · have c13 : Steps p.tables e below (s₁.setTop (entryFrame m #[.ref x, .ref y] 3)) (T11.setTop (mkF m 55 #[.val (.ref x), .val (.ref y), .val (.ref y)] [.int 0])) := c12.trans (by
        refine XS.icmpYes X11.here hexec rfl (pc0 := 33) rfl (hb hbytes d33) rfl (ii_ne_t hcd) (by decide) rfl ?_
        refine iconstV X11.here hexec rfl 0 (hb hbytes d54) (by decide) ?_
        exact Steps.refl _)
      exact ⟨T11, some (.int 0), _, _, _, X11, rfl, rfl, rfl, (fun h => by cases h), ⟨0, rfl, hh11, Or.inr ⟨rfl, Cod.dif hx.2.2.2.2.1 hy.2.2.2.2.1 hcd⟩⟩, fun fs hl => c13.trans (X11.ireturnOut hexec hret rfl (Or.inr (Or.inl rfl)) (hb hbytes d55) hl)⟩
theorem pays {l : Launch} {R : Room} {p : Program} {e : Env} {below : List Frame} {s : State} {sargs : Array Value} {len W : Nat} (x t : Addr) (V : Cell) (cd : Int32) (n : Nat) (f : Nat → Int32) (y t' : Addr) (V' : Cell) (cd' : Int32) (k : Nat) (g : Nat → Int32) (z : Int32) (htab : tab.before sargs s = true) (hfr : 2 ≤ R.frames) (hlo : W + 28 ≤ R.locals) :
    Back l R p e below s sargs yN len W (fun A₁ a₁ => A₁.cells + 0 ≤ R.cells ∧ A₁.slots + 0 ≤ R.slots ∧ P x t V cd n f y t' V' cd' k g z a₁ A₁.U) (fun A₁ _ v₁ B₁ => Says01 (SameT n f k g) v₁ A₁.U B₁.U ∧ B₁.locs = A₁.locs ++ [] ∧ B₁.cells = A₁.cells + 0 ∧ B₁.slots = A₁.slots + 0) :=
  (law l x t V cd n f y t' V' cd' k g z).pays htab hfr (by omega)
end SEq
end StrChars
namespace StrChars.Road
open Jvm Sem ClassFile Op Lib Jvm.Stand Jvm.Free Jvm.Free.XT
open Jvm.Lib.Cold (StaticIs)
/-- the words of String.equals(Object) -/
abbrev wordsEq : List Jvm.Cond := [.code SEq.yN SEq.yB 3 (some .boolean), .initialized ST, .classLink ST 10 ST, .fieldLink ST 38 ST "COMPACT_STRINGS" "Z", .fieldLink ST 15 ST "coder" "B", .fieldLink ST 9 ST "value" "[B", .methodLink ST 541 LEq.yN, .static LEq.yN, .code LEq.yN LEq.yB 3 (some .boolean), .initialized "java/lang/StringLatin1"]
theorem tabEq_of {a : Array Value} {s : State} (h : ∀ w ∈ wordsEq, w.before a s = true) : SEq.tab.before a s = true := by
  have hl : LEq.tab.before a s = true := unparts (wk h (.code LEq.yN LEq.yB 3 (some .boolean))) (wks h (.initialized LEq.yN.cls :: LEq.site))
  have q := consq hl h
  exact unparts (wk q (.code SEq.yN SEq.yB 3 (some .boolean))) (wks q (.initialized SEq.yN.cls :: SEq.site))
theorem movedEq {Z s : State} {a0 args : Array Value} (hZ : Z.Warmed39 s.vm) (hw : ∀ d ∈ wordsEq, d.before a0 Z = true) : ∀ d ∈ wordsEq, d.before args s = true := fun d hd => by
  have t : ∀ d ∈ wordsEq, (d.onTables && d.keepsFace) = true := by decide +kernel
  exact RoadKit.mv hZ (hw d hd) (t d hd)
/-- the road's facts of a String, as the laws ask it -/
theorem txt_of {Z U : State} {a0 : Array Value} {kI : Nat} (wi : (Jvm.Cond.instantiable ST kI).before a0 Z = true) (al : Z.vm.Alike U.vm) {x t : Addr} {kb : ClassId} {cs : List Int32} {cd N2 : Int32} {vs : List Value} (E : RoadKit.Exa Z U.heap x ST) (V : RoadKit.Fld Z U.heap x ST "value" "[B" (.ref t)) (C : RoadKit.Fld Z U.heap x ST "coder" "B" (.int cd)) (K : RoadKit.Arv Z U.heap t kb .byte N2 vs (.int 0)) (hc : CodA cs cd N2 vs) (hb : ∀ c ∈ cs, ¬ c < 0 ∧ ¬ (65535 : Int32) < c) (l2 : cs.length ≤ 4000) :
    ∃ A, Txt x t A cd cs.length (fun j => cs.getD j 0) U := by
  obtain ⟨A, K1, K2, K3, K4, K5, K6⟩ := K
  have hcod := hc.cod (by omega) K3 K5
  obtain ⟨D, fV, fC, hB, F1, F2, g1, g2, -, -⟩ := strObj wi al E V C
  exact ⟨A, ⟨_, hB.2.2.1, D, hB.1, rfl, by cases q : D.vm <;> first | rfl | exact absurd q (hB.2.1.2 _)⟩, Has.of hB F1 g1, Has.of hB F2 g2, ⟨K1.1, State.isArrayOf_alike al K1.2.1, K1.2.2, by rcases hcod with ⟨-, q, -⟩ | ⟨-, q, -⟩ <;> omega⟩, hcod, fun j hj => by
    have e : cs.getD j 0 = cs[j] := by simp [List.getD_eq_getElem?_getD, hj]
    show ¬ cs.getD j 0 < 0 ∧ ¬ 65535 < cs.getD j 0
    rw [e]; exact hb _ (List.getElem_mem _)⟩
theorem same_list (cs ds : List Int32) : SameT cs.length (fun j => cs.getD j 0) ds.length (fun j => ds.getD j 0) ↔ cs = ds := by
  constructor
  · rintro ⟨e, q⟩
    refine List.ext_getElem e fun j h1 h2 => ?_
    have := q j h1
    simpa [List.getD_eq_getElem?_getD, h1, h2] using this
  · rintro rfl
    exact ⟨rfl, fun _ _ => rfl⟩
/-- **equals(Object) OF TWO SUCH STRINGS**: 1 just where the chars are the same -/
theorem eqW {p : Program} {l : Launch} {e : Env} {R : Room} {s : State} {args : Array Value} {below : List Frame} {len W : Nat} {Z : State} {a0 : Array Value} {h : Heap} (hZ : Z.Warmed39 s.vm) (hw : ∀ d ∈ wordsEq, d.before a0 Z = true) {kI : Nat} (wi : (Jvm.Cond.instantiable ST kI).before a0 Z = true)
    {x t : Addr} {kb : ClassId} {cs : List Int32} {cd N2 : Int32} {vs : List Value} (E : RoadKit.Exa Z h x ST) (V : RoadKit.Fld Z h x ST "value" "[B" (.ref t)) (C : RoadKit.Fld Z h x ST "coder" "B" (.int cd)) (K : RoadKit.Arv Z h t kb .byte N2 vs (.int 0)) (hc : CodA cs cd N2 vs) (hb : ∀ c ∈ cs, ¬ c < 0 ∧ ¬ (65535 : Int32) < c) (l2 : cs.length ≤ 4000)
    {y t' : Addr} {kb' : ClassId} {ds : List Int32} {cd' N2' : Int32} {vs' : List Value} (E' : RoadKit.Exa Z h y ST) (V' : RoadKit.Fld Z h y ST "value" "[B" (.ref t')) (C' : RoadKit.Fld Z h y ST "coder" "B" (.int cd')) (K' : RoadKit.Arv Z h t' kb' .byte N2' vs' (.int 0)) (hc' : CodA ds cd' N2' vs') (hb' : ∀ c ∈ ds, ¬ c < 0 ∧ ¬ (65535 : Int32) < c) (l2' : ds.length ≤ 4000)
    {z : Int32} (S : RoadKit.Sta Z h ST "COMPACT_STRINGS" "Z" (.int z)) (hz : ¬ z = 0) (hfr : 2 ≤ R.frames) (hlo : W + 28 ≤ R.locals) :
    Back l R p e below s args (⟨"java/lang/String", "equals", "(Ljava/lang/Object;)Z"⟩ : MethodName) len W (fun P a => a = #[.ref x, .ref y] ∧ P.U.heap = h ∧ P.cells + 0 ≤ R.cells ∧ P.slots + 0 ≤ R.slots)
      (fun P _ v B => ∃ L, (((v = some (.int 1) ∧ cs = ds) ∨ (v = some (.int 0) ∧ ¬ cs = ds)) ∧ L = [] ∧ B.U.heap = h) ∧ B.locs = P.locs ++ L ∧ B.cells = P.cells + 0 ∧ B.slots = P.slots + 0) := by
  intro m meth c P g ig mk a X hg hsize hdg hW hn hp'
  obtain ⟨rfl, rfl, r1, r2⟩ := hp'
  have al : Z.vm.Alike P.U.vm := hZ.alike.trans X.warmed.alike
  obtain ⟨A, hx⟩ := txt_of wi al E V C K hc hb l2
  obtain ⟨A', hy⟩ := txt_of wi al E' V' C' K' hc' hb' l2'
  obtain ⟨v, B, X', ⟨⟨w, hv, hh, hq⟩, hl, hk, hs⟩, st⟩ := SEq.pays x t A cd cs.length (fun j => cs.getD j 0) y t' A' cd' ds.length (fun j => ds.getD j 0) z (tabEq_of (movedEq hZ hw)) hfr hlo m meth c P g ig mk _ X hg hsize hdg hW hn ⟨r1, r2, rfl, hx, hy, sta_is al S, hz⟩
  refine ⟨v, B, X', ⟨[], ⟨?_, rfl, hh⟩, hl, hk, hs⟩, st⟩
  rcases hq with ⟨rfl, q⟩ | ⟨rfl, q⟩
  · exact Or.inl ⟨hv, (same_list cs ds).mp q⟩
  · exact Or.inr ⟨hv, fun e => q ((same_list cs ds).mpr e)⟩
end StrChars.Road
namespace StrChars
open Jvm Sem ClassFile Op Lib Jvm.Stand Jvm.Free.XT Jvm.Free.ALB Jvm.Free.JM Jvm.Free
open Jvm.Lib.Cold (StaticIs)
namespace ChN
def yN : MethodName := ⟨"java/lang/String", "charAt", "(I)C"⟩
abbrev yB : ByteArray := jdk_42_method_56_code
theorem d0 : decode yB 0 = .ok (.aload_n 0, 1) := by decide +kernel
theorem d1 : decode yB 1 = .ok (.invokevirtual 492, 3) := by decide +kernel
theorem d4 : decode yB 4 = .ok (.ifCond (.eq) 12, 3) := by decide +kernel
theorem d7 : decode yB 7 = .ok (.aload_n 0, 1) := by decide +kernel
theorem d8 : decode yB 8 = .ok (.getfield 9, 3) := by decide +kernel
theorem d11 : decode yB 11 = .ok (.iload_n 1, 1) := by decide +kernel
theorem d12 : decode yB 12 = .ok (.invokestatic 495, 3) := by decide +kernel
theorem d15 : decode yB 15 = .ok (.ireturn, 1) := by decide +kernel
def site : List Cond := [.fieldLink "java/lang/String" 9 "java/lang/String" "value" "[B", IsL.tab, LChA.tab] ++ virtW "java/lang/String" 492 "java/lang/String" IsL.yN IsL.yN ++ staticW "java/lang/String" 495 LChA.yN
def tab : Cond := tabOf yN yB 2 (some .char) site
def P (x t : Addr) (V : Cell) (n : Nat) (f : Nat → Int32) (z : Int32) (fm : Value) (i : Nat) (args : Array Value) (s : State) : Prop := args = #[.ref x, .int (Int32.ofNat i)] ∧ Txt x t V 0 n f s ∧ i < n ∧ StaticIs s "java/lang/String" "COMPACT_STRINGS" "Z" (.int z) ∧ ¬ z = 0 ∧ StaticIs s "jdk/internal/util/Preconditions" "SIOOBE_FORMATTER" "Ljava/util/function/BiFunction;" fm ∧ fm.isRef = true
def E (f : Nat → Int32) (i : Nat) (r : Option Value) (s u : State) : Prop := XT.PureE (some (.int (f i))) r s u
/-- charAt(i) of a Latin-1 String of n chars, i < n: f i -/
theorem law (l : Launch) (x t : Addr) (V : Cell) (n : Nat) (f : Nat → Int32) (z : Int32) (fm : Value) (i : Nat) : Law l yN 2 1 3 40 yB 2 (some .char) site (P x t V n f z fm i) (E f i) [] 0 0 := by
  refine Law.of_walk (plainFor_of_name (by decide +kernel)) (by decide +kernel) (by decide +kernel) (by decide) (fun _ _ h => by rw [h.1]; rfl) (fun _ U U' hal hh h => ⟨h.1, h.2.1.mv hal hh, h.2.2.1, h.2.2.2.1.there hal hh, h.2.2.2.2.1, h.2.2.2.2.2.1.there hal hh, h.2.2.2.2.2.2⟩) (fun r U U' V V' h1 hal h2 h => XT.PureE.mv r U U' V V' h1 hal h2 h) ?_
  intro p e s m args below meth c s₁ X0 hexec hbytes hml hret hlk hnm hown hh0 W hP
  obtain ⟨rfl, hx, hi, s1, hz, s3, rf⟩ := hP
  have v31 := hx.2.2.2.1.2.2.2
  have hr := hx.2.2.2.2.2 i hi
  have hx0 := hx.mv X0.warmed.alike hh0
  have c1 : Steps p.tables e below (s₁.setTop (entryFrame m #[.ref x, .int (Int32.ofNat i)] 2)) (s₁.setTop (mkF m 1 #[.val (.ref x), .val (.int (Int32.ofNat i))] [.ref x])) := Steps.trans (entry rfl) (by
    show Steps p.tables e below (s₁.setTop (mkF m 0 #[.val (.ref x), .val (.int (Int32.ofNat i))] [])) _
    refine XS.aloadN X0.here hexec rfl (hb hbytes d0) rfl rfl ?_
    exact Steps.refl _)
  obtain ⟨v2, T2, X2, E2, g2⟩ := X0.callV hexec (IsL.law l x 0 z) hown (wks W (virtW "java/lang/String" 492 "java/lang/String" IsL.yN IsL.yN)) rfl (by decide) (wk W IsL.tab) (W := 0) (Nat.le_of_ble_eq_true rfl) (Nat.le_of_ble_eq_true rfl) (Nat.le_refl _) (Nat.le_refl _) (hx0.1.fc X0.warmed.alike) hx0.1.is (g := (mkF m 1 #[.val (.ref x), .val (.int (Int32.ofNat i))] [.ref x])) rfl (by rw [hml]; rfl) c1 (argsL := []) (rest := []) rfl rfl (by show 2 * 0 + 0 ≤ _; decide) (hb hbytes d1) (⟨rfl, hx0.2.2.1, hx.2.2.2.2.1.cd, s1.there X0.warmed.alike hh0, hz⟩)
  obtain ⟨rfl, q2⟩ := E2
  have hh2 := q2.trans hh0
  have hx2 := hx.mv X2.warmed.alike hh2
  obtain ⟨-, k1, k2⟩ | ⟨k0, -⟩ := hx.2.2.2.2.1
  · have c3 : Steps p.tables e below (s₁.setTop (entryFrame m #[.ref x, .int (Int32.ofNat i)] 2)) (T2.setTop (mkF m 8 #[.val (.ref x), .val (.int (Int32.ofNat i))] [.ref x])) := Steps.trans g2 (by
      refine XS.ifNo X2.here hexec rfl (hb hbytes d4) rfl (i0_eq_f (by decide)) ?_
      refine XS.aloadN X2.here hexec rfl (hb hbytes d7) rfl rfl ?_
      exact Steps.refl _)
    obtain ⟨T4, X4, q4, st4⟩ := X2.hget hexec hown (wk W (.fieldLink "java/lang/String" 9 "java/lang/String" "value" "[B")) hx2.2.1 (g := (mkF m 8 #[.val (.ref x), .val (.int (Int32.ofNat i))] [.ref x])) rfl (rest := []) rfl (hb hbytes d8)
    have hh4 := q4.trans hh2
    have c5 : Steps p.tables e below (s₁.setTop (entryFrame m #[.ref x, .int (Int32.ofNat i)] 2)) (T4.setTop (mkF m 12 #[.val (.ref x), .val (.int (Int32.ofNat i))] [.int (Int32.ofNat i), .ref t])) := (c3.trans (st4 _ (Steps.refl _))).trans (by
      refine XS.iloadN X4.here hexec rfl (hb hbytes d11) rfl ?_
      exact Steps.refl _)
    obtain ⟨v6, T6, X6, E6, g6⟩ := X4.callS hexec (LChA.law l t V i (lo8 (f i)) fm) hown (wks W (staticW "java/lang/String" 495 LChA.yN)) (wk W LChA.tab) (W := 0) (Nat.le_of_ble_eq_true rfl) (Nat.le_of_ble_eq_true rfl) (Nat.le_refl _) (Nat.le_refl _) (g := (mkF m 12 #[.val (.ref x), .val (.int (Int32.ofNat i))] [.int (Int32.ofNat i), .ref t])) rfl (by rw [hml]; rfl) c5 (argsL := [.ref t, .int (Int32.ofNat i)]) (rest := []) rfl rfl (by show 2 * 0 + 0 ≤ _; decide) (hb hbytes d12) (⟨rfl, hx.2.2.2.1.mv X4.warmed.alike hh4, (k2 i hi).1, s3.there X4.warmed.alike hh4, rf⟩)
    obtain ⟨rfl, q6⟩ := E6
    rw [chr8_lo8 hr.1 (k2 i hi).2] at g6
    exact ⟨T6, some (.int (f i)), _, _, _, X6, rfl, rfl, rfl, (fun h => by cases h), ⟨rfl, q6.trans hh4⟩, fun fs hl => Steps.trans g6 (X6.ireturnOut hexec hret (narrow_ch hr.1 hr.2) (Or.inr (Or.inr (Or.inr (Or.inl rfl)))) (hb hbytes d15) hl)⟩
  · exact absurd k0 (by decide)
theorem pays {l : Launch} {R : Room} {p : Program} {e : Env} {below : List Frame} {s : State} {sargs : Array Value} {len W : Nat} (x t : Addr) (V : Cell) (n : Nat) (f : Nat → Int32) (z : Int32) (fm : Value) (i : Nat) (htab : tab.before sargs s = true) (hfr : 4 ≤ R.frames) (hlo : W + 53 ≤ R.locals) :
    Back l R p e below s sargs yN len W (fun A₁ a₁ => A₁.cells + 0 ≤ R.cells ∧ A₁.slots + 0 ≤ R.slots ∧ P x t V n f z fm i a₁ A₁.U) (fun A₁ _ v₁ B₁ => E f i v₁ A₁.U B₁.U ∧ B₁.locs = A₁.locs ++ [] ∧ B₁.cells = A₁.cells + 0 ∧ B₁.slots = A₁.slots + 0) :=
  (law l x t V n f z fm i).pays htab hfr (by omega)
end ChN
end StrChars
namespace StrChars.Road
open Jvm Sem ClassFile Op Lib Jvm.Stand Jvm.Free Jvm.Free.XT
open Jvm.Lib.Cold (StaticIs)
/-- the words of String.charAt(int), the Latin-1 road alone -/
abbrev wordsChN : List Jvm.Cond := [.code ChN.yN ChN.yB 2 (some .char), .initialized ST, .fieldLink ST 9 ST "value" "[B", .fieldLink ST 38 ST "COMPACT_STRINGS" "Z", .fieldLink ST 15 ST "coder" "B", .code IsL.yN IsL.yB 1 (some .boolean), .methodLink ST 492 IsL.yN, .declares IsL.yN, .selects ST IsL.yN IsL.yN, .instanceMethod IsL.yN,
  .methodLink ST 495 LChA.yN, .static LChA.yN, .code LChA.yN LChA.yB 2 (some .char), .initialized "java/lang/StringLatin1", .methodLink "java/lang/StringLatin1" 9 JO.Str_checkIndex.yN, .static JO.Str_checkIndex.yN, .code JO.Str_checkIndex.yN JO.Str_checkIndex.yB 2 none,
  .fieldLink ST 1053 "jdk/internal/util/Preconditions" "SIOOBE_FORMATTER" "Ljava/util/function/BiFunction;", .methodLink ST 1059 JC.PreCheck.yN, .static JC.PreCheck.yN, .code JC.PreCheck.yN JC.PreCheck.yB 3 (some .int), .initialized "jdk/internal/util/Preconditions"]
theorem tabChN_of {a : Array Value} {s : State} (h : ∀ w ∈ wordsChN, w.before a s = true) : ChN.tab.before a s = true := by
  have hp : JC.PreCheck.tab.before a s = true := unparts (wk h (.code JC.PreCheck.yN JC.PreCheck.yB 3 (some .int))) (wks h (.initialized JC.PreCheck.yN.cls :: JC.PreCheck.site))
  have qk := consq hp h
  have hk : JO.Str_checkIndex.tab.before a s = true := unparts (wk qk (.code JO.Str_checkIndex.yN JO.Str_checkIndex.yB 2 none)) (wks qk (.initialized JO.Str_checkIndex.yN.cls :: JO.Str_checkIndex.site))
  have ql := consq hk h
  have hl : LChA.tab.before a s = true := unparts (wk ql (.code LChA.yN LChA.yB 2 (some .char))) (wks ql (.initialized LChA.yN.cls :: LChA.site))
  have hi : IsL.tab.before a s = true := unparts (wk h (.code IsL.yN IsL.yB 1 (some .boolean))) (wks h (.initialized IsL.yN.cls :: IsL.site))
  have q := consq hi (consq hl h)
  exact unparts (wk q (.code ChN.yN ChN.yB 2 (some .char))) (wks q (.initialized ChN.yN.cls :: ChN.site))
theorem movedChN {Z s : State} {a0 args : Array Value} (hZ : Z.Warmed39 s.vm) (hw : ∀ d ∈ wordsChN, d.before a0 Z = true) : ∀ d ∈ wordsChN, d.before args s = true := fun d hd => by
  have t : ∀ d ∈ wordsChN, (d.onTables && d.keepsFace) = true := by decide +kernel
  exact RoadKit.mv hZ (hw d hd) (t d hd)
/-- **charAt(i) OF A LATIN-1 STRING**, i < n: the char -/
theorem chN {p : Program} {l : Launch} {e : Env} {R : Room} {s : State} {args : Array Value} {below : List Frame} {len W : Nat} {Z : State} {a0 : Array Value} {h : Heap} (hZ : Z.Warmed39 s.vm) (hw : ∀ d ∈ wordsChN, d.before a0 Z = true) {kI : Nat} (wi : (Jvm.Cond.instantiable ST kI).before a0 Z = true)
    {x t : Addr} {kb : ClassId} {cs : List Int32} {N2 z : Int32} {vs : List Value} {fm : Value} {i : Nat} {j : Int32} (E : RoadKit.Exa Z h x ST) (V : RoadKit.Fld Z h x ST "value" "[B" (.ref t)) (C : RoadKit.Fld Z h x ST "coder" "B" (.int 0)) (K : RoadKit.Arv Z h t kb .byte N2 vs (.int 0)) (hc : CodA cs 0 N2 vs) (hb : ∀ c ∈ cs, ¬ c < 0 ∧ ¬ (65535 : Int32) < c)
    (S : RoadKit.Sta Z h ST "COMPACT_STRINGS" "Z" (.int z)) (hz : ¬ z = 0) (F : RoadKit.Sta Z h "jdk/internal/util/Preconditions" "SIOOBE_FORMATTER" "Ljava/util/function/BiFunction;" fm) (rf : fm.isRef = true) (l2 : cs.length ≤ 4000) (hi : i < cs.length) (hj : j = Int32.ofNat i) (hfr : 4 ≤ R.frames) (hlo : W + 53 ≤ R.locals) :
    Back l R p e below s args (⟨"java/lang/String", "charAt", "(I)C"⟩ : MethodName) len W (fun P a => a = #[.ref x, .int j] ∧ P.U.heap = h ∧ P.cells + 0 ≤ R.cells ∧ P.slots + 0 ≤ R.slots)
      (fun P _ v B => ∃ L, (v = some (.int (cs.getD i 0)) ∧ L = [] ∧ B.U.heap = h) ∧ B.locs = P.locs ++ L ∧ B.cells = P.cells + 0 ∧ B.slots = P.slots + 0) := by
  subst hj
  intro m meth c P g ig mk a X hg hsize hdg hW hn hp'
  obtain ⟨rfl, rfl, r1, r2⟩ := hp'
  have al : Z.vm.Alike P.U.vm := hZ.alike.trans X.warmed.alike
  obtain ⟨A, hx⟩ := txt_of wi al E V C K hc hb l2
  obtain ⟨v, B, X', ⟨⟨hv, hh⟩, hl, hk, hs⟩, st⟩ := ChN.pays x t A cs.length (fun j => cs.getD j 0) z fm i (tabChN_of (movedChN hZ hw)) hfr hlo m meth c P g ig mk _ X hg hsize hdg hW hn ⟨r1, r2, rfl, hx, hi, sta_is al S, hz, sta_is al F, rf⟩
  exact ⟨v, B, X', ⟨[], ⟨hv, rfl, hh⟩, hl, hk, hs⟩, st⟩
/-- what backV says of its String, as the contracts of this text ask it: cs's low bytes, coder 0 -/
theorem codOf {cs : List Int32} {n : Nat} (hn : cs.length = n) (hb : ∀ c ∈ cs, ¬ 255 < c) : CodA cs 0 (Int32.ofNat n) ((cs.map lo8).map Value.int) := Or.inl ⟨rfl, by rw [hn], by simp [List.map_map, Function.comp_def], hb⟩
end StrChars.Road
end Jvm.Pilot.@@N@@
-- part pre
namespace Jvm.Pilot.@@N@@
open Jvm Jvm.ClassFile Sem Op Lib Jvm.Free Jvm.Stand Jvm.LawKit Jvm.RoadKit Bundle Jvm.Pilot.@@N@@.Jvm.D
section Pre
variable {Z : State} {a0 : Array Value} {EL : List (String × Nat)} {sv : Bool} {p : Program} {l : Launch} {e : Env} {R : Room} {s : State} {m : MethodId} {args : Array Value} {below : List Frame} {meth : Method} {c : Code} {own : String} {bytes : ByteArray} {maxL : Nat} {rt : Option FieldType} {nm : String} {h0 : Heap} {ws sf : List Addr} {T : State} {h : Heap} {locs : List Loc} {cells slots : Nat} {Q : Option Value → Heap → Prop} {kc ks : Nat}
theorem neA {x y : Addr} (h : @LT.lt Nat _ x y ∨ @LT.lt Nat _ y x) : x ≠ y := fun e => by subst e; rcases h with h | h <;> exact Nat.lt_irrefl _ h
/-- the i-th word of the tables -/
theorem wd (hw : ∀ d ∈ tables_1, d.before a0 Z = true) (i : Nat) {d : Jvm.Cond} (hd : tables_1[i]? = some d) : d.before a0 Z = true := hw d (List.mem_of_getElem? hd)
/-- the run from T with the frame g on top ends well: it returns, and Q says what -/
def Run (Z : State) (EL : List (String × Nat)) (sv : Bool) (p : Program) (e : Env) (below : List Frame) (s : State) (h0 : Heap) (ws : List Addr) (Q : Option Value → Heap → Prop) (kc ks : Nat) (T : State) (g : JFrame) : Prop :=
  ∃ s₂ o, Steps p.tables e below (T.setTop g) s₂ ∧ s₂.status = .running ∧ Ended s₂ below o ∧ ∃ v L, o = .returned v ∧ (Fr Z.heap.size L ∧ Keep h0 s₂.heap ws ∧ Q v s₂.heap) ∧ CHr Z EL s.vm h0 s₂.vm s₂.heap ∧ ReturnedEndW s o s₂ L kc ks ∧ (NW = true → s.WarmedH s₂.vm) ∧ (sv = true → ∀ x, v = some (.ref x) → x < s₂.heap.size ∧ Safe Z EL s₂.vm s₂.heap x)
/-- what a walk bears at every place: besides the Stand (over the start with the tables at hand): what is plain; what is said of the tables -/
def Sit (Z : State) (a0 : Array Value) (EL : List (String × Nat)) (p : Program) (l : Launch) (e : Env) (R : Room) (s : State) (m : MethodId) (args : Array Value) (below : List Frame) (meth : Method) (c : Code) (own : String) (bytes : ByteArray) (maxL : Nat) (rt : Option FieldType) (nm : String) (h0 : Heap) (ws : List Addr) (sf : List Addr) (T : State) (h : Heap) (locs : List Loc) (cells slots : Nat) : Prop :=
  (T.heap = h ∧ p.tables.exec = Jvm.exec ∧ c.code = bytes ∧ c.maxLocals = maxL ∧ meth.sig.returnType = rt ∧ meth.locks = false ∧ meth.name = nm ∧ Fr Z.heap.size locs ∧ Keep h0 h ws ∧ Ext Z.heap h ∧ EW Z a0 EL) ∧
  ∃ vm0 k0, Stand p l e R (s.setVm vm0) m args below meth c T locs cells slots ∧ Z.Warmed39 vm0 ∧ vm0.findClass own = some m.cls ∧ s.Since vm0 k0 ∧ k0 ≤ h.size ∧ CHr Z EL s.vm h0 vm0 h ∧ (∀ x ∈ sf, x < h.size ∧ Safe Z EL vm0 h x) ∧ (NW = true → s.WarmedH vm0)
theorem Sit.eh (X : Sit Z a0 EL p l e R s m args below meth c own bytes maxL rt nm h0 ws sf T h locs cells slots) : T.heap = h := X.1.1
theorem Sit.ex (X : Sit Z a0 EL p l e R s m args below meth c own bytes maxL rt nm h0 ws sf T h locs cells slots) : p.tables.exec = Jvm.exec := X.1.2.1
theorem Sit.byt (X : Sit Z a0 EL p l e R s m args below meth c own bytes maxL rt nm h0 ws sf T h locs cells slots) : c.code = bytes := X.1.2.2.1
theorem Sit.ml (X : Sit Z a0 EL p l e R s m args below meth c own bytes maxL rt nm h0 ws sf T h locs cells slots) : c.maxLocals = maxL := X.1.2.2.2.1
theorem Sit.rtt (X : Sit Z a0 EL p l e R s m args below meth c own bytes maxL rt nm h0 ws sf T h locs cells slots) : meth.sig.returnType = rt := X.1.2.2.2.2.1
theorem Sit.lk (X : Sit Z a0 EL p l e R s m args below meth c own bytes maxL rt nm h0 ws sf T h locs cells slots) : meth.locks = false := X.1.2.2.2.2.2.1
theorem Sit.nmm (X : Sit Z a0 EL p l e R s m args below meth c own bytes maxL rt nm h0 ws sf T h locs cells slots) : meth.name = nm := X.1.2.2.2.2.2.2.1
theorem Sit.fr (X : Sit Z a0 EL p l e R s m args below meth c own bytes maxL rt nm h0 ws sf T h locs cells slots) : Fr Z.heap.size locs := X.1.2.2.2.2.2.2.2.1
theorem Sit.kp (X : Sit Z a0 EL p l e R s m args below meth c own bytes maxL rt nm h0 ws sf T h locs cells slots) : Keep h0 h ws := X.1.2.2.2.2.2.2.2.2.1
theorem Sit.old (X : Sit Z a0 EL p l e R s m args below meth c own bytes maxL rt nm h0 ws sf T h locs cells slots) : Ext Z.heap h := X.1.2.2.2.2.2.2.2.2.2.1
theorem Sit.ew (X : Sit Z a0 EL p l e R s m args below meth c own bytes maxL rt nm h0 ws sf T h locs cells slots) : EW Z a0 EL := X.1.2.2.2.2.2.2.2.2.2.2
theorem Sit.at (X : Sit Z a0 EL p l e R s m args below meth c own bytes maxL rt nm h0 ws sf T h locs cells slots) : At T m c below := by obtain ⟨-, vm0, k0, X, -⟩ := X; exact X.here
theorem Sit.de (X : Sit Z a0 EL p l e R s m args below meth c own bytes maxL rt nm h0 ws sf T h locs cells slots) {pc : Nat} {r : Except ClassFile.DecodeError (ClassFile.Instr × Nat)} (h2 : ClassFile.decode bytes pc = r) : ClassFile.decode c.code pc = r := X.byt ▸ h2
theorem extKp {h' : Heap} {wz : List Addr} (O : Ext Z.heap h) (K : Keep h h' wz) (q : ∀ x ∈ wz, Z.heap.size ≤ x) : Ext Z.heap h' := ⟨Nat.le_trans O.1 K.1, fun a cl r => K.2.1 _ _ (O.2 _ _ r) fun z => absurd (Array.getElem?_eq_some_iff.mp r).1 (Nat.not_lt.mpr (q _ z))⟩
theorem extK {h h' : Heap} (E : Ext h h') : Keep h h' [] := (Keep.refl h []).ext E
theorem Sit.mono (X : Sit Z a0 EL p l e R s m args below meth c own bytes maxL rt nm h0 ws sf T h locs cells slots) {k n : Nat} (hk : cells ≤ k) (hn : slots ≤ n) : Sit Z a0 EL p l e R s m args below meth c own bytes maxL rt nm h0 ws sf T h locs k n := by
  obtain ⟨F, vm0, k0, Y, r⟩ := X; exact ⟨F, vm0, k0, Y.mono hk hn, r⟩
theorem Sit.less {sf' : List Addr} (X : Sit Z a0 EL p l e R s m args below meth c own bytes maxL rt nm h0 ws sf T h locs cells slots) (q : ∀ x ∈ sf', x ∈ sf) : Sit Z a0 EL p l e R s m args below meth c own bytes maxL rt nm h0 ws sf' T h locs cells slots := by
  obtain ⟨F, vm0, k0, Y, r1, r2, r3, r4, r5, r6, r7⟩ := X; exact ⟨F, vm0, k0, Y, r1, r2, r3, r4, r5, fun x hx => r6 x (q x hx), r7⟩
theorem Run.via {T' : State} {g g' : JFrame} (q : ∀ t, Steps p.tables e below (T'.setTop g') t → Steps p.tables e below (T.setTop g) t) (r : Run Z EL sv p e below s h0 ws Q kc ks T' g') : Run Z EL sv p e below s h0 ws Q kc ks T g := by
  obtain ⟨s₂, o, r1, r2⟩ := r
  exact ⟨s₂, o, q _ r1, r2⟩
theorem Run.on {T' : State} {g g' : JFrame} (q : Steps p.tables e below (T.setTop g) (T'.setTop g')) (r : Run Z EL sv p e below s h0 ws Q kc ks T' g') : Run Z EL sv p e below s h0 ws Q kc ks T g := Run.via (fun _ k => q.trans k) r
/-- the end -/
theorem Run.out (X : Sit Z a0 EL p l e R s m args below meth c own bytes maxL rt nm h0 ws sf T h locs cells slots) {v : Option Value} {g : JFrame} (hv : rt = none → v = none) (hc : cells ≤ kc) (hs : slots ≤ ks) (hq : Q v h) (hsv : sv = true → ∀ x, v = some (.ref x) → x ∈ sf)
    (q : ∀ vm0 fs, Stand p l e R (s.setVm vm0) m args below meth c T locs cells slots → (∀ (f : JFrame) (acts : List Action), f.method = m → f.locked = none → f.entered = [] → (doReturn e (T.setTop f) acts v).1 = T.setFrames fs) → Steps p.tables e below (T.setTop g) (T.setFrames fs)) : Run Z EL sv p e below s h0 ws Q kc ks T g := by
  obtain ⟨F, vm0, k0, Y, r1, r2, r3, r4, r5, r6, r7⟩ := id X
  obtain ⟨fs, hr, hrun, hended, hW⟩ := Y.leaveW r3 (by rw [X.eh]; exact r4) (v := v) (fun z => hv (X.rtt.symm.trans z)) X.lk
  have eh : (T.setFrames fs).heap = h := X.eh
  have ev : (T.setFrames fs).vm = T.vm := rfl
  refine ⟨_, _, q vm0 fs Y hr, hrun, hended, v, locs, rfl, ⟨X.fr, by rw [eh]; exact X.kp, by rw [eh]; exact hq⟩, ?_, ⟨hW.1, hW.2.1, hW.2.2.1, hW.2.2.2.mono hc hs⟩, fun z => ?_, fun z x hx => ?_⟩
  · rw [eh, ev]; exact r5.trans (CHv.at Y r1 X.ew r5.1)
  · rw [ev]; exact State.WarmedH.trans (t := s.setVm vm0) (r7 z) Y.warmed
  · rw [eh, ev]; exact ⟨(r6 x (hsv z x hx)).1, (CHv.at Y r1 X.ew r5.1).safe (r6 x (hsv z x hx)).1 (r6 x (hsv z x hx)).2⟩
theorem Run.retN (X : Sit Z a0 EL p l e R s m args below meth c own bytes maxL rt nm h0 ws sf T h locs cells slots) {pc : Nat} {Ls : Array Slot} {z : Int32} {rest : List Value} {t : FieldType} (hr : rt = some t) (ht : t = .boolean ∨ t = .byte ∨ t = .char ∨ t = .short) (hd : decode bytes pc = .ok (.ireturn, 1)) (hc : cells ≤ kc) (hs : slots ≤ ks) (hq : Q (some (.int (nar t z))) h) :
    Run Z EL sv p e below s h0 ws Q kc ks T (mkF m pc Ls (.int z :: rest)) :=
  Run.out X (fun z => by rw [hr] at z; cases z) hc hs hq (fun _ _ z => by cases z) fun vm0 fs Y q => Jvm.RoadKit.retN Y X.ex (X.rtt.trans hr) ht (X.de hd) q
theorem Run.retI (X : Sit Z a0 EL p l e R s m args below meth c own bytes maxL rt nm h0 ws sf T h locs cells slots) {pc : Nat} {Ls : Array Slot} {z : Int32} {rest : List Value} (hr : rt = some .int) (hd : decode bytes pc = .ok (.ireturn, 1)) (hc : cells ≤ kc) (hs : slots ≤ ks) (hq : Q (some (.int z)) h) :
    Run Z EL sv p e below s h0 ws Q kc ks T (mkF m pc Ls (.int z :: rest)) :=
  Run.out X (fun z => by rw [hr] at z; cases z) hc hs hq (fun _ _ z => by cases z) fun vm0 fs Y q => retOut Y X.ex (X.rtt.trans hr) rfl (Or.inl ⟨rfl, Or.inl rfl, z, rfl⟩) (X.de hd) q
theorem Run.retA (X : Sit Z a0 EL p l e R s m args below meth c own bytes maxL rt nm h0 ws sf T h locs cells slots) {pc : Nat} {Ls : Array Slot} {v : Value} {rest : List Value} {t : FieldType} (hr : rt = some t) (ht : t.isReference = true) (hv : v.isRef = true) (hd : decode bytes pc = .ok (.areturn, 1)) (hc : cells ≤ kc) (hs : slots ≤ ks) (hq : Q (some v) h) (hsv : sv = true → ∀ x, v = .ref x → x ∈ sf) :
    Run Z EL sv p e below s h0 ws Q kc ks T (mkF m pc Ls (v :: rest)) :=
  Run.out X (fun z => by rw [hr] at z; cases z) hc hs hq (fun z x hx => hsv z x (Option.some.inj hx)) fun vm0 fs Y q => retOut Y X.ex (X.rtt.trans hr) (by rcases ref_cases hv with rfl | ⟨_, rfl⟩ <;> cases t <;> rfl) (Or.inr (Or.inr (Or.inr (Or.inr ⟨rfl, ht, hv⟩)))) (X.de hd) q
theorem Run.retV (X : Sit Z a0 EL p l e R s m args below meth c own bytes maxL rt nm h0 ws sf T h locs cells slots) {pc : Nat} {Ls : Array Slot} (hr : rt = none) (hd : decode bytes pc = .ok (.return_, 1)) (hc : cells ≤ kc) (hs : slots ≤ ks) (hq : Q none h) :
    Run Z EL sv p e below s h0 ws Q kc ks T (mkF m pc Ls []) :=
  Run.out X (fun _ => rfl) hc hs hq (fun _ _ z => by cases z) fun vm0 fs Y q => Y.returnOut X.ex (X.rtt.trans hr) (X.de hd) q
/-- a body's contract; sf: objects handed in that are no booked literal's -/
def Con (l : Launch) (Z : State) (a0 : Array Value) (EL : List (String × Nat)) (sv : Bool) (y : MethodName) (bytes : ByteArray) (maxL : Nat) (rt : Option FieldType) (rm : Room) (ws sf : List Addr) (as' : Array Value) (h0 : Heap) (Q : Option Value → Heap → Prop) : Prop :=
  EW Z a0 EL → ∀ wds, MetFree l y (head1 (Jvm.Cond.code y bytes maxL rt :: wds) rm) (fun a U => a = as' ∧ Z.Warmed39 U.vm ∧ U.heap = h0 ∧ CHv Z EL U.vm h0 ∧ ∀ x ∈ sf, x < h0.size ∧ Safe Z EL U.vm h0 x) (fun _ _ _ _ _ => True) (fun _ U o U' => ∃ v L, o = .returned v ∧ (Fr Z.heap.size L ∧ Keep h0 U'.heap ws ∧ Q v U'.heap) ∧ CHr Z EL U.vm h0 U'.vm U'.heap ∧ ReturnedEndW U o U' L rm.cells rm.slots ∧ (NW = true → U.WarmedH U'.vm) ∧ (sv = true → ∀ x, v = some (.ref x) → x < U'.heap.size ∧ Safe Z EL U'.vm U'.heap x))
theorem Con.enter {y : MethodName} {rm : Room} {as' : Array Value} (hn : plainFor y = true) (hE : Ext Z.heap h0)
    (body : ∀ p e s m below meth c T, Sit Z a0 EL p l e rm s m as' below meth c y.cls bytes maxL rt y.name h0 ws sf T h0 [] 0 0 → Run Z EL sv p e below s h0 ws Q rm.cells rm.slots T (entryFrame m as' maxL)) : Con l Z a0 EL sv y bytes maxL rt rm ws sf as' h0 Q := by
  intro hEW wds
  refine MetFree.of_bodySF hn hisR ?_
  intro p e s m args below meth c s₁ Bd hml0 hP hK
  obtain ⟨rfl, hZ, hh, hH, hsf⟩ := hP
  have X0 : Stand p l e rm s m args below meth c s₁ [] 0 0 := Stand.of_body Bd
  have e0 : s₁.heap = h0 := by rw [← hh, Bd.state]; rfl
  exact body p e s m below meth c s₁ ⟨⟨e0, Bd.exec, Bd.bytes, hml0, Bd.returns, Bd.notSynchronized, (name_of_methodNamed Bd.named Bd.method).1, Fr.nil _, Keep.refl _ _, hE, hEW⟩, s.vm, h0.size, X0, hZ, findClass_of_methodNamed Bd.named, (State.WarmedH.refl s).since _, Nat.le_refl _, CHr.refl hH, hsf, fun _ => State.WarmedH.refl s⟩
/-! steps: the same base -/
/-- the walk goes on: other state, same heap -/
theorem Sit.same (X : Sit Z a0 EL p l e R s m args below meth c own bytes maxL rt nm h0 ws sf T h locs cells slots) {Q' : State → Prop} (q : ∀ vm0, Stand p l e R (s.setVm vm0) m args below meth c T locs cells slots → Z.Warmed39 (s.setVm vm0).vm → (s.setVm vm0).vm.findClass own = some m.cls → ∃ T', Stand p l e R (s.setVm vm0) m args below meth c T' locs cells slots ∧ T'.heap = h ∧ Q' T') : ∃ T', Sit Z a0 EL p l e R s m args below meth c own bytes maxL rt nm h0 ws sf T' h locs cells slots ∧ Q' T' := by
  obtain ⟨F, vm0, k0, Y, r1, r2, r⟩ := id X
  obtain ⟨T', Y', e', q'⟩ := q vm0 Y r1 r2
  exact ⟨T', ⟨⟨e', X.ex, X.byt, X.ml, X.rtt, X.lk, X.nmm, X.fr, X.kp, X.old, X.ew⟩, vm0, k0, Y', r1, r2, r⟩, q'⟩
/-- .. the heap has grown by an object x; it is nobody's literal -/
theorem Sit.grow (X : Sit Z a0 EL p l e R s m args below meth c own bytes maxL rt nm h0 ws sf T h locs cells slots) {k n : Nat} {Q' : State → Heap → Prop} (q : ∀ vm0, Stand p l e R (s.setVm vm0) m args below meth c T locs cells slots → Z.Warmed39 (s.setVm vm0).vm → (s.setVm vm0).vm.findClass own = some m.cls → ∃ T' h', Stand p l e R (s.setVm vm0) m args below meth c T' locs k n ∧ T'.heap = h' ∧ Ext h h' ∧ h.size < h'.size ∧ Q' T' h') : ∃ T' h', Sit Z a0 EL p l e R s m args below meth c own bytes maxL rt nm h0 ws (h.size :: sf) T' h' locs k n ∧ Ext h h' ∧ Q' T' h' := by
  obtain ⟨F, vm0, k0, Y, r1, r2, r3, r4, r5, r6, r7⟩ := id X
  obtain ⟨T', h', Y', e', E, lt, q'⟩ := q vm0 Y r1 r2
  refine ⟨T', h', ⟨⟨e', X.ex, X.byt, X.ml, X.rtt, X.lk, X.nmm, X.fr, X.kp.ext E, extKp X.old (extK E) (fun _ z => nomatch z), X.ew⟩, vm0, k0, Y', r1, r2, r3, Nat.le_trans r4 E.1, r5.trans (CHr.ext E r5.1), fun x hx => ?_, r7⟩, E, q'⟩
  rcases List.mem_cons.mp hx with rfl | hx
  · exact ⟨lt, (Safe.new (Nat.le_refl _)).ext E r5.1⟩
  · exact ⟨Nat.lt_of_lt_of_le (r6 x hx).1 E.1, (r6 x hx).2.ext E r5.1⟩
/-- .. only the places wz were written, none of a literal's -/
theorem Sit.go (X : Sit Z a0 EL p l e R s m args below meth c own bytes maxL rt nm h0 ws sf T h locs cells slots) {k n : Nat} {wz : List Addr} {Q' : State → Heap → List Loc → Prop} (r : ∀ x ∈ wz, (x ∈ ws ∨ h0.size ≤ x) ∧ Z.heap.size ≤ x) (sfe : ∀ vm0, Z.vm.Alike vm0 → (∀ x ∈ sf, Safe Z EL vm0 h x) → ∀ x ∈ wz, Safe Z EL vm0 h x)
    (q : ∀ vm0, Stand p l e R (s.setVm vm0) m args below meth c T locs cells slots → Z.Warmed39 (s.setVm vm0).vm → (s.setVm vm0).vm.findClass own = some m.cls → ∃ T' h' L, Stand p l e R (s.setVm vm0) m args below meth c T' (locs ++ L) k n ∧ T'.heap = h' ∧ Keep h h' wz ∧ Fr Z.heap.size L ∧ Q' T' h' L) : ∃ T' h' L, Sit Z a0 EL p l e R s m args below meth c own bytes maxL rt nm h0 ws sf T' h' (locs ++ L) k n ∧ Keep h h' wz ∧ Q' T' h' L := by
  obtain ⟨F, vm0, k0, Y, r1, r2, r3, r4, r5, r6, r7⟩ := id X
  obtain ⟨T', h', L, Y', e', K, N, q'⟩ := q vm0 Y r1 r2
  have sw := sfe vm0 r1.alike fun x hx => (r6 x hx).2
  exact ⟨T', h', L, ⟨⟨e', X.ex, X.byt, X.ml, X.rtt, X.lk, X.nmm, Fr.app X.fr N, X.kp.trans K fun x hx => (r x hx).1, extKp X.old K fun x hx => (r x hx).2, X.ew⟩, vm0, k0, Y', r1, r2, r3, Nat.le_trans r4 K.1, r5.trans (CHr.keep K sw r5.1), fun x hx => ⟨Nat.lt_of_lt_of_le (r6 x hx).1 K.1, (r6 x hx).2.keep K sw r5.1⟩, r7⟩, K, q'⟩
/-- the reference that comes back, where the contract says that it is nobody's literal -/
def rvs (su : Bool) (v : Option Value) : List Addr := match su, v with
  | true, some (.ref x) => [x]
  | _, _ => []
theorem rvs_safe {su : Bool} {v : Option Value} {P : Addr → Prop} (q : su = true → ∀ x, v = some (.ref x) → P x) : ∀ x ∈ rvs su v, P x := fun x hx => by
  unfold rvs at hx
  split at hx
  · cases List.mem_singleton.mp hx; exact q rfl x rfl
  · cases hx
/-- .. a step that may have interned: another base -/
theorem Sit.reb (X : Sit Z a0 EL p l e R s m args below meth c own bytes maxL rt nm h0 ws sf T h locs cells slots) {k n : Nat} {wz : List Addr} {Q' : State → Heap → List Loc → List Addr → Prop} (r : ∀ x ∈ wz, (x ∈ ws ∨ h0.size ≤ x) ∧ Z.heap.size ≤ x)
    (q : ∀ vm0 k0, Stand p l e R (s.setVm vm0) m args below meth c T locs cells slots → Z.Warmed39 (s.setVm vm0).vm → (s.setVm vm0).vm.findClass own = some m.cls → s.Since vm0 k0 → k0 ≤ h.size → CHv Z EL vm0 h → (∀ x ∈ sf, x < h.size ∧ Safe Z EL vm0 h x) → ∃ T' h' L vm1 k1 sx, Stand p l e R (s.setVm vm1) m args below meth c T' (locs ++ L) k n ∧ T'.heap = h' ∧ Keep h h' wz ∧ Fr Z.heap.size L ∧ Z.Warmed39 vm1 ∧ vm1.findClass own = some m.cls ∧ s.Since vm1 k1 ∧ k1 ≤ h'.size ∧ CHr Z EL vm0 h vm1 h' ∧ (NW = true → (s.setVm vm0).WarmedH vm1) ∧ (∀ x ∈ sx, x < h'.size ∧ Safe Z EL vm1 h' x) ∧ Q' T' h' L sx) : ∃ T' h' L sx, Sit Z a0 EL p l e R s m args below meth c own bytes maxL rt nm h0 ws (sx ++ sf) T' h' (locs ++ L) k n ∧ Keep h h' wz ∧ Q' T' h' L sx := by
  obtain ⟨F, vm0, k0, Y, r1, r2, r3, r4, r5, r6, r7⟩ := id X
  obtain ⟨T', h', L, vm1, k1, sx, Y', e', K, N, W1, W2, S1, hk1, C1, n1, f1, q'⟩ := q vm0 k0 Y r1 r2 r3 r4 r5.1 r6
  refine ⟨T', h', L, sx, ⟨⟨e', X.ex, X.byt, X.ml, X.rtt, X.lk, X.nmm, Fr.app X.fr N, X.kp.trans K fun x hx => (r x hx).1, extKp X.old K fun x hx => (r x hx).2, X.ew⟩, vm1, k1, Y', W1, W2, S1, hk1, r5.trans C1, fun x hx => ?_, fun z => State.WarmedH.trans (t := s.setVm vm0) (r7 z) (n1 z)⟩, K, q'⟩
  rcases List.mem_append.mp hx with hx | hx
  · exact f1 x hx
  · exact ⟨Nat.lt_of_lt_of_le (r6 x hx).1 K.1, C1.safe (r6 x hx).1 (r6 x hx).2⟩
theorem Run.new (X : Sit Z a0 EL p l e R s m args below meth c own bytes maxL rt nm h0 ws sf T h locs cells slots) {C : String} {index n pc : Nat} {Ls : Array Slot} {st : List Value} (w : (Cond.classLink own index C).before a0 Z = true) (wi : (Cond.instantiable C n).before a0 Z = true) (wz : (Cond.initialized C).before a0 Z = true) (hd : decode bytes pc = .ok (.new index, 3)) (hc : cells + 1 ≤ R.cells) (hl : slots + n ≤ R.slots)
    (k : ∀ (T' : State) (h' : Heap) (x : Addr), @Eq Nat x h.size → Sit Z a0 EL p l e R s m args below meth c own bytes maxL rt nm h0 ws (x :: sf) T' h' locs (cells + 1) (slots + n) → Keep h h' [] → @LT.lt Nat _ x h'.size → Exa Z h' x C → (∀ {O f d : String} {ty : FieldType}, Laid Z a0 C O f d → parseFieldDescriptor d = some ty → Fld Z h' x O f d (defaultValue ty)) → Run Z EL sv p e below s h0 ws Q kc ks T' (mkF m (pc + 3) Ls (.ref x :: st))) :
    Run Z EL sv p e below s h0 ws Q kc ks T (mkF m pc Ls st) := by
  obtain ⟨T', h', X', E, A, D, q⟩ := X.grow (k := cells + 1) (n := slots + n) (Q' := fun T' h' => Exa Z h' h.size C ∧ (∀ {O f d : String} {ty : FieldType}, Laid Z a0 C O f d → parseFieldDescriptor d = some ty → Fld Z h' h.size O f d (defaultValue ty)) ∧ ∀ t, Steps p.tables e below (T'.setTop (mkF m (pc + 3) Ls (.ref h.size :: st))) t → Steps p.tables e below (T.setTop (mkF m pc Ls st)) t) fun vm0 Y hZ ho => by
    obtain ⟨T', h', Y', e', E, A, D, -, q⟩ := newO Y X.ex hZ ho w wi wz X.eh (g := mkF m pc Ls st) rfl (X.de hd) hc hl
    exact ⟨T', h', Y', e', E, A.lt, A, D, q⟩
  exact Run.via q (k T' h' _ rfl X' (extK E) A.lt A D)
theorem Run.getf (X : Sit Z a0 EL p l e R s m args below meth c own bytes maxL rt nm h0 ws sf T h locs cells slots) {R0 O f d : String} {index pc : Nat} {Ls : Array Slot} {st : List Value} {a : Addr} {v : Value} (w : (Cond.fieldLink own index R0 f d).before a0 Z = true) (via : Via Z R0 O f d) (F : Fld Z h a O f d v) (hd : decode bytes pc = .ok (.getfield index, 3))
    (k : ∀ (T' : State), Sit Z a0 EL p l e R s m args below meth c own bytes maxL rt nm h0 ws sf T' h locs cells slots → Run Z EL sv p e below s h0 ws Q kc ks T' (mkF m (pc + 3) Ls (v :: st))) : Run Z EL sv p e below s h0 ws Q kc ks T (mkF m pc Ls (.ref a :: st)) := by
  obtain ⟨T', X', q⟩ := X.same fun vm0 Y hZ ho => getF Y X.ex hZ ho (host := "") (Or.inl w) via X.eh F (g := mkF m pc Ls (.ref a :: st)) rfl rfl (X.de hd)
  exact Run.via q (k T' X')
theorem Run.gets (X : Sit Z a0 EL p l e R s m args below meth c own bytes maxL rt nm h0 ws sf T h locs cells slots) {R0 O f d : String} {index pc : Nat} {Ls : Array Slot} {st : List Value} {v : Value} (w : (Cond.fieldLink own index R0 f d).before a0 Z = true) (via : Via Z R0 O f d) (F : Sta Z Z.heap O f d v) (hd : decode bytes pc = .ok (.getstatic index, 3))
    (k : ∀ (T' : State), Sit Z a0 EL p l e R s m args below meth c own bytes maxL rt nm h0 ws sf T' h locs cells slots → Run Z EL sv p e below s h0 ws Q kc ks T' (mkF m (pc + 3) Ls (v :: st))) : Run Z EL sv p e below s h0 ws Q kc ks T (mkF m pc Ls st) := by
  obtain ⟨T', X', q⟩ := X.same fun vm0 Y hZ ho => getS Y X.ex hZ (host := "") ho w via X.eh (F.ext X.old) (g := mkF m pc Ls st) rfl (X.de hd)
  exact Run.via q (k T' X')
theorem Run.putf (X : Sit Z a0 EL p l e R s m args below meth c own bytes maxL rt nm h0 ws sf T h locs cells slots) {R0 O f d C : String} {index pc kk : Nat} {Ls : Array Slot} {st : List Value} {a : Addr} {v v' old : Value} {ty : FieldType} (w : (Cond.fieldLink own index R0 f d).before a0 Z = true) (via : Via Z R0 O f d) (F : Fld Z h a O f d old) (E : Exa Z h a C) (L : (Cond.lays C O f d).before a0 Z = true ∨ ((Cond.laysFinal C O f d).before a0 Z = true ∧ own = O ∧ nm = "<init>")) (wi : (Cond.instantiable C kk).before a0 Z = true)
    (hty : parseFieldDescriptor d = some ty) (hn : narrow ty v = v') (hf : fits ty v' = true) (ha : a ∈ ws ∨ h0.size ≤ a) (hz : Z.heap.size ≤ a) (hsf : (C ≠ "java/lang/String" ∧ C ≠ "[B") ∨ a ∈ sf) (hd : decode bytes pc = .ok (.putfield index, 3))
    (k : ∀ (T' : State) (h' : Heap) (L : List Loc), Sit Z a0 EL p l e R s m args below meth c own bytes maxL rt nm h0 ws sf T' h' (locs ++ L) cells slots → Keep h h' [a] → Wr h h' a (RoadKit.slotOf Z O f d) v' → Fld Z h' a O f d v' → Exa Z h' a C → Run Z EL sv p e below s h0 ws Q kc ks T' (mkF m (pc + 3) Ls st)) : Run Z EL sv p e below s h0 ws Q kc ks T (mkF m pc Ls (v :: .ref a :: st)) := by
  obtain ⟨T', h', L', X', K, W, q⟩ := X.go (k := cells) (n := slots) (wz := [a]) (Q' := fun T' h' _ => Wr h h' a (RoadKit.slotOf Z O f d) v' ∧ ∀ t, Steps p.tables e below (T'.setTop (mkF m (pc + 3) Ls st)) t → Steps p.tables e below (T.setTop (mkF m pc Ls (v :: .ref a :: st))) t) (fun x hx => by cases List.mem_singleton.mp hx; exact ⟨ha, hz⟩) (fun vm0 al hs x hx => by cases List.mem_singleton.mp hx; exact hsf.elim (fun z => Safe.exa al E z.1 z.2) (hs a)) fun vm0 Y hZ ho => by
    obtain ⟨T', h', Y', e', W, q⟩ := putFN Y X.ex hZ ho w via X.eh F E (L.imp id fun z => ⟨z.1, z.2.1, X.nmm.trans z.2.2⟩) wi hty hn hf (g := mkF m pc Ls (v :: .ref a :: st)) rfl rfl (X.de hd)
    exact ⟨T', h', _, Y', e', Keep.of_wr W, fun y hy => by cases List.mem_singleton.mp hy; exact hz, W, q⟩
  exact Run.via q (k T' h' L' X' K W (F.same W) (E.wr W))
theorem Run.initO (X : Sit Z a0 EL p l e R s m args below meth c own bytes maxL rt nm h0 ws sf T h locs cells slots) {idx pc : Nat} {Ls : Array Slot} {a : Addr} {st : List Value} (w1 : (Cond.methodLink own idx Lib.objectInit).before a0 Z = true) (w2 : (Cond.instanceMethod Lib.objectInit).before a0 Z = true) (w3 : (Cond.code Lib.objectInit ⟨#[0xb1]⟩ 1 none).before a0 Z = true)
    (hsz : Ls.size = maxL) (hd : decode bytes pc = .ok (.invokespecial idx, 3)) (hf : 1 ≤ R.frames) (hl : (st.map fun v => v.category).sum + 12 ≤ R.locals)
    (k : ∀ (T' : State), Sit Z a0 EL p l e R s m args below meth c own bytes maxL rt nm h0 ws sf T' h locs cells slots → Run Z EL sv p e below s h0 ws Q kc ks T' (mkF m (pc + 3) Ls st)) : Run Z EL sv p e below s h0 ws Q kc ks T (mkF m pc Ls (.ref a :: st)) := by
  obtain ⟨T', X', q⟩ := X.same fun vm0 Y hZ ho => Jvm.RoadKit.initO Y X.ex hZ ho w1 w2 w3 X.eh (g := mkF m pc Ls (.ref a :: st)) rfl (hsz.trans X.ml.symm) rfl (X.de hd) hf (W := (st.map fun v => v.category).sum) (by show 2 * 0 + _ ≤ _; omega) hl
  exact Run.via q (k T' X')
theorem Run.ldcI (X : Sit Z a0 EL p l e R s m args below meth c own bytes maxL rt nm h0 ws sf T h locs cells slots) {index pc : Nat} {v : Int32} {Ls : Array Slot} {st : List Value} (w : (Cond.constant own index v).before a0 Z = true) (hd : decode bytes pc = .ok (.ldc index, 2))
    (k : Run Z EL sv p e below s h0 ws Q kc ks T (mkF m (pc + 2) Ls (.int v :: st))) : Run Z EL sv p e below s h0 ws Q kc ks T (mkF m pc Ls st) := by
  obtain ⟨-, vm0, k0, Y, r1, r2, -⟩ := id X
  exact Run.via (Y.ldcInt X.ex r2 (mv (s := s.setVm vm0) r1 w) (g := mkF m pc Ls st) rfl (X.de hd)) k
theorem Run.ldcL (X : Sit Z a0 EL p l e R s m args below meth c own bytes maxL rt nm h0 ws sf T h locs cells slots) {index pc : Nat} {v : Int64} {Ls : Array Slot} {st : List Value} (w : (Cond.constantLong own index v).before a0 Z = true) (hd : decode bytes pc = .ok (.ldc2_w index, 3))
    (k : Run Z EL sv p e below s h0 ws Q kc ks T (mkF m (pc + 3) Ls (.long v :: st))) : Run Z EL sv p e below s h0 ws Q kc ks T (mkF m pc Ls st) := by
  obtain ⟨-, vm0, k0, Y, r1, r2, -⟩ := id X
  exact Run.via (Y.ldc2Long X.ex r2 (mv (s := s.setVm vm0) r1 w) (g := mkF m pc Ls st) rfl (X.de hd)) k
theorem Run.irem (X : Sit Z a0 EL p l e R s m args below meth c own bytes maxL rt nm h0 ws sf T h locs cells slots) {pc : Nat} {x y : Int32} {Ls : Array Slot} {st : List Value} (hd : decode bytes pc = .ok (.irem, 1)) (hy : y ≠ 0)
    (k : Run Z EL sv p e below s h0 ws Q kc ks T (mkF m (pc + 1) Ls (.int (x % y) :: st))) : Run Z EL sv p e below s h0 ws Q kc ks T (mkF m pc Ls (.int y :: .int x :: st)) := by
  obtain ⟨-, vm0, k0, Y, -⟩ := id X
  exact Run.via (fun t r => iremM Y X.ex (g := mkF m pc Ls (.int y :: .int x :: st)) rfl (X.de hd) rfl hy r) k
theorem Run.lswHit (X : Sit Z a0 EL p l e R s m args below meth c own bytes maxL rt nm h0 ws sf T h locs cells slots) {pc len : Nat} {k : Int32} {df : Int} {pairs : Array (Int × Int)} {Ls : Array Slot} {st : List Value} (hd : decode bytes pc = .ok (.lookupswitch df pairs, len)) (hso : (pairs.toList.zip (pairs.toList.drop 1)).all (fun (a, next) => a.1 < next.1) = true) {a off : Int} (hf : pairs.find? (·.1 == k.toInt) = some (a, off)) (ho : 0 ≤ (pc : Int) + off)
    (r : Run Z EL sv p e below s h0 ws Q kc ks T (mkF m ((pc : Int) + off).toNat Ls st)) : Run Z EL sv p e below s h0 ws Q kc ks T (mkF m pc Ls (.int k :: st)) := by
  obtain ⟨-, vm0, k0, Y, -⟩ := id X
  exact Run.via (fun t r => Y.lookupswitchHit X.ex (g := mkF m pc Ls (.int k :: st)) rfl rfl (X.de hd) hso hf ho t r) r
theorem Run.lswMiss (X : Sit Z a0 EL p l e R s m args below meth c own bytes maxL rt nm h0 ws sf T h locs cells slots) {pc len : Nat} {k : Int32} {df : Int} {pairs : Array (Int × Int)} {Ls : Array Slot} {st : List Value} (hd : decode bytes pc = .ok (.lookupswitch df pairs, len)) (hso : (pairs.toList.zip (pairs.toList.drop 1)).all (fun (a, next) => a.1 < next.1) = true) (hf : pairs.find? (·.1 == k.toInt) = none) (ho : 0 ≤ (pc : Int) + df)
    (r : Run Z EL sv p e below s h0 ws Q kc ks T (mkF m ((pc : Int) + df).toNat Ls st)) : Run Z EL sv p e below s h0 ws Q kc ks T (mkF m pc Ls (.int k :: st)) := by
  obtain ⟨-, vm0, k0, Y, -⟩ := id X
  exact Run.via (fun t r => Y.lookupswitchMiss X.ex (g := mkF m pc Ls (.int k :: st)) rfl rfl (X.de hd) hso hf ho t r) r
/-! arrays of chars or bytes -/
/-- the array b holds just these -/
def Arc (ty : FieldType) (Z : State) (h : Heap) (b : Addr) (cs : List Int32) : Prop := ∃ k, Arv Z h b k ty (Int32.ofNat cs.length) (cs.map Value.int) (.int 0) ∧ cs.length ≤ 4000
theorem n32' {n : Nat} (h : n ≤ 4000) : ¬ Int32.ofNat n < 0 ∧ (Int32.ofNat n).toNatClampNeg = n := by
  have e : (Int32.ofNat n).toInt = n := Int32.toInt_ofNat_small (by omega)
  refine ⟨fun q => ?_, ?_⟩
  · rw [Int32.lt_iff_toInt_lt, e] at q; have : (0 : Int32).toInt = 0 := rfl; omega
  · show (Int32.ofNat n).toInt.toNat = n
    rw [e]; simp
theorem Arc.keep {ty : FieldType} {h' : Heap} {wz : List Addr} {b : Addr} {cs : List Int32} (A : Arc ty Z h b cs) (K : Keep h h' wz) (q : b ∉ wz) : Arc ty Z h' b cs := by
  obtain ⟨k, A, r⟩ := A; exact ⟨k, A.keep K q, r⟩
theorem Arc.lt {ty : FieldType} {b : Addr} {cs : List Int32} (A : Arc ty Z h b cs) : @LT.lt Nat _ b h.size := by obtain ⟨k, A, r⟩ := A; exact A.lt
theorem getD_map (cs : List Int32) (i : Nat) : (cs.map Value.int).getD i (.int 0) = .int (cs.getD i 0) := by
  simp only [List.getD_eq_getElem?_getD, List.getElem?_map]; cases cs[i]? <;> rfl
theorem Run.newarr (X : Sit Z a0 EL p l e R s m args below meth c own bytes maxL rt nm h0 ws sf T h locs cells slots) {aty : ArrayType} {pc n cap : Nat} {j : Int32} {Ls : Array Slot} {st : List Value} (w : (Cond.arrayClass (newarray.typeOf aty)).before a0 Z = true) (hi : defaultValue (newarray.typeOf aty) = .int 0) (hd : decode bytes pc = .ok (.newarray aty, 2)) (hj : j = Int32.ofNat n) (hcap : n ≤ cap) (hn : cap ≤ 4000) (hc : cells + 1 ≤ R.cells) (hl : slots + cap ≤ R.slots)
    (k : ∀ (T' : State) (h' : Heap) (x : Addr), @Eq Nat x h.size → Sit Z a0 EL p l e R s m args below meth c own bytes maxL rt nm h0 ws (x :: sf) T' h' locs (cells + 1) (slots + cap) → Keep h h' [] → @LT.lt Nat _ x h'.size → Arc (newarray.typeOf aty) Z h' x (List.replicate n 0) → Run Z EL sv p e below s h0 ws Q kc ks T' (mkF m (pc + 2) Ls (.ref x :: st))) :
    Run Z EL sv p e below s h0 ws Q kc ks T (mkF m pc Ls (.int j :: st)) := by
  subst hj
  have hn' : n ≤ 4000 := Nat.le_trans hcap hn
  have q32 := n32' hn'
  obtain ⟨T', h', X', E, lt, A, q⟩ := X.grow (k := cells + 1) (n := slots + cap) (Q' := fun T' h' => h.size < h'.size ∧ Arc (newarray.typeOf aty) Z h' h.size (List.replicate n 0) ∧ ∀ t, Steps p.tables e below (T'.setTop (mkF m (pc + 2) Ls (.ref h.size :: st))) t → Steps p.tables e below (T.setTop (mkF m pc Ls (.int (Int32.ofNat n) :: st))) t) fun vm0 Y hZ ho => by
    obtain ⟨T', h', kA, Y', e', E, A, q⟩ := newP Y X.ex hZ w X.eh (g := mkF m pc Ls (.int (Int32.ofNat n) :: st)) rfl (X.de hd) rfl q32.1 (cap := cap) (by rw [q32.2]; exact hcap) (by omega) hc hl
    have V := Arv.new A q32.1
    rw [hi] at V
    refine ⟨T', h', Y', e', E, A.lt, A.lt, ⟨kA, ?_, by simpa using hn'⟩, q⟩
    have V2 := V.pad (vs' := (List.replicate n (0 : Int32)).map Value.int) fun i => by
      have := pad_rep [] (.int 0) n i
      simpa using this
    simpa using V2
  exact Run.via q (k T' h' _ rfl X' (extK E) lt A)
theorem idx_of {j : Int32} {i n : Nat} (hj : j = Int32.ofNat i) (hi : i < n) (hn : n ≤ 4000) : ¬ (j < 0 ∨ (Int32.ofNat n).toNatClampNeg ≤ j.toNatClampNeg) ∧ j.toNatClampNeg = i := by
  subst hj
  have a := n32' (n := i) (by omega)
  have b := n32' hn
  exact ⟨fun q => q.elim a.1 fun q => by rw [a.2, b.2] at q; omega, a.2⟩
theorem Arc.set {ty : FieldType} {h' : Heap} {b : Addr} {cs : List Int32} {j v' : Int32} {i : Nat} {kA : ClassId} {cl : Cell} (hlen : cs.length ≤ 4000) (A : Arr Z h b cl ty) (q1 : cl.cls = kA) (S : cl.slots.size = (Int32.ofNat cs.length).toNatClampNeg) (q3 : ¬ Int32.ofNat cs.length < 0) (H : RoadKit.Has cl (cs.map Value.int) (.int 0)) (G : ∀ i, i < cl.slots.size → fits ty ((cs.map Value.int).getD i (.int 0)) = true) (hv : fits ty (.int v') = true) (W : Wr h h' b j.toNatClampNeg (.int v')) (j2 : j.toNatClampNeg = i) (hi : i < cs.length) : Arc ty Z h' b (cs.set i v') := by
  have V' := Arv.set A q1 S q3 H G hv W i j2 (by simpa using hi)
  refine ⟨kA, ?_, by simpa using hlen⟩
  have e1 : (cs.map Value.int).set i (.int v') = (cs.set i v').map Value.int := by simp [List.map_set]
  rw [e1] at V'
  simpa using V'
theorem Run.castore (X : Sit Z a0 EL p l e R s m args below meth c own bytes maxL rt nm h0 ws sf T h locs cells slots) {pc i : Nat} {j v v' : Int32} {b : Addr} {cs : List Int32} {Ls : Array Slot} {st : List Value} (A : Arc .char Z h b cs) (hj : j = Int32.ofNat i) (hi : i < cs.length) (hv : nar .char v = v') (ha : b ∈ ws ∨ h0.size ≤ b) (hz : Z.heap.size ≤ b) (hd : decode bytes pc = .ok (.castore, 1))
    (k : ∀ (T' : State) (h' : Heap) (L : List Loc), Sit Z a0 EL p l e R s m args below meth c own bytes maxL rt nm h0 ws sf T' h' (locs ++ L) cells slots → Keep h h' [b] → h'.size = h.size → Arc .char Z h' b (cs.set i v') → Run Z EL sv p e below s h0 ws Q kc ks T' (mkF m (pc + 1) Ls st)) : Run Z EL sv p e below s h0 ws Q kc ks T (mkF m pc Ls (.int v :: .int j :: .ref b :: st)) := by
  obtain ⟨kA, V, hlen⟩ := A
  obtain ⟨cl, A, q1, S, q3, H, G⟩ := id V
  obtain ⟨j1, j2⟩ := idx_of hj hi hlen
  obtain ⟨T', h', L', X', K, W, q⟩ := X.go (k := cells) (n := slots) (wz := [b]) (Q' := fun T' h' _ => Wr h h' b j.toNatClampNeg (.int (nar .char v)) ∧ ∀ t, Steps p.tables e below (T'.setTop (mkF m (pc + 1) Ls st)) t → Steps p.tables e below (T.setTop (mkF m pc Ls (.int v :: .int j :: .ref b :: st))) t) (fun x hx => by cases List.mem_singleton.mp hx; exact ⟨ha, hz⟩) (fun vm0 al hs x hx => by cases List.mem_singleton.mp hx; exact Safe.arv al V (by decide)) fun vm0 Y hZ ho => by
    obtain ⟨T', h', Y', e', W, q⟩ := stC Y X.ex hZ X.eh A (j := j) (by rw [S]; exact j1) (g := mkF m pc Ls (.int v :: .int j :: .ref b :: st)) rfl rfl (X.de hd)
    exact ⟨T', h', _, Y', e', Keep.of_wr W, fun y hy => by cases List.mem_singleton.mp hy; exact hz, W, q⟩
  rw [hv] at W
  exact Run.via q (k T' h' L' X' K W.size (Arc.set hlen A q1 S q3 H G (by rw [← hv]; exact fits_nar_char _) W j2 hi))
theorem Run.bastore (X : Sit Z a0 EL p l e R s m args below meth c own bytes maxL rt nm h0 ws sf T h locs cells slots) {pc i : Nat} {j v v' : Int32} {b : Addr} {cs : List Int32} {Ls : Array Slot} {st : List Value} (A : Arc .byte Z h b cs) (hj : j = Int32.ofNat i) (hi : i < cs.length) (hv : nar .byte v = v') (ha : b ∈ ws ∨ h0.size ≤ b) (hz : Z.heap.size ≤ b) (hsf : b ∈ sf) (hd : decode bytes pc = .ok (.bastore, 1))
    (k : ∀ (T' : State) (h' : Heap) (L : List Loc), Sit Z a0 EL p l e R s m args below meth c own bytes maxL rt nm h0 ws sf T' h' (locs ++ L) cells slots → Keep h h' [b] → h'.size = h.size → Arc .byte Z h' b (cs.set i v') → Run Z EL sv p e below s h0 ws Q kc ks T' (mkF m (pc + 1) Ls st)) : Run Z EL sv p e below s h0 ws Q kc ks T (mkF m pc Ls (.int v :: .int j :: .ref b :: st)) := by
  obtain ⟨kA, V, hlen⟩ := A
  obtain ⟨cl, A, q1, S, q3, H, G⟩ := id V
  obtain ⟨j1, j2⟩ := idx_of hj hi hlen
  obtain ⟨T', h', L', X', K, W, q⟩ := X.go (k := cells) (n := slots) (wz := [b]) (Q' := fun T' h' _ => Wr h h' b j.toNatClampNeg (.int (nar .byte v)) ∧ ∀ t, Steps p.tables e below (T'.setTop (mkF m (pc + 1) Ls st)) t → Steps p.tables e below (T.setTop (mkF m pc Ls (.int v :: .int j :: .ref b :: st))) t) (fun x hx => by cases List.mem_singleton.mp hx; exact ⟨ha, hz⟩) (fun vm0 al hs x hx => by cases List.mem_singleton.mp hx; exact hs b hsf) fun vm0 Y hZ ho => by
    obtain ⟨T', h', Y', e', W, q⟩ := stB Y X.ex hZ X.eh A (j := j) (by rw [S]; exact j1) (g := mkF m pc Ls (.int v :: .int j :: .ref b :: st)) rfl rfl (X.de hd)
    exact ⟨T', h', _, Y', e', Keep.of_wr W, fun y hy => by cases List.mem_singleton.mp hy; exact hz, W, q⟩
  rw [hv] at W
  exact Run.via q (k T' h' L' X' K W.size (Arc.set hlen A q1 S q3 H G (by rw [← hv]; exact fits_nar_byte _) W j2 hi))
theorem Run.caload (X : Sit Z a0 EL p l e R s m args below meth c own bytes maxL rt nm h0 ws sf T h locs cells slots) {pc i : Nat} {j : Int32} {b : Addr} {cs : List Int32} {Ls : Array Slot} {st : List Value} (A : Arc .char Z h b cs) (hj : j = Int32.ofNat i) (hi : i < cs.length) (hd : decode bytes pc = .ok (.caload, 1))
    (k : Run Z EL sv p e below s h0 ws Q kc ks T (mkF m (pc + 1) Ls (.int (cs.getD i 0) :: st))) : Run Z EL sv p e below s h0 ws Q kc ks T (mkF m pc Ls (.int j :: .ref b :: st)) := by
  obtain ⟨kA, V, hlen⟩ := A
  obtain ⟨cl, A, q1, S, q3, H, G⟩ := V
  obtain ⟨j1, j2⟩ := idx_of hj hi hlen
  obtain ⟨-, vm0, k0, Y, r1, r2, -⟩ := id X
  exact Run.via (fun t r => Y.caload X.ex (j := j) (v := .int (cs.getD i 0)) (by rw [X.eh]; exact A.1) (State.isArrayOf_alike r1.alike A.2.1) A.2.2 (by rw [S]; exact j1) (by rw [j2, H i (by rw [S, (n32' hlen).2]; exact hi), getD_map]) (g := mkF m pc Ls (.int j :: .ref b :: st)) rfl rfl (X.de hd) t r) k
theorem Run.baload (X : Sit Z a0 EL p l e R s m args below meth c own bytes maxL rt nm h0 ws sf T h locs cells slots) {pc i : Nat} {j : Int32} {b : Addr} {cs : List Int32} {Ls : Array Slot} {st : List Value} (A : Arc .byte Z h b cs) (hj : j = Int32.ofNat i) (hi : i < cs.length) (hd : decode bytes pc = .ok (.baload, 1))
    (k : Run Z EL sv p e below s h0 ws Q kc ks T (mkF m (pc + 1) Ls (.int (cs.getD i 0) :: st))) : Run Z EL sv p e below s h0 ws Q kc ks T (mkF m pc Ls (.int j :: .ref b :: st)) := by
  obtain ⟨kA, V, hlen⟩ := A
  obtain ⟨cl, A, q1, S, q3, H, G⟩ := V
  obtain ⟨j1, j2⟩ := idx_of hj hi hlen
  obtain ⟨-, vm0, k0, Y, r1, r2, -⟩ := id X
  exact Run.via (fun t r => Y.baloadBytes X.ex (j := j) (v := .int (cs.getD i 0)) (by rw [X.eh]; exact A.1) (State.isArrayOf_alike r1.alike A.2.1) A.2.2 (by rw [S]; exact j1) (by rw [j2, H i (by rw [S, (n32' hlen).2]; exact hi), getD_map]) (g := mkF m pc Ls (.int j :: .ref b :: st)) rfl rfl (X.de hd) t r) k
theorem Run.alen {ty : FieldType} (X : Sit Z a0 EL p l e R s m args below meth c own bytes maxL rt nm h0 ws sf T h locs cells slots) {pc : Nat} {b : Addr} {cs : List Int32} {Ls : Array Slot} {st : List Value} (A : Arc ty Z h b cs) (hd : decode bytes pc = .ok (.arraylength, 1))
    (k : Run Z EL sv p e below s h0 ws Q kc ks T (mkF m (pc + 1) Ls (.int (Int32.ofNat cs.length) :: st))) : Run Z EL sv p e below s h0 ws Q kc ks T (mkF m pc Ls (.ref b :: st)) := by
  obtain ⟨kA, V, hlen⟩ := A
  obtain ⟨cl, A, q1, S, q3, H, G⟩ := V
  obtain ⟨-, vm0, k0, Y, r1, r2, -⟩ := id X
  refine Run.via (fun t r => Y.arraylength X.ex (by rw [X.eh]; exact A.1) (State.isArrayOf_alike r1.alike A.2.1) (g := mkF m pc Ls (.ref b :: st)) rfl rfl (X.de hd) t ?_) k
  rw [len_of S q3]
  exact r
/-! calls -/
theorem Con.payS {y : MethodName} {rm : Room} {as' : Array Value} {wz sz : List Addr} {Q' : Option Value → Heap → Prop} {by' : ByteArray} {ml : Nat} {rt' : Option FieldType} {len W : Nat} {vm0 : Vm} {su : Bool} (C : Con l Z a0 EL su y by' ml rt' rm wz sz as' h Q') (hEL : EW Z a0 EL) (hZ : Z.Warmed39 vm0) (H : CHv Z EL vm0 h) (hsz : ∀ x ∈ sz, x < h.size ∧ Safe Z EL vm0 h x) (wc : (Cond.code y by' ml rt').before a0 Z = true) (wz' : (Cond.initialized y.cls).before a0 Z = true) (hf : rm.frames + 1 ≤ R.frames) (hl : W + (ml + 11) + rm.locals ≤ R.locals) :
    BackS l R p e below (s.setVm vm0) args y len W (fun A a => a = as' ∧ A.U.heap = h ∧ A.cells + rm.cells ≤ R.cells ∧ A.slots + rm.slots ≤ R.slots)
      (fun A _ v B => ∃ L, (Fr Z.heap.size L ∧ Keep h B.U.heap wz ∧ Q' v B.U.heap) ∧ B.locs = A.locs ++ L ∧ B.cells = A.cells + rm.cells ∧ B.slots = A.slots + rm.slots ∧ CHr Z EL vm0 h B.U.vm B.U.heap ∧ (NW = true → (s.setVm vm0).WarmedH B.U.vm) ∧ (su = true → ∀ x, v = some (.ref x) → x < B.U.heap.size ∧ Safe Z EL B.U.vm B.U.heap x)) :=
  BackS.of_freeW (bytes := by') (maxL := ml) (ret := rt') (E := fun _ first o t L k n => k = rm.cells ∧ n = rm.slots ∧ (∃ v, o = .returned v ∧ (Fr Z.heap.size L ∧ Keep h t.heap wz ∧ Q' v t.heap) ∧ (su = true → ∀ x, v = some (.ref x) → x < t.heap.size ∧ Safe Z EL t.vm t.heap x)) ∧ CHr Z EL first.vm h t.vm t.heap ∧ (NW = true → first.WarmedH t.vm)) (C hEL []) hf hl
    (fun m meth c A a Y hp => have hU : Z.Warmed39 A.U.vm := wtrans (s := s.setVm vm0) hZ Y.warmed
      ⟨by show (Cond.and _ .tt).before a A.U = true; rw [Cond.before_and, mv hU wc]; rfl, mv hU wc, mv hU wz', hp.2.2.1, hp.2.2.2⟩)
    (fun m meth c A a g mk Y hp => ⟨hp.1, wtrans (s := s.setVm vm0) hZ Y.warmed, hp.2.1, (CHv.at Y hZ hEL H).1, fun x hx => ⟨(hsz x hx).1, (CHv.at Y hZ hEL H).safe (hsz x hx).1 (hsz x hx).2⟩⟩) (fun _ _ _ _ _ _ _ _ _ => trivial)
    (fun _ _ _ _ ⟨v, L, g1, g2, g3, g4, g5, g6⟩ => ⟨L, _, _, g4, rfl, rfl, ⟨v, g1, g2, g6⟩, g3, g5⟩)
    (fun m meth c A a g mk v t L k n Y hp _ _ ⟨e1, e2, ⟨v', e3, e4, e7⟩, e5, e6⟩ => by
      cases e3; subst e1 e2
      exact ⟨L, e4, rfl, rfl, rfl, (CHv.at Y hZ hEL H).trans e5, fun z => State.WarmedH.trans (t := A.U) Y.warmed (e6 z), e7⟩)
/-- what a call by a contract leaves, whichever instruction made it -/
theorem Run.called (X : Sit Z a0 EL p l e R s m args below meth c own bytes maxL rt nm h0 ws sf T h locs cells slots) {y : MethodName} {by' : ByteArray} {ml : Nat} {rt' : Option FieldType} {rm : Room} {wz sz : List Addr} {Q' : Option Value → Heap → Prop} {len pc W : Nat} {Ls : Array Slot} {st rest : List Value} {as' : Array Value}
    {su : Bool} (C : Con l Z a0 EL su y by' ml rt' rm wz sz as' h Q') (w3 : (Cond.initialized y.cls).before a0 Z = true) (w4 : (Cond.code y by' ml rt').before a0 Z = true) (hf : rm.frames + 1 ≤ R.frames) (hl : W + (ml + 11) + rm.locals ≤ R.locals) (hwz : ∀ x ∈ wz, (x ∈ ws ∨ h0.size ≤ x) ∧ Z.heap.size ≤ x) (hsz : ∀ x ∈ sz, x ∈ sf)
    (q : ∀ vm0, Stand p l e R (s.setVm vm0) m args below meth c T locs cells slots → Z.Warmed39 (s.setVm vm0).vm → (s.setVm vm0).vm.findClass own = some m.cls →
      ∀ {Post : Pt → Array Value → Option Value → Pt → Prop}, BackS l R p e below (s.setVm vm0) args y len W (fun A a => a = as' ∧ A.U.heap = h ∧ A.cells + rm.cells ≤ R.cells ∧ A.slots + rm.slots ≤ R.slots) Post → ∃ (v : Option Value) (vm₁ : Vm) (B : Pt), (s.setVm vm0).WarmedH vm₁ ∧ Stand p l e R ((s.setVm vm0).setVm B.U.vm) m args below meth c B.U B.locs B.cells B.slots ∧ (s.setVm vm0).Since B.U.vm B.U.heap.size ∧ T.heap.size ≤ B.U.heap.size ∧ Post ⟨T.setVm vm₁, locs, cells, slots⟩ as' v B ∧ Steps p.tables e below (T.setTop (mkF m pc Ls st)) (B.U.setTop (mkF m (pc + len) Ls (v.toList ++ rest))))
    (k : ∀ (v : Option Value) (T' : State) (h' : Heap) (L : List Loc), Q' v h' → Sit Z a0 EL p l e R s m args below meth c own bytes maxL rt nm h0 ws sf T' h' (locs ++ L) (cells + rm.cells) (slots + rm.slots) → (su = true → ∀ x, v = some (.ref x) → Sit Z a0 EL p l e R s m args below meth c own bytes maxL rt nm h0 ws (x :: sf) T' h' (locs ++ L) (cells + rm.cells) (slots + rm.slots)) → Keep h h' wz → Run Z EL sv p e below s h0 ws Q kc ks T' (mkF m (pc + len) Ls (v.toList ++ rest))) : Run Z EL sv p e below s h0 ws Q kc ks T (mkF m pc Ls st) := by
  obtain ⟨T', h', L, sx, X', K, v, q3, rfl, sp⟩ := X.reb (k := cells + rm.cells) (n := slots + rm.slots) (wz := wz) (Q' := fun T' h' L sx => ∃ v, Q' v h' ∧ sx = rvs su v ∧ Steps p.tables e below (T.setTop (mkF m pc Ls st)) (T'.setTop (mkF m (pc + len) Ls (v.toList ++ rest)))) hwz fun vm0 k0 Y hZ ho hS hk H hs => by
    obtain ⟨v, vm₁, ⟨T', L', k', n'⟩, -, Y', S', hT, ⟨Lc, ⟨q1, q2, q3⟩, l1, y1, z1, C1, n1, f1⟩, sp⟩ := q vm0 Y hZ ho (C.payS (W := W) X.ew hZ H (fun x hx => hs x (hsz x hx)) w4 w3 hf hl)
    dsimp only [Pt.U, Pt.locs, Pt.cells, Pt.slots] at Y' S' hT l1 y1 z1 sp q1 q2 q3 C1 n1 f1
    subst l1 y1 z1
    exact ⟨T', T'.heap, Lc, T'.vm, T'.heap.size, rvs su v, Y', rfl, q2, q1, State.Warmed39.trans (t := s.setVm vm0) hZ S'.1, (S'.1.alike.findClass _ _).trans ho, hS.trans S' (Nat.le_trans hk (by rw [X.eh] at hT; exact hT)), Nat.le_refl _, C1, n1, rvs_safe f1, v, q3, rfl, sp⟩
  refine Run.on sp (k v T' h' L q3 (X'.less fun x hx => List.mem_append_right _ hx) (fun z x hx => ?_) K)
  subst z hx
  exact X'
theorem Run.callS (X : Sit Z a0 EL p l e R s m args below meth c own bytes maxL rt nm h0 ws sf T h locs cells slots) {y : MethodName} {by' : ByteArray} {ml : Nat} {rt' : Option FieldType} {rm : Room} {wz sz : List Addr} {Q' : Option Value → Heap → Prop} {index pc W : Nat} {Ls : Array Slot} {st argsL rest : List Value} {ps : List FieldType} {rr : Option FieldType}
    {su : Bool} (C : Con l Z a0 EL su y by' ml rt' rm wz sz argsL.toArray h Q') (w1 : (Cond.methodLink own index y).before a0 Z = true) (w2 : (Cond.static y).before a0 Z = true) (w3 : (Cond.initialized y.cls).before a0 Z = true) (w4 : (Cond.code y by' ml rt').before a0 Z = true) (hy : y.cls ≠ "java/lang/invoke/MethodHandle" ∧ y.cls ≠ "java/lang/invoke/VarHandle")
    (hds : parseMethodDescriptor y.desc = some ⟨ps, rr⟩) (hln : argsL.length = ps.length) (hst : st = argsL.reverse ++ rest) (hW : (rest.map fun v => v.category).sum ≤ W) (hsz : Ls.size = maxL) (hd : decode bytes pc = .ok (.invokestatic index, 3)) (hf : rm.frames + 1 ≤ R.frames) (hl : W + (ml + 11) + rm.locals ≤ R.locals) (hc : cells + rm.cells ≤ R.cells) (hs : slots + rm.slots ≤ R.slots) (hwz : ∀ x ∈ wz, (x ∈ ws ∨ h0.size ≤ x) ∧ Z.heap.size ≤ x) (hsf : ∀ x ∈ sz, x ∈ sf)
    (k : ∀ (v : Option Value) (T' : State) (h' : Heap) (L : List Loc), Q' v h' → Sit Z a0 EL p l e R s m args below meth c own bytes maxL rt nm h0 ws sf T' h' (locs ++ L) (cells + rm.cells) (slots + rm.slots) → (su = true → ∀ x, v = some (.ref x) → Sit Z a0 EL p l e R s m args below meth c own bytes maxL rt nm h0 ws (x :: sf) T' h' (locs ++ L) (cells + rm.cells) (slots + rm.slots)) → Keep h h' wz → Run Z EL sv p e below s h0 ws Q kc ks T' (mkF m (pc + 3) Ls (v.toList ++ rest))) : Run Z EL sv p e below s h0 ws Q kc ks T (mkF m pc Ls st) :=
  Run.called X (len := 3) (W := W) C w3 w4 hf hl hwz hsf (fun vm0 Y hZ ho _ bk => callSS Y X.ex (y := y) ho (mv hZ w1) (mv hZ w2) (mv hZ w3) (mv hZ w4) hy bk (g := mkF m pc Ls st) rfl (hsz.trans X.ml.symm) (argsL := argsL) (rest := rest) (lenOf hds hln) hst (by show 2 * 0 + _ ≤ _; omega) (X.de hd) (fun _ _ => ⟨rfl, X.eh, hc, hs⟩)) k
theorem Run.callN (X : Sit Z a0 EL p l e R s m args below meth c own bytes maxL rt nm h0 ws sf T h locs cells slots) {y : MethodName} {by' : ByteArray} {ml : Nat} {rm : Room} {wz sz : List Addr} {Q' : Option Value → Heap → Prop} {index pc W : Nat} {Ls : Array Slot} {a : Addr} {st argsL rest : List Value} {ps : List FieldType} {rr : Option FieldType}
    {su : Bool} (C : Con l Z a0 EL su y by' ml none rm wz sz (.ref a :: argsL).toArray h Q') (hi : y.name = "<init>") (w1 : (Cond.methodLink own index y).before a0 Z = true) (w2 : (Cond.instanceMethod y).before a0 Z = true) (w3 : (Cond.initialized y.cls).before a0 Z = true) (w4 : (Cond.code y by' ml none).before a0 Z = true) (hy : y.cls ≠ "java/lang/invoke/MethodHandle" ∧ y.cls ≠ "java/lang/invoke/VarHandle")
    (hds : parseMethodDescriptor y.desc = some ⟨ps, rr⟩) (hln : argsL.length = ps.length) (hst : st = argsL.reverse ++ .ref a :: rest) (hW : (rest.map fun v => v.category).sum ≤ W) (hsz : Ls.size = maxL) (hd : decode bytes pc = .ok (.invokespecial index, 3)) (hf : rm.frames + 1 ≤ R.frames) (hl : W + (ml + 11) + rm.locals ≤ R.locals) (hc : cells + rm.cells ≤ R.cells) (hs : slots + rm.slots ≤ R.slots) (hwz : ∀ x ∈ wz, (x ∈ ws ∨ h0.size ≤ x) ∧ Z.heap.size ≤ x) (hsf : ∀ x ∈ sz, x ∈ sf)
    (k : ∀ (v : Option Value) (T' : State) (h' : Heap) (L : List Loc), Q' v h' → Sit Z a0 EL p l e R s m args below meth c own bytes maxL rt nm h0 ws sf T' h' (locs ++ L) (cells + rm.cells) (slots + rm.slots) → (su = true → ∀ x, v = some (.ref x) → Sit Z a0 EL p l e R s m args below meth c own bytes maxL rt nm h0 ws (x :: sf) T' h' (locs ++ L) (cells + rm.cells) (slots + rm.slots)) → Keep h h' wz → Run Z EL sv p e below s h0 ws Q kc ks T' (mkF m (pc + 3) Ls (v.toList ++ rest))) : Run Z EL sv p e below s h0 ws Q kc ks T (mkF m pc Ls st) :=
  Run.called X (len := 3) (W := W) C w3 w4 hf hl hwz hsf (fun vm0 Y hZ ho _ bk => Y.specialBackS X.ex (y := y) hi ho (mv hZ w1) (mv hZ w2) (mv hZ w4) hy bk (g := mkF m pc Ls st) rfl (hsz.trans X.ml.symm) (Steps.refl _) (a := a) (argsL := argsL) (rest := rest) (lenOf hds hln) hst (by show 2 * 0 + _ ≤ _; omega) (X.de hd) (fun _ _ => ⟨rfl, X.eh, hc, hs⟩)) k
theorem Run.callV (X : Sit Z a0 EL p l e R s m args below meth c own bytes maxL rt nm h0 ws sf T h locs cells slots) {y : MethodName} {by' : ByteArray} {ml : Nat} {rt' : Option FieldType} {rm : Room} {wz sz : List Addr} {Q' : Option Value → Heap → Prop} {index pc W : Nat} {Ls : Array Slot} {a : Addr} {cls : String} {st argsL rest : List Value} {ps : List FieldType} {rr : Option FieldType}
    {su : Bool} (C : Con l Z a0 EL su y by' ml rt' rm wz sz (.ref a :: argsL).toArray h Q') (E : Exa Z h a cls) (w1 : (Cond.methodLink own index y).before a0 Z = true) (wd : (Cond.declares y).before a0 Z = true) (w2 : (Cond.instanceMethod y).before a0 Z = true) (wl : (Cond.selects cls y y).before a0 Z = true) (w3 : (Cond.initialized y.cls).before a0 Z = true) (w4 : (Cond.code y by' ml rt').before a0 Z = true) (hy : y.cls ≠ "java/lang/invoke/MethodHandle" ∧ y.cls ≠ "java/lang/invoke/VarHandle")
    (hds : parseMethodDescriptor y.desc = some ⟨ps, rr⟩) (hln : argsL.length = ps.length) (hst : st = argsL.reverse ++ .ref a :: rest) (hW : (rest.map fun v => v.category).sum ≤ W) (hsz : Ls.size = maxL) (hd : decode bytes pc = .ok (.invokevirtual index, 3)) (hf : rm.frames + 1 ≤ R.frames) (hl : W + (ml + 11) + rm.locals ≤ R.locals) (hc : cells + rm.cells ≤ R.cells) (hs : slots + rm.slots ≤ R.slots) (hwz : ∀ x ∈ wz, (x ∈ ws ∨ h0.size ≤ x) ∧ Z.heap.size ≤ x) (hsf : ∀ x ∈ sz, x ∈ sf)
    (k : ∀ (v : Option Value) (T' : State) (h' : Heap) (L : List Loc), Q' v h' → Sit Z a0 EL p l e R s m args below meth c own bytes maxL rt nm h0 ws sf T' h' (locs ++ L) (cells + rm.cells) (slots + rm.slots) → (su = true → ∀ x, v = some (.ref x) → Sit Z a0 EL p l e R s m args below meth c own bytes maxL rt nm h0 ws (x :: sf) T' h' (locs ++ L) (cells + rm.cells) (slots + rm.slots)) → Keep h h' wz → Run Z EL sv p e below s h0 ws Q kc ks T' (mkF m (pc + 3) Ls (v.toList ++ rest))) : Run Z EL sv p e below s h0 ws Q kc ks T (mkF m pc Ls st) :=
  Run.called X (len := 3) (W := W) C w3 w4 hf hl hwz hsf (fun vm0 Y hZ ho _ bk => by
    obtain ⟨cq, kq, qa, qb, qc⟩ := isOf (s := s.setVm vm0) hZ X.eh E
    exact Y.virtualBackS X.ex (y := y) (z := y) ho (mv hZ w1) (mv hZ wd) (notFace_of_selects (args := #[]) (mv hZ wl)) (mv hZ wl) (mv hZ w2) hy bk qa qc (g := mkF m pc Ls st) rfl (hsz.trans X.ml.symm) (Steps.refl _) (argsL := argsL) (rest := rest) (lenOf hds hln) hst (by show 2 * 0 + _ ≤ _; omega) (X.de hd) (fun _ _ => ⟨rfl, X.eh, hc, hs⟩)) k
theorem Run.callI (X : Sit Z a0 EL p l e R s m args below meth c own bytes maxL rt nm h0 ws sf T h locs cells slots) {xi y : MethodName} {by' : ByteArray} {ml : Nat} {rt' : Option FieldType} {rm : Room} {wz sz : List Addr} {Q' : Option Value → Heap → Prop} {index count pc W : Nat} {Ls : Array Slot} {a : Addr} {cls : String} {st argsL rest : List Value} {ps : List FieldType} {rr : Option FieldType}
    {su : Bool} (C : Con l Z a0 EL su y by' ml rt' rm wz sz (.ref a :: argsL).toArray h Q') (E : Exa Z h a cls) (w1 : (Cond.methodLink own index xi).before a0 Z = true) (wd : (Cond.declares xi).before a0 Z = true) (wf : (Cond.interfaceMethod xi.cls xi.cls xi.name xi.desc).before a0 Z = true) (hfa : ((Cond.interfaceMethod xi.cls xi.cls xi.name xi.desc).onTables && (Cond.interfaceMethod xi.cls xi.cls xi.name xi.desc).keepsFace) = true) (wl : (Cond.selects cls xi y).before a0 Z = true) (w2 : (Cond.instanceMethod y).before a0 Z = true) (wp : (Cond.publicMethod y).before a0 Z = true) (wu : (Cond.unhidden cls xi.name xi.desc).before a0 Z = true) (wc : (Cond.castable cls xi.cls).before a0 Z = true) (w3 : (Cond.initialized y.cls).before a0 Z = true) (w4 : (Cond.code y by' ml rt').before a0 Z = true) (hy : xi.cls ≠ "java/lang/invoke/MethodHandle" ∧ xi.cls ≠ "java/lang/invoke/VarHandle")
    (hds : parseMethodDescriptor xi.desc = some ⟨ps, rr⟩) (hln : argsL.length = ps.length) (hst : st = argsL.reverse ++ .ref a :: rest) (hW : (rest.map fun v => v.category).sum ≤ W) (hsz : Ls.size = maxL) (hd : decode bytes pc = .ok (.invokeinterface index count, 5)) (hf : rm.frames + 1 ≤ R.frames) (hl : W + (ml + 11) + rm.locals ≤ R.locals) (hc : cells + rm.cells ≤ R.cells) (hs : slots + rm.slots ≤ R.slots) (hwz : ∀ x ∈ wz, (x ∈ ws ∨ h0.size ≤ x) ∧ Z.heap.size ≤ x) (hsf : ∀ x ∈ sz, x ∈ sf)
    (k : ∀ (v : Option Value) (T' : State) (h' : Heap) (L : List Loc), Q' v h' → Sit Z a0 EL p l e R s m args below meth c own bytes maxL rt nm h0 ws sf T' h' (locs ++ L) (cells + rm.cells) (slots + rm.slots) → (su = true → ∀ x, v = some (.ref x) → Sit Z a0 EL p l e R s m args below meth c own bytes maxL rt nm h0 ws (x :: sf) T' h' (locs ++ L) (cells + rm.cells) (slots + rm.slots)) → Keep h h' wz → Run Z EL sv p e below s h0 ws Q kc ks T' (mkF m (pc + 5) Ls (v.toList ++ rest))) : Run Z EL sv p e below s h0 ws Q kc ks T (mkF m pc Ls st) :=
  Run.called X (len := 5) (W := W) C w3 w4 hf hl hwz hsf (fun vm0 Y hZ ho _ bk => by
    obtain ⟨cq, kq, qa, qb, qc⟩ := isOf (s := s.setVm vm0) hZ X.eh E
    exact Y.interfaceBackS X.ex (xi := xi) (y := y) ho (mv hZ w1) (mv hZ wd) (mv hZ wf hfa) (mv hZ wl) (mv hZ w2) (mv hZ wp) (mv hZ wu) (mv hZ wc) hy bk qa qb qc (g := mkF m pc Ls st) rfl (hsz.trans X.ml.symm) (Steps.refl _) (argsL := argsL) (rest := rest) (lenOf hds hln) hst (by show 2 * 0 + _ ≤ _; omega) (X.de hd) (fun _ _ => ⟨rfl, X.eh, hc, hs⟩)) k
end Pre
end Jvm.Pilot.@@N@@
-- part str
namespace Jvm.Pilot.@@N@@
open Jvm Jvm.ClassFile Sem Op Lib Jvm.Free Jvm.Stand Jvm.LawKit Jvm.RoadKit Bundle Jvm.Pilot.@@N@@.Jvm.D
section Strs
variable {Z : State} {a0 : Array Value} {EL : List (String × Nat)} {sv : Bool} {p : Program} {l : Launch} {e : Env} {R : Room} {s : State} {m : MethodId} {args : Array Value} {below : List Frame} {meth : Method} {c : Code} {own : String} {bytes : ByteArray} {maxL : Nat} {rt : Option FieldType} {nm : String} {h0 : Heap} {ws sf : List Addr} {T : State} {h h' : Heap} {locs : List Loc} {cells slots : Nat} {Q : Option Value → Heap → Prop} {kc ks : Nat} {a : Addr} {cs : List Int32}
/-- the String a spells cs -/
def Str (Z : State) (h : Heap) (a : Addr) (cs : List Int32) : Prop :=
  Exa Z h a "java/lang/String" ∧ ∃ (t : Addr) (kb : ClassId) (cd N2 : Int32) (vs : List Value), Fld Z h a "java/lang/String" "value" "[B" (.ref t) ∧ Fld Z h a "java/lang/String" "coder" "B" (.int cd) ∧ Arv Z h t kb .byte N2 vs (.int 0) ∧ StrChars.Road.CodA cs cd N2 vs ∧ (∀ c ∈ cs, ¬ c < 0 ∧ ¬ (65535 : Int32) < c) ∧ cs.length ≤ 4000
theorem Str.keep (S : Str Z h a cs) (K : Keep h h' []) : Str Z h' a cs := by
  obtain ⟨E, t, kb, cd, N2, vs, V, C, A, r⟩ := S
  exact ⟨E.keep K, t, kb, cd, N2, vs, V.keep K nin0, C.keep K nin0, A.keep K nin0, r⟩
theorem Str.lt (S : Str Z h a cs) : @LT.lt Nat _ a h.size := S.1.lt
/-- a String as 'new' leaves it -/
def Raw (Z : State) (h : Heap) (a : Addr) : Prop := Exa Z h a "java/lang/String" ∧ Fld Z h a "java/lang/String" "value" "[B" .null ∧ Fld Z h a "java/lang/String" "coder" "B" (.int 0)
theorem Raw.keep {wz : List Addr} (S : Raw Z h a) (K : Keep h h' wz) (q : a ∉ wz) : Raw Z h' a := ⟨S.1.keep K, S.2.1.keep K q, S.2.2.keep K q⟩
/-- the JDK's statics -/
def Sets (Z : State) : Prop := ∃ (z : Int32) (fm : Value), Sta Z Z.heap "java/lang/String" "COMPACT_STRINGS" "Z" (.int z) ∧ ¬ z = 0 ∧ Sta Z Z.heap "jdk/internal/util/Preconditions" "SIOOBE_FORMATTER" "Ljava/util/function/BiFunction;" fm ∧ fm.isRef = true
theorem up (cs : List Int32) (h : ∀ c ∈ cs, ¬ c < 0 ∧ ¬ (255 : Int32) < c) : ∀ c ∈ cs, ¬ c < 0 ∧ ¬ (65535 : Int32) < c := fun c hc => ⟨(h c hc).1, fun q => (h c hc).2 (by rw [Int32.lt_iff_toInt_lt] at q ⊢; have e1 : (65535 : Int32).toInt = 65535 := rfl; have e2 : (255 : Int32).toInt = 255 := rfl; omega)⟩
theorem hwsV (hw : ∀ d ∈ tables_1, d.before a0 Z = true) : ∀ d ∈ StrChars.Road.words, d.before a0 Z = true := fun d hd => hw d ((by decide +kernel : ∀ d ∈ StrChars.Road.words, d ∈ tables_1) d hd)
/-- new String(char[]): the constructor's call -/
theorem Run.initStr (hw : ∀ d ∈ tables_1, d.before a0 Z = true) (hS : Sets Z) (X : Sit Z a0 EL p l e R s m args below meth c own bytes maxL rt nm h0 ws sf T h locs cells slots) {x b : Addr} {index pc W : Nat} {Ls : Array Slot} {rest : List Value} (G : Raw Z h x) (A : Arc .char Z h b cs) (hcs : ∀ c ∈ cs, ¬ c < 0 ∧ ¬ (255 : Int32) < c) (h1 : 0 < cs.length)
    (w1 : (Cond.methodLink own index (⟨"java/lang/String", "<init>", "([C)V"⟩ : MethodName)).before a0 Z = true) (w2 : (Cond.instanceMethod (⟨"java/lang/String", "<init>", "([C)V"⟩ : MethodName)).before a0 Z = true) (wi : (Cond.instantiable "java/lang/String" 4).before a0 Z = true) (hd : decode bytes pc = .ok (.invokespecial index, 3)) (hsz : Ls.size = maxL) (hx : x ∈ ws ∨ h0.size ≤ x) (hz : Z.heap.size ≤ x) (hsf : x ∈ sf)
    (hW : (rest.map fun v => v.category).sum ≤ W) (hf : 4 ≤ R.frames) (hl : W + 65 ≤ R.locals) (hc : cells + 1 ≤ R.cells) (hs : slots + cs.length ≤ R.slots)
    (k : ∀ (T' : State) (h' : Heap) (L : List Loc), Sit Z a0 EL p l e R s m args below meth c own bytes maxL rt nm h0 ws sf T' h' (locs ++ L) (cells + 1) (slots + cs.length) → Keep h h' [x] → Str Z h' x cs → Run Z EL sv p e below s h0 ws Q kc ks T' (mkF m (pc + 3) Ls rest)) : Run Z EL sv p e below s h0 ws Q kc ks T (mkF m pc Ls (.ref b :: .ref x :: rest)) := by
  obtain ⟨zz, fm, S1, S2, S3, S4⟩ := hS
  obtain ⟨kA, V, hlen⟩ := A
  have wc := hwsV hw _ (List.mem_cons_self ..)
  obtain ⟨T', h', L', X', K, S, sp⟩ := X.go (k := cells + 1) (n := slots + cs.length) (wz := [x]) (Q' := fun T' h' _ => Str Z h' x cs ∧ Steps p.tables e below (T.setTop (mkF m pc Ls (.ref b :: .ref x :: rest))) (T'.setTop (mkF m (pc + 3) Ls rest))) (fun y hy => by cases List.mem_singleton.mp hy; exact ⟨hx, hz⟩) (fun vm0 al hs y hy => by cases List.mem_singleton.mp hy; exact hs x hsf) fun vm0 Y hZ ho => by
    obtain ⟨v, _, ⟨T', L', k', n'⟩, -, Y', ⟨Lc, ⟨q1, q2, q3, q4, q5, t, kb, q6, q7, q8, q9, q10⟩, l1, y1, z1⟩, sp⟩ := Y.specialBack X.ex (y := (⟨"java/lang/String", "<init>", "([C)V"⟩ : MethodName)) rfl ho (mv hZ w1) (mv hZ w2) (mv hZ wc) (by decide) (StrChars.Road.backV (W := W) hZ (hwsV hw) (kI := 4) wi (cs := cs) (bs := cs.map fun c => c.toInt8.toInt32) (n := cs.length) hz X.old.1 G.1 G.2.1 G.2.2 V (S1.ext X.old) S2 rfl rfl h1 hlen hcs rfl hf hl) (g := mkF m pc Ls (.ref b :: .ref x :: rest)) rfl (hsz.trans X.ml.symm) (Steps.refl _) (a := x) (argsL := [.ref b]) (rest := rest) (lenOf (ps := [.array .char]) (r := none) (by decide +kernel) rfl) rfl (by show 2 * 0 + _ ≤ _; omega) (X.de hd) (fun _ _ => ⟨rfl, X.eh, hc, hs⟩)
    dsimp only [Pt.U, Pt.locs, Pt.cells, Pt.slots] at Y' l1 y1 z1 sp q1 q2 q3 q4 q5 q6 q7 q8 q9 q10
    subst l1 y1 z1 q1
    exact ⟨T', T'.heap, Lc, Y', rfl, q3, q2, ⟨q4, t, kb, 0, _, _, q9, q5, q10, StrChars.Road.codOf rfl fun c hc => (hcs c hc).2, up _ hcs, hlen⟩, sp⟩
  exact Run.on sp (k T' h' L' X' K S)
theorem nar_i2c (x : Int32) : nar .char (x.toUInt32.toUInt16.toUInt32.toInt32) = x.toUInt32.toUInt16.toUInt32.toInt32 := by simp only [nar, UInt32.toUInt32_toInt32, UInt16.toUInt16_toUInt32]
theorem and255 (x : Int32) : ¬ ((x &&& (255 : Int32)).toUInt32.toUInt16.toUInt32.toInt32) < 0 ∧ ¬ (255 : Int32) < ((x &&& (255 : Int32)).toUInt32.toUInt16.toUInt32.toInt32) := by
  have t : ∀ k : Fin 256, ¬ ((Int32.ofNat k.val).toUInt32.toUInt16.toUInt32.toInt32) < 0 ∧ ¬ (255 : Int32) < ((Int32.ofNat k.val).toUInt32.toUInt16.toUInt32.toInt32) := by decide +kernel
  have h : (x &&& 255).toBitVec.toNat < 256 := by
    simp only [Int32.toBitVec_and, BitVec.toNat_and]
    exact Nat.lt_succ_of_le Nat.and_le_right
  have e : (x &&& 255) = Int32.ofNat (x &&& 255).toBitVec.toNat := by
    apply Int32.toBitVec_inj.mp
    show _ = BitVec.ofNat 32 _
    rw [BitVec.ofNat_toNat]; simp
  rw [e]
  exact t ⟨_, h⟩
/-- a char, that it is one -/
theorem i2c_rng (x : Int32) : ¬ (x.toUInt32.toUInt16.toUInt32.toInt32) < 0 ∧ ¬ (65535 : Int32) < (x.toUInt32.toUInt16.toUInt32.toInt32) := by
  obtain ⟨-, q1, q2⟩ := c_i2c x
  constructor
  · intro q; rw [Int32.lt_iff_toInt_lt] at q; have : (0 : Int32).toInt = 0 := rfl; omega
  · intro q; rw [Int32.lt_iff_toInt_lt] at q; have : (65535 : Int32).toInt = 65535 := rfl; omega
theorem nar_char {c : Int32} (h : ¬ c < 0 ∧ ¬ (65535 : Int32) < c) : nar .char c = c := by
  have q := c_i2c c
  have e : (nar .char c) = c.toUInt32.toUInt16.toUInt32.toInt32 := rfl
  rw [e]
  apply Int32.toInt_inj.mp
  rw [Int32.lt_iff_toInt_lt, Int32.lt_iff_toInt_lt] at h
  have : (0 : Int32).toInt = 0 := rfl
  have : (65535 : Int32).toInt = 65535 := rfl
  omega
/-- an instance method of a JDK class that moves nothing, by a pasted law -/
theorem Run.virtP (X : Sit Z a0 EL p l e R s m args below meth c own bytes maxL rt nm h0 ws sf T h locs cells slots) {y : MethodName} {index pc W : Nat} {Ls : Array Slot} {cls : String} {st argsL rest : List Value} {ps : List FieldType} {rr : Option FieldType} {V : Option Value → Prop}
    (bk : ∀ vm0, Z.Warmed39 (s.setVm vm0).vm → Back l R p e below (s.setVm vm0) args y 3 W (fun P b => b = (.ref a :: argsL).toArray ∧ P.U.heap = h ∧ P.cells + 0 ≤ R.cells ∧ P.slots + 0 ≤ R.slots) (fun P _ v B => ∃ L, (V v ∧ L = [] ∧ B.U.heap = h) ∧ B.locs = P.locs ++ L ∧ B.cells = P.cells + 0 ∧ B.slots = P.slots + 0))
    (E : Exa Z h a cls) (w1 : (Cond.methodLink own index y).before a0 Z = true) (wd : (Cond.declares y).before a0 Z = true) (w2 : (Cond.instanceMethod y).before a0 Z = true) (wl : (Cond.selects cls y y).before a0 Z = true) (hy : y.cls ≠ "java/lang/invoke/MethodHandle" ∧ y.cls ≠ "java/lang/invoke/VarHandle")
    (hds : parseMethodDescriptor y.desc = some ⟨ps, rr⟩) (hln : argsL.length = ps.length) (hst : st = argsL.reverse ++ .ref a :: rest) (hW : (rest.map fun v => v.category).sum ≤ W) (hsz : Ls.size = maxL) (hd : decode bytes pc = .ok (.invokevirtual index, 3)) (hc : cells ≤ R.cells) (hs : slots ≤ R.slots)
    (k : ∀ (v : Option Value) (T' : State), V v → Sit Z a0 EL p l e R s m args below meth c own bytes maxL rt nm h0 ws sf T' h locs cells slots → Run Z EL sv p e below s h0 ws Q kc ks T' (mkF m (pc + 3) Ls (v.toList ++ rest))) : Run Z EL sv p e below s h0 ws Q kc ks T (mkF m pc Ls st) := by
  obtain ⟨T', X', v, hv, sp⟩ := X.same (Q' := fun T' => ∃ v, V v ∧ Steps p.tables e below (T.setTop (mkF m pc Ls st)) (T'.setTop (mkF m (pc + 3) Ls (v.toList ++ rest)))) fun vm0 Y hZ ho => by
    obtain ⟨cq, kq, qa, qb, qc⟩ := isOf (s := s.setVm vm0) hZ X.eh E
    obtain ⟨v, _, ⟨T', L', k', n'⟩, -, Y', ⟨Lc, ⟨q1, q2, q3⟩, l1, y1, z1⟩, sp⟩ := Y.virtualBack X.ex (y := y) (z := y) ho (mv hZ w1) (mv hZ wd) (notFace_of_selects (args := #[]) (mv hZ wl)) (mv hZ wl) (mv hZ w2) hy (bk vm0 hZ) qa qc (g := mkF m pc Ls st) rfl (hsz.trans X.ml.symm) (Steps.refl _) (argsL := argsL) (rest := rest) (lenOf hds hln) hst (by show 2 * 0 + _ ≤ _; omega) (X.de hd) (fun _ _ => ⟨rfl, X.eh, hc, hs⟩)
    dsimp only [Pt.U, Pt.locs, Pt.cells, Pt.slots] at Y' l1 y1 z1 sp q1 q2 q3
    subst l1 y1 z1 q2
    simp only [List.append_nil] at Y'
    exact ⟨T', Y', q3, v, q1, sp⟩
  exact Run.on sp (k v T' hv X')
end Strs
end Jvm.Pilot.@@N@@
-- part strs
namespace Jvm.Pilot.@@N@@
open Jvm Jvm.ClassFile Sem Op Lib Jvm.Free Jvm.Stand Jvm.LawKit Jvm.RoadKit Bundle Jvm.Pilot.@@N@@.Jvm.D
theorem hwsLit {Z : State} {a0 : Array Value} (hw : ∀ d ∈ tables_1, d.before a0 Z = true) : ∀ d ∈ Bundle.stringAtoms, d.before a0 Z = true := fun d hd => hw d ((by decide +kernel : ∀ d ∈ Bundle.stringAtoms, d ∈ tables_1) d hd)
/-- 'ldc' of a String constant, whether the JVM holds it already or not -/
theorem Run.ldcS {Z : State} {a0 : Array Value} {EL : List (String × Nat)} {sv : Bool} {p : Program} {l : Launch} {e : Env} {R : Room} {s : State} {m : MethodId} {args : Array Value} {below : List Frame} {meth : Method} {c : Code} {own : String} {bytes : ByteArray} {maxL : Nat} {rt : Option FieldType} {nm : String} {h0 : Heap} {ws sf : List Addr} {T : State} {h : Heap} {locs : List Loc} {cells slots : Nat} {Q : Option Value → Heap → Prop} {kc ks : Nat} (hw : ∀ d ∈ tables_1, d.before a0 Z = true) (hN : NW = false) (X : Sit Z a0 EL p l e R s m args below meth c own bytes maxL rt nm h0 ws sf T h locs cells slots) {text : String} {cs : List Int32} {index pc n : Nat} {Ls : Array Slot} {st : List Value} (w : (Cond.stringLink own index text).before a0 Z = true) (hm : (own, index) ∈ EL)
    (ht : (∀ c ∈ text.toList, c.toNat < 256) ∧ text.toList.map (fun c => Value.int (Jvm.Lit.byteI c.toNat.toUInt16)) = (cs.map fun c => Value.int (StrChars.lo8 c))) (hcs : ∀ c ∈ cs, ¬ c < 0 ∧ ¬ (255 : Int32) < c) (hlen : cs.length ≤ 4000) (hd : decode bytes pc = .ok (.ldc index, 2)) (hn : 4 * text.toList.length ≤ n) (hbig : n ≤ 20000) (hc : cells + 2 ≤ R.cells) (hl' : slots + (n + 4) ≤ R.slots)
    (k : ∀ (a : Addr) (T' : State) (h' : Heap) (L : List Loc), Sit Z a0 EL p l e R s m args below meth c own bytes maxL rt nm h0 ws sf T' h' (locs ++ L) (cells + 2) (slots + (n + 4)) → Keep h h' [] → Str Z h' a cs → Run Z EL sv p e below s h0 ws Q kc ks T' (mkF m (pc + 2) Ls (.ref a :: st))) : Run Z EL sv p e below s h0 ws Q kc ks T (mkF m pc Ls st) := by
  obtain ⟨T', h', L', sx, X', K, a, S, sp⟩ := X.reb (k := cells + 2) (n := slots + (n + 4)) (wz := []) (Q' := fun T' h' _ _ => ∃ a, Str Z h' a cs ∧ ∀ t, Steps p.tables e below (T'.setTop (mkF m (pc + 2) Ls (.ref a :: st))) t → Steps p.tables e below (T.setTop (mkF m pc Ls st)) t) (fun x hx => nomatch hx) fun vm0 k0 Y hZ ho hS hk H hs => by
    obtain ⟨a, T', h', k1, b, kb, Y', e', E, S1, hk1, hZ1, ho1, A1, F1, F2, V1, -, -, C1, -, -, st1⟩ := ldcCH Y X.ex hZ ho w (hwsLit hw) X.eh hS hk X.ew hm H (z := Int32.ofNat cs.length) ht (n32' hlen).1 (by rw [(n32' hlen).2]; simp) (g := mkF m pc Ls st) rfl (X.de hd) hn (by omega) hc hl'
    exact ⟨T', h', [], T'.vm, k1, [], by rw [List.append_nil]; exact Y', e', extK E, Fr.nil _, hZ1, ho1, S1, hk1, C1, (fun z => by rw [hN] at z; cases z), (fun _ z => nomatch z), a, ⟨A1, b, kb, 0, _, _, F2, F1, V1, Or.inl ⟨rfl, rfl, rfl, fun c hc => (hcs c hc).2⟩, up _ hcs, hlen⟩, st1⟩
  exact Run.via sp (k a T' h' L' (X'.less fun x hx => List.mem_append_right _ hx) K S)
end Jvm.Pilot.@@N@@
namespace Jvm.Pilot.@@N@@
open Jvm Jvm.ClassFile Sem Op Lib Jvm.Free Jvm.Stand Jvm.LawKit Jvm.RoadKit Bundle Jvm.Pilot.@@N@@.Jvm.D
theorem hwsEq {Z : State} {a0 : Array Value} (hw : ∀ d ∈ tables_1, d.before a0 Z = true) : ∀ d ∈ StrChars.Road.wordsEq, d.before a0 Z = true := fun d hd => hw d ((by decide +kernel : ∀ d ∈ StrChars.Road.wordsEq, d ∈ tables_1) d hd)
theorem Run.seq {Z : State} {a0 : Array Value} {EL : List (String × Nat)} {sv : Bool} {p : Program} {l : Launch} {e : Env} {R : Room} {s : State} {m : MethodId} {args : Array Value} {below : List Frame} {meth : Method} {c : Code} {own : String} {bytes : ByteArray} {maxL : Nat} {rt : Option FieldType} {nm : String} {h0 : Heap} {ws sf : List Addr} {T : State} {h : Heap} {locs : List Loc} {cells slots : Nat} {Q : Option Value → Heap → Prop} {kc ks : Nat} (hw : ∀ d ∈ tables_1, d.before a0 Z = true) (hS : Sets Z) (X : Sit Z a0 EL p l e R s m args below meth c own bytes maxL rt nm h0 ws sf T h locs cells slots) {a b : Addr} {cs ds : List Int32} {index pc W : Nat} {Ls : Array Slot} {rest : List Value} (S : Str Z h a cs) (S' : Str Z h b ds)
    (w1 : (Cond.methodLink own index (⟨"java/lang/String", "equals", "(Ljava/lang/Object;)Z"⟩ : MethodName)).before a0 Z = true) (wd : (Cond.declares (⟨"java/lang/String", "equals", "(Ljava/lang/Object;)Z"⟩ : MethodName)).before a0 Z = true) (w2 : (Cond.instanceMethod (⟨"java/lang/String", "equals", "(Ljava/lang/Object;)Z"⟩ : MethodName)).before a0 Z = true) (wl : (Cond.selects "java/lang/String" (⟨"java/lang/String", "equals", "(Ljava/lang/Object;)Z"⟩ : MethodName) (⟨"java/lang/String", "equals", "(Ljava/lang/Object;)Z"⟩ : MethodName)).before a0 Z = true) (wi : (Cond.instantiable "java/lang/String" 4).before a0 Z = true)
    (hd : decode bytes pc = .ok (.invokevirtual index, 3)) (hsz : Ls.size = maxL) (hW : (rest.map fun v => v.category).sum ≤ W) (hf : 2 ≤ R.frames) (hl : W + 28 ≤ R.locals) (hc : cells ≤ R.cells) (hs : slots ≤ R.slots)
    (k : ∀ (T' : State), Sit Z a0 EL p l e R s m args below meth c own bytes maxL rt nm h0 ws sf T' h locs cells slots → Run Z EL sv p e below s h0 ws Q kc ks T' (mkF m (pc + 3) Ls (.int (if cs = ds then 1 else 0) :: rest))) : Run Z EL sv p e below s h0 ws Q kc ks T (mkF m pc Ls (.ref b :: .ref a :: rest)) := by
  obtain ⟨zz, fm, S1, S2, S3, S4⟩ := hS
  obtain ⟨E, t, kb, cd, N2, vs, V, C, A, r1, r2, r3⟩ := S
  obtain ⟨E', t', kb', cd', N2', vs', V', C', A', r1', r2', r3'⟩ := S'
  refine Run.virtP X (W := W) (V := fun v => ((v = some (.int 1) ∧ cs = ds) ∨ (v = some (.int 0) ∧ ¬ cs = ds))) (fun vm0 hZ => StrChars.Road.eqW hZ (hwsEq hw) wi E V C A r1 r2 r3 E' V' C' A' r1' r2' r3' (S1.ext X.old) S2 hf hl) E w1 wd w2 wl (by decide) (ps := [.object "java/lang/Object"]) (rr := some .boolean) (by decide +kernel) (argsL := [.ref b]) rfl rfl hW hsz hd hc hs ?_
  intro v T' hv X'
  have q := k T' X'
  rcases hv with ⟨rfl, hv⟩ | ⟨rfl, hv⟩
  · rw [if_pos hv] at q; exact q
  · rw [if_neg hv] at q; exact q
end Jvm.Pilot.@@N@@
namespace Jvm.Pilot.@@N@@
open Jvm Jvm.ClassFile Sem Op Lib Jvm.Free Jvm.Stand Jvm.LawKit Jvm.RoadKit Bundle Jvm.Pilot.@@N@@.Jvm.D
theorem hwsChN {Z : State} {a0 : Array Value} (hw : ∀ d ∈ tables_1, d.before a0 Z = true) : ∀ d ∈ StrChars.Road.wordsChN, d.before a0 Z = true := fun d hd => hw d ((by decide +kernel : ∀ d ∈ StrChars.Road.wordsChN, d ∈ tables_1) d hd)
theorem Run.sch {Z : State} {a0 : Array Value} {EL : List (String × Nat)} {sv : Bool} {p : Program} {l : Launch} {e : Env} {R : Room} {s : State} {m : MethodId} {args : Array Value} {below : List Frame} {meth : Method} {c : Code} {own : String} {bytes : ByteArray} {maxL : Nat} {rt : Option FieldType} {nm : String} {h0 : Heap} {ws sf : List Addr} {T : State} {h : Heap} {locs : List Loc} {cells slots : Nat} {Q : Option Value → Heap → Prop} {kc ks : Nat} (hw : ∀ d ∈ tables_1, d.before a0 Z = true) (hS : Sets Z) (X : Sit Z a0 EL p l e R s m args below meth c own bytes maxL rt nm h0 ws sf T h locs cells slots) {a : Addr} {cs : List Int32} {index pc W i : Nat} {j : Int32} {Ls : Array Slot} {rest : List Value} (S : Str Z h a cs) (hlat : ∀ c ∈ cs, ¬ (255 : Int32) < c) (hj : j = Int32.ofNat i) (hi : i < cs.length)
    (w1 : (Cond.methodLink own index (⟨"java/lang/String", "charAt", "(I)C"⟩ : MethodName)).before a0 Z = true) (wd : (Cond.declares (⟨"java/lang/String", "charAt", "(I)C"⟩ : MethodName)).before a0 Z = true) (w2 : (Cond.instanceMethod (⟨"java/lang/String", "charAt", "(I)C"⟩ : MethodName)).before a0 Z = true) (wl : (Cond.selects "java/lang/String" (⟨"java/lang/String", "charAt", "(I)C"⟩ : MethodName) (⟨"java/lang/String", "charAt", "(I)C"⟩ : MethodName)).before a0 Z = true) (wi : (Cond.instantiable "java/lang/String" 4).before a0 Z = true)
    (hd : decode bytes pc = .ok (.invokevirtual index, 3)) (hsz : Ls.size = maxL) (hW : (rest.map fun v => v.category).sum ≤ W) (hf : 4 ≤ R.frames) (hl : W + 53 ≤ R.locals) (hc : cells ≤ R.cells) (hs : slots ≤ R.slots)
    (k : ∀ (T' : State), Sit Z a0 EL p l e R s m args below meth c own bytes maxL rt nm h0 ws sf T' h locs cells slots → Run Z EL sv p e below s h0 ws Q kc ks T' (mkF m (pc + 3) Ls (.int (cs.getD i 0) :: rest))) : Run Z EL sv p e below s h0 ws Q kc ks T (mkF m pc Ls (.int j :: .ref a :: rest)) := by
  obtain ⟨zz, fm, S1, S2, S3, S4⟩ := hS
  obtain ⟨E, t, kb, cd, N2, vs, V, C, A, r1, r2, r3⟩ := S
  obtain rfl : cd = 0 := by
    rcases r1 with r1 | ⟨-, -, -, c, hc, q⟩
    · exact r1.1
    · exact absurd q (hlat c hc)
  refine Run.virtP X (W := W) (V := fun v => v = some (.int (cs.getD i 0))) (fun vm0 hZ => StrChars.Road.chN hZ (hwsChN hw) wi E V C A r1 r2 (S1.ext X.old) S2 (S3.ext X.old) S4 r3 hi hj hf hl) E w1 wd w2 wl (by decide) (ps := [.int]) (rr := some .char) (by decide +kernel) (argsL := [.int j]) rfl rfl hW hsz hd hc hs ?_
  intro v T' hv X'
  subst hv
  exact k T' X'
end Jvm.Pilot.@@N@@
-- part own
namespace Jvm.Pilot.@@N@@
open Jvm Jvm.ClassFile Sem Op Lib Jvm.Free Jvm.Stand Jvm.LawKit Jvm.RoadKit Bundle Jvm.Pilot.@@N@@.Jvm.D
theorem setsOf {s : State} {args : Array Value} (hsets : ∀ d ∈ jdkStatics_1, d.before args s = true) : Sets s := by
  have n5 := not_v (Cond.before_iff.mp (hsets _ (List.mem_of_getElem? (i := 2) rfl)))
  obtain ⟨i1, e1⟩ := is_v (Cond.before_iff.mp (hsets _ (List.mem_of_getElem? (i := 1) rfl)))
  obtain ⟨v3, e3, r3⟩ := isR_v (Cond.before_iff.mp (hsets _ (List.mem_of_getElem? (i := 8) rfl)))
  exact ⟨i1, v3, Sta.start e1 (Or.inl (hsets _ (List.mem_of_getElem? (i := 0) rfl))), gotF (Cond.eq_ints e1 (Term.int_eval (0))) n5, Sta.start e3 (Or.inl (hsets _ (List.mem_of_getElem? (i := 7) rfl))), r3⟩
theorem ls0 {P : Int32 → Prop} : ∀ c ∈ ([] : List Int32), P c := fun _ q => nomatch q
theorem lsS {P : Int32 → Prop} {y : Int32} {L : List Int32} (q : P y) (r : ∀ c ∈ L, P c) : ∀ c ∈ y :: L, P c := fun x z => (List.mem_cons.mp z).elim (fun u => u ▸ q) (r x)
theorem nar_lat {c : Int32} (h : ¬ c < 0 ∧ ¬ (255 : Int32) < c) : nar .char c = c := nar_char ⟨h.1, fun q => h.2 (by rw [Int32.lt_iff_toInt_lt] at q ⊢; have e1 : (65535 : Int32).toInt = 65535 := rfl; have e2 : (255 : Int32).toInt = 255 := rfl; omega)⟩

theorem i32lt {a b : Nat} (ha : a ≤ 100000) (hb : b ≤ 100000) : Int32.ofNat a < Int32.ofNat b ↔ a < b := by
  have e1 : (Int32.ofNat a).toInt = a := Int32.toInt_ofNat_small (by omega)
  have e2 : (Int32.ofNat b).toInt = b := Int32.toInt_ofNat_small (by omega)
  rw [Int32.lt_iff_toInt_lt, e1, e2]; omega
theorem i32eq {a b : Nat} (ha : a ≤ 100000) (hb : b ≤ 100000) : Int32.ofNat a = Int32.ofNat b ↔ a = b := by
  have e1 : (Int32.ofNat a).toInt = a := Int32.toInt_ofNat_small (by omega)
  have e2 : (Int32.ofNat b).toInt = b := Int32.toInt_ofNat_small (by omega)
  rw [← Int32.toInt_inj, e1, e2]; omega
theorem i32of {x : Int32} {n : Nat} (h : x.toInt = n) (hn : n ≤ 100000) : x = Int32.ofNat n := by
  apply Int32.toInt_inj.mp; rw [h, Int32.toInt_ofNat_small (by omega)]
theorem i32n {n : Nat} (hn : n ≤ 100000) : (Int32.ofNat n).toInt = n := Int32.toInt_ofNat_small (by omega)
theorem i32add {a b : Nat} (h : a + b ≤ 100000) : Int32.ofNat a + Int32.ofNat b = Int32.ofNat (a + b) := by
  apply i32of _ h
  have q := c_iadd (Int32.ofNat a) (Int32.ofNat b); have r := rng32 (Int32.ofNat a + Int32.ofNat b)
  rw [i32n (by omega), i32n (by omega)] at q; omega
theorem i32succ {a : Nat} (h : a < 100000) : Int32.ofNat a + (1 : Int32) = Int32.ofNat (a + 1) := i32add (b := 1) h
def testL : List Int32 := [116, 101, 115, 116]
def provL : List Int32 := [112, 114, 111, 118, 105, 100, 101, 100]
def brought (cs : List Int32) : Int32 := if cs = provL ∨ cs = testL then 0 else 1
def namL (n : Int32) : List Int32 := if n = 0 then [99, 111, 109, 112, 105, 108, 101] else if n = 1 then [114, 117, 110, 116, 105, 109, 101] else if n = 2 then [112, 114, 111, 118, 105, 100, 101, 100] else if n = 3 then [116, 101, 115, 116] else if n = 4 then [115, 121, 115, 116, 101, 109] else if n = 5 then [] else if n = 6 then [84, 101, 115, 116] else if n = 7 then [80, 82, 79, 86, 73, 68, 69, 68] else if n = 8 then [116, 101, 115] else [112, 114, 111, 118, 105, 100, 101]
theorem bro_nam (n : Int32) : brought (namL n) = if n = 2 ∨ n = 3 then 0 else 1 := by
  unfold namL
  by_cases h0 : n = 0
  · subst h0; decide
  rw [if_neg h0]
  by_cases h1 : n = 1
  · subst h1; decide
  rw [if_neg h1]
  by_cases h2 : n = 2
  · subst h2; decide
  rw [if_neg h2]
  by_cases h3 : n = 3
  · subst h3; decide
  rw [if_neg h3]
  by_cases h4 : n = 4
  · subst h4; decide
  rw [if_neg h4]
  by_cases h5 : n = 5
  · subst h5; decide
  rw [if_neg h5]
  by_cases h6 : n = 6
  · subst h6; decide
  rw [if_neg h6]
  by_cases h7 : n = 7
  · subst h7; decide
  rw [if_neg h7]
  by_cases h8 : n = 8
  · subst h8; decide
  rw [if_neg h8]
  rw [if_neg (fun z => z.elim h2 h3)]; decide
theorem bro_test (i : Nat) (hi : i < 4) (d : Int32) : brought (testL.set i d) = if d = testL.getD i 0 then 0 else 1 := by
  match i, hi with
  | 0, _ => simp [brought, testL, provL]
  | 1, _ => simp [brought, testL, provL]
  | 2, _ => simp [brought, testL, provL]
  | 3, _ => simp [brought, testL, provL]
theorem bro_prov (i : Nat) (hi : i < 8) (d : Int32) : brought (provL.set i d) = if d = provL.getD i 0 then 0 else 1 := by
  match i, hi with
  | 0, _ => simp [brought, testL, provL]
  | 1, _ => simp [brought, testL, provL]
  | 2, _ => simp [brought, testL, provL]
  | 3, _ => simp [brought, testL, provL]
  | 4, _ => simp [brought, testL, provL]
  | 5, _ => simp [brought, testL, provL]
  | 6, _ => simp [brought, testL, provL]
  | 7, _ => simp [brought, testL, provL]
theorem mask_4 (x : Int32) : ∃ i : Nat, i < 4 ∧ x &&& 3 = Int32.ofNat i := by
  have q := c_mask x 3 2 (by decide) (by decide)
  have q2 := Int.emod_lt_of_pos x.toInt (show (0 : Int) < 4 by decide); have q3 := Int.emod_nonneg x.toInt (show (4 : Int) ≠ 0 by decide)
  exact ⟨(x &&& 3).toInt.toNat, by omega, i32of (by omega) (by omega)⟩
theorem mask_8 (x : Int32) : ∃ i : Nat, i < 8 ∧ x &&& 7 = Int32.ofNat i := by
  have q := c_mask x 7 3 (by decide) (by decide)
  have q2 := Int.emod_lt_of_pos x.toInt (show (0 : Int) < 8 by decide); have q3 := Int.emod_nonneg x.toInt (show (8 : Int) ≠ 0 by decide)
  exact ⟨(x &&& 7).toInt.toNat, by omega, i32of (by omega) (by omega)⟩
theorem set_rng {L : List Int32} {i : Nat} {d : Int32} (h : ∀ c ∈ L, ¬ c < 0 ∧ ¬ (255 : Int32) < c) (r : ¬ d < 0 ∧ ¬ (255 : Int32) < d) : ∀ c ∈ L.set i d, ¬ c < 0 ∧ ¬ (255 : Int32) < c := fun c hc => by
  rcases List.mem_or_eq_of_mem_set hc with q | q
  · exact h c q
  · rw [q]; exact r
theorem pd__I_Ljava_lang_String_ : parseMethodDescriptor "(I)Ljava/lang/String;" = some ⟨[.int], some (.object "java/lang/String")⟩ := by decide +kernel
theorem pd__Ljava_lang_String__Z : parseMethodDescriptor "(Ljava/lang/String;)Z" = some ⟨[(.object "java/lang/String")], some .boolean⟩ := by decide +kernel
-- part con_bi
theorem bid_0 : decode prog_53_method_2_code 0 = .ok (.aload_n 0, 1) := by decide +kernel
theorem bid_1 : decode prog_53_method_2_code 1 = .ok (.ldc 9, 2) := by decide +kernel
theorem bid_3 : decode prog_53_method_2_code 3 = .ok (.invokevirtual 11, 3) := by decide +kernel
theorem bid_6 : decode prog_53_method_2_code 6 = .ok (.ifCond .ne 16, 3) := by decide +kernel
theorem bid_9 : decode prog_53_method_2_code 9 = .ok (.aload_n 0, 1) := by decide +kernel
theorem bid_10 : decode prog_53_method_2_code 10 = .ok (.ldc 17, 2) := by decide +kernel
theorem bid_12 : decode prog_53_method_2_code 12 = .ok (.invokevirtual 11, 3) := by decide +kernel
theorem bid_15 : decode prog_53_method_2_code 15 = .ok (.ifCond .ne 7, 3) := by decide +kernel
theorem bid_18 : decode prog_53_method_2_code 18 = .ok (.iconst 1, 1) := by decide +kernel
theorem bid_19 : decode prog_53_method_2_code 19 = .ok (.goto 4, 3) := by decide +kernel
theorem bid_22 : decode prog_53_method_2_code 22 = .ok (.iconst 0, 1) := by decide +kernel
theorem bid_23 : decode prog_53_method_2_code 23 = .ok (.ireturn, 1) := by decide +kernel
set_option maxRecDepth 65536 in
set_option maxHeartbeats 40000000 in
theorem con_bi (l : Launch) {Z : State} {a0 : Array Value} {EL : List (String × Nat)} {h0 : Heap} (hw : ∀ d ∈ tables_1, d.before a0 Z = true) (hS : Sets Z) (hN : NW = false) (hm1 : ("com/example/capstan_ledger/capstanledger/Scope", 9) ∈ EL) (hm2 : ("com/example/capstan_ledger/capstanledger/Scope", 17) ∈ EL) {sa : Addr} {cs : List Int32} (S : Str Z h0 sa cs) (O : Ext Z.heap h0) : Con l Z a0 EL false (⟨"com/example/capstan_ledger/capstanledger/Scope", "broughtIn", "(Ljava/lang/String;)Z"⟩ : MethodName) prog_53_method_2_code 1 (some .boolean) ({ frames := 2, cells := 4, slots := 60, locals := 40 } : Room) [] [] #[(.ref sa)] h0 (fun v _ => v = some (.int (brought cs))) := by
  refine Con.enter (plainFor_of_name (by first | (simp [plainName, overriddenIn]; done) | decide +kernel)) O ?_
  intro p e s m below meth c T0 X0
  rw [show entryFrame m #[(.ref sa)] 1 = (mkF m 0 #[.val (.ref sa)] []) from by first | (simp [entryFrame, mkF, argsToLocals, Value.category]; done) | rfl]
  refine Run.via (fun _ => XS.aloadN X0.at X0.ex rfl (X0.de bid_0) rfl rfl) ?_
  show Run _ _ _ _ _ _ _ _ _ _ _ _ T0 (mkF m 1 #[.val (.ref sa)] [(.ref sa)])
  refine Run.ldcS hw hN X0 (cs := [(112 : Int32), (114 : Int32), (111 : Int32), (118 : Int32), (105 : Int32), (100 : Int32), (101 : Int32), (100 : Int32)]) (n := 32) (wd hw 34 rfl) hm1 (by decide) (by decide) (by decide) bid_1 (by decide) (by decide) (Nat.le_of_ble_eq_true rfl) (Nat.le_of_ble_eq_true rfl) ?_
  intro a101 T101 h101 L101 X101 K101 S101
  show Run _ _ _ _ _ _ _ _ _ _ _ _ T101 (mkF m 3 #[.val (.ref sa)] [(.ref a101), (.ref sa)])
  have S1 := S.keep K101
  refine Run.seq hw hS X101 (W := 0) S1 S101 (wd hw 37 rfl) (wd hw 38 rfl) (wd hw 39 rfl) (wd hw 40 rfl) (wd hw 2 rfl) bid_3 rfl (Nat.le_of_ble_eq_true rfl) (by decide) (by decide) (Nat.le_of_ble_eq_true rfl) (Nat.le_of_ble_eq_true rfl) ?_
  intro T102 X102
  show Run _ _ _ _ _ _ _ _ _ _ _ _ T102 (mkF m 6 #[.val (.ref sa)] [(.int (if cs = provL then 1 else 0))])
  by_cases hq : cs = provL
  ·
    rw [if_pos hq]
    show Run _ _ _ _ _ _ _ _ _ _ _ _ T102 (mkF m 6 #[.val (.ref sa)] [(.int (1 : Int32))])
    refine Run.via (fun _ => XS.ifYes X102.at X102.ex rfl (pc0 := 6) (pc' := 22) rfl (X102.de bid_6) rfl ((if0 _ _).trans (feq (by decide : ¬ ((1 : Int32) = (0 : Int32)))).2) (by decide) (by decide)) ?_
    show Run _ _ _ _ _ _ _ _ _ _ _ _ T102 (mkF m 22 #[.val (.ref sa)] [])
    refine Run.via (fun _ => XS.iconst X102.at X102.ex rfl (X102.de bid_22)) ?_
    show Run _ _ _ _ _ _ _ _ _ _ _ _ T102 (mkF m 23 #[.val (.ref sa)] [(.int (0 : Int32))])
    exact Run.retN X102 (t := .boolean) rfl (by simp) bid_23 (Nat.le_of_ble_eq_true rfl) (Nat.le_of_ble_eq_true rfl) (by unfold brought; rw [if_pos (Or.inl hq)]; rfl)
  ·
    rw [if_neg hq]
    show Run _ _ _ _ _ _ _ _ _ _ _ _ T102 (mkF m 6 #[.val (.ref sa)] [(.int (0 : Int32))])
    refine Run.via (fun _ => XS.ifNo X102.at X102.ex rfl (X102.de bid_6) rfl ((if0 _ _).trans (teq (by decide : ((0 : Int32) = (0 : Int32)))).2)) ?_
    show Run _ _ _ _ _ _ _ _ _ _ _ _ T102 (mkF m 9 #[.val (.ref sa)] [])
    refine Run.via (fun _ => XS.aloadN X102.at X102.ex rfl (X102.de bid_9) rfl rfl) ?_
    show Run _ _ _ _ _ _ _ _ _ _ _ _ T102 (mkF m 10 #[.val (.ref sa)] [(.ref sa)])
    refine Run.ldcS hw hN X102 (cs := [(116 : Int32), (101 : Int32), (115 : Int32), (116 : Int32)]) (n := 16) (wd hw 47 rfl) hm2 (by decide) (by decide) (by decide) bid_10 (by decide) (by decide) (Nat.le_of_ble_eq_true rfl) (Nat.le_of_ble_eq_true rfl) ?_
    intro a103 T103 h103 L103 X103 K103 S103
    show Run _ _ _ _ _ _ _ _ _ _ _ _ T103 (mkF m 12 #[.val (.ref sa)] [(.ref a103), (.ref sa)])
    have S2 := S1.keep K103
    refine Run.seq hw hS X103 (W := 0) S2 S103 (wd hw 37 rfl) (wd hw 38 rfl) (wd hw 39 rfl) (wd hw 40 rfl) (wd hw 2 rfl) bid_12 rfl (Nat.le_of_ble_eq_true rfl) (by decide) (by decide) (Nat.le_of_ble_eq_true rfl) (Nat.le_of_ble_eq_true rfl) ?_
    intro T104 X104
    show Run _ _ _ _ _ _ _ _ _ _ _ _ T104 (mkF m 15 #[.val (.ref sa)] [(.int (if cs = testL then 1 else 0))])
    by_cases hr : cs = testL
    ·
      rw [if_pos hr]
      show Run _ _ _ _ _ _ _ _ _ _ _ _ T104 (mkF m 15 #[.val (.ref sa)] [(.int (1 : Int32))])
      refine Run.via (fun _ => XS.ifYes X104.at X104.ex rfl (pc0 := 15) (pc' := 22) rfl (X104.de bid_15) rfl ((if0 _ _).trans (feq (by decide : ¬ ((1 : Int32) = (0 : Int32)))).2) (by decide) (by decide)) ?_
      show Run _ _ _ _ _ _ _ _ _ _ _ _ T104 (mkF m 22 #[.val (.ref sa)] [])
      refine Run.via (fun _ => XS.iconst X104.at X104.ex rfl (X104.de bid_22)) ?_
      show Run _ _ _ _ _ _ _ _ _ _ _ _ T104 (mkF m 23 #[.val (.ref sa)] [(.int (0 : Int32))])
      exact Run.retN X104 (t := .boolean) rfl (by simp) bid_23 (Nat.le_of_ble_eq_true rfl) (Nat.le_of_ble_eq_true rfl) (by unfold brought; rw [if_pos (Or.inr hr)]; rfl)
    ·
      rw [if_neg hr]
      show Run _ _ _ _ _ _ _ _ _ _ _ _ T104 (mkF m 15 #[.val (.ref sa)] [(.int (0 : Int32))])
      refine Run.via (fun _ => XS.ifNo X104.at X104.ex rfl (X104.de bid_15) rfl ((if0 _ _).trans (teq (by decide : ((0 : Int32) = (0 : Int32)))).2)) ?_
      show Run _ _ _ _ _ _ _ _ _ _ _ _ T104 (mkF m 18 #[.val (.ref sa)] [])
      refine Run.via (fun _ => XS.iconst X104.at X104.ex rfl (X104.de bid_18)) ?_
      show Run _ _ _ _ _ _ _ _ _ _ _ _ T104 (mkF m 19 #[.val (.ref sa)] [(.int (1 : Int32))])
      refine Run.via (fun _ => XS.goto X104.at X104.ex rfl (pc0 := 19) (pc' := 23) rfl (X104.de bid_19) (by decide) (by decide)) ?_
      show Run _ _ _ _ _ _ _ _ _ _ _ _ T104 (mkF m 23 #[.val (.ref sa)] [(.int (1 : Int32))])
      exact Run.retN X104 (t := .boolean) rfl (by simp) bid_23 (Nat.le_of_ble_eq_true rfl) (Nat.le_of_ble_eq_true rfl) (by unfold brought; rw [if_neg (fun z => z.elim hq hr)]; rfl)
-- part con_nm
theorem nmd_0 : decode method_2_code 0 = .ok (.iload_n 0, 1) := by decide +kernel
theorem nmd_1 : decode method_2_code 1 = .ok (.ifCond .ne 6, 3) := by decide +kernel
theorem nmd_4 : decode method_2_code 4 = .ok (.ldc 7, 2) := by decide +kernel
theorem nmd_6 : decode method_2_code 6 = .ok (.areturn, 1) := by decide +kernel
theorem nmd_7 : decode method_2_code 7 = .ok (.iload_n 0, 1) := by decide +kernel
theorem nmd_8 : decode method_2_code 8 = .ok (.iconst 1, 1) := by decide +kernel
theorem nmd_9 : decode method_2_code 9 = .ok (.if_icmp .ne 6, 3) := by decide +kernel
theorem nmd_12 : decode method_2_code 12 = .ok (.ldc 9, 2) := by decide +kernel
theorem nmd_14 : decode method_2_code 14 = .ok (.areturn, 1) := by decide +kernel
theorem nmd_15 : decode method_2_code 15 = .ok (.iload_n 0, 1) := by decide +kernel
theorem nmd_16 : decode method_2_code 16 = .ok (.iconst 2, 1) := by decide +kernel
theorem nmd_17 : decode method_2_code 17 = .ok (.if_icmp .ne 6, 3) := by decide +kernel
theorem nmd_20 : decode method_2_code 20 = .ok (.ldc 11, 2) := by decide +kernel
theorem nmd_22 : decode method_2_code 22 = .ok (.areturn, 1) := by decide +kernel
theorem nmd_23 : decode method_2_code 23 = .ok (.iload_n 0, 1) := by decide +kernel
theorem nmd_24 : decode method_2_code 24 = .ok (.iconst 3, 1) := by decide +kernel
theorem nmd_25 : decode method_2_code 25 = .ok (.if_icmp .ne 6, 3) := by decide +kernel
theorem nmd_28 : decode method_2_code 28 = .ok (.ldc 13, 2) := by decide +kernel
theorem nmd_30 : decode method_2_code 30 = .ok (.areturn, 1) := by decide +kernel
theorem nmd_31 : decode method_2_code 31 = .ok (.iload_n 0, 1) := by decide +kernel
theorem nmd_32 : decode method_2_code 32 = .ok (.iconst 4, 1) := by decide +kernel
theorem nmd_33 : decode method_2_code 33 = .ok (.if_icmp .ne 6, 3) := by decide +kernel
theorem nmd_36 : decode method_2_code 36 = .ok (.ldc 15, 2) := by decide +kernel
theorem nmd_38 : decode method_2_code 38 = .ok (.areturn, 1) := by decide +kernel
theorem nmd_39 : decode method_2_code 39 = .ok (.iload_n 0, 1) := by decide +kernel
theorem nmd_40 : decode method_2_code 40 = .ok (.iconst 5, 1) := by decide +kernel
theorem nmd_41 : decode method_2_code 41 = .ok (.if_icmp .ne 6, 3) := by decide +kernel
theorem nmd_44 : decode method_2_code 44 = .ok (.ldc 17, 2) := by decide +kernel
theorem nmd_46 : decode method_2_code 46 = .ok (.areturn, 1) := by decide +kernel
theorem nmd_47 : decode method_2_code 47 = .ok (.iload_n 0, 1) := by decide +kernel
theorem nmd_48 : decode method_2_code 48 = .ok (.bipush 6, 2) := by decide +kernel
theorem nmd_50 : decode method_2_code 50 = .ok (.if_icmp .ne 6, 3) := by decide +kernel
theorem nmd_53 : decode method_2_code 53 = .ok (.ldc 19, 2) := by decide +kernel
theorem nmd_55 : decode method_2_code 55 = .ok (.areturn, 1) := by decide +kernel
theorem nmd_56 : decode method_2_code 56 = .ok (.iload_n 0, 1) := by decide +kernel
theorem nmd_57 : decode method_2_code 57 = .ok (.bipush 7, 2) := by decide +kernel
theorem nmd_59 : decode method_2_code 59 = .ok (.if_icmp .ne 6, 3) := by decide +kernel
theorem nmd_62 : decode method_2_code 62 = .ok (.ldc 21, 2) := by decide +kernel
theorem nmd_64 : decode method_2_code 64 = .ok (.areturn, 1) := by decide +kernel
theorem nmd_65 : decode method_2_code 65 = .ok (.iload_n 0, 1) := by decide +kernel
theorem nmd_66 : decode method_2_code 66 = .ok (.bipush 8, 2) := by decide +kernel
theorem nmd_68 : decode method_2_code 68 = .ok (.if_icmp .ne 6, 3) := by decide +kernel
theorem nmd_71 : decode method_2_code 71 = .ok (.ldc 23, 2) := by decide +kernel
theorem nmd_73 : decode method_2_code 73 = .ok (.areturn, 1) := by decide +kernel
theorem nmd_74 : decode method_2_code 74 = .ok (.ldc 25, 2) := by decide +kernel
theorem nmd_76 : decode method_2_code 76 = .ok (.areturn, 1) := by decide +kernel
set_option maxRecDepth 65536 in
set_option maxHeartbeats 40000000 in
theorem con_nm (l : Launch) {Z : State} {a0 : Array Value} {EL : List (String × Nat)} {h0 : Heap} (hw : ∀ d ∈ tables_1, d.before a0 Z = true) (hN : NW = false) (hm : ∀ p ∈ ([("com/example/capstan_ledger/capstanledger/ScopeBroughtInPinLaw", 7), ("com/example/capstan_ledger/capstanledger/ScopeBroughtInPinLaw", 9), ("com/example/capstan_ledger/capstanledger/ScopeBroughtInPinLaw", 11), ("com/example/capstan_ledger/capstanledger/ScopeBroughtInPinLaw", 13), ("com/example/capstan_ledger/capstanledger/ScopeBroughtInPinLaw", 15), ("com/example/capstan_ledger/capstanledger/ScopeBroughtInPinLaw", 17), ("com/example/capstan_ledger/capstanledger/ScopeBroughtInPinLaw", 19), ("com/example/capstan_ledger/capstanledger/ScopeBroughtInPinLaw", 21), ("com/example/capstan_ledger/capstanledger/ScopeBroughtInPinLaw", 23), ("com/example/capstan_ledger/capstanledger/ScopeBroughtInPinLaw", 25)] : List (String × Nat)), p ∈ EL) {n : Int32} (O : Ext Z.heap h0) : Con l Z a0 EL false (⟨"com/example/capstan_ledger/capstanledger/ScopeBroughtInPinLaw", "named", "(I)Ljava/lang/String;"⟩ : MethodName) method_2_code 1 (some (.object "java/lang/String")) ({ frames := 0, cells := 2, slots := 40, locals := 0 } : Room) [] [] #[(.int n)] h0 (fun v h => ∃ x, v = some (.ref x) ∧ Str Z h x (namL n)) := by
  refine Con.enter (plainFor_of_name (by first | (simp [plainName, overriddenIn]; done) | decide +kernel)) O ?_
  intro p e s m below meth c T0 X0
  rw [show entryFrame m #[(.int n)] 1 = (mkF m 0 #[.val (.int n)] []) from by first | (simp [entryFrame, mkF, argsToLocals, Value.category]; done) | rfl]
  refine Run.via (fun _ => XS.iloadN X0.at X0.ex rfl (X0.de nmd_0) rfl) ?_
  show Run _ _ _ _ _ _ _ _ _ _ _ _ T0 (mkF m 1 #[.val (.int n)] [(.int n)])
  by_cases e0 : n = (0 : Int32)
  ·
    refine Run.via (fun _ => XS.ifNo X0.at X0.ex rfl (X0.de nmd_1) rfl ((if0 _ _).trans (teq e0).2)) ?_
    show Run _ _ _ _ _ _ _ _ _ _ _ _ T0 (mkF m 4 #[.val (.int n)] [])
    refine Run.ldcS hw hN X0 (cs := [(99 : Int32), (111 : Int32), (109 : Int32), (112 : Int32), (105 : Int32), (108 : Int32), (101 : Int32)]) (n := 28) (wd hw 78 rfl) (hm _ (by decide)) (by decide) (by decide) (by decide) nmd_4 (by decide) (by decide) (Nat.le_of_ble_eq_true rfl) (Nat.le_of_ble_eq_true rfl) ?_
    intro a101 T101 h101 L101 X101 K101 S101
    show Run _ _ _ _ _ _ _ _ _ _ _ _ T101 (mkF m 6 #[.val (.int n)] [(.ref a101)])
    exact Run.retA X101 (t := (.object "java/lang/String")) rfl rfl rfl nmd_6 (Nat.le_of_ble_eq_true rfl) (Nat.le_of_ble_eq_true rfl) (⟨a101, rfl, by unfold namL; rw [if_pos e0]; exact S101⟩) (nofun)
  ·
    refine Run.via (fun _ => XS.ifYes X0.at X0.ex rfl (pc0 := 1) (pc' := 7) rfl (X0.de nmd_1) rfl ((if0 _ _).trans (feq e0).2) (by decide) (by decide)) ?_
    show Run _ _ _ _ _ _ _ _ _ _ _ _ T0 (mkF m 7 #[.val (.int n)] [])
    refine Run.via (fun _ => XS.iloadN X0.at X0.ex rfl (X0.de nmd_7) rfl) ?_
    show Run _ _ _ _ _ _ _ _ _ _ _ _ T0 (mkF m 8 #[.val (.int n)] [(.int n)])
    refine Run.via (fun _ => XS.iconst X0.at X0.ex rfl (X0.de nmd_8)) ?_
    show Run _ _ _ _ _ _ _ _ _ _ _ _ T0 (mkF m 9 #[.val (.int n)] [(.int (1 : Int32)), (.int n)])
    by_cases e1 : n = (1 : Int32)
    ·
      refine Run.via (fun _ => XS.icmpNo X0.at X0.ex rfl (X0.de nmd_9) rfl (teq e1).2) ?_
      show Run _ _ _ _ _ _ _ _ _ _ _ _ T0 (mkF m 12 #[.val (.int n)] [])
      refine Run.ldcS hw hN X0 (cs := [(114 : Int32), (117 : Int32), (110 : Int32), (116 : Int32), (105 : Int32), (109 : Int32), (101 : Int32)]) (n := 28) (wd hw 79 rfl) (hm _ (by decide)) (by decide) (by decide) (by decide) nmd_12 (by decide) (by decide) (Nat.le_of_ble_eq_true rfl) (Nat.le_of_ble_eq_true rfl) ?_
      intro a102 T102 h102 L102 X102 K102 S102
      show Run _ _ _ _ _ _ _ _ _ _ _ _ T102 (mkF m 14 #[.val (.int n)] [(.ref a102)])
      exact Run.retA X102 (t := (.object "java/lang/String")) rfl rfl rfl nmd_14 (Nat.le_of_ble_eq_true rfl) (Nat.le_of_ble_eq_true rfl) (⟨a102, rfl, by unfold namL; rw [if_neg e0]; rw [if_pos e1]; exact S102⟩) (nofun)
    ·
      refine Run.via (fun _ => XS.icmpYes X0.at X0.ex rfl (pc0 := 9) (pc' := 15) rfl (X0.de nmd_9) rfl (feq e1).2 (by decide) (by decide)) ?_
      show Run _ _ _ _ _ _ _ _ _ _ _ _ T0 (mkF m 15 #[.val (.int n)] [])
      refine Run.via (fun _ => XS.iloadN X0.at X0.ex rfl (X0.de nmd_15) rfl) ?_
      show Run _ _ _ _ _ _ _ _ _ _ _ _ T0 (mkF m 16 #[.val (.int n)] [(.int n)])
      refine Run.via (fun _ => XS.iconst X0.at X0.ex rfl (X0.de nmd_16)) ?_
      show Run _ _ _ _ _ _ _ _ _ _ _ _ T0 (mkF m 17 #[.val (.int n)] [(.int (2 : Int32)), (.int n)])
      by_cases e2 : n = (2 : Int32)
      ·
        refine Run.via (fun _ => XS.icmpNo X0.at X0.ex rfl (X0.de nmd_17) rfl (teq e2).2) ?_
        show Run _ _ _ _ _ _ _ _ _ _ _ _ T0 (mkF m 20 #[.val (.int n)] [])
        refine Run.ldcS hw hN X0 (cs := [(112 : Int32), (114 : Int32), (111 : Int32), (118 : Int32), (105 : Int32), (100 : Int32), (101 : Int32), (100 : Int32)]) (n := 32) (wd hw 77 rfl) (hm _ (by decide)) (by decide) (by decide) (by decide) nmd_20 (by decide) (by decide) (Nat.le_of_ble_eq_true rfl) (Nat.le_of_ble_eq_true rfl) ?_
        intro a103 T103 h103 L103 X103 K103 S103
        show Run _ _ _ _ _ _ _ _ _ _ _ _ T103 (mkF m 22 #[.val (.int n)] [(.ref a103)])
        exact Run.retA X103 (t := (.object "java/lang/String")) rfl rfl rfl nmd_22 (Nat.le_of_ble_eq_true rfl) (Nat.le_of_ble_eq_true rfl) (⟨a103, rfl, by unfold namL; rw [if_neg e0]; rw [if_neg e1]; rw [if_pos e2]; exact S103⟩) (nofun)
      ·
        refine Run.via (fun _ => XS.icmpYes X0.at X0.ex rfl (pc0 := 17) (pc' := 23) rfl (X0.de nmd_17) rfl (feq e2).2 (by decide) (by decide)) ?_
        show Run _ _ _ _ _ _ _ _ _ _ _ _ T0 (mkF m 23 #[.val (.int n)] [])
        refine Run.via (fun _ => XS.iloadN X0.at X0.ex rfl (X0.de nmd_23) rfl) ?_
        show Run _ _ _ _ _ _ _ _ _ _ _ _ T0 (mkF m 24 #[.val (.int n)] [(.int n)])
        refine Run.via (fun _ => XS.iconst X0.at X0.ex rfl (X0.de nmd_24)) ?_
        show Run _ _ _ _ _ _ _ _ _ _ _ _ T0 (mkF m 25 #[.val (.int n)] [(.int (3 : Int32)), (.int n)])
        by_cases e3 : n = (3 : Int32)
        ·
          refine Run.via (fun _ => XS.icmpNo X0.at X0.ex rfl (X0.de nmd_25) rfl (teq e3).2) ?_
          show Run _ _ _ _ _ _ _ _ _ _ _ _ T0 (mkF m 28 #[.val (.int n)] [])
          refine Run.ldcS hw hN X0 (cs := [(116 : Int32), (101 : Int32), (115 : Int32), (116 : Int32)]) (n := 16) (wd hw 48 rfl) (hm _ (by decide)) (by decide) (by decide) (by decide) nmd_28 (by decide) (by decide) (Nat.le_of_ble_eq_true rfl) (Nat.le_of_ble_eq_true rfl) ?_
          intro a104 T104 h104 L104 X104 K104 S104
          show Run _ _ _ _ _ _ _ _ _ _ _ _ T104 (mkF m 30 #[.val (.int n)] [(.ref a104)])
          exact Run.retA X104 (t := (.object "java/lang/String")) rfl rfl rfl nmd_30 (Nat.le_of_ble_eq_true rfl) (Nat.le_of_ble_eq_true rfl) (⟨a104, rfl, by unfold namL; rw [if_neg e0]; rw [if_neg e1]; rw [if_neg e2]; rw [if_pos e3]; exact S104⟩) (nofun)
        ·
          refine Run.via (fun _ => XS.icmpYes X0.at X0.ex rfl (pc0 := 25) (pc' := 31) rfl (X0.de nmd_25) rfl (feq e3).2 (by decide) (by decide)) ?_
          show Run _ _ _ _ _ _ _ _ _ _ _ _ T0 (mkF m 31 #[.val (.int n)] [])
          refine Run.via (fun _ => XS.iloadN X0.at X0.ex rfl (X0.de nmd_31) rfl) ?_
          show Run _ _ _ _ _ _ _ _ _ _ _ _ T0 (mkF m 32 #[.val (.int n)] [(.int n)])
          refine Run.via (fun _ => XS.iconst X0.at X0.ex rfl (X0.de nmd_32)) ?_
          show Run _ _ _ _ _ _ _ _ _ _ _ _ T0 (mkF m 33 #[.val (.int n)] [(.int (4 : Int32)), (.int n)])
          by_cases e4 : n = (4 : Int32)
          ·
            refine Run.via (fun _ => XS.icmpNo X0.at X0.ex rfl (X0.de nmd_33) rfl (teq e4).2) ?_
            show Run _ _ _ _ _ _ _ _ _ _ _ _ T0 (mkF m 36 #[.val (.int n)] [])
            refine Run.ldcS hw hN X0 (cs := [(115 : Int32), (121 : Int32), (115 : Int32), (116 : Int32), (101 : Int32), (109 : Int32)]) (n := 24) (wd hw 81 rfl) (hm _ (by decide)) (by decide) (by decide) (by decide) nmd_36 (by decide) (by decide) (Nat.le_of_ble_eq_true rfl) (Nat.le_of_ble_eq_true rfl) ?_
            intro a105 T105 h105 L105 X105 K105 S105
            show Run _ _ _ _ _ _ _ _ _ _ _ _ T105 (mkF m 38 #[.val (.int n)] [(.ref a105)])
            exact Run.retA X105 (t := (.object "java/lang/String")) rfl rfl rfl nmd_38 (Nat.le_of_ble_eq_true rfl) (Nat.le_of_ble_eq_true rfl) (⟨a105, rfl, by unfold namL; rw [if_neg e0]; rw [if_neg e1]; rw [if_neg e2]; rw [if_neg e3]; rw [if_pos e4]; exact S105⟩) (nofun)
          ·
            refine Run.via (fun _ => XS.icmpYes X0.at X0.ex rfl (pc0 := 33) (pc' := 39) rfl (X0.de nmd_33) rfl (feq e4).2 (by decide) (by decide)) ?_
            show Run _ _ _ _ _ _ _ _ _ _ _ _ T0 (mkF m 39 #[.val (.int n)] [])
            refine Run.via (fun _ => XS.iloadN X0.at X0.ex rfl (X0.de nmd_39) rfl) ?_
            show Run _ _ _ _ _ _ _ _ _ _ _ _ T0 (mkF m 40 #[.val (.int n)] [(.int n)])
            refine Run.via (fun _ => XS.iconst X0.at X0.ex rfl (X0.de nmd_40)) ?_
            show Run _ _ _ _ _ _ _ _ _ _ _ _ T0 (mkF m 41 #[.val (.int n)] [(.int (5 : Int32)), (.int n)])
            by_cases e5 : n = (5 : Int32)
            ·
              refine Run.via (fun _ => XS.icmpNo X0.at X0.ex rfl (X0.de nmd_41) rfl (teq e5).2) ?_
              show Run _ _ _ _ _ _ _ _ _ _ _ _ T0 (mkF m 44 #[.val (.int n)] [])
              refine Run.ldcS hw hN X0 (cs := []) (n := 0) (wd hw 80 rfl) (hm _ (by decide)) (by decide) (by decide) (by decide) nmd_44 (by decide) (by decide) (Nat.le_of_ble_eq_true rfl) (Nat.le_of_ble_eq_true rfl) ?_
              intro a106 T106 h106 L106 X106 K106 S106
              show Run _ _ _ _ _ _ _ _ _ _ _ _ T106 (mkF m 46 #[.val (.int n)] [(.ref a106)])
              exact Run.retA X106 (t := (.object "java/lang/String")) rfl rfl rfl nmd_46 (Nat.le_of_ble_eq_true rfl) (Nat.le_of_ble_eq_true rfl) (⟨a106, rfl, by unfold namL; rw [if_neg e0]; rw [if_neg e1]; rw [if_neg e2]; rw [if_neg e3]; rw [if_neg e4]; rw [if_pos e5]; exact S106⟩) (nofun)
            ·
              refine Run.via (fun _ => XS.icmpYes X0.at X0.ex rfl (pc0 := 41) (pc' := 47) rfl (X0.de nmd_41) rfl (feq e5).2 (by decide) (by decide)) ?_
              show Run _ _ _ _ _ _ _ _ _ _ _ _ T0 (mkF m 47 #[.val (.int n)] [])
              refine Run.via (fun _ => XS.iloadN X0.at X0.ex rfl (X0.de nmd_47) rfl) ?_
              show Run _ _ _ _ _ _ _ _ _ _ _ _ T0 (mkF m 48 #[.val (.int n)] [(.int n)])
              refine Run.via (fun _ => XS.bipush X0.at X0.ex rfl (X0.de nmd_48)) ?_
              show Run _ _ _ _ _ _ _ _ _ _ _ _ T0 (mkF m 50 #[.val (.int n)] [(.int (6 : Int32)), (.int n)])
              by_cases e6 : n = (6 : Int32)
              ·
                refine Run.via (fun _ => XS.icmpNo X0.at X0.ex rfl (X0.de nmd_50) rfl (teq e6).2) ?_
                show Run _ _ _ _ _ _ _ _ _ _ _ _ T0 (mkF m 53 #[.val (.int n)] [])
                refine Run.ldcS hw hN X0 (cs := [(84 : Int32), (101 : Int32), (115 : Int32), (116 : Int32)]) (n := 16) (wd hw 75 rfl) (hm _ (by decide)) (by decide) (by decide) (by decide) nmd_53 (by decide) (by decide) (Nat.le_of_ble_eq_true rfl) (Nat.le_of_ble_eq_true rfl) ?_
                intro a107 T107 h107 L107 X107 K107 S107
                show Run _ _ _ _ _ _ _ _ _ _ _ _ T107 (mkF m 55 #[.val (.int n)] [(.ref a107)])
                exact Run.retA X107 (t := (.object "java/lang/String")) rfl rfl rfl nmd_55 (Nat.le_of_ble_eq_true rfl) (Nat.le_of_ble_eq_true rfl) (⟨a107, rfl, by unfold namL; rw [if_neg e0]; rw [if_neg e1]; rw [if_neg e2]; rw [if_neg e3]; rw [if_neg e4]; rw [if_neg e5]; rw [if_pos e6]; exact S107⟩) (nofun)
              ·
                refine Run.via (fun _ => XS.icmpYes X0.at X0.ex rfl (pc0 := 50) (pc' := 56) rfl (X0.de nmd_50) rfl (feq e6).2 (by decide) (by decide)) ?_
                show Run _ _ _ _ _ _ _ _ _ _ _ _ T0 (mkF m 56 #[.val (.int n)] [])
                refine Run.via (fun _ => XS.iloadN X0.at X0.ex rfl (X0.de nmd_56) rfl) ?_
                show Run _ _ _ _ _ _ _ _ _ _ _ _ T0 (mkF m 57 #[.val (.int n)] [(.int n)])
                refine Run.via (fun _ => XS.bipush X0.at X0.ex rfl (X0.de nmd_57)) ?_
                show Run _ _ _ _ _ _ _ _ _ _ _ _ T0 (mkF m 59 #[.val (.int n)] [(.int (7 : Int32)), (.int n)])
                by_cases e7 : n = (7 : Int32)
                ·
                  refine Run.via (fun _ => XS.icmpNo X0.at X0.ex rfl (X0.de nmd_59) rfl (teq e7).2) ?_
                  show Run _ _ _ _ _ _ _ _ _ _ _ _ T0 (mkF m 62 #[.val (.int n)] [])
                  refine Run.ldcS hw hN X0 (cs := [(80 : Int32), (82 : Int32), (79 : Int32), (86 : Int32), (73 : Int32), (68 : Int32), (69 : Int32), (68 : Int32)]) (n := 32) (wd hw 76 rfl) (hm _ (by decide)) (by decide) (by decide) (by decide) nmd_62 (by decide) (by decide) (Nat.le_of_ble_eq_true rfl) (Nat.le_of_ble_eq_true rfl) ?_
                  intro a108 T108 h108 L108 X108 K108 S108
                  show Run _ _ _ _ _ _ _ _ _ _ _ _ T108 (mkF m 64 #[.val (.int n)] [(.ref a108)])
                  exact Run.retA X108 (t := (.object "java/lang/String")) rfl rfl rfl nmd_64 (Nat.le_of_ble_eq_true rfl) (Nat.le_of_ble_eq_true rfl) (⟨a108, rfl, by unfold namL; rw [if_neg e0]; rw [if_neg e1]; rw [if_neg e2]; rw [if_neg e3]; rw [if_neg e4]; rw [if_neg e5]; rw [if_neg e6]; rw [if_pos e7]; exact S108⟩) (nofun)
                ·
                  refine Run.via (fun _ => XS.icmpYes X0.at X0.ex rfl (pc0 := 59) (pc' := 65) rfl (X0.de nmd_59) rfl (feq e7).2 (by decide) (by decide)) ?_
                  show Run _ _ _ _ _ _ _ _ _ _ _ _ T0 (mkF m 65 #[.val (.int n)] [])
                  refine Run.via (fun _ => XS.iloadN X0.at X0.ex rfl (X0.de nmd_65) rfl) ?_
                  show Run _ _ _ _ _ _ _ _ _ _ _ _ T0 (mkF m 66 #[.val (.int n)] [(.int n)])
                  refine Run.via (fun _ => XS.bipush X0.at X0.ex rfl (X0.de nmd_66)) ?_
                  show Run _ _ _ _ _ _ _ _ _ _ _ _ T0 (mkF m 68 #[.val (.int n)] [(.int (8 : Int32)), (.int n)])
                  by_cases e8 : n = (8 : Int32)
                  ·
                    refine Run.via (fun _ => XS.icmpNo X0.at X0.ex rfl (X0.de nmd_68) rfl (teq e8).2) ?_
                    show Run _ _ _ _ _ _ _ _ _ _ _ _ T0 (mkF m 71 #[.val (.int n)] [])
                    refine Run.ldcS hw hN X0 (cs := [(116 : Int32), (101 : Int32), (115 : Int32)]) (n := 12) (wd hw 83 rfl) (hm _ (by decide)) (by decide) (by decide) (by decide) nmd_71 (by decide) (by decide) (Nat.le_of_ble_eq_true rfl) (Nat.le_of_ble_eq_true rfl) ?_
                    intro a109 T109 h109 L109 X109 K109 S109
                    show Run _ _ _ _ _ _ _ _ _ _ _ _ T109 (mkF m 73 #[.val (.int n)] [(.ref a109)])
                    exact Run.retA X109 (t := (.object "java/lang/String")) rfl rfl rfl nmd_73 (Nat.le_of_ble_eq_true rfl) (Nat.le_of_ble_eq_true rfl) (⟨a109, rfl, by unfold namL; rw [if_neg e0]; rw [if_neg e1]; rw [if_neg e2]; rw [if_neg e3]; rw [if_neg e4]; rw [if_neg e5]; rw [if_neg e6]; rw [if_neg e7]; rw [if_pos e8]; exact S109⟩) (nofun)
                  ·
                    refine Run.via (fun _ => XS.icmpYes X0.at X0.ex rfl (pc0 := 68) (pc' := 74) rfl (X0.de nmd_68) rfl (feq e8).2 (by decide) (by decide)) ?_
                    show Run _ _ _ _ _ _ _ _ _ _ _ _ T0 (mkF m 74 #[.val (.int n)] [])
                    refine Run.ldcS hw hN X0 (cs := [(112 : Int32), (114 : Int32), (111 : Int32), (118 : Int32), (105 : Int32), (100 : Int32), (101 : Int32)]) (n := 28) (wd hw 82 rfl) (hm _ (by decide)) (by decide) (by decide) (by decide) nmd_74 (by decide) (by decide) (Nat.le_of_ble_eq_true rfl) (Nat.le_of_ble_eq_true rfl) ?_
                    intro a110 T110 h110 L110 X110 K110 S110
                    show Run _ _ _ _ _ _ _ _ _ _ _ _ T110 (mkF m 76 #[.val (.int n)] [(.ref a110)])
                    exact Run.retA X110 (t := (.object "java/lang/String")) rfl rfl rfl nmd_76 (Nat.le_of_ble_eq_true rfl) (Nat.le_of_ble_eq_true rfl) (⟨a110, rfl, by unfold namL; rw [if_neg e0]; rw [if_neg e1]; rw [if_neg e2]; rw [if_neg e3]; rw [if_neg e4]; rw [if_neg e5]; rw [if_neg e6]; rw [if_neg e7]; rw [if_neg e8]; exact S110⟩) (nofun)
-- part con_law
set_option maxRecDepth 65536 in
set_option maxHeartbeats 40000000 in
theorem con_law (l : Launch) {Z : State} {a0 : Array Value} {EL : List (String × Nat)} {h0 : Heap} (hw : ∀ d ∈ tables_1, d.before a0 Z = true) (hS : Sets Z) (hN : NW = false) (hm1 : ("com/example/capstan_ledger/capstanledger/Scope", 9) ∈ EL) (hm2 : ("com/example/capstan_ledger/capstanledger/Scope", 17) ∈ EL) (hm : ∀ p ∈ ([("com/example/capstan_ledger/capstanledger/ScopeBroughtInPinLaw", 7), ("com/example/capstan_ledger/capstanledger/ScopeBroughtInPinLaw", 9), ("com/example/capstan_ledger/capstanledger/ScopeBroughtInPinLaw", 11), ("com/example/capstan_ledger/capstanledger/ScopeBroughtInPinLaw", 13), ("com/example/capstan_ledger/capstanledger/ScopeBroughtInPinLaw", 15), ("com/example/capstan_ledger/capstanledger/ScopeBroughtInPinLaw", 17), ("com/example/capstan_ledger/capstanledger/ScopeBroughtInPinLaw", 19), ("com/example/capstan_ledger/capstanledger/ScopeBroughtInPinLaw", 21), ("com/example/capstan_ledger/capstanledger/ScopeBroughtInPinLaw", 23), ("com/example/capstan_ledger/capstanledger/ScopeBroughtInPinLaw", 25)] : List (String × Nat)), p ∈ EL) {kind pos ch pk : Int32} (O : Ext Z.heap h0) : Con l Z a0 EL false x code maxLocals ret room_1 [] [] #[(.int kind), (.int pos), (.int ch), (.int pk)] h0 (fun v _ => v = some (.int 1)) := by
  refine Con.enter (plainFor_of_name (by first | (simp [plainName, overriddenIn]; done) | decide +kernel)) O ?_
  intro p e s m below meth c T0 X0
  rw [show entryFrame m #[(.int kind), (.int pos), (.int ch), (.int pk)] maxLocals = (mkF m 0 #[.val (.int kind), .val (.int pos), .val (.int ch), .val (.int pk), .unset, .unset, .unset, .unset, .unset, .unset, .unset] []) from by first | (simp [entryFrame, mkF, argsToLocals, Value.category, maxLocals]; done) | rfl]
  refine Run.via (fun _ => XS.iloadN X0.at X0.ex rfl (X0.de at_0) rfl) ?_
  show Run _ _ _ _ _ _ _ _ _ _ _ _ T0 (mkF m 1 #[.val (.int kind), .val (.int pos), .val (.int ch), .val (.int pk), .unset, .unset, .unset, .unset, .unset, .unset, .unset] [(.int kind)])
  refine Run.via (fun _ => XS.iconst X0.at X0.ex rfl (X0.de at_1)) ?_
  show Run _ _ _ _ _ _ _ _ _ _ _ _ T0 (mkF m 2 #[.val (.int kind), .val (.int pos), .val (.int ch), .val (.int pk), .unset, .unset, .unset, .unset, .unset, .unset, .unset] [(.int (3 : Int32)), (.int kind)])
  refine Run.via (fun _ => XS.iand X0.at X0.ex rfl (X0.de at_2) rfl) ?_
  show Run _ _ _ _ _ _ _ _ _ _ _ _ T0 (mkF m 3 #[.val (.int kind), .val (.int pos), .val (.int ch), .val (.int pk), .unset, .unset, .unset, .unset, .unset, .unset, .unset] [(.int (kind &&& (3 : Int32)))])
  refine Run.via (fun _ => XS.istore X0.at X0.ex rfl (X0.de at_3) rfl (l' := #[.val (.int kind), .val (.int pos), .val (.int ch), .val (.int pk), .val (.int (kind &&& (3 : Int32))), .unset, .unset, .unset, .unset, .unset, .unset]) rfl) ?_
  show Run _ _ _ _ _ _ _ _ _ _ _ _ T0 (mkF m 5 #[.val (.int kind), .val (.int pos), .val (.int ch), .val (.int pk), .val (.int (kind &&& (3 : Int32))), .unset, .unset, .unset, .unset, .unset, .unset] [])
  refine Run.via (fun _ => XS.iloadN X0.at X0.ex rfl (X0.de at_5) rfl) ?_
  show Run _ _ _ _ _ _ _ _ _ _ _ _ T0 (mkF m 6 #[.val (.int kind), .val (.int pos), .val (.int ch), .val (.int pk), .val (.int (kind &&& (3 : Int32))), .unset, .unset, .unset, .unset, .unset, .unset] [(.int kind)])
  refine Run.via (fun _ => XS.iconst X0.at X0.ex rfl (X0.de at_6)) ?_
  show Run _ _ _ _ _ _ _ _ _ _ _ _ T0 (mkF m 7 #[.val (.int kind), .val (.int pos), .val (.int ch), .val (.int pk), .val (.int (kind &&& (3 : Int32))), .unset, .unset, .unset, .unset, .unset, .unset] [(.int (2 : Int32)), (.int kind)])
  refine Run.via (fun _ => XS.iushr X0.at X0.ex rfl (X0.de at_7) rfl) ?_
  show Run _ _ _ _ _ _ _ _ _ _ _ _ T0 (mkF m 8 #[.val (.int kind), .val (.int pos), .val (.int ch), .val (.int pk), .val (.int (kind &&& (3 : Int32))), .unset, .unset, .unset, .unset, .unset, .unset] [(.int ((kind.toUInt32 >>> ((2 : Int32) &&& 31).toUInt32).toInt32))])
  refine Run.via (fun _ => XS.iconst X0.at X0.ex rfl (X0.de at_8)) ?_
  show Run _ _ _ _ _ _ _ _ _ _ _ _ T0 (mkF m 9 #[.val (.int kind), .val (.int pos), .val (.int ch), .val (.int pk), .val (.int (kind &&& (3 : Int32))), .unset, .unset, .unset, .unset, .unset, .unset] [(.int (1 : Int32)), (.int ((kind.toUInt32 >>> ((2 : Int32) &&& 31).toUInt32).toInt32))])
  refine Run.via (fun _ => XS.iand X0.at X0.ex rfl (X0.de at_9) rfl) ?_
  show Run _ _ _ _ _ _ _ _ _ _ _ _ T0 (mkF m 10 #[.val (.int kind), .val (.int pos), .val (.int ch), .val (.int pk), .val (.int (kind &&& (3 : Int32))), .unset, .unset, .unset, .unset, .unset, .unset] [(.int (((kind.toUInt32 >>> ((2 : Int32) &&& 31).toUInt32).toInt32) &&& (1 : Int32)))])
  have ho := O.1
  have J410 : ∀ (Tj : State) (hj : Heap) (Lq : List Loc) (zf : List Addr) (md sw d ex : Int32) (tx : Addr) (s9 s10 : Slot) (cs : List Int32), Sit Z a0 EL p l e room_1 s m #[(.int kind), (.int pos), (.int ch), (.int pk)] below meth c "com/example/capstan_ledger/capstanledger/ScopeBroughtInPinLaw" code maxLocals ret "law" h0 [] zf Tj hj Lq 20 400 → Str Z hj tx cs → ex = brought cs → Run Z EL false p e below s h0 [] (fun v _ => v = some (.int 1)) room_1.cells room_1.slots Tj (mkF m 410 #[.val (.int kind), .val (.int pos), .val (.int ch), .val (.int pk), .val (.int md), .val (.int sw), .val (.int d), .val (.ref tx), .val (.int ex), s9, s10] []) := by
    intro Tj hj Lq zf md sw d ex tx s9 s10 cs Xj S hex
    subst hex
    show Run _ _ _ _ _ _ _ _ _ _ _ _ Tj (mkF m 410 #[.val (.int kind), .val (.int pos), .val (.int ch), .val (.int pk), .val (.int md), .val (.int sw), .val (.int d), .val (.ref tx), .val (.int (brought cs)), s9, s10] [])
    refine Run.via (fun _ => XS.aload Xj.at Xj.ex rfl (Xj.de at_410) rfl rfl) ?_
    show Run _ _ _ _ _ _ _ _ _ _ _ _ Tj (mkF m 412 #[.val (.int kind), .val (.int pos), .val (.int ch), .val (.int pk), .val (.int md), .val (.int sw), .val (.int d), .val (.ref tx), .val (.int (brought cs)), s9, s10] [(.ref tx)])
    refine Run.callS Xj (y := (⟨"com/example/capstan_ledger/capstanledger/Scope", "broughtIn", "(Ljava/lang/String;)Z"⟩ : MethodName)) (W := 0) (con_bi l hw hS hN hm1 hm2 S Xj.old) (wd hw 30 rfl) (wd hw 31 rfl) (wd hw 32 rfl) (wd hw 33 rfl) (by decide) pd__Ljava_lang_String__Z rfl (argsL := [(.ref tx)]) (rest := []) rfl (Nat.le_of_ble_eq_true rfl) rfl at_412 (by decide) (by decide) (Nat.le_of_ble_eq_true rfl) (Nat.le_of_ble_eq_true rfl) (nofun) (nofun) ?_
    intro v101 T101 h101 L101 q101 X101 XF101 K101
    obtain rfl := q101
    show Run _ _ _ _ _ _ _ _ _ _ _ _ T101 (mkF m 415 #[.val (.int kind), .val (.int pos), .val (.int ch), .val (.int pk), .val (.int md), .val (.int sw), .val (.int d), .val (.ref tx), .val (.int (brought cs)), s9, s10] [(.int (brought cs))])
    refine Run.via (fun _ => XS.iload X101.at X101.ex rfl (X101.de at_415) rfl) ?_
    show Run _ _ _ _ _ _ _ _ _ _ _ _ T101 (mkF m 417 #[.val (.int kind), .val (.int pos), .val (.int ch), .val (.int pk), .val (.int md), .val (.int sw), .val (.int d), .val (.ref tx), .val (.int (brought cs)), s9, s10] [(.int (brought cs)), (.int (brought cs))])
    refine Run.via (fun _ => XS.icmpNo X101.at X101.ex rfl (X101.de at_417) rfl (teq (rfl : (brought cs) = (brought cs))).2) ?_
    show Run _ _ _ _ _ _ _ _ _ _ _ _ T101 (mkF m 420 #[.val (.int kind), .val (.int pos), .val (.int ch), .val (.int pk), .val (.int md), .val (.int sw), .val (.int d), .val (.ref tx), .val (.int (brought cs)), s9, s10] [])
    refine Run.via (fun _ => XS.iconst X101.at X101.ex rfl (X101.de at_420)) ?_
    show Run _ _ _ _ _ _ _ _ _ _ _ _ T101 (mkF m 421 #[.val (.int kind), .val (.int pos), .val (.int ch), .val (.int pk), .val (.int md), .val (.int sw), .val (.int d), .val (.ref tx), .val (.int (brought cs)), s9, s10] [(.int (1 : Int32))])
    refine Run.via (fun _ => XS.goto X101.at X101.ex rfl (pc0 := 421) (pc' := 425) rfl (X101.de at_421) (by decide) (by decide)) ?_
    show Run _ _ _ _ _ _ _ _ _ _ _ _ T101 (mkF m 425 #[.val (.int kind), .val (.int pos), .val (.int ch), .val (.int pk), .val (.int md), .val (.int sw), .val (.int d), .val (.ref tx), .val (.int (brought cs)), s9, s10] [(.int (1 : Int32))])
    exact Run.retN X101 (t := .boolean) rfl (by simp) at_425 (Nat.le_of_ble_eq_true rfl) (Nat.le_of_ble_eq_true rfl) (rfl)
  by_cases hsw : (((kind.toUInt32 >>> ((2 : Int32) &&& 31).toUInt32).toInt32) &&& (1 : Int32)) = (0 : Int32)
  ·
    refine Run.via (fun _ => XS.ifYes X0.at X0.ex rfl (pc0 := 10) (pc' := 17) rfl (X0.de at_10) rfl ((if0 _ _).trans (teq hsw).1) (by decide) (by decide)) ?_
    show Run _ _ _ _ _ _ _ _ _ _ _ _ T0 (mkF m 17 #[.val (.int kind), .val (.int pos), .val (.int ch), .val (.int pk), .val (.int (kind &&& (3 : Int32))), .unset, .unset, .unset, .unset, .unset, .unset] [])
    refine Run.via (fun _ => XS.iconst X0.at X0.ex rfl (X0.de at_17)) ?_
    show Run _ _ _ _ _ _ _ _ _ _ _ _ T0 (mkF m 18 #[.val (.int kind), .val (.int pos), .val (.int ch), .val (.int pk), .val (.int (kind &&& (3 : Int32))), .unset, .unset, .unset, .unset, .unset, .unset] [(.int (0 : Int32))])
    refine Run.via (fun _ => XS.istore X0.at X0.ex rfl (X0.de at_18) rfl (l' := #[.val (.int kind), .val (.int pos), .val (.int ch), .val (.int pk), .val (.int (kind &&& (3 : Int32))), .val (.int (0 : Int32)), .unset, .unset, .unset, .unset, .unset]) rfl) ?_
    show Run _ _ _ _ _ _ _ _ _ _ _ _ T0 (mkF m 20 #[.val (.int kind), .val (.int pos), .val (.int ch), .val (.int pk), .val (.int (kind &&& (3 : Int32))), .val (.int (0 : Int32)), .unset, .unset, .unset, .unset, .unset] [])
    refine Run.via (fun _ => XS.iloadN X0.at X0.ex rfl (X0.de at_20) rfl) ?_
    show Run _ _ _ _ _ _ _ _ _ _ _ _ T0 (mkF m 21 #[.val (.int kind), .val (.int pos), .val (.int ch), .val (.int pk), .val (.int (kind &&& (3 : Int32))), .val (.int (0 : Int32)), .unset, .unset, .unset, .unset, .unset] [(.int ch)])
    refine Run.via (fun _ => XS.sipush X0.at X0.ex rfl (X0.de at_21)) ?_
    show Run _ _ _ _ _ _ _ _ _ _ _ _ T0 (mkF m 24 #[.val (.int kind), .val (.int pos), .val (.int ch), .val (.int pk), .val (.int (kind &&& (3 : Int32))), .val (.int (0 : Int32)), .unset, .unset, .unset, .unset, .unset] [(.int (255 : Int32)), (.int ch)])
    refine Run.via (fun _ => XS.iand X0.at X0.ex rfl (X0.de at_24) rfl) ?_
    show Run _ _ _ _ _ _ _ _ _ _ _ _ T0 (mkF m 25 #[.val (.int kind), .val (.int pos), .val (.int ch), .val (.int pk), .val (.int (kind &&& (3 : Int32))), .val (.int (0 : Int32)), .unset, .unset, .unset, .unset, .unset] [(.int (ch &&& (255 : Int32)))])
    refine Run.via (fun _ => XS.i2c X0.at X0.ex rfl (X0.de at_25) rfl) ?_
    show Run _ _ _ _ _ _ _ _ _ _ _ _ T0 (mkF m 26 #[.val (.int kind), .val (.int pos), .val (.int ch), .val (.int pk), .val (.int (kind &&& (3 : Int32))), .val (.int (0 : Int32)), .unset, .unset, .unset, .unset, .unset] [(.int ((ch &&& (255 : Int32)).toUInt32.toUInt16.toUInt32.toInt32))])
    generalize hd : ((ch &&& (255 : Int32)).toUInt32.toUInt16.toUInt32.toInt32) = d
    have rd : ¬ d < 0 ∧ ¬ (255 : Int32) < d := by rw [← hd]; exact and255 _
    show Run _ _ _ _ _ _ _ _ _ _ _ _ T0 (mkF m 26 #[.val (.int kind), .val (.int pos), .val (.int ch), .val (.int pk), .val (.int (kind &&& (3 : Int32))), .val (.int (0 : Int32)), .unset, .unset, .unset, .unset, .unset] [(.int d)])
    refine Run.via (fun _ => XS.istore X0.at X0.ex rfl (X0.de at_26) rfl (l' := #[.val (.int kind), .val (.int pos), .val (.int ch), .val (.int pk), .val (.int (kind &&& (3 : Int32))), .val (.int (0 : Int32)), .val (.int d), .unset, .unset, .unset, .unset]) rfl) ?_
    show Run _ _ _ _ _ _ _ _ _ _ _ _ T0 (mkF m 28 #[.val (.int kind), .val (.int pos), .val (.int ch), .val (.int pk), .val (.int (kind &&& (3 : Int32))), .val (.int (0 : Int32)), .val (.int d), .unset, .unset, .unset, .unset] [])
    refine Run.via (fun _ => XS.iload X0.at X0.ex rfl (X0.de at_28) rfl) ?_
    show Run _ _ _ _ _ _ _ _ _ _ _ _ T0 (mkF m 30 #[.val (.int kind), .val (.int pos), .val (.int ch), .val (.int pk), .val (.int (kind &&& (3 : Int32))), .val (.int (0 : Int32)), .val (.int d), .unset, .unset, .unset, .unset] [(.int (kind &&& (3 : Int32)))])
    by_cases k0 : (kind &&& (3 : Int32)) = (0 : Int32)
    ·
      refine Run.via (fun _ => XS.ifNo X0.at X0.ex rfl (X0.de at_30) rfl ((if0 _ _).trans (teq k0).2)) ?_
      show Run _ _ _ _ _ _ _ _ _ _ _ _ T0 (mkF m 33 #[.val (.int kind), .val (.int pos), .val (.int ch), .val (.int pk), .val (.int (kind &&& (3 : Int32))), .val (.int (0 : Int32)), .val (.int d), .unset, .unset, .unset, .unset] [])
      refine Run.via (fun _ => XS.iloadN X0.at X0.ex rfl (X0.de at_33) rfl) ?_
      show Run _ _ _ _ _ _ _ _ _ _ _ _ T0 (mkF m 34 #[.val (.int kind), .val (.int pos), .val (.int ch), .val (.int pk), .val (.int (kind &&& (3 : Int32))), .val (.int (0 : Int32)), .val (.int d), .unset, .unset, .unset, .unset] [(.int pos)])
      refine Run.via (fun _ => XS.iconst X0.at X0.ex rfl (X0.de at_34)) ?_
      show Run _ _ _ _ _ _ _ _ _ _ _ _ T0 (mkF m 35 #[.val (.int kind), .val (.int pos), .val (.int ch), .val (.int pk), .val (.int (kind &&& (3 : Int32))), .val (.int (0 : Int32)), .val (.int d), .unset, .unset, .unset, .unset] [(.int (3 : Int32)), (.int pos)])
      refine Run.via (fun _ => XS.iand X0.at X0.ex rfl (X0.de at_35) rfl) ?_
      show Run _ _ _ _ _ _ _ _ _ _ _ _ T0 (mkF m 36 #[.val (.int kind), .val (.int pos), .val (.int ch), .val (.int pk), .val (.int (kind &&& (3 : Int32))), .val (.int (0 : Int32)), .val (.int d), .unset, .unset, .unset, .unset] [(.int (pos &&& (3 : Int32)))])
      refine Run.via (fun _ => XS.istore X0.at X0.ex rfl (X0.de at_36) rfl (l' := #[.val (.int kind), .val (.int pos), .val (.int ch), .val (.int pk), .val (.int (kind &&& (3 : Int32))), .val (.int (0 : Int32)), .val (.int d), .unset, .unset, .val (.int (pos &&& (3 : Int32))), .unset]) rfl) ?_
      show Run _ _ _ _ _ _ _ _ _ _ _ _ T0 (mkF m 38 #[.val (.int kind), .val (.int pos), .val (.int ch), .val (.int pk), .val (.int (kind &&& (3 : Int32))), .val (.int (0 : Int32)), .val (.int d), .unset, .unset, .val (.int (pos &&& (3 : Int32))), .unset] [])
      refine Run.via (fun _ => XS.iconst X0.at X0.ex rfl (X0.de at_38)) ?_
      show Run _ _ _ _ _ _ _ _ _ _ _ _ T0 (mkF m 39 #[.val (.int kind), .val (.int pos), .val (.int ch), .val (.int pk), .val (.int (kind &&& (3 : Int32))), .val (.int (0 : Int32)), .val (.int d), .unset, .unset, .val (.int (pos &&& (3 : Int32))), .unset] [(.int (4 : Int32))])
      obtain ⟨i, hi, hie⟩ := mask_4 pos
      rw [hie]
      show Run _ _ _ _ _ _ _ _ _ _ _ _ T0 (mkF m 39 #[.val (.int kind), .val (.int pos), .val (.int ch), .val (.int pk), .val (.int (kind &&& (3 : Int32))), .val (.int (0 : Int32)), .val (.int d), .unset, .unset, .val (.int (Int32.ofNat i)), .unset] [(.int (4 : Int32))])
      refine Run.newarr X0 (aty := .char) (n := 4) (cap := 4) (wd hw 0 rfl) rfl at_39 rfl (Nat.le_refl _) (by decide) (Nat.le_of_ble_eq_true rfl) (Nat.le_of_ble_eq_true rfl) ?_
      intro T102 h102 x102 g102 X102 K102 z102 A102
      have A102 : Arc .char Z h102 x102 [(0 : Int32), (0 : Int32), (0 : Int32), (0 : Int32)] := A102
      show Run _ _ _ _ _ _ _ _ _ _ _ _ T102 (mkF m 41 #[.val (.int kind), .val (.int pos), .val (.int ch), .val (.int pk), .val (.int (kind &&& (3 : Int32))), .val (.int (0 : Int32)), .val (.int d), .unset, .unset, .val (.int (Int32.ofNat i)), .unset] [(.ref x102)])
      refine Run.via (fun _ => XS.astore X102.at X102.ex rfl (X102.de at_41) rfl rfl (l' := #[.val (.int kind), .val (.int pos), .val (.int ch), .val (.int pk), .val (.int (kind &&& (3 : Int32))), .val (.int (0 : Int32)), .val (.int d), .unset, .unset, .val (.int (Int32.ofNat i)), .val (.ref x102)]) rfl) ?_
      show Run _ _ _ _ _ _ _ _ _ _ _ _ T102 (mkF m 43 #[.val (.int kind), .val (.int pos), .val (.int ch), .val (.int pk), .val (.int (kind &&& (3 : Int32))), .val (.int (0 : Int32)), .val (.int d), .unset, .unset, .val (.int (Int32.ofNat i)), .val (.ref x102)] [])
      refine Run.via (fun _ => XS.aload X102.at X102.ex rfl (X102.de at_43) rfl rfl) ?_
      show Run _ _ _ _ _ _ _ _ _ _ _ _ T102 (mkF m 45 #[.val (.int kind), .val (.int pos), .val (.int ch), .val (.int pk), .val (.int (kind &&& (3 : Int32))), .val (.int (0 : Int32)), .val (.int d), .unset, .unset, .val (.int (Int32.ofNat i)), .val (.ref x102)] [(.ref x102)])
      refine Run.via (fun _ => XS.iconst X102.at X102.ex rfl (X102.de at_45)) ?_
      show Run _ _ _ _ _ _ _ _ _ _ _ _ T102 (mkF m 46 #[.val (.int kind), .val (.int pos), .val (.int ch), .val (.int pk), .val (.int (kind &&& (3 : Int32))), .val (.int (0 : Int32)), .val (.int d), .unset, .unset, .val (.int (Int32.ofNat i)), .val (.ref x102)] [(.int (0 : Int32)), (.ref x102)])
      refine Run.via (fun _ => XS.bipush X102.at X102.ex rfl (X102.de at_46)) ?_
      show Run _ _ _ _ _ _ _ _ _ _ _ _ T102 (mkF m 48 #[.val (.int kind), .val (.int pos), .val (.int ch), .val (.int pk), .val (.int (kind &&& (3 : Int32))), .val (.int (0 : Int32)), .val (.int d), .unset, .unset, .val (.int (Int32.ofNat i)), .val (.ref x102)] [(.int (116 : Int32)), (.int (0 : Int32)), (.ref x102)])
      refine Run.castore X102 (i := 0) (v' := (116 : Int32)) A102 rfl (Nat.le_of_ble_eq_true rfl) rfl (Or.inr (by omega)) (by omega) at_48 ?_
      intro T103 h103 L103 X103 K103 z103 A103
      have A103 : Arc .char Z h103 x102 [(116 : Int32), (0 : Int32), (0 : Int32), (0 : Int32)] := A103
      show Run _ _ _ _ _ _ _ _ _ _ _ _ T103 (mkF m 49 #[.val (.int kind), .val (.int pos), .val (.int ch), .val (.int pk), .val (.int (kind &&& (3 : Int32))), .val (.int (0 : Int32)), .val (.int d), .unset, .unset, .val (.int (Int32.ofNat i)), .val (.ref x102)] [])
      refine Run.via (fun _ => XS.aload X103.at X103.ex rfl (X103.de at_49) rfl rfl) ?_
      show Run _ _ _ _ _ _ _ _ _ _ _ _ T103 (mkF m 51 #[.val (.int kind), .val (.int pos), .val (.int ch), .val (.int pk), .val (.int (kind &&& (3 : Int32))), .val (.int (0 : Int32)), .val (.int d), .unset, .unset, .val (.int (Int32.ofNat i)), .val (.ref x102)] [(.ref x102)])
      refine Run.via (fun _ => XS.iconst X103.at X103.ex rfl (X103.de at_51)) ?_
      show Run _ _ _ _ _ _ _ _ _ _ _ _ T103 (mkF m 52 #[.val (.int kind), .val (.int pos), .val (.int ch), .val (.int pk), .val (.int (kind &&& (3 : Int32))), .val (.int (0 : Int32)), .val (.int d), .unset, .unset, .val (.int (Int32.ofNat i)), .val (.ref x102)] [(.int (1 : Int32)), (.ref x102)])
      refine Run.via (fun _ => XS.bipush X103.at X103.ex rfl (X103.de at_52)) ?_
      show Run _ _ _ _ _ _ _ _ _ _ _ _ T103 (mkF m 54 #[.val (.int kind), .val (.int pos), .val (.int ch), .val (.int pk), .val (.int (kind &&& (3 : Int32))), .val (.int (0 : Int32)), .val (.int d), .unset, .unset, .val (.int (Int32.ofNat i)), .val (.ref x102)] [(.int (101 : Int32)), (.int (1 : Int32)), (.ref x102)])
      refine Run.castore X103 (i := 1) (v' := (101 : Int32)) A103 rfl (Nat.le_of_ble_eq_true rfl) rfl (Or.inr (by omega)) (by omega) at_54 ?_
      intro T104 h104 L104 X104 K104 z104 A104
      have A104 : Arc .char Z h104 x102 [(116 : Int32), (101 : Int32), (0 : Int32), (0 : Int32)] := A104
      show Run _ _ _ _ _ _ _ _ _ _ _ _ T104 (mkF m 55 #[.val (.int kind), .val (.int pos), .val (.int ch), .val (.int pk), .val (.int (kind &&& (3 : Int32))), .val (.int (0 : Int32)), .val (.int d), .unset, .unset, .val (.int (Int32.ofNat i)), .val (.ref x102)] [])
      refine Run.via (fun _ => XS.aload X104.at X104.ex rfl (X104.de at_55) rfl rfl) ?_
      show Run _ _ _ _ _ _ _ _ _ _ _ _ T104 (mkF m 57 #[.val (.int kind), .val (.int pos), .val (.int ch), .val (.int pk), .val (.int (kind &&& (3 : Int32))), .val (.int (0 : Int32)), .val (.int d), .unset, .unset, .val (.int (Int32.ofNat i)), .val (.ref x102)] [(.ref x102)])
      refine Run.via (fun _ => XS.iconst X104.at X104.ex rfl (X104.de at_57)) ?_
      show Run _ _ _ _ _ _ _ _ _ _ _ _ T104 (mkF m 58 #[.val (.int kind), .val (.int pos), .val (.int ch), .val (.int pk), .val (.int (kind &&& (3 : Int32))), .val (.int (0 : Int32)), .val (.int d), .unset, .unset, .val (.int (Int32.ofNat i)), .val (.ref x102)] [(.int (2 : Int32)), (.ref x102)])
      refine Run.via (fun _ => XS.bipush X104.at X104.ex rfl (X104.de at_58)) ?_
      show Run _ _ _ _ _ _ _ _ _ _ _ _ T104 (mkF m 60 #[.val (.int kind), .val (.int pos), .val (.int ch), .val (.int pk), .val (.int (kind &&& (3 : Int32))), .val (.int (0 : Int32)), .val (.int d), .unset, .unset, .val (.int (Int32.ofNat i)), .val (.ref x102)] [(.int (115 : Int32)), (.int (2 : Int32)), (.ref x102)])
      refine Run.castore X104 (i := 2) (v' := (115 : Int32)) A104 rfl (Nat.le_of_ble_eq_true rfl) rfl (Or.inr (by omega)) (by omega) at_60 ?_
      intro T105 h105 L105 X105 K105 z105 A105
      have A105 : Arc .char Z h105 x102 [(116 : Int32), (101 : Int32), (115 : Int32), (0 : Int32)] := A105
      show Run _ _ _ _ _ _ _ _ _ _ _ _ T105 (mkF m 61 #[.val (.int kind), .val (.int pos), .val (.int ch), .val (.int pk), .val (.int (kind &&& (3 : Int32))), .val (.int (0 : Int32)), .val (.int d), .unset, .unset, .val (.int (Int32.ofNat i)), .val (.ref x102)] [])
      refine Run.via (fun _ => XS.aload X105.at X105.ex rfl (X105.de at_61) rfl rfl) ?_
      show Run _ _ _ _ _ _ _ _ _ _ _ _ T105 (mkF m 63 #[.val (.int kind), .val (.int pos), .val (.int ch), .val (.int pk), .val (.int (kind &&& (3 : Int32))), .val (.int (0 : Int32)), .val (.int d), .unset, .unset, .val (.int (Int32.ofNat i)), .val (.ref x102)] [(.ref x102)])
      refine Run.via (fun _ => XS.iconst X105.at X105.ex rfl (X105.de at_63)) ?_
      show Run _ _ _ _ _ _ _ _ _ _ _ _ T105 (mkF m 64 #[.val (.int kind), .val (.int pos), .val (.int ch), .val (.int pk), .val (.int (kind &&& (3 : Int32))), .val (.int (0 : Int32)), .val (.int d), .unset, .unset, .val (.int (Int32.ofNat i)), .val (.ref x102)] [(.int (3 : Int32)), (.ref x102)])
      refine Run.via (fun _ => XS.bipush X105.at X105.ex rfl (X105.de at_64)) ?_
      show Run _ _ _ _ _ _ _ _ _ _ _ _ T105 (mkF m 66 #[.val (.int kind), .val (.int pos), .val (.int ch), .val (.int pk), .val (.int (kind &&& (3 : Int32))), .val (.int (0 : Int32)), .val (.int d), .unset, .unset, .val (.int (Int32.ofNat i)), .val (.ref x102)] [(.int (116 : Int32)), (.int (3 : Int32)), (.ref x102)])
      refine Run.castore X105 (i := 3) (v' := (116 : Int32)) A105 rfl (Nat.le_of_ble_eq_true rfl) rfl (Or.inr (by omega)) (by omega) at_66 ?_
      intro T106 h106 L106 X106 K106 z106 A106
      have A106 : Arc .char Z h106 x102 [(116 : Int32), (101 : Int32), (115 : Int32), (116 : Int32)] := A106
      show Run _ _ _ _ _ _ _ _ _ _ _ _ T106 (mkF m 67 #[.val (.int kind), .val (.int pos), .val (.int ch), .val (.int pk), .val (.int (kind &&& (3 : Int32))), .val (.int (0 : Int32)), .val (.int d), .unset, .unset, .val (.int (Int32.ofNat i)), .val (.ref x102)] [])
      have A0 : Arc .char Z h106 x102 testL := A106
      refine Run.via (fun _ => XS.iload X106.at X106.ex rfl (X106.de at_67) rfl) ?_
      show Run _ _ _ _ _ _ _ _ _ _ _ _ T106 (mkF m 69 #[.val (.int kind), .val (.int pos), .val (.int ch), .val (.int pk), .val (.int (kind &&& (3 : Int32))), .val (.int (0 : Int32)), .val (.int d), .unset, .unset, .val (.int (Int32.ofNat i)), .val (.ref x102)] [(.int (0 : Int32))])
      refine Run.via (fun _ => XS.ifYes X106.at X106.ex rfl (pc0 := 69) (pc' := 79) rfl (X106.de at_69) rfl ((if0 _ _).trans (teq (by decide : ((0 : Int32) = (0 : Int32)))).1) (by decide) (by decide)) ?_
      show Run _ _ _ _ _ _ _ _ _ _ _ _ T106 (mkF m 79 #[.val (.int kind), .val (.int pos), .val (.int ch), .val (.int pk), .val (.int (kind &&& (3 : Int32))), .val (.int (0 : Int32)), .val (.int d), .unset, .unset, .val (.int (Int32.ofNat i)), .val (.ref x102)] [])
      have u107 := X106.kp.1
      refine Run.new X106 (wd hw 1 rfl) (wd hw 2 rfl) (wd hw 3 rfl) at_79 (Nat.le_of_ble_eq_true rfl) (Nat.le_of_ble_eq_true rfl) ?_
      intro T108 h108 x108 g108 X108 K108 z108 E108 D108
      show Run _ _ _ _ _ _ _ _ _ _ _ _ T108 (mkF m 82 #[.val (.int kind), .val (.int pos), .val (.int ch), .val (.int pk), .val (.int (kind &&& (3 : Int32))), .val (.int (0 : Int32)), .val (.int d), .unset, .unset, .val (.int (Int32.ofNat i)), .val (.ref x102)] [(.ref x108)])
      have s108 := K108.1
      have A108x := A0.keep K108 nin0
      have G108 : Raw Z h108 x108 := ⟨E108, D108 (Or.inr (wd hw 29 rfl)) (ty := (.array .byte)) (by decide), D108 (Or.inr (wd hw 27 rfl)) (ty := .byte) (by decide)⟩
      refine Run.via (fun _ => XS.dup X108.at X108.ex rfl (X108.de at_82) rfl rfl) ?_
      show Run _ _ _ _ _ _ _ _ _ _ _ _ T108 (mkF m 83 #[.val (.int kind), .val (.int pos), .val (.int ch), .val (.int pk), .val (.int (kind &&& (3 : Int32))), .val (.int (0 : Int32)), .val (.int d), .unset, .unset, .val (.int (Int32.ofNat i)), .val (.ref x102)] [(.ref x108), (.ref x108)])
      refine Run.via (fun _ => XS.aload X108.at X108.ex rfl (X108.de at_83) rfl rfl) ?_
      show Run _ _ _ _ _ _ _ _ _ _ _ _ T108 (mkF m 85 #[.val (.int kind), .val (.int pos), .val (.int ch), .val (.int pk), .val (.int (kind &&& (3 : Int32))), .val (.int (0 : Int32)), .val (.int d), .unset, .unset, .val (.int (Int32.ofNat i)), .val (.ref x102)] [(.ref x102), (.ref x108), (.ref x108)])
      refine Run.initStr hw hS X108 (cs := testL) (W := 1) G108 A108x (by decide) (by simp [testL, provL]) (wd hw 4 rfl) (wd hw 5 rfl) (wd hw 2 rfl) at_85 rfl (Or.inr (by omega)) (by omega) (by simp) (Nat.le_of_ble_eq_true rfl) (by decide) (by decide) (Nat.le_of_ble_eq_true rfl) (by show _ ≤ 12480; simp [testL, provL]) ?_
      intro T109 h109 L109 X109 K109 S109
      have X109 := X109.mono (k := 10) (n := 60) (Nat.le_of_ble_eq_true rfl) (by simp [testL, provL])
      show Run _ _ _ _ _ _ _ _ _ _ _ _ T109 (mkF m 88 #[.val (.int kind), .val (.int pos), .val (.int ch), .val (.int pk), .val (.int (kind &&& (3 : Int32))), .val (.int (0 : Int32)), .val (.int d), .unset, .unset, .val (.int (Int32.ofNat i)), .val (.ref x102)] [(.ref x108)])
      refine Run.via (fun _ => XS.astore X109.at X109.ex rfl (X109.de at_88) rfl rfl (l' := #[.val (.int kind), .val (.int pos), .val (.int ch), .val (.int pk), .val (.int (kind &&& (3 : Int32))), .val (.int (0 : Int32)), .val (.int d), .val (.ref x108), .unset, .val (.int (Int32.ofNat i)), .val (.ref x102)]) rfl) ?_
      show Run _ _ _ _ _ _ _ _ _ _ _ _ T109 (mkF m 90 #[.val (.int kind), .val (.int pos), .val (.int ch), .val (.int pk), .val (.int (kind &&& (3 : Int32))), .val (.int (0 : Int32)), .val (.int d), .val (.ref x108), .unset, .val (.int (Int32.ofNat i)), .val (.ref x102)] [])
      refine Run.via (fun _ => XS.iload X109.at X109.ex rfl (X109.de at_90) rfl) ?_
      show Run _ _ _ _ _ _ _ _ _ _ _ _ T109 (mkF m 92 #[.val (.int kind), .val (.int pos), .val (.int ch), .val (.int pk), .val (.int (kind &&& (3 : Int32))), .val (.int (0 : Int32)), .val (.int d), .val (.ref x108), .unset, .val (.int (Int32.ofNat i)), .val (.ref x102)] [(.int (0 : Int32))])
      refine Run.via (fun _ => XS.ifYes X109.at X109.ex rfl (pc0 := 92) (pc' := 111) rfl (X109.de at_92) rfl ((if0 _ _).trans (teq (by decide : ((0 : Int32) = (0 : Int32)))).1) (by decide) (by decide)) ?_
      show Run _ _ _ _ _ _ _ _ _ _ _ _ T109 (mkF m 111 #[.val (.int kind), .val (.int pos), .val (.int ch), .val (.int pk), .val (.int (kind &&& (3 : Int32))), .val (.int (0 : Int32)), .val (.int d), .val (.ref x108), .unset, .val (.int (Int32.ofNat i)), .val (.ref x102)] [])
      refine Run.via (fun _ => XS.iconst X109.at X109.ex rfl (X109.de at_111)) ?_
      show Run _ _ _ _ _ _ _ _ _ _ _ _ T109 (mkF m 112 #[.val (.int kind), .val (.int pos), .val (.int ch), .val (.int pk), .val (.int (kind &&& (3 : Int32))), .val (.int (0 : Int32)), .val (.int d), .val (.ref x108), .unset, .val (.int (Int32.ofNat i)), .val (.ref x102)] [(.int (0 : Int32))])
      refine Run.via (fun _ => XS.istore X109.at X109.ex rfl (X109.de at_112) rfl (l' := #[.val (.int kind), .val (.int pos), .val (.int ch), .val (.int pk), .val (.int (kind &&& (3 : Int32))), .val (.int (0 : Int32)), .val (.int d), .val (.ref x108), .val (.int (0 : Int32)), .val (.int (Int32.ofNat i)), .val (.ref x102)]) rfl) ?_
      show Run _ _ _ _ _ _ _ _ _ _ _ _ T109 (mkF m 114 #[.val (.int kind), .val (.int pos), .val (.int ch), .val (.int pk), .val (.int (kind &&& (3 : Int32))), .val (.int (0 : Int32)), .val (.int d), .val (.ref x108), .val (.int (0 : Int32)), .val (.int (Int32.ofNat i)), .val (.ref x102)] [])
      refine Run.via (fun _ => XS.goto X109.at X109.ex rfl (pc0 := 114) (pc' := 410) rfl (X109.de at_114) (by decide) (by decide)) ?_
      show Run _ _ _ _ _ _ _ _ _ _ _ _ T109 (mkF m 410 #[.val (.int kind), .val (.int pos), .val (.int ch), .val (.int pk), .val (.int (kind &&& (3 : Int32))), .val (.int (0 : Int32)), .val (.int d), .val (.ref x108), .val (.int (0 : Int32)), .val (.int (Int32.ofNat i)), .val (.ref x102)] [])
      exact J410 _ _ _ _ _ _ _ _ _ _ _ _ (X109.mono (by decide) (by decide)) S109 (by decide)
    ·
      refine Run.via (fun _ => XS.ifYes X0.at X0.ex rfl (pc0 := 30) (pc' := 117) rfl (X0.de at_30) rfl ((if0 _ _).trans (feq k0).2) (by decide) (by decide)) ?_
      show Run _ _ _ _ _ _ _ _ _ _ _ _ T0 (mkF m 117 #[.val (.int kind), .val (.int pos), .val (.int ch), .val (.int pk), .val (.int (kind &&& (3 : Int32))), .val (.int (0 : Int32)), .val (.int d), .unset, .unset, .unset, .unset] [])
      refine Run.via (fun _ => XS.iload X0.at X0.ex rfl (X0.de at_117) rfl) ?_
      show Run _ _ _ _ _ _ _ _ _ _ _ _ T0 (mkF m 119 #[.val (.int kind), .val (.int pos), .val (.int ch), .val (.int pk), .val (.int (kind &&& (3 : Int32))), .val (.int (0 : Int32)), .val (.int d), .unset, .unset, .unset, .unset] [(.int (kind &&& (3 : Int32)))])
      refine Run.via (fun _ => XS.iconst X0.at X0.ex rfl (X0.de at_119)) ?_
      show Run _ _ _ _ _ _ _ _ _ _ _ _ T0 (mkF m 120 #[.val (.int kind), .val (.int pos), .val (.int ch), .val (.int pk), .val (.int (kind &&& (3 : Int32))), .val (.int (0 : Int32)), .val (.int d), .unset, .unset, .unset, .unset] [(.int (1 : Int32)), (.int (kind &&& (3 : Int32)))])
      by_cases k1 : (kind &&& (3 : Int32)) = (1 : Int32)
      ·
        refine Run.via (fun _ => XS.icmpNo X0.at X0.ex rfl (X0.de at_120) rfl (teq k1).2) ?_
        show Run _ _ _ _ _ _ _ _ _ _ _ _ T0 (mkF m 123 #[.val (.int kind), .val (.int pos), .val (.int ch), .val (.int pk), .val (.int (kind &&& (3 : Int32))), .val (.int (0 : Int32)), .val (.int d), .unset, .unset, .unset, .unset] [])
        refine Run.via (fun _ => XS.iloadN X0.at X0.ex rfl (X0.de at_123) rfl) ?_
        show Run _ _ _ _ _ _ _ _ _ _ _ _ T0 (mkF m 124 #[.val (.int kind), .val (.int pos), .val (.int ch), .val (.int pk), .val (.int (kind &&& (3 : Int32))), .val (.int (0 : Int32)), .val (.int d), .unset, .unset, .unset, .unset] [(.int pos)])
        refine Run.via (fun _ => XS.bipush X0.at X0.ex rfl (X0.de at_124)) ?_
        show Run _ _ _ _ _ _ _ _ _ _ _ _ T0 (mkF m 126 #[.val (.int kind), .val (.int pos), .val (.int ch), .val (.int pk), .val (.int (kind &&& (3 : Int32))), .val (.int (0 : Int32)), .val (.int d), .unset, .unset, .unset, .unset] [(.int (7 : Int32)), (.int pos)])
        refine Run.via (fun _ => XS.iand X0.at X0.ex rfl (X0.de at_126) rfl) ?_
        show Run _ _ _ _ _ _ _ _ _ _ _ _ T0 (mkF m 127 #[.val (.int kind), .val (.int pos), .val (.int ch), .val (.int pk), .val (.int (kind &&& (3 : Int32))), .val (.int (0 : Int32)), .val (.int d), .unset, .unset, .unset, .unset] [(.int (pos &&& (7 : Int32)))])
        refine Run.via (fun _ => XS.istore X0.at X0.ex rfl (X0.de at_127) rfl (l' := #[.val (.int kind), .val (.int pos), .val (.int ch), .val (.int pk), .val (.int (kind &&& (3 : Int32))), .val (.int (0 : Int32)), .val (.int d), .unset, .unset, .val (.int (pos &&& (7 : Int32))), .unset]) rfl) ?_
        show Run _ _ _ _ _ _ _ _ _ _ _ _ T0 (mkF m 129 #[.val (.int kind), .val (.int pos), .val (.int ch), .val (.int pk), .val (.int (kind &&& (3 : Int32))), .val (.int (0 : Int32)), .val (.int d), .unset, .unset, .val (.int (pos &&& (7 : Int32))), .unset] [])
        refine Run.via (fun _ => XS.bipush X0.at X0.ex rfl (X0.de at_129)) ?_
        show Run _ _ _ _ _ _ _ _ _ _ _ _ T0 (mkF m 131 #[.val (.int kind), .val (.int pos), .val (.int ch), .val (.int pk), .val (.int (kind &&& (3 : Int32))), .val (.int (0 : Int32)), .val (.int d), .unset, .unset, .val (.int (pos &&& (7 : Int32))), .unset] [(.int (8 : Int32))])
        obtain ⟨i, hi, hie⟩ := mask_8 pos
        rw [hie]
        show Run _ _ _ _ _ _ _ _ _ _ _ _ T0 (mkF m 131 #[.val (.int kind), .val (.int pos), .val (.int ch), .val (.int pk), .val (.int (kind &&& (3 : Int32))), .val (.int (0 : Int32)), .val (.int d), .unset, .unset, .val (.int (Int32.ofNat i)), .unset] [(.int (8 : Int32))])
        refine Run.newarr X0 (aty := .char) (n := 8) (cap := 8) (wd hw 0 rfl) rfl at_131 rfl (Nat.le_refl _) (by decide) (Nat.le_of_ble_eq_true rfl) (Nat.le_of_ble_eq_true rfl) ?_
        intro T110 h110 x110 g110 X110 K110 z110 A110
        have A110 : Arc .char Z h110 x110 [(0 : Int32), (0 : Int32), (0 : Int32), (0 : Int32), (0 : Int32), (0 : Int32), (0 : Int32), (0 : Int32)] := A110
        show Run _ _ _ _ _ _ _ _ _ _ _ _ T110 (mkF m 133 #[.val (.int kind), .val (.int pos), .val (.int ch), .val (.int pk), .val (.int (kind &&& (3 : Int32))), .val (.int (0 : Int32)), .val (.int d), .unset, .unset, .val (.int (Int32.ofNat i)), .unset] [(.ref x110)])
        refine Run.via (fun _ => XS.astore X110.at X110.ex rfl (X110.de at_133) rfl rfl (l' := #[.val (.int kind), .val (.int pos), .val (.int ch), .val (.int pk), .val (.int (kind &&& (3 : Int32))), .val (.int (0 : Int32)), .val (.int d), .unset, .unset, .val (.int (Int32.ofNat i)), .val (.ref x110)]) rfl) ?_
        show Run _ _ _ _ _ _ _ _ _ _ _ _ T110 (mkF m 135 #[.val (.int kind), .val (.int pos), .val (.int ch), .val (.int pk), .val (.int (kind &&& (3 : Int32))), .val (.int (0 : Int32)), .val (.int d), .unset, .unset, .val (.int (Int32.ofNat i)), .val (.ref x110)] [])
        refine Run.via (fun _ => XS.aload X110.at X110.ex rfl (X110.de at_135) rfl rfl) ?_
        show Run _ _ _ _ _ _ _ _ _ _ _ _ T110 (mkF m 137 #[.val (.int kind), .val (.int pos), .val (.int ch), .val (.int pk), .val (.int (kind &&& (3 : Int32))), .val (.int (0 : Int32)), .val (.int d), .unset, .unset, .val (.int (Int32.ofNat i)), .val (.ref x110)] [(.ref x110)])
        refine Run.via (fun _ => XS.iconst X110.at X110.ex rfl (X110.de at_137)) ?_
        show Run _ _ _ _ _ _ _ _ _ _ _ _ T110 (mkF m 138 #[.val (.int kind), .val (.int pos), .val (.int ch), .val (.int pk), .val (.int (kind &&& (3 : Int32))), .val (.int (0 : Int32)), .val (.int d), .unset, .unset, .val (.int (Int32.ofNat i)), .val (.ref x110)] [(.int (0 : Int32)), (.ref x110)])
        refine Run.via (fun _ => XS.bipush X110.at X110.ex rfl (X110.de at_138)) ?_
        show Run _ _ _ _ _ _ _ _ _ _ _ _ T110 (mkF m 140 #[.val (.int kind), .val (.int pos), .val (.int ch), .val (.int pk), .val (.int (kind &&& (3 : Int32))), .val (.int (0 : Int32)), .val (.int d), .unset, .unset, .val (.int (Int32.ofNat i)), .val (.ref x110)] [(.int (112 : Int32)), (.int (0 : Int32)), (.ref x110)])
        refine Run.castore X110 (i := 0) (v' := (112 : Int32)) A110 rfl (Nat.le_of_ble_eq_true rfl) rfl (Or.inr (by omega)) (by omega) at_140 ?_
        intro T111 h111 L111 X111 K111 z111 A111
        have A111 : Arc .char Z h111 x110 [(112 : Int32), (0 : Int32), (0 : Int32), (0 : Int32), (0 : Int32), (0 : Int32), (0 : Int32), (0 : Int32)] := A111
        show Run _ _ _ _ _ _ _ _ _ _ _ _ T111 (mkF m 141 #[.val (.int kind), .val (.int pos), .val (.int ch), .val (.int pk), .val (.int (kind &&& (3 : Int32))), .val (.int (0 : Int32)), .val (.int d), .unset, .unset, .val (.int (Int32.ofNat i)), .val (.ref x110)] [])
        refine Run.via (fun _ => XS.aload X111.at X111.ex rfl (X111.de at_141) rfl rfl) ?_
        show Run _ _ _ _ _ _ _ _ _ _ _ _ T111 (mkF m 143 #[.val (.int kind), .val (.int pos), .val (.int ch), .val (.int pk), .val (.int (kind &&& (3 : Int32))), .val (.int (0 : Int32)), .val (.int d), .unset, .unset, .val (.int (Int32.ofNat i)), .val (.ref x110)] [(.ref x110)])
        refine Run.via (fun _ => XS.iconst X111.at X111.ex rfl (X111.de at_143)) ?_
        show Run _ _ _ _ _ _ _ _ _ _ _ _ T111 (mkF m 144 #[.val (.int kind), .val (.int pos), .val (.int ch), .val (.int pk), .val (.int (kind &&& (3 : Int32))), .val (.int (0 : Int32)), .val (.int d), .unset, .unset, .val (.int (Int32.ofNat i)), .val (.ref x110)] [(.int (1 : Int32)), (.ref x110)])
        refine Run.via (fun _ => XS.bipush X111.at X111.ex rfl (X111.de at_144)) ?_
        show Run _ _ _ _ _ _ _ _ _ _ _ _ T111 (mkF m 146 #[.val (.int kind), .val (.int pos), .val (.int ch), .val (.int pk), .val (.int (kind &&& (3 : Int32))), .val (.int (0 : Int32)), .val (.int d), .unset, .unset, .val (.int (Int32.ofNat i)), .val (.ref x110)] [(.int (114 : Int32)), (.int (1 : Int32)), (.ref x110)])
        refine Run.castore X111 (i := 1) (v' := (114 : Int32)) A111 rfl (Nat.le_of_ble_eq_true rfl) rfl (Or.inr (by omega)) (by omega) at_146 ?_
        intro T112 h112 L112 X112 K112 z112 A112
        have A112 : Arc .char Z h112 x110 [(112 : Int32), (114 : Int32), (0 : Int32), (0 : Int32), (0 : Int32), (0 : Int32), (0 : Int32), (0 : Int32)] := A112
        show Run _ _ _ _ _ _ _ _ _ _ _ _ T112 (mkF m 147 #[.val (.int kind), .val (.int pos), .val (.int ch), .val (.int pk), .val (.int (kind &&& (3 : Int32))), .val (.int (0 : Int32)), .val (.int d), .unset, .unset, .val (.int (Int32.ofNat i)), .val (.ref x110)] [])
        refine Run.via (fun _ => XS.aload X112.at X112.ex rfl (X112.de at_147) rfl rfl) ?_
        show Run _ _ _ _ _ _ _ _ _ _ _ _ T112 (mkF m 149 #[.val (.int kind), .val (.int pos), .val (.int ch), .val (.int pk), .val (.int (kind &&& (3 : Int32))), .val (.int (0 : Int32)), .val (.int d), .unset, .unset, .val (.int (Int32.ofNat i)), .val (.ref x110)] [(.ref x110)])
        refine Run.via (fun _ => XS.iconst X112.at X112.ex rfl (X112.de at_149)) ?_
        show Run _ _ _ _ _ _ _ _ _ _ _ _ T112 (mkF m 150 #[.val (.int kind), .val (.int pos), .val (.int ch), .val (.int pk), .val (.int (kind &&& (3 : Int32))), .val (.int (0 : Int32)), .val (.int d), .unset, .unset, .val (.int (Int32.ofNat i)), .val (.ref x110)] [(.int (2 : Int32)), (.ref x110)])
        refine Run.via (fun _ => XS.bipush X112.at X112.ex rfl (X112.de at_150)) ?_
        show Run _ _ _ _ _ _ _ _ _ _ _ _ T112 (mkF m 152 #[.val (.int kind), .val (.int pos), .val (.int ch), .val (.int pk), .val (.int (kind &&& (3 : Int32))), .val (.int (0 : Int32)), .val (.int d), .unset, .unset, .val (.int (Int32.ofNat i)), .val (.ref x110)] [(.int (111 : Int32)), (.int (2 : Int32)), (.ref x110)])
        refine Run.castore X112 (i := 2) (v' := (111 : Int32)) A112 rfl (Nat.le_of_ble_eq_true rfl) rfl (Or.inr (by omega)) (by omega) at_152 ?_
        intro T113 h113 L113 X113 K113 z113 A113
        have A113 : Arc .char Z h113 x110 [(112 : Int32), (114 : Int32), (111 : Int32), (0 : Int32), (0 : Int32), (0 : Int32), (0 : Int32), (0 : Int32)] := A113
        show Run _ _ _ _ _ _ _ _ _ _ _ _ T113 (mkF m 153 #[.val (.int kind), .val (.int pos), .val (.int ch), .val (.int pk), .val (.int (kind &&& (3 : Int32))), .val (.int (0 : Int32)), .val (.int d), .unset, .unset, .val (.int (Int32.ofNat i)), .val (.ref x110)] [])
        refine Run.via (fun _ => XS.aload X113.at X113.ex rfl (X113.de at_153) rfl rfl) ?_
        show Run _ _ _ _ _ _ _ _ _ _ _ _ T113 (mkF m 155 #[.val (.int kind), .val (.int pos), .val (.int ch), .val (.int pk), .val (.int (kind &&& (3 : Int32))), .val (.int (0 : Int32)), .val (.int d), .unset, .unset, .val (.int (Int32.ofNat i)), .val (.ref x110)] [(.ref x110)])
        refine Run.via (fun _ => XS.iconst X113.at X113.ex rfl (X113.de at_155)) ?_
        show Run _ _ _ _ _ _ _ _ _ _ _ _ T113 (mkF m 156 #[.val (.int kind), .val (.int pos), .val (.int ch), .val (.int pk), .val (.int (kind &&& (3 : Int32))), .val (.int (0 : Int32)), .val (.int d), .unset, .unset, .val (.int (Int32.ofNat i)), .val (.ref x110)] [(.int (3 : Int32)), (.ref x110)])
        refine Run.via (fun _ => XS.bipush X113.at X113.ex rfl (X113.de at_156)) ?_
        show Run _ _ _ _ _ _ _ _ _ _ _ _ T113 (mkF m 158 #[.val (.int kind), .val (.int pos), .val (.int ch), .val (.int pk), .val (.int (kind &&& (3 : Int32))), .val (.int (0 : Int32)), .val (.int d), .unset, .unset, .val (.int (Int32.ofNat i)), .val (.ref x110)] [(.int (118 : Int32)), (.int (3 : Int32)), (.ref x110)])
        refine Run.castore X113 (i := 3) (v' := (118 : Int32)) A113 rfl (Nat.le_of_ble_eq_true rfl) rfl (Or.inr (by omega)) (by omega) at_158 ?_
        intro T114 h114 L114 X114 K114 z114 A114
        have A114 : Arc .char Z h114 x110 [(112 : Int32), (114 : Int32), (111 : Int32), (118 : Int32), (0 : Int32), (0 : Int32), (0 : Int32), (0 : Int32)] := A114
        show Run _ _ _ _ _ _ _ _ _ _ _ _ T114 (mkF m 159 #[.val (.int kind), .val (.int pos), .val (.int ch), .val (.int pk), .val (.int (kind &&& (3 : Int32))), .val (.int (0 : Int32)), .val (.int d), .unset, .unset, .val (.int (Int32.ofNat i)), .val (.ref x110)] [])
        refine Run.via (fun _ => XS.aload X114.at X114.ex rfl (X114.de at_159) rfl rfl) ?_
        show Run _ _ _ _ _ _ _ _ _ _ _ _ T114 (mkF m 161 #[.val (.int kind), .val (.int pos), .val (.int ch), .val (.int pk), .val (.int (kind &&& (3 : Int32))), .val (.int (0 : Int32)), .val (.int d), .unset, .unset, .val (.int (Int32.ofNat i)), .val (.ref x110)] [(.ref x110)])
        refine Run.via (fun _ => XS.iconst X114.at X114.ex rfl (X114.de at_161)) ?_
        show Run _ _ _ _ _ _ _ _ _ _ _ _ T114 (mkF m 162 #[.val (.int kind), .val (.int pos), .val (.int ch), .val (.int pk), .val (.int (kind &&& (3 : Int32))), .val (.int (0 : Int32)), .val (.int d), .unset, .unset, .val (.int (Int32.ofNat i)), .val (.ref x110)] [(.int (4 : Int32)), (.ref x110)])
        refine Run.via (fun _ => XS.bipush X114.at X114.ex rfl (X114.de at_162)) ?_
        show Run _ _ _ _ _ _ _ _ _ _ _ _ T114 (mkF m 164 #[.val (.int kind), .val (.int pos), .val (.int ch), .val (.int pk), .val (.int (kind &&& (3 : Int32))), .val (.int (0 : Int32)), .val (.int d), .unset, .unset, .val (.int (Int32.ofNat i)), .val (.ref x110)] [(.int (105 : Int32)), (.int (4 : Int32)), (.ref x110)])
        refine Run.castore X114 (i := 4) (v' := (105 : Int32)) A114 rfl (Nat.le_of_ble_eq_true rfl) rfl (Or.inr (by omega)) (by omega) at_164 ?_
        intro T115 h115 L115 X115 K115 z115 A115
        have A115 : Arc .char Z h115 x110 [(112 : Int32), (114 : Int32), (111 : Int32), (118 : Int32), (105 : Int32), (0 : Int32), (0 : Int32), (0 : Int32)] := A115
        show Run _ _ _ _ _ _ _ _ _ _ _ _ T115 (mkF m 165 #[.val (.int kind), .val (.int pos), .val (.int ch), .val (.int pk), .val (.int (kind &&& (3 : Int32))), .val (.int (0 : Int32)), .val (.int d), .unset, .unset, .val (.int (Int32.ofNat i)), .val (.ref x110)] [])
        refine Run.via (fun _ => XS.aload X115.at X115.ex rfl (X115.de at_165) rfl rfl) ?_
        show Run _ _ _ _ _ _ _ _ _ _ _ _ T115 (mkF m 167 #[.val (.int kind), .val (.int pos), .val (.int ch), .val (.int pk), .val (.int (kind &&& (3 : Int32))), .val (.int (0 : Int32)), .val (.int d), .unset, .unset, .val (.int (Int32.ofNat i)), .val (.ref x110)] [(.ref x110)])
        refine Run.via (fun _ => XS.iconst X115.at X115.ex rfl (X115.de at_167)) ?_
        show Run _ _ _ _ _ _ _ _ _ _ _ _ T115 (mkF m 168 #[.val (.int kind), .val (.int pos), .val (.int ch), .val (.int pk), .val (.int (kind &&& (3 : Int32))), .val (.int (0 : Int32)), .val (.int d), .unset, .unset, .val (.int (Int32.ofNat i)), .val (.ref x110)] [(.int (5 : Int32)), (.ref x110)])
        refine Run.via (fun _ => XS.bipush X115.at X115.ex rfl (X115.de at_168)) ?_
        show Run _ _ _ _ _ _ _ _ _ _ _ _ T115 (mkF m 170 #[.val (.int kind), .val (.int pos), .val (.int ch), .val (.int pk), .val (.int (kind &&& (3 : Int32))), .val (.int (0 : Int32)), .val (.int d), .unset, .unset, .val (.int (Int32.ofNat i)), .val (.ref x110)] [(.int (100 : Int32)), (.int (5 : Int32)), (.ref x110)])
        refine Run.castore X115 (i := 5) (v' := (100 : Int32)) A115 rfl (Nat.le_of_ble_eq_true rfl) rfl (Or.inr (by omega)) (by omega) at_170 ?_
        intro T116 h116 L116 X116 K116 z116 A116
        have A116 : Arc .char Z h116 x110 [(112 : Int32), (114 : Int32), (111 : Int32), (118 : Int32), (105 : Int32), (100 : Int32), (0 : Int32), (0 : Int32)] := A116
        show Run _ _ _ _ _ _ _ _ _ _ _ _ T116 (mkF m 171 #[.val (.int kind), .val (.int pos), .val (.int ch), .val (.int pk), .val (.int (kind &&& (3 : Int32))), .val (.int (0 : Int32)), .val (.int d), .unset, .unset, .val (.int (Int32.ofNat i)), .val (.ref x110)] [])
        refine Run.via (fun _ => XS.aload X116.at X116.ex rfl (X116.de at_171) rfl rfl) ?_
        show Run _ _ _ _ _ _ _ _ _ _ _ _ T116 (mkF m 173 #[.val (.int kind), .val (.int pos), .val (.int ch), .val (.int pk), .val (.int (kind &&& (3 : Int32))), .val (.int (0 : Int32)), .val (.int d), .unset, .unset, .val (.int (Int32.ofNat i)), .val (.ref x110)] [(.ref x110)])
        refine Run.via (fun _ => XS.bipush X116.at X116.ex rfl (X116.de at_173)) ?_
        show Run _ _ _ _ _ _ _ _ _ _ _ _ T116 (mkF m 175 #[.val (.int kind), .val (.int pos), .val (.int ch), .val (.int pk), .val (.int (kind &&& (3 : Int32))), .val (.int (0 : Int32)), .val (.int d), .unset, .unset, .val (.int (Int32.ofNat i)), .val (.ref x110)] [(.int (6 : Int32)), (.ref x110)])
        refine Run.via (fun _ => XS.bipush X116.at X116.ex rfl (X116.de at_175)) ?_
        show Run _ _ _ _ _ _ _ _ _ _ _ _ T116 (mkF m 177 #[.val (.int kind), .val (.int pos), .val (.int ch), .val (.int pk), .val (.int (kind &&& (3 : Int32))), .val (.int (0 : Int32)), .val (.int d), .unset, .unset, .val (.int (Int32.ofNat i)), .val (.ref x110)] [(.int (101 : Int32)), (.int (6 : Int32)), (.ref x110)])
        refine Run.castore X116 (i := 6) (v' := (101 : Int32)) A116 rfl (Nat.le_of_ble_eq_true rfl) rfl (Or.inr (by omega)) (by omega) at_177 ?_
        intro T117 h117 L117 X117 K117 z117 A117
        have A117 : Arc .char Z h117 x110 [(112 : Int32), (114 : Int32), (111 : Int32), (118 : Int32), (105 : Int32), (100 : Int32), (101 : Int32), (0 : Int32)] := A117
        show Run _ _ _ _ _ _ _ _ _ _ _ _ T117 (mkF m 178 #[.val (.int kind), .val (.int pos), .val (.int ch), .val (.int pk), .val (.int (kind &&& (3 : Int32))), .val (.int (0 : Int32)), .val (.int d), .unset, .unset, .val (.int (Int32.ofNat i)), .val (.ref x110)] [])
        refine Run.via (fun _ => XS.aload X117.at X117.ex rfl (X117.de at_178) rfl rfl) ?_
        show Run _ _ _ _ _ _ _ _ _ _ _ _ T117 (mkF m 180 #[.val (.int kind), .val (.int pos), .val (.int ch), .val (.int pk), .val (.int (kind &&& (3 : Int32))), .val (.int (0 : Int32)), .val (.int d), .unset, .unset, .val (.int (Int32.ofNat i)), .val (.ref x110)] [(.ref x110)])
        refine Run.via (fun _ => XS.bipush X117.at X117.ex rfl (X117.de at_180)) ?_
        show Run _ _ _ _ _ _ _ _ _ _ _ _ T117 (mkF m 182 #[.val (.int kind), .val (.int pos), .val (.int ch), .val (.int pk), .val (.int (kind &&& (3 : Int32))), .val (.int (0 : Int32)), .val (.int d), .unset, .unset, .val (.int (Int32.ofNat i)), .val (.ref x110)] [(.int (7 : Int32)), (.ref x110)])
        refine Run.via (fun _ => XS.bipush X117.at X117.ex rfl (X117.de at_182)) ?_
        show Run _ _ _ _ _ _ _ _ _ _ _ _ T117 (mkF m 184 #[.val (.int kind), .val (.int pos), .val (.int ch), .val (.int pk), .val (.int (kind &&& (3 : Int32))), .val (.int (0 : Int32)), .val (.int d), .unset, .unset, .val (.int (Int32.ofNat i)), .val (.ref x110)] [(.int (100 : Int32)), (.int (7 : Int32)), (.ref x110)])
        refine Run.castore X117 (i := 7) (v' := (100 : Int32)) A117 rfl (Nat.le_of_ble_eq_true rfl) rfl (Or.inr (by omega)) (by omega) at_184 ?_
        intro T118 h118 L118 X118 K118 z118 A118
        have A118 : Arc .char Z h118 x110 [(112 : Int32), (114 : Int32), (111 : Int32), (118 : Int32), (105 : Int32), (100 : Int32), (101 : Int32), (100 : Int32)] := A118
        show Run _ _ _ _ _ _ _ _ _ _ _ _ T118 (mkF m 185 #[.val (.int kind), .val (.int pos), .val (.int ch), .val (.int pk), .val (.int (kind &&& (3 : Int32))), .val (.int (0 : Int32)), .val (.int d), .unset, .unset, .val (.int (Int32.ofNat i)), .val (.ref x110)] [])
        have A0 : Arc .char Z h118 x110 provL := A118
        refine Run.via (fun _ => XS.iload X118.at X118.ex rfl (X118.de at_185) rfl) ?_
        show Run _ _ _ _ _ _ _ _ _ _ _ _ T118 (mkF m 187 #[.val (.int kind), .val (.int pos), .val (.int ch), .val (.int pk), .val (.int (kind &&& (3 : Int32))), .val (.int (0 : Int32)), .val (.int d), .unset, .unset, .val (.int (Int32.ofNat i)), .val (.ref x110)] [(.int (0 : Int32))])
        refine Run.via (fun _ => XS.ifYes X118.at X118.ex rfl (pc0 := 187) (pc' := 197) rfl (X118.de at_187) rfl ((if0 _ _).trans (teq (by decide : ((0 : Int32) = (0 : Int32)))).1) (by decide) (by decide)) ?_
        show Run _ _ _ _ _ _ _ _ _ _ _ _ T118 (mkF m 197 #[.val (.int kind), .val (.int pos), .val (.int ch), .val (.int pk), .val (.int (kind &&& (3 : Int32))), .val (.int (0 : Int32)), .val (.int d), .unset, .unset, .val (.int (Int32.ofNat i)), .val (.ref x110)] [])
        have u119 := X118.kp.1
        refine Run.new X118 (wd hw 1 rfl) (wd hw 2 rfl) (wd hw 3 rfl) at_197 (Nat.le_of_ble_eq_true rfl) (Nat.le_of_ble_eq_true rfl) ?_
        intro T120 h120 x120 g120 X120 K120 z120 E120 D120
        show Run _ _ _ _ _ _ _ _ _ _ _ _ T120 (mkF m 200 #[.val (.int kind), .val (.int pos), .val (.int ch), .val (.int pk), .val (.int (kind &&& (3 : Int32))), .val (.int (0 : Int32)), .val (.int d), .unset, .unset, .val (.int (Int32.ofNat i)), .val (.ref x110)] [(.ref x120)])
        have s120 := K120.1
        have A120x := A0.keep K120 nin0
        have G120 : Raw Z h120 x120 := ⟨E120, D120 (Or.inr (wd hw 29 rfl)) (ty := (.array .byte)) (by decide), D120 (Or.inr (wd hw 27 rfl)) (ty := .byte) (by decide)⟩
        refine Run.via (fun _ => XS.dup X120.at X120.ex rfl (X120.de at_200) rfl rfl) ?_
        show Run _ _ _ _ _ _ _ _ _ _ _ _ T120 (mkF m 201 #[.val (.int kind), .val (.int pos), .val (.int ch), .val (.int pk), .val (.int (kind &&& (3 : Int32))), .val (.int (0 : Int32)), .val (.int d), .unset, .unset, .val (.int (Int32.ofNat i)), .val (.ref x110)] [(.ref x120), (.ref x120)])
        refine Run.via (fun _ => XS.aload X120.at X120.ex rfl (X120.de at_201) rfl rfl) ?_
        show Run _ _ _ _ _ _ _ _ _ _ _ _ T120 (mkF m 203 #[.val (.int kind), .val (.int pos), .val (.int ch), .val (.int pk), .val (.int (kind &&& (3 : Int32))), .val (.int (0 : Int32)), .val (.int d), .unset, .unset, .val (.int (Int32.ofNat i)), .val (.ref x110)] [(.ref x110), (.ref x120), (.ref x120)])
        refine Run.initStr hw hS X120 (cs := provL) (W := 1) G120 A120x (by decide) (by simp [testL, provL]) (wd hw 4 rfl) (wd hw 5 rfl) (wd hw 2 rfl) at_203 rfl (Or.inr (by omega)) (by omega) (by simp) (Nat.le_of_ble_eq_true rfl) (by decide) (by decide) (Nat.le_of_ble_eq_true rfl) (by show _ ≤ 12480; simp [testL, provL]) ?_
        intro T121 h121 L121 X121 K121 S121
        have X121 := X121.mono (k := 10) (n := 60) (Nat.le_of_ble_eq_true rfl) (by simp [testL, provL])
        show Run _ _ _ _ _ _ _ _ _ _ _ _ T121 (mkF m 206 #[.val (.int kind), .val (.int pos), .val (.int ch), .val (.int pk), .val (.int (kind &&& (3 : Int32))), .val (.int (0 : Int32)), .val (.int d), .unset, .unset, .val (.int (Int32.ofNat i)), .val (.ref x110)] [(.ref x120)])
        refine Run.via (fun _ => XS.astore X121.at X121.ex rfl (X121.de at_206) rfl rfl (l' := #[.val (.int kind), .val (.int pos), .val (.int ch), .val (.int pk), .val (.int (kind &&& (3 : Int32))), .val (.int (0 : Int32)), .val (.int d), .val (.ref x120), .unset, .val (.int (Int32.ofNat i)), .val (.ref x110)]) rfl) ?_
        show Run _ _ _ _ _ _ _ _ _ _ _ _ T121 (mkF m 208 #[.val (.int kind), .val (.int pos), .val (.int ch), .val (.int pk), .val (.int (kind &&& (3 : Int32))), .val (.int (0 : Int32)), .val (.int d), .val (.ref x120), .unset, .val (.int (Int32.ofNat i)), .val (.ref x110)] [])
        refine Run.via (fun _ => XS.iload X121.at X121.ex rfl (X121.de at_208) rfl) ?_
        show Run _ _ _ _ _ _ _ _ _ _ _ _ T121 (mkF m 210 #[.val (.int kind), .val (.int pos), .val (.int ch), .val (.int pk), .val (.int (kind &&& (3 : Int32))), .val (.int (0 : Int32)), .val (.int d), .val (.ref x120), .unset, .val (.int (Int32.ofNat i)), .val (.ref x110)] [(.int (0 : Int32))])
        refine Run.via (fun _ => XS.ifYes X121.at X121.ex rfl (pc0 := 210) (pc' := 229) rfl (X121.de at_210) rfl ((if0 _ _).trans (teq (by decide : ((0 : Int32) = (0 : Int32)))).1) (by decide) (by decide)) ?_
        show Run _ _ _ _ _ _ _ _ _ _ _ _ T121 (mkF m 229 #[.val (.int kind), .val (.int pos), .val (.int ch), .val (.int pk), .val (.int (kind &&& (3 : Int32))), .val (.int (0 : Int32)), .val (.int d), .val (.ref x120), .unset, .val (.int (Int32.ofNat i)), .val (.ref x110)] [])
        refine Run.via (fun _ => XS.iconst X121.at X121.ex rfl (X121.de at_229)) ?_
        show Run _ _ _ _ _ _ _ _ _ _ _ _ T121 (mkF m 230 #[.val (.int kind), .val (.int pos), .val (.int ch), .val (.int pk), .val (.int (kind &&& (3 : Int32))), .val (.int (0 : Int32)), .val (.int d), .val (.ref x120), .unset, .val (.int (Int32.ofNat i)), .val (.ref x110)] [(.int (0 : Int32))])
        refine Run.via (fun _ => XS.istore X121.at X121.ex rfl (X121.de at_230) rfl (l' := #[.val (.int kind), .val (.int pos), .val (.int ch), .val (.int pk), .val (.int (kind &&& (3 : Int32))), .val (.int (0 : Int32)), .val (.int d), .val (.ref x120), .val (.int (0 : Int32)), .val (.int (Int32.ofNat i)), .val (.ref x110)]) rfl) ?_
        show Run _ _ _ _ _ _ _ _ _ _ _ _ T121 (mkF m 232 #[.val (.int kind), .val (.int pos), .val (.int ch), .val (.int pk), .val (.int (kind &&& (3 : Int32))), .val (.int (0 : Int32)), .val (.int d), .val (.ref x120), .val (.int (0 : Int32)), .val (.int (Int32.ofNat i)), .val (.ref x110)] [])
        refine Run.via (fun _ => XS.goto X121.at X121.ex rfl (pc0 := 232) (pc' := 410) rfl (X121.de at_232) (by decide) (by decide)) ?_
        show Run _ _ _ _ _ _ _ _ _ _ _ _ T121 (mkF m 410 #[.val (.int kind), .val (.int pos), .val (.int ch), .val (.int pk), .val (.int (kind &&& (3 : Int32))), .val (.int (0 : Int32)), .val (.int d), .val (.ref x120), .val (.int (0 : Int32)), .val (.int (Int32.ofNat i)), .val (.ref x110)] [])
        exact J410 _ _ _ _ _ _ _ _ _ _ _ _ (X121.mono (by decide) (by decide)) S121 (by decide)
      ·
        refine Run.via (fun _ => XS.icmpYes X0.at X0.ex rfl (pc0 := 120) (pc' := 235) rfl (X0.de at_120) rfl (feq k1).2 (by decide) (by decide)) ?_
        show Run _ _ _ _ _ _ _ _ _ _ _ _ T0 (mkF m 235 #[.val (.int kind), .val (.int pos), .val (.int ch), .val (.int pk), .val (.int (kind &&& (3 : Int32))), .val (.int (0 : Int32)), .val (.int d), .unset, .unset, .unset, .unset] [])
        refine Run.via (fun _ => XS.iload X0.at X0.ex rfl (X0.de at_235) rfl) ?_
        show Run _ _ _ _ _ _ _ _ _ _ _ _ T0 (mkF m 237 #[.val (.int kind), .val (.int pos), .val (.int ch), .val (.int pk), .val (.int (kind &&& (3 : Int32))), .val (.int (0 : Int32)), .val (.int d), .unset, .unset, .unset, .unset] [(.int (kind &&& (3 : Int32)))])
        refine Run.via (fun _ => XS.iconst X0.at X0.ex rfl (X0.de at_237)) ?_
        show Run _ _ _ _ _ _ _ _ _ _ _ _ T0 (mkF m 238 #[.val (.int kind), .val (.int pos), .val (.int ch), .val (.int pk), .val (.int (kind &&& (3 : Int32))), .val (.int (0 : Int32)), .val (.int d), .unset, .unset, .unset, .unset] [(.int (2 : Int32)), (.int (kind &&& (3 : Int32)))])
        by_cases k2 : (kind &&& (3 : Int32)) = (2 : Int32)
        ·
          refine Run.via (fun _ => XS.icmpNo X0.at X0.ex rfl (X0.de at_238) rfl (teq k2).2) ?_
          show Run _ _ _ _ _ _ _ _ _ _ _ _ T0 (mkF m 241 #[.val (.int kind), .val (.int pos), .val (.int ch), .val (.int pk), .val (.int (kind &&& (3 : Int32))), .val (.int (0 : Int32)), .val (.int d), .unset, .unset, .unset, .unset] [])
          refine Run.via (fun _ => XS.iload X0.at X0.ex rfl (X0.de at_241) rfl) ?_
          show Run _ _ _ _ _ _ _ _ _ _ _ _ T0 (mkF m 243 #[.val (.int kind), .val (.int pos), .val (.int ch), .val (.int pk), .val (.int (kind &&& (3 : Int32))), .val (.int (0 : Int32)), .val (.int d), .unset, .unset, .unset, .unset] [(.int (0 : Int32))])
          refine Run.via (fun _ => XS.ifYes X0.at X0.ex rfl (pc0 := 243) (pc' := 323) rfl (X0.de at_243) rfl ((if0 _ _).trans (teq (by decide : ((0 : Int32) = (0 : Int32)))).1) (by decide) (by decide)) ?_
          show Run _ _ _ _ _ _ _ _ _ _ _ _ T0 (mkF m 323 #[.val (.int kind), .val (.int pos), .val (.int ch), .val (.int pk), .val (.int (kind &&& (3 : Int32))), .val (.int (0 : Int32)), .val (.int d), .unset, .unset, .unset, .unset] [])
          refine Run.via (fun _ => XS.iconst X0.at X0.ex rfl (X0.de at_323)) ?_
          show Run _ _ _ _ _ _ _ _ _ _ _ _ T0 (mkF m 324 #[.val (.int kind), .val (.int pos), .val (.int ch), .val (.int pk), .val (.int (kind &&& (3 : Int32))), .val (.int (0 : Int32)), .val (.int d), .unset, .unset, .unset, .unset] [(.int (5 : Int32))])
          refine Run.newarr X0 (aty := .char) (n := 5) (cap := 5) (wd hw 0 rfl) rfl at_324 rfl (Nat.le_refl _) (by decide) (Nat.le_of_ble_eq_true rfl) (Nat.le_of_ble_eq_true rfl) ?_
          intro T122 h122 x122 g122 X122 K122 z122 A122
          have A122 : Arc .char Z h122 x122 [(0 : Int32), (0 : Int32), (0 : Int32), (0 : Int32), (0 : Int32)] := A122
          show Run _ _ _ _ _ _ _ _ _ _ _ _ T122 (mkF m 326 #[.val (.int kind), .val (.int pos), .val (.int ch), .val (.int pk), .val (.int (kind &&& (3 : Int32))), .val (.int (0 : Int32)), .val (.int d), .unset, .unset, .unset, .unset] [(.ref x122)])
          refine Run.via (fun _ => XS.astore X122.at X122.ex rfl (X122.de at_326) rfl rfl (l' := #[.val (.int kind), .val (.int pos), .val (.int ch), .val (.int pk), .val (.int (kind &&& (3 : Int32))), .val (.int (0 : Int32)), .val (.int d), .unset, .unset, .val (.ref x122), .unset]) rfl) ?_
          show Run _ _ _ _ _ _ _ _ _ _ _ _ T122 (mkF m 328 #[.val (.int kind), .val (.int pos), .val (.int ch), .val (.int pk), .val (.int (kind &&& (3 : Int32))), .val (.int (0 : Int32)), .val (.int d), .unset, .unset, .val (.ref x122), .unset] [])
          refine Run.via (fun _ => XS.aload X122.at X122.ex rfl (X122.de at_328) rfl rfl) ?_
          show Run _ _ _ _ _ _ _ _ _ _ _ _ T122 (mkF m 330 #[.val (.int kind), .val (.int pos), .val (.int ch), .val (.int pk), .val (.int (kind &&& (3 : Int32))), .val (.int (0 : Int32)), .val (.int d), .unset, .unset, .val (.ref x122), .unset] [(.ref x122)])
          refine Run.via (fun _ => XS.iconst X122.at X122.ex rfl (X122.de at_330)) ?_
          show Run _ _ _ _ _ _ _ _ _ _ _ _ T122 (mkF m 331 #[.val (.int kind), .val (.int pos), .val (.int ch), .val (.int pk), .val (.int (kind &&& (3 : Int32))), .val (.int (0 : Int32)), .val (.int d), .unset, .unset, .val (.ref x122), .unset] [(.int (0 : Int32)), (.ref x122)])
          refine Run.via (fun _ => XS.bipush X122.at X122.ex rfl (X122.de at_331)) ?_
          show Run _ _ _ _ _ _ _ _ _ _ _ _ T122 (mkF m 333 #[.val (.int kind), .val (.int pos), .val (.int ch), .val (.int pk), .val (.int (kind &&& (3 : Int32))), .val (.int (0 : Int32)), .val (.int d), .unset, .unset, .val (.ref x122), .unset] [(.int (116 : Int32)), (.int (0 : Int32)), (.ref x122)])
          refine Run.castore X122 (i := 0) (v' := (116 : Int32)) A122 rfl (Nat.le_of_ble_eq_true rfl) rfl (Or.inr (by omega)) (by omega) at_333 ?_
          intro T123 h123 L123 X123 K123 z123 A123
          have A123 : Arc .char Z h123 x122 [(116 : Int32), (0 : Int32), (0 : Int32), (0 : Int32), (0 : Int32)] := A123
          show Run _ _ _ _ _ _ _ _ _ _ _ _ T123 (mkF m 334 #[.val (.int kind), .val (.int pos), .val (.int ch), .val (.int pk), .val (.int (kind &&& (3 : Int32))), .val (.int (0 : Int32)), .val (.int d), .unset, .unset, .val (.ref x122), .unset] [])
          refine Run.via (fun _ => XS.aload X123.at X123.ex rfl (X123.de at_334) rfl rfl) ?_
          show Run _ _ _ _ _ _ _ _ _ _ _ _ T123 (mkF m 336 #[.val (.int kind), .val (.int pos), .val (.int ch), .val (.int pk), .val (.int (kind &&& (3 : Int32))), .val (.int (0 : Int32)), .val (.int d), .unset, .unset, .val (.ref x122), .unset] [(.ref x122)])
          refine Run.via (fun _ => XS.iconst X123.at X123.ex rfl (X123.de at_336)) ?_
          show Run _ _ _ _ _ _ _ _ _ _ _ _ T123 (mkF m 337 #[.val (.int kind), .val (.int pos), .val (.int ch), .val (.int pk), .val (.int (kind &&& (3 : Int32))), .val (.int (0 : Int32)), .val (.int d), .unset, .unset, .val (.ref x122), .unset] [(.int (1 : Int32)), (.ref x122)])
          refine Run.via (fun _ => XS.bipush X123.at X123.ex rfl (X123.de at_337)) ?_
          show Run _ _ _ _ _ _ _ _ _ _ _ _ T123 (mkF m 339 #[.val (.int kind), .val (.int pos), .val (.int ch), .val (.int pk), .val (.int (kind &&& (3 : Int32))), .val (.int (0 : Int32)), .val (.int d), .unset, .unset, .val (.ref x122), .unset] [(.int (101 : Int32)), (.int (1 : Int32)), (.ref x122)])
          refine Run.castore X123 (i := 1) (v' := (101 : Int32)) A123 rfl (Nat.le_of_ble_eq_true rfl) rfl (Or.inr (by omega)) (by omega) at_339 ?_
          intro T124 h124 L124 X124 K124 z124 A124
          have A124 : Arc .char Z h124 x122 [(116 : Int32), (101 : Int32), (0 : Int32), (0 : Int32), (0 : Int32)] := A124
          show Run _ _ _ _ _ _ _ _ _ _ _ _ T124 (mkF m 340 #[.val (.int kind), .val (.int pos), .val (.int ch), .val (.int pk), .val (.int (kind &&& (3 : Int32))), .val (.int (0 : Int32)), .val (.int d), .unset, .unset, .val (.ref x122), .unset] [])
          refine Run.via (fun _ => XS.aload X124.at X124.ex rfl (X124.de at_340) rfl rfl) ?_
          show Run _ _ _ _ _ _ _ _ _ _ _ _ T124 (mkF m 342 #[.val (.int kind), .val (.int pos), .val (.int ch), .val (.int pk), .val (.int (kind &&& (3 : Int32))), .val (.int (0 : Int32)), .val (.int d), .unset, .unset, .val (.ref x122), .unset] [(.ref x122)])
          refine Run.via (fun _ => XS.iconst X124.at X124.ex rfl (X124.de at_342)) ?_
          show Run _ _ _ _ _ _ _ _ _ _ _ _ T124 (mkF m 343 #[.val (.int kind), .val (.int pos), .val (.int ch), .val (.int pk), .val (.int (kind &&& (3 : Int32))), .val (.int (0 : Int32)), .val (.int d), .unset, .unset, .val (.ref x122), .unset] [(.int (2 : Int32)), (.ref x122)])
          refine Run.via (fun _ => XS.bipush X124.at X124.ex rfl (X124.de at_343)) ?_
          show Run _ _ _ _ _ _ _ _ _ _ _ _ T124 (mkF m 345 #[.val (.int kind), .val (.int pos), .val (.int ch), .val (.int pk), .val (.int (kind &&& (3 : Int32))), .val (.int (0 : Int32)), .val (.int d), .unset, .unset, .val (.ref x122), .unset] [(.int (115 : Int32)), (.int (2 : Int32)), (.ref x122)])
          refine Run.castore X124 (i := 2) (v' := (115 : Int32)) A124 rfl (Nat.le_of_ble_eq_true rfl) rfl (Or.inr (by omega)) (by omega) at_345 ?_
          intro T125 h125 L125 X125 K125 z125 A125
          have A125 : Arc .char Z h125 x122 [(116 : Int32), (101 : Int32), (115 : Int32), (0 : Int32), (0 : Int32)] := A125
          show Run _ _ _ _ _ _ _ _ _ _ _ _ T125 (mkF m 346 #[.val (.int kind), .val (.int pos), .val (.int ch), .val (.int pk), .val (.int (kind &&& (3 : Int32))), .val (.int (0 : Int32)), .val (.int d), .unset, .unset, .val (.ref x122), .unset] [])
          refine Run.via (fun _ => XS.aload X125.at X125.ex rfl (X125.de at_346) rfl rfl) ?_
          show Run _ _ _ _ _ _ _ _ _ _ _ _ T125 (mkF m 348 #[.val (.int kind), .val (.int pos), .val (.int ch), .val (.int pk), .val (.int (kind &&& (3 : Int32))), .val (.int (0 : Int32)), .val (.int d), .unset, .unset, .val (.ref x122), .unset] [(.ref x122)])
          refine Run.via (fun _ => XS.iconst X125.at X125.ex rfl (X125.de at_348)) ?_
          show Run _ _ _ _ _ _ _ _ _ _ _ _ T125 (mkF m 349 #[.val (.int kind), .val (.int pos), .val (.int ch), .val (.int pk), .val (.int (kind &&& (3 : Int32))), .val (.int (0 : Int32)), .val (.int d), .unset, .unset, .val (.ref x122), .unset] [(.int (3 : Int32)), (.ref x122)])
          refine Run.via (fun _ => XS.bipush X125.at X125.ex rfl (X125.de at_349)) ?_
          show Run _ _ _ _ _ _ _ _ _ _ _ _ T125 (mkF m 351 #[.val (.int kind), .val (.int pos), .val (.int ch), .val (.int pk), .val (.int (kind &&& (3 : Int32))), .val (.int (0 : Int32)), .val (.int d), .unset, .unset, .val (.ref x122), .unset] [(.int (116 : Int32)), (.int (3 : Int32)), (.ref x122)])
          refine Run.castore X125 (i := 3) (v' := (116 : Int32)) A125 rfl (Nat.le_of_ble_eq_true rfl) rfl (Or.inr (by omega)) (by omega) at_351 ?_
          intro T126 h126 L126 X126 K126 z126 A126
          have A126 : Arc .char Z h126 x122 [(116 : Int32), (101 : Int32), (115 : Int32), (116 : Int32), (0 : Int32)] := A126
          show Run _ _ _ _ _ _ _ _ _ _ _ _ T126 (mkF m 352 #[.val (.int kind), .val (.int pos), .val (.int ch), .val (.int pk), .val (.int (kind &&& (3 : Int32))), .val (.int (0 : Int32)), .val (.int d), .unset, .unset, .val (.ref x122), .unset] [])
          refine Run.via (fun _ => XS.aload X126.at X126.ex rfl (X126.de at_352) rfl rfl) ?_
          show Run _ _ _ _ _ _ _ _ _ _ _ _ T126 (mkF m 354 #[.val (.int kind), .val (.int pos), .val (.int ch), .val (.int pk), .val (.int (kind &&& (3 : Int32))), .val (.int (0 : Int32)), .val (.int d), .unset, .unset, .val (.ref x122), .unset] [(.ref x122)])
          refine Run.via (fun _ => XS.iconst X126.at X126.ex rfl (X126.de at_354)) ?_
          show Run _ _ _ _ _ _ _ _ _ _ _ _ T126 (mkF m 355 #[.val (.int kind), .val (.int pos), .val (.int ch), .val (.int pk), .val (.int (kind &&& (3 : Int32))), .val (.int (0 : Int32)), .val (.int d), .unset, .unset, .val (.ref x122), .unset] [(.int (4 : Int32)), (.ref x122)])
          refine Run.via (fun _ => XS.iload X126.at X126.ex rfl (X126.de at_355) rfl) ?_
          show Run _ _ _ _ _ _ _ _ _ _ _ _ T126 (mkF m 357 #[.val (.int kind), .val (.int pos), .val (.int ch), .val (.int pk), .val (.int (kind &&& (3 : Int32))), .val (.int (0 : Int32)), .val (.int d), .unset, .unset, .val (.ref x122), .unset] [(.int d), (.int (4 : Int32)), (.ref x122)])
          refine Run.castore X126 (i := 4) (v' := d) A126 rfl (Nat.le_of_ble_eq_true rfl) (nar_lat rd) (Or.inr (by omega)) (by omega) at_357 ?_
          intro T127 h127 L127 X127 K127 z127 A127
          have A127 : Arc .char Z h127 x122 [(116 : Int32), (101 : Int32), (115 : Int32), (116 : Int32), d] := A127
          show Run _ _ _ _ _ _ _ _ _ _ _ _ T127 (mkF m 358 #[.val (.int kind), .val (.int pos), .val (.int ch), .val (.int pk), .val (.int (kind &&& (3 : Int32))), .val (.int (0 : Int32)), .val (.int d), .unset, .unset, .val (.ref x122), .unset] [])
          have u128 := X127.kp.1
          refine Run.new X127 (wd hw 1 rfl) (wd hw 2 rfl) (wd hw 3 rfl) at_358 (Nat.le_of_ble_eq_true rfl) (Nat.le_of_ble_eq_true rfl) ?_
          intro T129 h129 x129 g129 X129 K129 z129 E129 D129
          show Run _ _ _ _ _ _ _ _ _ _ _ _ T129 (mkF m 361 #[.val (.int kind), .val (.int pos), .val (.int ch), .val (.int pk), .val (.int (kind &&& (3 : Int32))), .val (.int (0 : Int32)), .val (.int d), .unset, .unset, .val (.ref x122), .unset] [(.ref x129)])
          have s129 := K129.1
          have A129x := A127.keep K129 nin0
          have G129 : Raw Z h129 x129 := ⟨E129, D129 (Or.inr (wd hw 29 rfl)) (ty := (.array .byte)) (by decide), D129 (Or.inr (wd hw 27 rfl)) (ty := .byte) (by decide)⟩
          refine Run.via (fun _ => XS.dup X129.at X129.ex rfl (X129.de at_361) rfl rfl) ?_
          show Run _ _ _ _ _ _ _ _ _ _ _ _ T129 (mkF m 362 #[.val (.int kind), .val (.int pos), .val (.int ch), .val (.int pk), .val (.int (kind &&& (3 : Int32))), .val (.int (0 : Int32)), .val (.int d), .unset, .unset, .val (.ref x122), .unset] [(.ref x129), (.ref x129)])
          refine Run.via (fun _ => XS.aload X129.at X129.ex rfl (X129.de at_362) rfl rfl) ?_
          show Run _ _ _ _ _ _ _ _ _ _ _ _ T129 (mkF m 364 #[.val (.int kind), .val (.int pos), .val (.int ch), .val (.int pk), .val (.int (kind &&& (3 : Int32))), .val (.int (0 : Int32)), .val (.int d), .unset, .unset, .val (.ref x122), .unset] [(.ref x122), (.ref x129), (.ref x129)])
          refine Run.initStr hw hS X129 (cs := [(116 : Int32), (101 : Int32), (115 : Int32), (116 : Int32), d]) (W := 1) G129 A129x (lsS (by decide) (lsS (by decide) (lsS (by decide) (lsS (by decide) (lsS rd (ls0)))))) (by simp [testL, provL]) (wd hw 4 rfl) (wd hw 5 rfl) (wd hw 2 rfl) at_364 rfl (Or.inr (by omega)) (by omega) (by simp) (Nat.le_of_ble_eq_true rfl) (by decide) (by decide) (Nat.le_of_ble_eq_true rfl) (by show _ ≤ 12480; simp [testL, provL]) ?_
          intro T130 h130 L130 X130 K130 S130
          have X130 := X130.mono (k := 10) (n := 60) (Nat.le_of_ble_eq_true rfl) (by simp [testL, provL])
          show Run _ _ _ _ _ _ _ _ _ _ _ _ T130 (mkF m 367 #[.val (.int kind), .val (.int pos), .val (.int ch), .val (.int pk), .val (.int (kind &&& (3 : Int32))), .val (.int (0 : Int32)), .val (.int d), .unset, .unset, .val (.ref x122), .unset] [(.ref x129)])
          refine Run.via (fun _ => XS.astore X130.at X130.ex rfl (X130.de at_367) rfl rfl (l' := #[.val (.int kind), .val (.int pos), .val (.int ch), .val (.int pk), .val (.int (kind &&& (3 : Int32))), .val (.int (0 : Int32)), .val (.int d), .val (.ref x129), .unset, .val (.ref x122), .unset]) rfl) ?_
          show Run _ _ _ _ _ _ _ _ _ _ _ _ T130 (mkF m 369 #[.val (.int kind), .val (.int pos), .val (.int ch), .val (.int pk), .val (.int (kind &&& (3 : Int32))), .val (.int (0 : Int32)), .val (.int d), .val (.ref x129), .unset, .val (.ref x122), .unset] [])
          refine Run.via (fun _ => XS.iconst X130.at X130.ex rfl (X130.de at_369)) ?_
          show Run _ _ _ _ _ _ _ _ _ _ _ _ T130 (mkF m 370 #[.val (.int kind), .val (.int pos), .val (.int ch), .val (.int pk), .val (.int (kind &&& (3 : Int32))), .val (.int (0 : Int32)), .val (.int d), .val (.ref x129), .unset, .val (.ref x122), .unset] [(.int (1 : Int32))])
          refine Run.via (fun _ => XS.istore X130.at X130.ex rfl (X130.de at_370) rfl (l' := #[.val (.int kind), .val (.int pos), .val (.int ch), .val (.int pk), .val (.int (kind &&& (3 : Int32))), .val (.int (0 : Int32)), .val (.int d), .val (.ref x129), .val (.int (1 : Int32)), .val (.ref x122), .unset]) rfl) ?_
          show Run _ _ _ _ _ _ _ _ _ _ _ _ T130 (mkF m 372 #[.val (.int kind), .val (.int pos), .val (.int ch), .val (.int pk), .val (.int (kind &&& (3 : Int32))), .val (.int (0 : Int32)), .val (.int d), .val (.ref x129), .val (.int (1 : Int32)), .val (.ref x122), .unset] [])
          refine Run.via (fun _ => XS.goto X130.at X130.ex rfl (pc0 := 372) (pc' := 410) rfl (X130.de at_372) (by decide) (by decide)) ?_
          show Run _ _ _ _ _ _ _ _ _ _ _ _ T130 (mkF m 410 #[.val (.int kind), .val (.int pos), .val (.int ch), .val (.int pk), .val (.int (kind &&& (3 : Int32))), .val (.int (0 : Int32)), .val (.int d), .val (.ref x129), .val (.int (1 : Int32)), .val (.ref x122), .unset] [])
          exact J410 _ _ _ _ _ _ _ _ _ _ _ _ (X130.mono (by decide) (by decide)) S130 (by unfold brought; rw [if_neg (by rintro (q | q) <;> cases q)])
        ·
          refine Run.via (fun _ => XS.icmpYes X0.at X0.ex rfl (pc0 := 238) (pc' := 375) rfl (X0.de at_238) rfl (feq k2).2 (by decide) (by decide)) ?_
          show Run _ _ _ _ _ _ _ _ _ _ _ _ T0 (mkF m 375 #[.val (.int kind), .val (.int pos), .val (.int ch), .val (.int pk), .val (.int (kind &&& (3 : Int32))), .val (.int (0 : Int32)), .val (.int d), .unset, .unset, .unset, .unset] [])
          refine Run.via (fun _ => XS.iloadN X0.at X0.ex rfl (X0.de at_375) rfl) ?_
          show Run _ _ _ _ _ _ _ _ _ _ _ _ T0 (mkF m 376 #[.val (.int kind), .val (.int pos), .val (.int ch), .val (.int pk), .val (.int (kind &&& (3 : Int32))), .val (.int (0 : Int32)), .val (.int d), .unset, .unset, .unset, .unset] [(.int pk)])
          refine Run.ldcI X0 (wd hw 70 rfl) at_376 ?_
          show Run _ _ _ _ _ _ _ _ _ _ _ _ T0 (mkF m 378 #[.val (.int kind), .val (.int pos), .val (.int ch), .val (.int pk), .val (.int (kind &&& (3 : Int32))), .val (.int (0 : Int32)), .val (.int d), .unset, .unset, .unset, .unset] [(.int (2147483647 : Int32)), (.int pk)])
          refine Run.via (fun _ => XS.iand X0.at X0.ex rfl (X0.de at_378) rfl) ?_
          show Run _ _ _ _ _ _ _ _ _ _ _ _ T0 (mkF m 379 #[.val (.int kind), .val (.int pos), .val (.int ch), .val (.int pk), .val (.int (kind &&& (3 : Int32))), .val (.int (0 : Int32)), .val (.int d), .unset, .unset, .unset, .unset] [(.int (pk &&& (2147483647 : Int32)))])
          refine Run.via (fun _ => XS.bipush X0.at X0.ex rfl (X0.de at_379)) ?_
          show Run _ _ _ _ _ _ _ _ _ _ _ _ T0 (mkF m 381 #[.val (.int kind), .val (.int pos), .val (.int ch), .val (.int pk), .val (.int (kind &&& (3 : Int32))), .val (.int (0 : Int32)), .val (.int d), .unset, .unset, .unset, .unset] [(.int (10 : Int32)), (.int (pk &&& (2147483647 : Int32)))])
          refine Run.irem X0 at_381 (by decide) ?_
          show Run _ _ _ _ _ _ _ _ _ _ _ _ T0 (mkF m 382 #[.val (.int kind), .val (.int pos), .val (.int ch), .val (.int pk), .val (.int (kind &&& (3 : Int32))), .val (.int (0 : Int32)), .val (.int d), .unset, .unset, .unset, .unset] [(.int ((pk &&& (2147483647 : Int32)) % (10 : Int32)))])
          generalize hnn : ((pk &&& (2147483647 : Int32)) % (10 : Int32)) = n
          show Run _ _ _ _ _ _ _ _ _ _ _ _ T0 (mkF m 382 #[.val (.int kind), .val (.int pos), .val (.int ch), .val (.int pk), .val (.int (kind &&& (3 : Int32))), .val (.int (0 : Int32)), .val (.int d), .unset, .unset, .unset, .unset] [(.int n)])
          refine Run.via (fun _ => XS.istore X0.at X0.ex rfl (X0.de at_382) rfl (l' := #[.val (.int kind), .val (.int pos), .val (.int ch), .val (.int pk), .val (.int (kind &&& (3 : Int32))), .val (.int (0 : Int32)), .val (.int d), .unset, .unset, .val (.int n), .unset]) rfl) ?_
          show Run _ _ _ _ _ _ _ _ _ _ _ _ T0 (mkF m 384 #[.val (.int kind), .val (.int pos), .val (.int ch), .val (.int pk), .val (.int (kind &&& (3 : Int32))), .val (.int (0 : Int32)), .val (.int d), .unset, .unset, .val (.int n), .unset] [])
          refine Run.via (fun _ => XS.iload X0.at X0.ex rfl (X0.de at_384) rfl) ?_
          show Run _ _ _ _ _ _ _ _ _ _ _ _ T0 (mkF m 386 #[.val (.int kind), .val (.int pos), .val (.int ch), .val (.int pk), .val (.int (kind &&& (3 : Int32))), .val (.int (0 : Int32)), .val (.int d), .unset, .unset, .val (.int n), .unset] [(.int n)])
          refine Run.callS X0 (y := (⟨"com/example/capstan_ledger/capstanledger/ScopeBroughtInPinLaw", "named", "(I)Ljava/lang/String;"⟩ : MethodName)) (W := 0) (con_nm l hw hN hm X0.old) (wd hw 71 rfl) (wd hw 72 rfl) (wd hw 73 rfl) (wd hw 74 rfl) (by decide) pd__I_Ljava_lang_String_ rfl (argsL := [(.int n)]) (rest := []) rfl (Nat.le_of_ble_eq_true rfl) rfl at_386 (by decide) (by decide) (Nat.le_of_ble_eq_true rfl) (Nat.le_of_ble_eq_true rfl) (nofun) (nofun) ?_
          intro v131 T131 h131 L131 q131 X131 XF131 K131
          obtain ⟨tx, rfl, SS⟩ := q131
          show Run _ _ _ _ _ _ _ _ _ _ _ _ T131 (mkF m 389 #[.val (.int kind), .val (.int pos), .val (.int ch), .val (.int pk), .val (.int (kind &&& (3 : Int32))), .val (.int (0 : Int32)), .val (.int d), .unset, .unset, .val (.int n), .unset] [(.ref tx)])
          refine Run.via (fun _ => XS.astore X131.at X131.ex rfl (X131.de at_389) rfl rfl (l' := #[.val (.int kind), .val (.int pos), .val (.int ch), .val (.int pk), .val (.int (kind &&& (3 : Int32))), .val (.int (0 : Int32)), .val (.int d), .val (.ref tx), .unset, .val (.int n), .unset]) rfl) ?_
          show Run _ _ _ _ _ _ _ _ _ _ _ _ T131 (mkF m 391 #[.val (.int kind), .val (.int pos), .val (.int ch), .val (.int pk), .val (.int (kind &&& (3 : Int32))), .val (.int (0 : Int32)), .val (.int d), .val (.ref tx), .unset, .val (.int n), .unset] [])
          refine Run.via (fun _ => XS.iload X131.at X131.ex rfl (X131.de at_391) rfl) ?_
          show Run _ _ _ _ _ _ _ _ _ _ _ _ T131 (mkF m 393 #[.val (.int kind), .val (.int pos), .val (.int ch), .val (.int pk), .val (.int (kind &&& (3 : Int32))), .val (.int (0 : Int32)), .val (.int d), .val (.ref tx), .unset, .val (.int n), .unset] [(.int n)])
          refine Run.via (fun _ => XS.iconst X131.at X131.ex rfl (X131.de at_393)) ?_
          show Run _ _ _ _ _ _ _ _ _ _ _ _ T131 (mkF m 394 #[.val (.int kind), .val (.int pos), .val (.int ch), .val (.int pk), .val (.int (kind &&& (3 : Int32))), .val (.int (0 : Int32)), .val (.int d), .val (.ref tx), .unset, .val (.int n), .unset] [(.int (2 : Int32)), (.int n)])
          by_cases q2 : n = (2 : Int32)
          ·
            refine Run.via (fun _ => XS.icmpYes X131.at X131.ex rfl (pc0 := 394) (pc' := 407) rfl (X131.de at_394) rfl (teq q2).1 (by decide) (by decide)) ?_
            show Run _ _ _ _ _ _ _ _ _ _ _ _ T131 (mkF m 407 #[.val (.int kind), .val (.int pos), .val (.int ch), .val (.int pk), .val (.int (kind &&& (3 : Int32))), .val (.int (0 : Int32)), .val (.int d), .val (.ref tx), .unset, .val (.int n), .unset] [])
            refine Run.via (fun _ => XS.iconst X131.at X131.ex rfl (X131.de at_407)) ?_
            show Run _ _ _ _ _ _ _ _ _ _ _ _ T131 (mkF m 408 #[.val (.int kind), .val (.int pos), .val (.int ch), .val (.int pk), .val (.int (kind &&& (3 : Int32))), .val (.int (0 : Int32)), .val (.int d), .val (.ref tx), .unset, .val (.int n), .unset] [(.int (0 : Int32))])
            refine Run.via (fun _ => XS.istore X131.at X131.ex rfl (X131.de at_408) rfl (l' := #[.val (.int kind), .val (.int pos), .val (.int ch), .val (.int pk), .val (.int (kind &&& (3 : Int32))), .val (.int (0 : Int32)), .val (.int d), .val (.ref tx), .val (.int (0 : Int32)), .val (.int n), .unset]) rfl) ?_
            show Run _ _ _ _ _ _ _ _ _ _ _ _ T131 (mkF m 410 #[.val (.int kind), .val (.int pos), .val (.int ch), .val (.int pk), .val (.int (kind &&& (3 : Int32))), .val (.int (0 : Int32)), .val (.int d), .val (.ref tx), .val (.int (0 : Int32)), .val (.int n), .unset] [])
            exact J410 _ _ _ _ _ _ _ _ _ _ _ _ (X131.mono (by decide) (by decide)) SS (by rw [bro_nam, if_pos (Or.inl q2)])
          ·
            refine Run.via (fun _ => XS.icmpNo X131.at X131.ex rfl (X131.de at_394) rfl (feq q2).1) ?_
            show Run _ _ _ _ _ _ _ _ _ _ _ _ T131 (mkF m 397 #[.val (.int kind), .val (.int pos), .val (.int ch), .val (.int pk), .val (.int (kind &&& (3 : Int32))), .val (.int (0 : Int32)), .val (.int d), .val (.ref tx), .unset, .val (.int n), .unset] [])
            refine Run.via (fun _ => XS.iload X131.at X131.ex rfl (X131.de at_397) rfl) ?_
            show Run _ _ _ _ _ _ _ _ _ _ _ _ T131 (mkF m 399 #[.val (.int kind), .val (.int pos), .val (.int ch), .val (.int pk), .val (.int (kind &&& (3 : Int32))), .val (.int (0 : Int32)), .val (.int d), .val (.ref tx), .unset, .val (.int n), .unset] [(.int n)])
            refine Run.via (fun _ => XS.iconst X131.at X131.ex rfl (X131.de at_399)) ?_
            show Run _ _ _ _ _ _ _ _ _ _ _ _ T131 (mkF m 400 #[.val (.int kind), .val (.int pos), .val (.int ch), .val (.int pk), .val (.int (kind &&& (3 : Int32))), .val (.int (0 : Int32)), .val (.int d), .val (.ref tx), .unset, .val (.int n), .unset] [(.int (3 : Int32)), (.int n)])
            by_cases q3 : n = (3 : Int32)
            ·
              refine Run.via (fun _ => XS.icmpYes X131.at X131.ex rfl (pc0 := 400) (pc' := 407) rfl (X131.de at_400) rfl (teq q3).1 (by decide) (by decide)) ?_
              show Run _ _ _ _ _ _ _ _ _ _ _ _ T131 (mkF m 407 #[.val (.int kind), .val (.int pos), .val (.int ch), .val (.int pk), .val (.int (kind &&& (3 : Int32))), .val (.int (0 : Int32)), .val (.int d), .val (.ref tx), .unset, .val (.int n), .unset] [])
              refine Run.via (fun _ => XS.iconst X131.at X131.ex rfl (X131.de at_407)) ?_
              show Run _ _ _ _ _ _ _ _ _ _ _ _ T131 (mkF m 408 #[.val (.int kind), .val (.int pos), .val (.int ch), .val (.int pk), .val (.int (kind &&& (3 : Int32))), .val (.int (0 : Int32)), .val (.int d), .val (.ref tx), .unset, .val (.int n), .unset] [(.int (0 : Int32))])
              refine Run.via (fun _ => XS.istore X131.at X131.ex rfl (X131.de at_408) rfl (l' := #[.val (.int kind), .val (.int pos), .val (.int ch), .val (.int pk), .val (.int (kind &&& (3 : Int32))), .val (.int (0 : Int32)), .val (.int d), .val (.ref tx), .val (.int (0 : Int32)), .val (.int n), .unset]) rfl) ?_
              show Run _ _ _ _ _ _ _ _ _ _ _ _ T131 (mkF m 410 #[.val (.int kind), .val (.int pos), .val (.int ch), .val (.int pk), .val (.int (kind &&& (3 : Int32))), .val (.int (0 : Int32)), .val (.int d), .val (.ref tx), .val (.int (0 : Int32)), .val (.int n), .unset] [])
              exact J410 _ _ _ _ _ _ _ _ _ _ _ _ (X131.mono (by decide) (by decide)) SS (by rw [bro_nam, if_pos (Or.inr q3)])
            ·
              refine Run.via (fun _ => XS.icmpNo X131.at X131.ex rfl (X131.de at_400) rfl (feq q3).1) ?_
              show Run _ _ _ _ _ _ _ _ _ _ _ _ T131 (mkF m 403 #[.val (.int kind), .val (.int pos), .val (.int ch), .val (.int pk), .val (.int (kind &&& (3 : Int32))), .val (.int (0 : Int32)), .val (.int d), .val (.ref tx), .unset, .val (.int n), .unset] [])
              refine Run.via (fun _ => XS.iconst X131.at X131.ex rfl (X131.de at_403)) ?_
              show Run _ _ _ _ _ _ _ _ _ _ _ _ T131 (mkF m 404 #[.val (.int kind), .val (.int pos), .val (.int ch), .val (.int pk), .val (.int (kind &&& (3 : Int32))), .val (.int (0 : Int32)), .val (.int d), .val (.ref tx), .unset, .val (.int n), .unset] [(.int (1 : Int32))])
              refine Run.via (fun _ => XS.goto X131.at X131.ex rfl (pc0 := 404) (pc' := 408) rfl (X131.de at_404) (by decide) (by decide)) ?_
              show Run _ _ _ _ _ _ _ _ _ _ _ _ T131 (mkF m 408 #[.val (.int kind), .val (.int pos), .val (.int ch), .val (.int pk), .val (.int (kind &&& (3 : Int32))), .val (.int (0 : Int32)), .val (.int d), .val (.ref tx), .unset, .val (.int n), .unset] [(.int (1 : Int32))])
              refine Run.via (fun _ => XS.istore X131.at X131.ex rfl (X131.de at_408) rfl (l' := #[.val (.int kind), .val (.int pos), .val (.int ch), .val (.int pk), .val (.int (kind &&& (3 : Int32))), .val (.int (0 : Int32)), .val (.int d), .val (.ref tx), .val (.int (1 : Int32)), .val (.int n), .unset]) rfl) ?_
              show Run _ _ _ _ _ _ _ _ _ _ _ _ T131 (mkF m 410 #[.val (.int kind), .val (.int pos), .val (.int ch), .val (.int pk), .val (.int (kind &&& (3 : Int32))), .val (.int (0 : Int32)), .val (.int d), .val (.ref tx), .val (.int (1 : Int32)), .val (.int n), .unset] [])
              exact J410 _ _ _ _ _ _ _ _ _ _ _ _ (X131.mono (by decide) (by decide)) SS (by rw [bro_nam, if_neg (fun z => z.elim q2 q3)])
  ·
    refine Run.via (fun _ => XS.ifNo X0.at X0.ex rfl (X0.de at_10) rfl ((if0 _ _).trans (feq hsw).1)) ?_
    show Run _ _ _ _ _ _ _ _ _ _ _ _ T0 (mkF m 13 #[.val (.int kind), .val (.int pos), .val (.int ch), .val (.int pk), .val (.int (kind &&& (3 : Int32))), .unset, .unset, .unset, .unset, .unset, .unset] [])
    refine Run.via (fun _ => XS.iconst X0.at X0.ex rfl (X0.de at_13)) ?_
    show Run _ _ _ _ _ _ _ _ _ _ _ _ T0 (mkF m 14 #[.val (.int kind), .val (.int pos), .val (.int ch), .val (.int pk), .val (.int (kind &&& (3 : Int32))), .unset, .unset, .unset, .unset, .unset, .unset] [(.int (1 : Int32))])
    refine Run.via (fun _ => XS.goto X0.at X0.ex rfl (pc0 := 14) (pc' := 18) rfl (X0.de at_14) (by decide) (by decide)) ?_
    show Run _ _ _ _ _ _ _ _ _ _ _ _ T0 (mkF m 18 #[.val (.int kind), .val (.int pos), .val (.int ch), .val (.int pk), .val (.int (kind &&& (3 : Int32))), .unset, .unset, .unset, .unset, .unset, .unset] [(.int (1 : Int32))])
    refine Run.via (fun _ => XS.istore X0.at X0.ex rfl (X0.de at_18) rfl (l' := #[.val (.int kind), .val (.int pos), .val (.int ch), .val (.int pk), .val (.int (kind &&& (3 : Int32))), .val (.int (1 : Int32)), .unset, .unset, .unset, .unset, .unset]) rfl) ?_
    show Run _ _ _ _ _ _ _ _ _ _ _ _ T0 (mkF m 20 #[.val (.int kind), .val (.int pos), .val (.int ch), .val (.int pk), .val (.int (kind &&& (3 : Int32))), .val (.int (1 : Int32)), .unset, .unset, .unset, .unset, .unset] [])
    refine Run.via (fun _ => XS.iloadN X0.at X0.ex rfl (X0.de at_20) rfl) ?_
    show Run _ _ _ _ _ _ _ _ _ _ _ _ T0 (mkF m 21 #[.val (.int kind), .val (.int pos), .val (.int ch), .val (.int pk), .val (.int (kind &&& (3 : Int32))), .val (.int (1 : Int32)), .unset, .unset, .unset, .unset, .unset] [(.int ch)])
    refine Run.via (fun _ => XS.sipush X0.at X0.ex rfl (X0.de at_21)) ?_
    show Run _ _ _ _ _ _ _ _ _ _ _ _ T0 (mkF m 24 #[.val (.int kind), .val (.int pos), .val (.int ch), .val (.int pk), .val (.int (kind &&& (3 : Int32))), .val (.int (1 : Int32)), .unset, .unset, .unset, .unset, .unset] [(.int (255 : Int32)), (.int ch)])
    refine Run.via (fun _ => XS.iand X0.at X0.ex rfl (X0.de at_24) rfl) ?_
    show Run _ _ _ _ _ _ _ _ _ _ _ _ T0 (mkF m 25 #[.val (.int kind), .val (.int pos), .val (.int ch), .val (.int pk), .val (.int (kind &&& (3 : Int32))), .val (.int (1 : Int32)), .unset, .unset, .unset, .unset, .unset] [(.int (ch &&& (255 : Int32)))])
    refine Run.via (fun _ => XS.i2c X0.at X0.ex rfl (X0.de at_25) rfl) ?_
    show Run _ _ _ _ _ _ _ _ _ _ _ _ T0 (mkF m 26 #[.val (.int kind), .val (.int pos), .val (.int ch), .val (.int pk), .val (.int (kind &&& (3 : Int32))), .val (.int (1 : Int32)), .unset, .unset, .unset, .unset, .unset] [(.int ((ch &&& (255 : Int32)).toUInt32.toUInt16.toUInt32.toInt32))])
    generalize hd : ((ch &&& (255 : Int32)).toUInt32.toUInt16.toUInt32.toInt32) = d
    have rd : ¬ d < 0 ∧ ¬ (255 : Int32) < d := by rw [← hd]; exact and255 _
    show Run _ _ _ _ _ _ _ _ _ _ _ _ T0 (mkF m 26 #[.val (.int kind), .val (.int pos), .val (.int ch), .val (.int pk), .val (.int (kind &&& (3 : Int32))), .val (.int (1 : Int32)), .unset, .unset, .unset, .unset, .unset] [(.int d)])
    refine Run.via (fun _ => XS.istore X0.at X0.ex rfl (X0.de at_26) rfl (l' := #[.val (.int kind), .val (.int pos), .val (.int ch), .val (.int pk), .val (.int (kind &&& (3 : Int32))), .val (.int (1 : Int32)), .val (.int d), .unset, .unset, .unset, .unset]) rfl) ?_
    show Run _ _ _ _ _ _ _ _ _ _ _ _ T0 (mkF m 28 #[.val (.int kind), .val (.int pos), .val (.int ch), .val (.int pk), .val (.int (kind &&& (3 : Int32))), .val (.int (1 : Int32)), .val (.int d), .unset, .unset, .unset, .unset] [])
    refine Run.via (fun _ => XS.iload X0.at X0.ex rfl (X0.de at_28) rfl) ?_
    show Run _ _ _ _ _ _ _ _ _ _ _ _ T0 (mkF m 30 #[.val (.int kind), .val (.int pos), .val (.int ch), .val (.int pk), .val (.int (kind &&& (3 : Int32))), .val (.int (1 : Int32)), .val (.int d), .unset, .unset, .unset, .unset] [(.int (kind &&& (3 : Int32)))])
    by_cases k0 : (kind &&& (3 : Int32)) = (0 : Int32)
    ·
      refine Run.via (fun _ => XS.ifNo X0.at X0.ex rfl (X0.de at_30) rfl ((if0 _ _).trans (teq k0).2)) ?_
      show Run _ _ _ _ _ _ _ _ _ _ _ _ T0 (mkF m 33 #[.val (.int kind), .val (.int pos), .val (.int ch), .val (.int pk), .val (.int (kind &&& (3 : Int32))), .val (.int (1 : Int32)), .val (.int d), .unset, .unset, .unset, .unset] [])
      refine Run.via (fun _ => XS.iloadN X0.at X0.ex rfl (X0.de at_33) rfl) ?_
      show Run _ _ _ _ _ _ _ _ _ _ _ _ T0 (mkF m 34 #[.val (.int kind), .val (.int pos), .val (.int ch), .val (.int pk), .val (.int (kind &&& (3 : Int32))), .val (.int (1 : Int32)), .val (.int d), .unset, .unset, .unset, .unset] [(.int pos)])
      refine Run.via (fun _ => XS.iconst X0.at X0.ex rfl (X0.de at_34)) ?_
      show Run _ _ _ _ _ _ _ _ _ _ _ _ T0 (mkF m 35 #[.val (.int kind), .val (.int pos), .val (.int ch), .val (.int pk), .val (.int (kind &&& (3 : Int32))), .val (.int (1 : Int32)), .val (.int d), .unset, .unset, .unset, .unset] [(.int (3 : Int32)), (.int pos)])
      refine Run.via (fun _ => XS.iand X0.at X0.ex rfl (X0.de at_35) rfl) ?_
      show Run _ _ _ _ _ _ _ _ _ _ _ _ T0 (mkF m 36 #[.val (.int kind), .val (.int pos), .val (.int ch), .val (.int pk), .val (.int (kind &&& (3 : Int32))), .val (.int (1 : Int32)), .val (.int d), .unset, .unset, .unset, .unset] [(.int (pos &&& (3 : Int32)))])
      refine Run.via (fun _ => XS.istore X0.at X0.ex rfl (X0.de at_36) rfl (l' := #[.val (.int kind), .val (.int pos), .val (.int ch), .val (.int pk), .val (.int (kind &&& (3 : Int32))), .val (.int (1 : Int32)), .val (.int d), .unset, .unset, .val (.int (pos &&& (3 : Int32))), .unset]) rfl) ?_
      show Run _ _ _ _ _ _ _ _ _ _ _ _ T0 (mkF m 38 #[.val (.int kind), .val (.int pos), .val (.int ch), .val (.int pk), .val (.int (kind &&& (3 : Int32))), .val (.int (1 : Int32)), .val (.int d), .unset, .unset, .val (.int (pos &&& (3 : Int32))), .unset] [])
      refine Run.via (fun _ => XS.iconst X0.at X0.ex rfl (X0.de at_38)) ?_
      show Run _ _ _ _ _ _ _ _ _ _ _ _ T0 (mkF m 39 #[.val (.int kind), .val (.int pos), .val (.int ch), .val (.int pk), .val (.int (kind &&& (3 : Int32))), .val (.int (1 : Int32)), .val (.int d), .unset, .unset, .val (.int (pos &&& (3 : Int32))), .unset] [(.int (4 : Int32))])
      obtain ⟨i, hi, hie⟩ := mask_4 pos
      rw [hie]
      show Run _ _ _ _ _ _ _ _ _ _ _ _ T0 (mkF m 39 #[.val (.int kind), .val (.int pos), .val (.int ch), .val (.int pk), .val (.int (kind &&& (3 : Int32))), .val (.int (1 : Int32)), .val (.int d), .unset, .unset, .val (.int (Int32.ofNat i)), .unset] [(.int (4 : Int32))])
      refine Run.newarr X0 (aty := .char) (n := 4) (cap := 4) (wd hw 0 rfl) rfl at_39 rfl (Nat.le_refl _) (by decide) (Nat.le_of_ble_eq_true rfl) (Nat.le_of_ble_eq_true rfl) ?_
      intro T132 h132 x132 g132 X132 K132 z132 A132
      have A132 : Arc .char Z h132 x132 [(0 : Int32), (0 : Int32), (0 : Int32), (0 : Int32)] := A132
      show Run _ _ _ _ _ _ _ _ _ _ _ _ T132 (mkF m 41 #[.val (.int kind), .val (.int pos), .val (.int ch), .val (.int pk), .val (.int (kind &&& (3 : Int32))), .val (.int (1 : Int32)), .val (.int d), .unset, .unset, .val (.int (Int32.ofNat i)), .unset] [(.ref x132)])
      refine Run.via (fun _ => XS.astore X132.at X132.ex rfl (X132.de at_41) rfl rfl (l' := #[.val (.int kind), .val (.int pos), .val (.int ch), .val (.int pk), .val (.int (kind &&& (3 : Int32))), .val (.int (1 : Int32)), .val (.int d), .unset, .unset, .val (.int (Int32.ofNat i)), .val (.ref x132)]) rfl) ?_
      show Run _ _ _ _ _ _ _ _ _ _ _ _ T132 (mkF m 43 #[.val (.int kind), .val (.int pos), .val (.int ch), .val (.int pk), .val (.int (kind &&& (3 : Int32))), .val (.int (1 : Int32)), .val (.int d), .unset, .unset, .val (.int (Int32.ofNat i)), .val (.ref x132)] [])
      refine Run.via (fun _ => XS.aload X132.at X132.ex rfl (X132.de at_43) rfl rfl) ?_
      show Run _ _ _ _ _ _ _ _ _ _ _ _ T132 (mkF m 45 #[.val (.int kind), .val (.int pos), .val (.int ch), .val (.int pk), .val (.int (kind &&& (3 : Int32))), .val (.int (1 : Int32)), .val (.int d), .unset, .unset, .val (.int (Int32.ofNat i)), .val (.ref x132)] [(.ref x132)])
      refine Run.via (fun _ => XS.iconst X132.at X132.ex rfl (X132.de at_45)) ?_
      show Run _ _ _ _ _ _ _ _ _ _ _ _ T132 (mkF m 46 #[.val (.int kind), .val (.int pos), .val (.int ch), .val (.int pk), .val (.int (kind &&& (3 : Int32))), .val (.int (1 : Int32)), .val (.int d), .unset, .unset, .val (.int (Int32.ofNat i)), .val (.ref x132)] [(.int (0 : Int32)), (.ref x132)])
      refine Run.via (fun _ => XS.bipush X132.at X132.ex rfl (X132.de at_46)) ?_
      show Run _ _ _ _ _ _ _ _ _ _ _ _ T132 (mkF m 48 #[.val (.int kind), .val (.int pos), .val (.int ch), .val (.int pk), .val (.int (kind &&& (3 : Int32))), .val (.int (1 : Int32)), .val (.int d), .unset, .unset, .val (.int (Int32.ofNat i)), .val (.ref x132)] [(.int (116 : Int32)), (.int (0 : Int32)), (.ref x132)])
      refine Run.castore X132 (i := 0) (v' := (116 : Int32)) A132 rfl (Nat.le_of_ble_eq_true rfl) rfl (Or.inr (by omega)) (by omega) at_48 ?_
      intro T133 h133 L133 X133 K133 z133 A133
      have A133 : Arc .char Z h133 x132 [(116 : Int32), (0 : Int32), (0 : Int32), (0 : Int32)] := A133
      show Run _ _ _ _ _ _ _ _ _ _ _ _ T133 (mkF m 49 #[.val (.int kind), .val (.int pos), .val (.int ch), .val (.int pk), .val (.int (kind &&& (3 : Int32))), .val (.int (1 : Int32)), .val (.int d), .unset, .unset, .val (.int (Int32.ofNat i)), .val (.ref x132)] [])
      refine Run.via (fun _ => XS.aload X133.at X133.ex rfl (X133.de at_49) rfl rfl) ?_
      show Run _ _ _ _ _ _ _ _ _ _ _ _ T133 (mkF m 51 #[.val (.int kind), .val (.int pos), .val (.int ch), .val (.int pk), .val (.int (kind &&& (3 : Int32))), .val (.int (1 : Int32)), .val (.int d), .unset, .unset, .val (.int (Int32.ofNat i)), .val (.ref x132)] [(.ref x132)])
      refine Run.via (fun _ => XS.iconst X133.at X133.ex rfl (X133.de at_51)) ?_
      show Run _ _ _ _ _ _ _ _ _ _ _ _ T133 (mkF m 52 #[.val (.int kind), .val (.int pos), .val (.int ch), .val (.int pk), .val (.int (kind &&& (3 : Int32))), .val (.int (1 : Int32)), .val (.int d), .unset, .unset, .val (.int (Int32.ofNat i)), .val (.ref x132)] [(.int (1 : Int32)), (.ref x132)])
      refine Run.via (fun _ => XS.bipush X133.at X133.ex rfl (X133.de at_52)) ?_
      show Run _ _ _ _ _ _ _ _ _ _ _ _ T133 (mkF m 54 #[.val (.int kind), .val (.int pos), .val (.int ch), .val (.int pk), .val (.int (kind &&& (3 : Int32))), .val (.int (1 : Int32)), .val (.int d), .unset, .unset, .val (.int (Int32.ofNat i)), .val (.ref x132)] [(.int (101 : Int32)), (.int (1 : Int32)), (.ref x132)])
      refine Run.castore X133 (i := 1) (v' := (101 : Int32)) A133 rfl (Nat.le_of_ble_eq_true rfl) rfl (Or.inr (by omega)) (by omega) at_54 ?_
      intro T134 h134 L134 X134 K134 z134 A134
      have A134 : Arc .char Z h134 x132 [(116 : Int32), (101 : Int32), (0 : Int32), (0 : Int32)] := A134
      show Run _ _ _ _ _ _ _ _ _ _ _ _ T134 (mkF m 55 #[.val (.int kind), .val (.int pos), .val (.int ch), .val (.int pk), .val (.int (kind &&& (3 : Int32))), .val (.int (1 : Int32)), .val (.int d), .unset, .unset, .val (.int (Int32.ofNat i)), .val (.ref x132)] [])
      refine Run.via (fun _ => XS.aload X134.at X134.ex rfl (X134.de at_55) rfl rfl) ?_
      show Run _ _ _ _ _ _ _ _ _ _ _ _ T134 (mkF m 57 #[.val (.int kind), .val (.int pos), .val (.int ch), .val (.int pk), .val (.int (kind &&& (3 : Int32))), .val (.int (1 : Int32)), .val (.int d), .unset, .unset, .val (.int (Int32.ofNat i)), .val (.ref x132)] [(.ref x132)])
      refine Run.via (fun _ => XS.iconst X134.at X134.ex rfl (X134.de at_57)) ?_
      show Run _ _ _ _ _ _ _ _ _ _ _ _ T134 (mkF m 58 #[.val (.int kind), .val (.int pos), .val (.int ch), .val (.int pk), .val (.int (kind &&& (3 : Int32))), .val (.int (1 : Int32)), .val (.int d), .unset, .unset, .val (.int (Int32.ofNat i)), .val (.ref x132)] [(.int (2 : Int32)), (.ref x132)])
      refine Run.via (fun _ => XS.bipush X134.at X134.ex rfl (X134.de at_58)) ?_
      show Run _ _ _ _ _ _ _ _ _ _ _ _ T134 (mkF m 60 #[.val (.int kind), .val (.int pos), .val (.int ch), .val (.int pk), .val (.int (kind &&& (3 : Int32))), .val (.int (1 : Int32)), .val (.int d), .unset, .unset, .val (.int (Int32.ofNat i)), .val (.ref x132)] [(.int (115 : Int32)), (.int (2 : Int32)), (.ref x132)])
      refine Run.castore X134 (i := 2) (v' := (115 : Int32)) A134 rfl (Nat.le_of_ble_eq_true rfl) rfl (Or.inr (by omega)) (by omega) at_60 ?_
      intro T135 h135 L135 X135 K135 z135 A135
      have A135 : Arc .char Z h135 x132 [(116 : Int32), (101 : Int32), (115 : Int32), (0 : Int32)] := A135
      show Run _ _ _ _ _ _ _ _ _ _ _ _ T135 (mkF m 61 #[.val (.int kind), .val (.int pos), .val (.int ch), .val (.int pk), .val (.int (kind &&& (3 : Int32))), .val (.int (1 : Int32)), .val (.int d), .unset, .unset, .val (.int (Int32.ofNat i)), .val (.ref x132)] [])
      refine Run.via (fun _ => XS.aload X135.at X135.ex rfl (X135.de at_61) rfl rfl) ?_
      show Run _ _ _ _ _ _ _ _ _ _ _ _ T135 (mkF m 63 #[.val (.int kind), .val (.int pos), .val (.int ch), .val (.int pk), .val (.int (kind &&& (3 : Int32))), .val (.int (1 : Int32)), .val (.int d), .unset, .unset, .val (.int (Int32.ofNat i)), .val (.ref x132)] [(.ref x132)])
      refine Run.via (fun _ => XS.iconst X135.at X135.ex rfl (X135.de at_63)) ?_
      show Run _ _ _ _ _ _ _ _ _ _ _ _ T135 (mkF m 64 #[.val (.int kind), .val (.int pos), .val (.int ch), .val (.int pk), .val (.int (kind &&& (3 : Int32))), .val (.int (1 : Int32)), .val (.int d), .unset, .unset, .val (.int (Int32.ofNat i)), .val (.ref x132)] [(.int (3 : Int32)), (.ref x132)])
      refine Run.via (fun _ => XS.bipush X135.at X135.ex rfl (X135.de at_64)) ?_
      show Run _ _ _ _ _ _ _ _ _ _ _ _ T135 (mkF m 66 #[.val (.int kind), .val (.int pos), .val (.int ch), .val (.int pk), .val (.int (kind &&& (3 : Int32))), .val (.int (1 : Int32)), .val (.int d), .unset, .unset, .val (.int (Int32.ofNat i)), .val (.ref x132)] [(.int (116 : Int32)), (.int (3 : Int32)), (.ref x132)])
      refine Run.castore X135 (i := 3) (v' := (116 : Int32)) A135 rfl (Nat.le_of_ble_eq_true rfl) rfl (Or.inr (by omega)) (by omega) at_66 ?_
      intro T136 h136 L136 X136 K136 z136 A136
      have A136 : Arc .char Z h136 x132 [(116 : Int32), (101 : Int32), (115 : Int32), (116 : Int32)] := A136
      show Run _ _ _ _ _ _ _ _ _ _ _ _ T136 (mkF m 67 #[.val (.int kind), .val (.int pos), .val (.int ch), .val (.int pk), .val (.int (kind &&& (3 : Int32))), .val (.int (1 : Int32)), .val (.int d), .unset, .unset, .val (.int (Int32.ofNat i)), .val (.ref x132)] [])
      have A0 : Arc .char Z h136 x132 testL := A136
      refine Run.via (fun _ => XS.iload X136.at X136.ex rfl (X136.de at_67) rfl) ?_
      show Run _ _ _ _ _ _ _ _ _ _ _ _ T136 (mkF m 69 #[.val (.int kind), .val (.int pos), .val (.int ch), .val (.int pk), .val (.int (kind &&& (3 : Int32))), .val (.int (1 : Int32)), .val (.int d), .unset, .unset, .val (.int (Int32.ofNat i)), .val (.ref x132)] [(.int (1 : Int32))])
      refine Run.via (fun _ => XS.ifNo X136.at X136.ex rfl (X136.de at_69) rfl ((if0 _ _).trans (feq (by decide : ¬ ((1 : Int32) = (0 : Int32)))).1)) ?_
      show Run _ _ _ _ _ _ _ _ _ _ _ _ T136 (mkF m 72 #[.val (.int kind), .val (.int pos), .val (.int ch), .val (.int pk), .val (.int (kind &&& (3 : Int32))), .val (.int (1 : Int32)), .val (.int d), .unset, .unset, .val (.int (Int32.ofNat i)), .val (.ref x132)] [])
      refine Run.via (fun _ => XS.aload X136.at X136.ex rfl (X136.de at_72) rfl rfl) ?_
      show Run _ _ _ _ _ _ _ _ _ _ _ _ T136 (mkF m 74 #[.val (.int kind), .val (.int pos), .val (.int ch), .val (.int pk), .val (.int (kind &&& (3 : Int32))), .val (.int (1 : Int32)), .val (.int d), .unset, .unset, .val (.int (Int32.ofNat i)), .val (.ref x132)] [(.ref x132)])
      refine Run.via (fun _ => XS.iload X136.at X136.ex rfl (X136.de at_74) rfl) ?_
      show Run _ _ _ _ _ _ _ _ _ _ _ _ T136 (mkF m 76 #[.val (.int kind), .val (.int pos), .val (.int ch), .val (.int pk), .val (.int (kind &&& (3 : Int32))), .val (.int (1 : Int32)), .val (.int d), .unset, .unset, .val (.int (Int32.ofNat i)), .val (.ref x132)] [(.int (Int32.ofNat i)), (.ref x132)])
      refine Run.via (fun _ => XS.iload X136.at X136.ex rfl (X136.de at_76) rfl) ?_
      show Run _ _ _ _ _ _ _ _ _ _ _ _ T136 (mkF m 78 #[.val (.int kind), .val (.int pos), .val (.int ch), .val (.int pk), .val (.int (kind &&& (3 : Int32))), .val (.int (1 : Int32)), .val (.int d), .unset, .unset, .val (.int (Int32.ofNat i)), .val (.ref x132)] [(.int d), (.int (Int32.ofNat i)), (.ref x132)])
      refine Run.castore X136 (i := i) (v' := d) A0 rfl (by simpa [testL, provL] using hi) (nar_lat rd) (Or.inr (by omega)) (by omega) at_78 ?_
      intro T137 h137 L137 X137 K137 z137 A137
      show Run _ _ _ _ _ _ _ _ _ _ _ _ T137 (mkF m 79 #[.val (.int kind), .val (.int pos), .val (.int ch), .val (.int pk), .val (.int (kind &&& (3 : Int32))), .val (.int (1 : Int32)), .val (.int d), .unset, .unset, .val (.int (Int32.ofNat i)), .val (.ref x132)] [])
      have u138 := X137.kp.1
      refine Run.new X137 (wd hw 1 rfl) (wd hw 2 rfl) (wd hw 3 rfl) at_79 (Nat.le_of_ble_eq_true rfl) (Nat.le_of_ble_eq_true rfl) ?_
      intro T139 h139 x139 g139 X139 K139 z139 E139 D139
      show Run _ _ _ _ _ _ _ _ _ _ _ _ T139 (mkF m 82 #[.val (.int kind), .val (.int pos), .val (.int ch), .val (.int pk), .val (.int (kind &&& (3 : Int32))), .val (.int (1 : Int32)), .val (.int d), .unset, .unset, .val (.int (Int32.ofNat i)), .val (.ref x132)] [(.ref x139)])
      have s139 := K139.1
      have A139x := A137.keep K139 nin0
      have G139 : Raw Z h139 x139 := ⟨E139, D139 (Or.inr (wd hw 29 rfl)) (ty := (.array .byte)) (by decide), D139 (Or.inr (wd hw 27 rfl)) (ty := .byte) (by decide)⟩
      refine Run.via (fun _ => XS.dup X139.at X139.ex rfl (X139.de at_82) rfl rfl) ?_
      show Run _ _ _ _ _ _ _ _ _ _ _ _ T139 (mkF m 83 #[.val (.int kind), .val (.int pos), .val (.int ch), .val (.int pk), .val (.int (kind &&& (3 : Int32))), .val (.int (1 : Int32)), .val (.int d), .unset, .unset, .val (.int (Int32.ofNat i)), .val (.ref x132)] [(.ref x139), (.ref x139)])
      refine Run.via (fun _ => XS.aload X139.at X139.ex rfl (X139.de at_83) rfl rfl) ?_
      show Run _ _ _ _ _ _ _ _ _ _ _ _ T139 (mkF m 85 #[.val (.int kind), .val (.int pos), .val (.int ch), .val (.int pk), .val (.int (kind &&& (3 : Int32))), .val (.int (1 : Int32)), .val (.int d), .unset, .unset, .val (.int (Int32.ofNat i)), .val (.ref x132)] [(.ref x132), (.ref x139), (.ref x139)])
      refine Run.initStr hw hS X139 (cs := (testL.set i d)) (W := 1) G139 A139x (set_rng (by decide) rd) (by simp [testL, provL]) (wd hw 4 rfl) (wd hw 5 rfl) (wd hw 2 rfl) at_85 rfl (Or.inr (by omega)) (by omega) (by simp) (Nat.le_of_ble_eq_true rfl) (by decide) (by decide) (Nat.le_of_ble_eq_true rfl) (by show _ ≤ 12480; simp [testL, provL]) ?_
      intro T140 h140 L140 X140 K140 S140
      have X140 := X140.mono (k := 10) (n := 60) (Nat.le_of_ble_eq_true rfl) (by simp [testL, provL])
      show Run _ _ _ _ _ _ _ _ _ _ _ _ T140 (mkF m 88 #[.val (.int kind), .val (.int pos), .val (.int ch), .val (.int pk), .val (.int (kind &&& (3 : Int32))), .val (.int (1 : Int32)), .val (.int d), .unset, .unset, .val (.int (Int32.ofNat i)), .val (.ref x132)] [(.ref x139)])
      refine Run.via (fun _ => XS.astore X140.at X140.ex rfl (X140.de at_88) rfl rfl (l' := #[.val (.int kind), .val (.int pos), .val (.int ch), .val (.int pk), .val (.int (kind &&& (3 : Int32))), .val (.int (1 : Int32)), .val (.int d), .val (.ref x139), .unset, .val (.int (Int32.ofNat i)), .val (.ref x132)]) rfl) ?_
      show Run _ _ _ _ _ _ _ _ _ _ _ _ T140 (mkF m 90 #[.val (.int kind), .val (.int pos), .val (.int ch), .val (.int pk), .val (.int (kind &&& (3 : Int32))), .val (.int (1 : Int32)), .val (.int d), .val (.ref x139), .unset, .val (.int (Int32.ofNat i)), .val (.ref x132)] [])
      refine Run.via (fun _ => XS.iload X140.at X140.ex rfl (X140.de at_90) rfl) ?_
      show Run _ _ _ _ _ _ _ _ _ _ _ _ T140 (mkF m 92 #[.val (.int kind), .val (.int pos), .val (.int ch), .val (.int pk), .val (.int (kind &&& (3 : Int32))), .val (.int (1 : Int32)), .val (.int d), .val (.ref x139), .unset, .val (.int (Int32.ofNat i)), .val (.ref x132)] [(.int (1 : Int32))])
      refine Run.via (fun _ => XS.ifNo X140.at X140.ex rfl (X140.de at_92) rfl ((if0 _ _).trans (feq (by decide : ¬ ((1 : Int32) = (0 : Int32)))).1)) ?_
      show Run _ _ _ _ _ _ _ _ _ _ _ _ T140 (mkF m 95 #[.val (.int kind), .val (.int pos), .val (.int ch), .val (.int pk), .val (.int (kind &&& (3 : Int32))), .val (.int (1 : Int32)), .val (.int d), .val (.ref x139), .unset, .val (.int (Int32.ofNat i)), .val (.ref x132)] [])
      refine Run.via (fun _ => XS.iload X140.at X140.ex rfl (X140.de at_95) rfl) ?_
      show Run _ _ _ _ _ _ _ _ _ _ _ _ T140 (mkF m 97 #[.val (.int kind), .val (.int pos), .val (.int ch), .val (.int pk), .val (.int (kind &&& (3 : Int32))), .val (.int (1 : Int32)), .val (.int d), .val (.ref x139), .unset, .val (.int (Int32.ofNat i)), .val (.ref x132)] [(.int d)])
      refine Run.ldcS hw hN X140 (cs := [(116 : Int32), (101 : Int32), (115 : Int32), (116 : Int32)]) (n := 16) (wd hw 48 rfl) (hm _ (by decide)) (by decide) (by decide) (by decide) at_97 (by decide) (by decide) (Nat.le_of_ble_eq_true rfl) (Nat.le_of_ble_eq_true rfl) ?_
      intro a141 T141 h141 L141 X141 K141 S141
      show Run _ _ _ _ _ _ _ _ _ _ _ _ T141 (mkF m 99 #[.val (.int kind), .val (.int pos), .val (.int ch), .val (.int pk), .val (.int (kind &&& (3 : Int32))), .val (.int (1 : Int32)), .val (.int d), .val (.ref x139), .unset, .val (.int (Int32.ofNat i)), .val (.ref x132)] [(.ref a141), (.int d)])
      refine Run.via (fun _ => XS.iload X141.at X141.ex rfl (X141.de at_99) rfl) ?_
      show Run _ _ _ _ _ _ _ _ _ _ _ _ T141 (mkF m 101 #[.val (.int kind), .val (.int pos), .val (.int ch), .val (.int pk), .val (.int (kind &&& (3 : Int32))), .val (.int (1 : Int32)), .val (.int d), .val (.ref x139), .unset, .val (.int (Int32.ofNat i)), .val (.ref x132)] [(.int (Int32.ofNat i)), (.ref a141), (.int d)])
      refine Run.sch hw hS X141 (W := 1) S141 (by decide) rfl (by simpa using hi) (wd hw 49 rfl) (wd hw 50 rfl) (wd hw 51 rfl) (wd hw 52 rfl) (wd hw 2 rfl) at_101 rfl (Nat.le_of_ble_eq_true rfl) (by decide) (by decide) (Nat.le_of_ble_eq_true rfl) (Nat.le_of_ble_eq_true rfl) ?_
      intro T142 X142
      show Run _ _ _ _ _ _ _ _ _ _ _ _ T142 (mkF m 104 #[.val (.int kind), .val (.int pos), .val (.int ch), .val (.int pk), .val (.int (kind &&& (3 : Int32))), .val (.int (1 : Int32)), .val (.int d), .val (.ref x139), .unset, .val (.int (Int32.ofNat i)), .val (.ref x132)] [(.int (testL.getD i 0)), (.int d)])
      have SS := S140.keep K141
      by_cases hq : d = (testL.getD i 0)
      ·
        refine Run.via (fun _ => XS.icmpYes X142.at X142.ex rfl (pc0 := 104) (pc' := 111) rfl (X142.de at_104) rfl (teq hq).1 (by decide) (by decide)) ?_
        show Run _ _ _ _ _ _ _ _ _ _ _ _ T142 (mkF m 111 #[.val (.int kind), .val (.int pos), .val (.int ch), .val (.int pk), .val (.int (kind &&& (3 : Int32))), .val (.int (1 : Int32)), .val (.int d), .val (.ref x139), .unset, .val (.int (Int32.ofNat i)), .val (.ref x132)] [])
        refine Run.via (fun _ => XS.iconst X142.at X142.ex rfl (X142.de at_111)) ?_
        show Run _ _ _ _ _ _ _ _ _ _ _ _ T142 (mkF m 112 #[.val (.int kind), .val (.int pos), .val (.int ch), .val (.int pk), .val (.int (kind &&& (3 : Int32))), .val (.int (1 : Int32)), .val (.int d), .val (.ref x139), .unset, .val (.int (Int32.ofNat i)), .val (.ref x132)] [(.int (0 : Int32))])
        refine Run.via (fun _ => XS.istore X142.at X142.ex rfl (X142.de at_112) rfl (l' := #[.val (.int kind), .val (.int pos), .val (.int ch), .val (.int pk), .val (.int (kind &&& (3 : Int32))), .val (.int (1 : Int32)), .val (.int d), .val (.ref x139), .val (.int (0 : Int32)), .val (.int (Int32.ofNat i)), .val (.ref x132)]) rfl) ?_
        show Run _ _ _ _ _ _ _ _ _ _ _ _ T142 (mkF m 114 #[.val (.int kind), .val (.int pos), .val (.int ch), .val (.int pk), .val (.int (kind &&& (3 : Int32))), .val (.int (1 : Int32)), .val (.int d), .val (.ref x139), .val (.int (0 : Int32)), .val (.int (Int32.ofNat i)), .val (.ref x132)] [])
        refine Run.via (fun _ => XS.goto X142.at X142.ex rfl (pc0 := 114) (pc' := 410) rfl (X142.de at_114) (by decide) (by decide)) ?_
        show Run _ _ _ _ _ _ _ _ _ _ _ _ T142 (mkF m 410 #[.val (.int kind), .val (.int pos), .val (.int ch), .val (.int pk), .val (.int (kind &&& (3 : Int32))), .val (.int (1 : Int32)), .val (.int d), .val (.ref x139), .val (.int (0 : Int32)), .val (.int (Int32.ofNat i)), .val (.ref x132)] [])
        exact J410 _ _ _ _ _ _ _ _ _ _ _ _ (X142.mono (by decide) (by decide)) SS (by rw [bro_test i hi d, if_pos hq])
      ·
        refine Run.via (fun _ => XS.icmpNo X142.at X142.ex rfl (X142.de at_104) rfl (feq hq).1) ?_
        show Run _ _ _ _ _ _ _ _ _ _ _ _ T142 (mkF m 107 #[.val (.int kind), .val (.int pos), .val (.int ch), .val (.int pk), .val (.int (kind &&& (3 : Int32))), .val (.int (1 : Int32)), .val (.int d), .val (.ref x139), .unset, .val (.int (Int32.ofNat i)), .val (.ref x132)] [])
        refine Run.via (fun _ => XS.iconst X142.at X142.ex rfl (X142.de at_107)) ?_
        show Run _ _ _ _ _ _ _ _ _ _ _ _ T142 (mkF m 108 #[.val (.int kind), .val (.int pos), .val (.int ch), .val (.int pk), .val (.int (kind &&& (3 : Int32))), .val (.int (1 : Int32)), .val (.int d), .val (.ref x139), .unset, .val (.int (Int32.ofNat i)), .val (.ref x132)] [(.int (1 : Int32))])
        refine Run.via (fun _ => XS.goto X142.at X142.ex rfl (pc0 := 108) (pc' := 112) rfl (X142.de at_108) (by decide) (by decide)) ?_
        show Run _ _ _ _ _ _ _ _ _ _ _ _ T142 (mkF m 112 #[.val (.int kind), .val (.int pos), .val (.int ch), .val (.int pk), .val (.int (kind &&& (3 : Int32))), .val (.int (1 : Int32)), .val (.int d), .val (.ref x139), .unset, .val (.int (Int32.ofNat i)), .val (.ref x132)] [(.int (1 : Int32))])
        refine Run.via (fun _ => XS.istore X142.at X142.ex rfl (X142.de at_112) rfl (l' := #[.val (.int kind), .val (.int pos), .val (.int ch), .val (.int pk), .val (.int (kind &&& (3 : Int32))), .val (.int (1 : Int32)), .val (.int d), .val (.ref x139), .val (.int (1 : Int32)), .val (.int (Int32.ofNat i)), .val (.ref x132)]) rfl) ?_
        show Run _ _ _ _ _ _ _ _ _ _ _ _ T142 (mkF m 114 #[.val (.int kind), .val (.int pos), .val (.int ch), .val (.int pk), .val (.int (kind &&& (3 : Int32))), .val (.int (1 : Int32)), .val (.int d), .val (.ref x139), .val (.int (1 : Int32)), .val (.int (Int32.ofNat i)), .val (.ref x132)] [])
        refine Run.via (fun _ => XS.goto X142.at X142.ex rfl (pc0 := 114) (pc' := 410) rfl (X142.de at_114) (by decide) (by decide)) ?_
        show Run _ _ _ _ _ _ _ _ _ _ _ _ T142 (mkF m 410 #[.val (.int kind), .val (.int pos), .val (.int ch), .val (.int pk), .val (.int (kind &&& (3 : Int32))), .val (.int (1 : Int32)), .val (.int d), .val (.ref x139), .val (.int (1 : Int32)), .val (.int (Int32.ofNat i)), .val (.ref x132)] [])
        exact J410 _ _ _ _ _ _ _ _ _ _ _ _ (X142.mono (by decide) (by decide)) SS (by rw [bro_test i hi d, if_neg hq])
    ·
      refine Run.via (fun _ => XS.ifYes X0.at X0.ex rfl (pc0 := 30) (pc' := 117) rfl (X0.de at_30) rfl ((if0 _ _).trans (feq k0).2) (by decide) (by decide)) ?_
      show Run _ _ _ _ _ _ _ _ _ _ _ _ T0 (mkF m 117 #[.val (.int kind), .val (.int pos), .val (.int ch), .val (.int pk), .val (.int (kind &&& (3 : Int32))), .val (.int (1 : Int32)), .val (.int d), .unset, .unset, .unset, .unset] [])
      refine Run.via (fun _ => XS.iload X0.at X0.ex rfl (X0.de at_117) rfl) ?_
      show Run _ _ _ _ _ _ _ _ _ _ _ _ T0 (mkF m 119 #[.val (.int kind), .val (.int pos), .val (.int ch), .val (.int pk), .val (.int (kind &&& (3 : Int32))), .val (.int (1 : Int32)), .val (.int d), .unset, .unset, .unset, .unset] [(.int (kind &&& (3 : Int32)))])
      refine Run.via (fun _ => XS.iconst X0.at X0.ex rfl (X0.de at_119)) ?_
      show Run _ _ _ _ _ _ _ _ _ _ _ _ T0 (mkF m 120 #[.val (.int kind), .val (.int pos), .val (.int ch), .val (.int pk), .val (.int (kind &&& (3 : Int32))), .val (.int (1 : Int32)), .val (.int d), .unset, .unset, .unset, .unset] [(.int (1 : Int32)), (.int (kind &&& (3 : Int32)))])
      by_cases k1 : (kind &&& (3 : Int32)) = (1 : Int32)
      ·
        refine Run.via (fun _ => XS.icmpNo X0.at X0.ex rfl (X0.de at_120) rfl (teq k1).2) ?_
        show Run _ _ _ _ _ _ _ _ _ _ _ _ T0 (mkF m 123 #[.val (.int kind), .val (.int pos), .val (.int ch), .val (.int pk), .val (.int (kind &&& (3 : Int32))), .val (.int (1 : Int32)), .val (.int d), .unset, .unset, .unset, .unset] [])
        refine Run.via (fun _ => XS.iloadN X0.at X0.ex rfl (X0.de at_123) rfl) ?_
        show Run _ _ _ _ _ _ _ _ _ _ _ _ T0 (mkF m 124 #[.val (.int kind), .val (.int pos), .val (.int ch), .val (.int pk), .val (.int (kind &&& (3 : Int32))), .val (.int (1 : Int32)), .val (.int d), .unset, .unset, .unset, .unset] [(.int pos)])
        refine Run.via (fun _ => XS.bipush X0.at X0.ex rfl (X0.de at_124)) ?_
        show Run _ _ _ _ _ _ _ _ _ _ _ _ T0 (mkF m 126 #[.val (.int kind), .val (.int pos), .val (.int ch), .val (.int pk), .val (.int (kind &&& (3 : Int32))), .val (.int (1 : Int32)), .val (.int d), .unset, .unset, .unset, .unset] [(.int (7 : Int32)), (.int pos)])
        refine Run.via (fun _ => XS.iand X0.at X0.ex rfl (X0.de at_126) rfl) ?_
        show Run _ _ _ _ _ _ _ _ _ _ _ _ T0 (mkF m 127 #[.val (.int kind), .val (.int pos), .val (.int ch), .val (.int pk), .val (.int (kind &&& (3 : Int32))), .val (.int (1 : Int32)), .val (.int d), .unset, .unset, .unset, .unset] [(.int (pos &&& (7 : Int32)))])
        refine Run.via (fun _ => XS.istore X0.at X0.ex rfl (X0.de at_127) rfl (l' := #[.val (.int kind), .val (.int pos), .val (.int ch), .val (.int pk), .val (.int (kind &&& (3 : Int32))), .val (.int (1 : Int32)), .val (.int d), .unset, .unset, .val (.int (pos &&& (7 : Int32))), .unset]) rfl) ?_
        show Run _ _ _ _ _ _ _ _ _ _ _ _ T0 (mkF m 129 #[.val (.int kind), .val (.int pos), .val (.int ch), .val (.int pk), .val (.int (kind &&& (3 : Int32))), .val (.int (1 : Int32)), .val (.int d), .unset, .unset, .val (.int (pos &&& (7 : Int32))), .unset] [])
        refine Run.via (fun _ => XS.bipush X0.at X0.ex rfl (X0.de at_129)) ?_
        show Run _ _ _ _ _ _ _ _ _ _ _ _ T0 (mkF m 131 #[.val (.int kind), .val (.int pos), .val (.int ch), .val (.int pk), .val (.int (kind &&& (3 : Int32))), .val (.int (1 : Int32)), .val (.int d), .unset, .unset, .val (.int (pos &&& (7 : Int32))), .unset] [(.int (8 : Int32))])
        obtain ⟨i, hi, hie⟩ := mask_8 pos
        rw [hie]
        show Run _ _ _ _ _ _ _ _ _ _ _ _ T0 (mkF m 131 #[.val (.int kind), .val (.int pos), .val (.int ch), .val (.int pk), .val (.int (kind &&& (3 : Int32))), .val (.int (1 : Int32)), .val (.int d), .unset, .unset, .val (.int (Int32.ofNat i)), .unset] [(.int (8 : Int32))])
        refine Run.newarr X0 (aty := .char) (n := 8) (cap := 8) (wd hw 0 rfl) rfl at_131 rfl (Nat.le_refl _) (by decide) (Nat.le_of_ble_eq_true rfl) (Nat.le_of_ble_eq_true rfl) ?_
        intro T143 h143 x143 g143 X143 K143 z143 A143
        have A143 : Arc .char Z h143 x143 [(0 : Int32), (0 : Int32), (0 : Int32), (0 : Int32), (0 : Int32), (0 : Int32), (0 : Int32), (0 : Int32)] := A143
        show Run _ _ _ _ _ _ _ _ _ _ _ _ T143 (mkF m 133 #[.val (.int kind), .val (.int pos), .val (.int ch), .val (.int pk), .val (.int (kind &&& (3 : Int32))), .val (.int (1 : Int32)), .val (.int d), .unset, .unset, .val (.int (Int32.ofNat i)), .unset] [(.ref x143)])
        refine Run.via (fun _ => XS.astore X143.at X143.ex rfl (X143.de at_133) rfl rfl (l' := #[.val (.int kind), .val (.int pos), .val (.int ch), .val (.int pk), .val (.int (kind &&& (3 : Int32))), .val (.int (1 : Int32)), .val (.int d), .unset, .unset, .val (.int (Int32.ofNat i)), .val (.ref x143)]) rfl) ?_
        show Run _ _ _ _ _ _ _ _ _ _ _ _ T143 (mkF m 135 #[.val (.int kind), .val (.int pos), .val (.int ch), .val (.int pk), .val (.int (kind &&& (3 : Int32))), .val (.int (1 : Int32)), .val (.int d), .unset, .unset, .val (.int (Int32.ofNat i)), .val (.ref x143)] [])
        refine Run.via (fun _ => XS.aload X143.at X143.ex rfl (X143.de at_135) rfl rfl) ?_
        show Run _ _ _ _ _ _ _ _ _ _ _ _ T143 (mkF m 137 #[.val (.int kind), .val (.int pos), .val (.int ch), .val (.int pk), .val (.int (kind &&& (3 : Int32))), .val (.int (1 : Int32)), .val (.int d), .unset, .unset, .val (.int (Int32.ofNat i)), .val (.ref x143)] [(.ref x143)])
        refine Run.via (fun _ => XS.iconst X143.at X143.ex rfl (X143.de at_137)) ?_
        show Run _ _ _ _ _ _ _ _ _ _ _ _ T143 (mkF m 138 #[.val (.int kind), .val (.int pos), .val (.int ch), .val (.int pk), .val (.int (kind &&& (3 : Int32))), .val (.int (1 : Int32)), .val (.int d), .unset, .unset, .val (.int (Int32.ofNat i)), .val (.ref x143)] [(.int (0 : Int32)), (.ref x143)])
        refine Run.via (fun _ => XS.bipush X143.at X143.ex rfl (X143.de at_138)) ?_
        show Run _ _ _ _ _ _ _ _ _ _ _ _ T143 (mkF m 140 #[.val (.int kind), .val (.int pos), .val (.int ch), .val (.int pk), .val (.int (kind &&& (3 : Int32))), .val (.int (1 : Int32)), .val (.int d), .unset, .unset, .val (.int (Int32.ofNat i)), .val (.ref x143)] [(.int (112 : Int32)), (.int (0 : Int32)), (.ref x143)])
        refine Run.castore X143 (i := 0) (v' := (112 : Int32)) A143 rfl (Nat.le_of_ble_eq_true rfl) rfl (Or.inr (by omega)) (by omega) at_140 ?_
        intro T144 h144 L144 X144 K144 z144 A144
        have A144 : Arc .char Z h144 x143 [(112 : Int32), (0 : Int32), (0 : Int32), (0 : Int32), (0 : Int32), (0 : Int32), (0 : Int32), (0 : Int32)] := A144
        show Run _ _ _ _ _ _ _ _ _ _ _ _ T144 (mkF m 141 #[.val (.int kind), .val (.int pos), .val (.int ch), .val (.int pk), .val (.int (kind &&& (3 : Int32))), .val (.int (1 : Int32)), .val (.int d), .unset, .unset, .val (.int (Int32.ofNat i)), .val (.ref x143)] [])
        refine Run.via (fun _ => XS.aload X144.at X144.ex rfl (X144.de at_141) rfl rfl) ?_
        show Run _ _ _ _ _ _ _ _ _ _ _ _ T144 (mkF m 143 #[.val (.int kind), .val (.int pos), .val (.int ch), .val (.int pk), .val (.int (kind &&& (3 : Int32))), .val (.int (1 : Int32)), .val (.int d), .unset, .unset, .val (.int (Int32.ofNat i)), .val (.ref x143)] [(.ref x143)])
        refine Run.via (fun _ => XS.iconst X144.at X144.ex rfl (X144.de at_143)) ?_
        show Run _ _ _ _ _ _ _ _ _ _ _ _ T144 (mkF m 144 #[.val (.int kind), .val (.int pos), .val (.int ch), .val (.int pk), .val (.int (kind &&& (3 : Int32))), .val (.int (1 : Int32)), .val (.int d), .unset, .unset, .val (.int (Int32.ofNat i)), .val (.ref x143)] [(.int (1 : Int32)), (.ref x143)])
        refine Run.via (fun _ => XS.bipush X144.at X144.ex rfl (X144.de at_144)) ?_
        show Run _ _ _ _ _ _ _ _ _ _ _ _ T144 (mkF m 146 #[.val (.int kind), .val (.int pos), .val (.int ch), .val (.int pk), .val (.int (kind &&& (3 : Int32))), .val (.int (1 : Int32)), .val (.int d), .unset, .unset, .val (.int (Int32.ofNat i)), .val (.ref x143)] [(.int (114 : Int32)), (.int (1 : Int32)), (.ref x143)])
        refine Run.castore X144 (i := 1) (v' := (114 : Int32)) A144 rfl (Nat.le_of_ble_eq_true rfl) rfl (Or.inr (by omega)) (by omega) at_146 ?_
        intro T145 h145 L145 X145 K145 z145 A145
        have A145 : Arc .char Z h145 x143 [(112 : Int32), (114 : Int32), (0 : Int32), (0 : Int32), (0 : Int32), (0 : Int32), (0 : Int32), (0 : Int32)] := A145
        show Run _ _ _ _ _ _ _ _ _ _ _ _ T145 (mkF m 147 #[.val (.int kind), .val (.int pos), .val (.int ch), .val (.int pk), .val (.int (kind &&& (3 : Int32))), .val (.int (1 : Int32)), .val (.int d), .unset, .unset, .val (.int (Int32.ofNat i)), .val (.ref x143)] [])
        refine Run.via (fun _ => XS.aload X145.at X145.ex rfl (X145.de at_147) rfl rfl) ?_
        show Run _ _ _ _ _ _ _ _ _ _ _ _ T145 (mkF m 149 #[.val (.int kind), .val (.int pos), .val (.int ch), .val (.int pk), .val (.int (kind &&& (3 : Int32))), .val (.int (1 : Int32)), .val (.int d), .unset, .unset, .val (.int (Int32.ofNat i)), .val (.ref x143)] [(.ref x143)])
        refine Run.via (fun _ => XS.iconst X145.at X145.ex rfl (X145.de at_149)) ?_
        show Run _ _ _ _ _ _ _ _ _ _ _ _ T145 (mkF m 150 #[.val (.int kind), .val (.int pos), .val (.int ch), .val (.int pk), .val (.int (kind &&& (3 : Int32))), .val (.int (1 : Int32)), .val (.int d), .unset, .unset, .val (.int (Int32.ofNat i)), .val (.ref x143)] [(.int (2 : Int32)), (.ref x143)])
        refine Run.via (fun _ => XS.bipush X145.at X145.ex rfl (X145.de at_150)) ?_
        show Run _ _ _ _ _ _ _ _ _ _ _ _ T145 (mkF m 152 #[.val (.int kind), .val (.int pos), .val (.int ch), .val (.int pk), .val (.int (kind &&& (3 : Int32))), .val (.int (1 : Int32)), .val (.int d), .unset, .unset, .val (.int (Int32.ofNat i)), .val (.ref x143)] [(.int (111 : Int32)), (.int (2 : Int32)), (.ref x143)])
        refine Run.castore X145 (i := 2) (v' := (111 : Int32)) A145 rfl (Nat.le_of_ble_eq_true rfl) rfl (Or.inr (by omega)) (by omega) at_152 ?_
        intro T146 h146 L146 X146 K146 z146 A146
        have A146 : Arc .char Z h146 x143 [(112 : Int32), (114 : Int32), (111 : Int32), (0 : Int32), (0 : Int32), (0 : Int32), (0 : Int32), (0 : Int32)] := A146
        show Run _ _ _ _ _ _ _ _ _ _ _ _ T146 (mkF m 153 #[.val (.int kind), .val (.int pos), .val (.int ch), .val (.int pk), .val (.int (kind &&& (3 : Int32))), .val (.int (1 : Int32)), .val (.int d), .unset, .unset, .val (.int (Int32.ofNat i)), .val (.ref x143)] [])
        refine Run.via (fun _ => XS.aload X146.at X146.ex rfl (X146.de at_153) rfl rfl) ?_
        show Run _ _ _ _ _ _ _ _ _ _ _ _ T146 (mkF m 155 #[.val (.int kind), .val (.int pos), .val (.int ch), .val (.int pk), .val (.int (kind &&& (3 : Int32))), .val (.int (1 : Int32)), .val (.int d), .unset, .unset, .val (.int (Int32.ofNat i)), .val (.ref x143)] [(.ref x143)])
        refine Run.via (fun _ => XS.iconst X146.at X146.ex rfl (X146.de at_155)) ?_
        show Run _ _ _ _ _ _ _ _ _ _ _ _ T146 (mkF m 156 #[.val (.int kind), .val (.int pos), .val (.int ch), .val (.int pk), .val (.int (kind &&& (3 : Int32))), .val (.int (1 : Int32)), .val (.int d), .unset, .unset, .val (.int (Int32.ofNat i)), .val (.ref x143)] [(.int (3 : Int32)), (.ref x143)])
        refine Run.via (fun _ => XS.bipush X146.at X146.ex rfl (X146.de at_156)) ?_
        show Run _ _ _ _ _ _ _ _ _ _ _ _ T146 (mkF m 158 #[.val (.int kind), .val (.int pos), .val (.int ch), .val (.int pk), .val (.int (kind &&& (3 : Int32))), .val (.int (1 : Int32)), .val (.int d), .unset, .unset, .val (.int (Int32.ofNat i)), .val (.ref x143)] [(.int (118 : Int32)), (.int (3 : Int32)), (.ref x143)])
        refine Run.castore X146 (i := 3) (v' := (118 : Int32)) A146 rfl (Nat.le_of_ble_eq_true rfl) rfl (Or.inr (by omega)) (by omega) at_158 ?_
        intro T147 h147 L147 X147 K147 z147 A147
        have A147 : Arc .char Z h147 x143 [(112 : Int32), (114 : Int32), (111 : Int32), (118 : Int32), (0 : Int32), (0 : Int32), (0 : Int32), (0 : Int32)] := A147
        show Run _ _ _ _ _ _ _ _ _ _ _ _ T147 (mkF m 159 #[.val (.int kind), .val (.int pos), .val (.int ch), .val (.int pk), .val (.int (kind &&& (3 : Int32))), .val (.int (1 : Int32)), .val (.int d), .unset, .unset, .val (.int (Int32.ofNat i)), .val (.ref x143)] [])
        refine Run.via (fun _ => XS.aload X147.at X147.ex rfl (X147.de at_159) rfl rfl) ?_
        show Run _ _ _ _ _ _ _ _ _ _ _ _ T147 (mkF m 161 #[.val (.int kind), .val (.int pos), .val (.int ch), .val (.int pk), .val (.int (kind &&& (3 : Int32))), .val (.int (1 : Int32)), .val (.int d), .unset, .unset, .val (.int (Int32.ofNat i)), .val (.ref x143)] [(.ref x143)])
        refine Run.via (fun _ => XS.iconst X147.at X147.ex rfl (X147.de at_161)) ?_
        show Run _ _ _ _ _ _ _ _ _ _ _ _ T147 (mkF m 162 #[.val (.int kind), .val (.int pos), .val (.int ch), .val (.int pk), .val (.int (kind &&& (3 : Int32))), .val (.int (1 : Int32)), .val (.int d), .unset, .unset, .val (.int (Int32.ofNat i)), .val (.ref x143)] [(.int (4 : Int32)), (.ref x143)])
        refine Run.via (fun _ => XS.bipush X147.at X147.ex rfl (X147.de at_162)) ?_
        show Run _ _ _ _ _ _ _ _ _ _ _ _ T147 (mkF m 164 #[.val (.int kind), .val (.int pos), .val (.int ch), .val (.int pk), .val (.int (kind &&& (3 : Int32))), .val (.int (1 : Int32)), .val (.int d), .unset, .unset, .val (.int (Int32.ofNat i)), .val (.ref x143)] [(.int (105 : Int32)), (.int (4 : Int32)), (.ref x143)])
        refine Run.castore X147 (i := 4) (v' := (105 : Int32)) A147 rfl (Nat.le_of_ble_eq_true rfl) rfl (Or.inr (by omega)) (by omega) at_164 ?_
        intro T148 h148 L148 X148 K148 z148 A148
        have A148 : Arc .char Z h148 x143 [(112 : Int32), (114 : Int32), (111 : Int32), (118 : Int32), (105 : Int32), (0 : Int32), (0 : Int32), (0 : Int32)] := A148
        show Run _ _ _ _ _ _ _ _ _ _ _ _ T148 (mkF m 165 #[.val (.int kind), .val (.int pos), .val (.int ch), .val (.int pk), .val (.int (kind &&& (3 : Int32))), .val (.int (1 : Int32)), .val (.int d), .unset, .unset, .val (.int (Int32.ofNat i)), .val (.ref x143)] [])
        refine Run.via (fun _ => XS.aload X148.at X148.ex rfl (X148.de at_165) rfl rfl) ?_
        show Run _ _ _ _ _ _ _ _ _ _ _ _ T148 (mkF m 167 #[.val (.int kind), .val (.int pos), .val (.int ch), .val (.int pk), .val (.int (kind &&& (3 : Int32))), .val (.int (1 : Int32)), .val (.int d), .unset, .unset, .val (.int (Int32.ofNat i)), .val (.ref x143)] [(.ref x143)])
        refine Run.via (fun _ => XS.iconst X148.at X148.ex rfl (X148.de at_167)) ?_
        show Run _ _ _ _ _ _ _ _ _ _ _ _ T148 (mkF m 168 #[.val (.int kind), .val (.int pos), .val (.int ch), .val (.int pk), .val (.int (kind &&& (3 : Int32))), .val (.int (1 : Int32)), .val (.int d), .unset, .unset, .val (.int (Int32.ofNat i)), .val (.ref x143)] [(.int (5 : Int32)), (.ref x143)])
        refine Run.via (fun _ => XS.bipush X148.at X148.ex rfl (X148.de at_168)) ?_
        show Run _ _ _ _ _ _ _ _ _ _ _ _ T148 (mkF m 170 #[.val (.int kind), .val (.int pos), .val (.int ch), .val (.int pk), .val (.int (kind &&& (3 : Int32))), .val (.int (1 : Int32)), .val (.int d), .unset, .unset, .val (.int (Int32.ofNat i)), .val (.ref x143)] [(.int (100 : Int32)), (.int (5 : Int32)), (.ref x143)])
        refine Run.castore X148 (i := 5) (v' := (100 : Int32)) A148 rfl (Nat.le_of_ble_eq_true rfl) rfl (Or.inr (by omega)) (by omega) at_170 ?_
        intro T149 h149 L149 X149 K149 z149 A149
        have A149 : Arc .char Z h149 x143 [(112 : Int32), (114 : Int32), (111 : Int32), (118 : Int32), (105 : Int32), (100 : Int32), (0 : Int32), (0 : Int32)] := A149
        show Run _ _ _ _ _ _ _ _ _ _ _ _ T149 (mkF m 171 #[.val (.int kind), .val (.int pos), .val (.int ch), .val (.int pk), .val (.int (kind &&& (3 : Int32))), .val (.int (1 : Int32)), .val (.int d), .unset, .unset, .val (.int (Int32.ofNat i)), .val (.ref x143)] [])
        refine Run.via (fun _ => XS.aload X149.at X149.ex rfl (X149.de at_171) rfl rfl) ?_
        show Run _ _ _ _ _ _ _ _ _ _ _ _ T149 (mkF m 173 #[.val (.int kind), .val (.int pos), .val (.int ch), .val (.int pk), .val (.int (kind &&& (3 : Int32))), .val (.int (1 : Int32)), .val (.int d), .unset, .unset, .val (.int (Int32.ofNat i)), .val (.ref x143)] [(.ref x143)])
        refine Run.via (fun _ => XS.bipush X149.at X149.ex rfl (X149.de at_173)) ?_
        show Run _ _ _ _ _ _ _ _ _ _ _ _ T149 (mkF m 175 #[.val (.int kind), .val (.int pos), .val (.int ch), .val (.int pk), .val (.int (kind &&& (3 : Int32))), .val (.int (1 : Int32)), .val (.int d), .unset, .unset, .val (.int (Int32.ofNat i)), .val (.ref x143)] [(.int (6 : Int32)), (.ref x143)])
        refine Run.via (fun _ => XS.bipush X149.at X149.ex rfl (X149.de at_175)) ?_
        show Run _ _ _ _ _ _ _ _ _ _ _ _ T149 (mkF m 177 #[.val (.int kind), .val (.int pos), .val (.int ch), .val (.int pk), .val (.int (kind &&& (3 : Int32))), .val (.int (1 : Int32)), .val (.int d), .unset, .unset, .val (.int (Int32.ofNat i)), .val (.ref x143)] [(.int (101 : Int32)), (.int (6 : Int32)), (.ref x143)])
        refine Run.castore X149 (i := 6) (v' := (101 : Int32)) A149 rfl (Nat.le_of_ble_eq_true rfl) rfl (Or.inr (by omega)) (by omega) at_177 ?_
        intro T150 h150 L150 X150 K150 z150 A150
        have A150 : Arc .char Z h150 x143 [(112 : Int32), (114 : Int32), (111 : Int32), (118 : Int32), (105 : Int32), (100 : Int32), (101 : Int32), (0 : Int32)] := A150
        show Run _ _ _ _ _ _ _ _ _ _ _ _ T150 (mkF m 178 #[.val (.int kind), .val (.int pos), .val (.int ch), .val (.int pk), .val (.int (kind &&& (3 : Int32))), .val (.int (1 : Int32)), .val (.int d), .unset, .unset, .val (.int (Int32.ofNat i)), .val (.ref x143)] [])
        refine Run.via (fun _ => XS.aload X150.at X150.ex rfl (X150.de at_178) rfl rfl) ?_
        show Run _ _ _ _ _ _ _ _ _ _ _ _ T150 (mkF m 180 #[.val (.int kind), .val (.int pos), .val (.int ch), .val (.int pk), .val (.int (kind &&& (3 : Int32))), .val (.int (1 : Int32)), .val (.int d), .unset, .unset, .val (.int (Int32.ofNat i)), .val (.ref x143)] [(.ref x143)])
        refine Run.via (fun _ => XS.bipush X150.at X150.ex rfl (X150.de at_180)) ?_
        show Run _ _ _ _ _ _ _ _ _ _ _ _ T150 (mkF m 182 #[.val (.int kind), .val (.int pos), .val (.int ch), .val (.int pk), .val (.int (kind &&& (3 : Int32))), .val (.int (1 : Int32)), .val (.int d), .unset, .unset, .val (.int (Int32.ofNat i)), .val (.ref x143)] [(.int (7 : Int32)), (.ref x143)])
        refine Run.via (fun _ => XS.bipush X150.at X150.ex rfl (X150.de at_182)) ?_
        show Run _ _ _ _ _ _ _ _ _ _ _ _ T150 (mkF m 184 #[.val (.int kind), .val (.int pos), .val (.int ch), .val (.int pk), .val (.int (kind &&& (3 : Int32))), .val (.int (1 : Int32)), .val (.int d), .unset, .unset, .val (.int (Int32.ofNat i)), .val (.ref x143)] [(.int (100 : Int32)), (.int (7 : Int32)), (.ref x143)])
        refine Run.castore X150 (i := 7) (v' := (100 : Int32)) A150 rfl (Nat.le_of_ble_eq_true rfl) rfl (Or.inr (by omega)) (by omega) at_184 ?_
        intro T151 h151 L151 X151 K151 z151 A151
        have A151 : Arc .char Z h151 x143 [(112 : Int32), (114 : Int32), (111 : Int32), (118 : Int32), (105 : Int32), (100 : Int32), (101 : Int32), (100 : Int32)] := A151
        show Run _ _ _ _ _ _ _ _ _ _ _ _ T151 (mkF m 185 #[.val (.int kind), .val (.int pos), .val (.int ch), .val (.int pk), .val (.int (kind &&& (3 : Int32))), .val (.int (1 : Int32)), .val (.int d), .unset, .unset, .val (.int (Int32.ofNat i)), .val (.ref x143)] [])
        have A0 : Arc .char Z h151 x143 provL := A151
        refine Run.via (fun _ => XS.iload X151.at X151.ex rfl (X151.de at_185) rfl) ?_
        show Run _ _ _ _ _ _ _ _ _ _ _ _ T151 (mkF m 187 #[.val (.int kind), .val (.int pos), .val (.int ch), .val (.int pk), .val (.int (kind &&& (3 : Int32))), .val (.int (1 : Int32)), .val (.int d), .unset, .unset, .val (.int (Int32.ofNat i)), .val (.ref x143)] [(.int (1 : Int32))])
        refine Run.via (fun _ => XS.ifNo X151.at X151.ex rfl (X151.de at_187) rfl ((if0 _ _).trans (feq (by decide : ¬ ((1 : Int32) = (0 : Int32)))).1)) ?_
        show Run _ _ _ _ _ _ _ _ _ _ _ _ T151 (mkF m 190 #[.val (.int kind), .val (.int pos), .val (.int ch), .val (.int pk), .val (.int (kind &&& (3 : Int32))), .val (.int (1 : Int32)), .val (.int d), .unset, .unset, .val (.int (Int32.ofNat i)), .val (.ref x143)] [])
        refine Run.via (fun _ => XS.aload X151.at X151.ex rfl (X151.de at_190) rfl rfl) ?_
        show Run _ _ _ _ _ _ _ _ _ _ _ _ T151 (mkF m 192 #[.val (.int kind), .val (.int pos), .val (.int ch), .val (.int pk), .val (.int (kind &&& (3 : Int32))), .val (.int (1 : Int32)), .val (.int d), .unset, .unset, .val (.int (Int32.ofNat i)), .val (.ref x143)] [(.ref x143)])
        refine Run.via (fun _ => XS.iload X151.at X151.ex rfl (X151.de at_192) rfl) ?_
        show Run _ _ _ _ _ _ _ _ _ _ _ _ T151 (mkF m 194 #[.val (.int kind), .val (.int pos), .val (.int ch), .val (.int pk), .val (.int (kind &&& (3 : Int32))), .val (.int (1 : Int32)), .val (.int d), .unset, .unset, .val (.int (Int32.ofNat i)), .val (.ref x143)] [(.int (Int32.ofNat i)), (.ref x143)])
        refine Run.via (fun _ => XS.iload X151.at X151.ex rfl (X151.de at_194) rfl) ?_
        show Run _ _ _ _ _ _ _ _ _ _ _ _ T151 (mkF m 196 #[.val (.int kind), .val (.int pos), .val (.int ch), .val (.int pk), .val (.int (kind &&& (3 : Int32))), .val (.int (1 : Int32)), .val (.int d), .unset, .unset, .val (.int (Int32.ofNat i)), .val (.ref x143)] [(.int d), (.int (Int32.ofNat i)), (.ref x143)])
        refine Run.castore X151 (i := i) (v' := d) A0 rfl (by simpa [testL, provL] using hi) (nar_lat rd) (Or.inr (by omega)) (by omega) at_196 ?_
        intro T152 h152 L152 X152 K152 z152 A152
        show Run _ _ _ _ _ _ _ _ _ _ _ _ T152 (mkF m 197 #[.val (.int kind), .val (.int pos), .val (.int ch), .val (.int pk), .val (.int (kind &&& (3 : Int32))), .val (.int (1 : Int32)), .val (.int d), .unset, .unset, .val (.int (Int32.ofNat i)), .val (.ref x143)] [])
        have u153 := X152.kp.1
        refine Run.new X152 (wd hw 1 rfl) (wd hw 2 rfl) (wd hw 3 rfl) at_197 (Nat.le_of_ble_eq_true rfl) (Nat.le_of_ble_eq_true rfl) ?_
        intro T154 h154 x154 g154 X154 K154 z154 E154 D154
        show Run _ _ _ _ _ _ _ _ _ _ _ _ T154 (mkF m 200 #[.val (.int kind), .val (.int pos), .val (.int ch), .val (.int pk), .val (.int (kind &&& (3 : Int32))), .val (.int (1 : Int32)), .val (.int d), .unset, .unset, .val (.int (Int32.ofNat i)), .val (.ref x143)] [(.ref x154)])
        have s154 := K154.1
        have A154x := A152.keep K154 nin0
        have G154 : Raw Z h154 x154 := ⟨E154, D154 (Or.inr (wd hw 29 rfl)) (ty := (.array .byte)) (by decide), D154 (Or.inr (wd hw 27 rfl)) (ty := .byte) (by decide)⟩
        refine Run.via (fun _ => XS.dup X154.at X154.ex rfl (X154.de at_200) rfl rfl) ?_
        show Run _ _ _ _ _ _ _ _ _ _ _ _ T154 (mkF m 201 #[.val (.int kind), .val (.int pos), .val (.int ch), .val (.int pk), .val (.int (kind &&& (3 : Int32))), .val (.int (1 : Int32)), .val (.int d), .unset, .unset, .val (.int (Int32.ofNat i)), .val (.ref x143)] [(.ref x154), (.ref x154)])
        refine Run.via (fun _ => XS.aload X154.at X154.ex rfl (X154.de at_201) rfl rfl) ?_
        show Run _ _ _ _ _ _ _ _ _ _ _ _ T154 (mkF m 203 #[.val (.int kind), .val (.int pos), .val (.int ch), .val (.int pk), .val (.int (kind &&& (3 : Int32))), .val (.int (1 : Int32)), .val (.int d), .unset, .unset, .val (.int (Int32.ofNat i)), .val (.ref x143)] [(.ref x143), (.ref x154), (.ref x154)])
        refine Run.initStr hw hS X154 (cs := (provL.set i d)) (W := 1) G154 A154x (set_rng (by decide) rd) (by simp [testL, provL]) (wd hw 4 rfl) (wd hw 5 rfl) (wd hw 2 rfl) at_203 rfl (Or.inr (by omega)) (by omega) (by simp) (Nat.le_of_ble_eq_true rfl) (by decide) (by decide) (Nat.le_of_ble_eq_true rfl) (by show _ ≤ 12480; simp [testL, provL]) ?_
        intro T155 h155 L155 X155 K155 S155
        have X155 := X155.mono (k := 10) (n := 60) (Nat.le_of_ble_eq_true rfl) (by simp [testL, provL])
        show Run _ _ _ _ _ _ _ _ _ _ _ _ T155 (mkF m 206 #[.val (.int kind), .val (.int pos), .val (.int ch), .val (.int pk), .val (.int (kind &&& (3 : Int32))), .val (.int (1 : Int32)), .val (.int d), .unset, .unset, .val (.int (Int32.ofNat i)), .val (.ref x143)] [(.ref x154)])
        refine Run.via (fun _ => XS.astore X155.at X155.ex rfl (X155.de at_206) rfl rfl (l' := #[.val (.int kind), .val (.int pos), .val (.int ch), .val (.int pk), .val (.int (kind &&& (3 : Int32))), .val (.int (1 : Int32)), .val (.int d), .val (.ref x154), .unset, .val (.int (Int32.ofNat i)), .val (.ref x143)]) rfl) ?_
        show Run _ _ _ _ _ _ _ _ _ _ _ _ T155 (mkF m 208 #[.val (.int kind), .val (.int pos), .val (.int ch), .val (.int pk), .val (.int (kind &&& (3 : Int32))), .val (.int (1 : Int32)), .val (.int d), .val (.ref x154), .unset, .val (.int (Int32.ofNat i)), .val (.ref x143)] [])
        refine Run.via (fun _ => XS.iload X155.at X155.ex rfl (X155.de at_208) rfl) ?_
        show Run _ _ _ _ _ _ _ _ _ _ _ _ T155 (mkF m 210 #[.val (.int kind), .val (.int pos), .val (.int ch), .val (.int pk), .val (.int (kind &&& (3 : Int32))), .val (.int (1 : Int32)), .val (.int d), .val (.ref x154), .unset, .val (.int (Int32.ofNat i)), .val (.ref x143)] [(.int (1 : Int32))])
        refine Run.via (fun _ => XS.ifNo X155.at X155.ex rfl (X155.de at_210) rfl ((if0 _ _).trans (feq (by decide : ¬ ((1 : Int32) = (0 : Int32)))).1)) ?_
        show Run _ _ _ _ _ _ _ _ _ _ _ _ T155 (mkF m 213 #[.val (.int kind), .val (.int pos), .val (.int ch), .val (.int pk), .val (.int (kind &&& (3 : Int32))), .val (.int (1 : Int32)), .val (.int d), .val (.ref x154), .unset, .val (.int (Int32.ofNat i)), .val (.ref x143)] [])
        refine Run.via (fun _ => XS.iload X155.at X155.ex rfl (X155.de at_213) rfl) ?_
        show Run _ _ _ _ _ _ _ _ _ _ _ _ T155 (mkF m 215 #[.val (.int kind), .val (.int pos), .val (.int ch), .val (.int pk), .val (.int (kind &&& (3 : Int32))), .val (.int (1 : Int32)), .val (.int d), .val (.ref x154), .unset, .val (.int (Int32.ofNat i)), .val (.ref x143)] [(.int d)])
        refine Run.ldcS hw hN X155 (cs := [(112 : Int32), (114 : Int32), (111 : Int32), (118 : Int32), (105 : Int32), (100 : Int32), (101 : Int32), (100 : Int32)]) (n := 32) (wd hw 77 rfl) (hm _ (by decide)) (by decide) (by decide) (by decide) at_215 (by decide) (by decide) (Nat.le_of_ble_eq_true rfl) (Nat.le_of_ble_eq_true rfl) ?_
        intro a156 T156 h156 L156 X156 K156 S156
        show Run _ _ _ _ _ _ _ _ _ _ _ _ T156 (mkF m 217 #[.val (.int kind), .val (.int pos), .val (.int ch), .val (.int pk), .val (.int (kind &&& (3 : Int32))), .val (.int (1 : Int32)), .val (.int d), .val (.ref x154), .unset, .val (.int (Int32.ofNat i)), .val (.ref x143)] [(.ref a156), (.int d)])
        refine Run.via (fun _ => XS.iload X156.at X156.ex rfl (X156.de at_217) rfl) ?_
        show Run _ _ _ _ _ _ _ _ _ _ _ _ T156 (mkF m 219 #[.val (.int kind), .val (.int pos), .val (.int ch), .val (.int pk), .val (.int (kind &&& (3 : Int32))), .val (.int (1 : Int32)), .val (.int d), .val (.ref x154), .unset, .val (.int (Int32.ofNat i)), .val (.ref x143)] [(.int (Int32.ofNat i)), (.ref a156), (.int d)])
        refine Run.sch hw hS X156 (W := 1) S156 (by decide) rfl (by simpa using hi) (wd hw 49 rfl) (wd hw 50 rfl) (wd hw 51 rfl) (wd hw 52 rfl) (wd hw 2 rfl) at_219 rfl (Nat.le_of_ble_eq_true rfl) (by decide) (by decide) (Nat.le_of_ble_eq_true rfl) (Nat.le_of_ble_eq_true rfl) ?_
        intro T157 X157
        show Run _ _ _ _ _ _ _ _ _ _ _ _ T157 (mkF m 222 #[.val (.int kind), .val (.int pos), .val (.int ch), .val (.int pk), .val (.int (kind &&& (3 : Int32))), .val (.int (1 : Int32)), .val (.int d), .val (.ref x154), .unset, .val (.int (Int32.ofNat i)), .val (.ref x143)] [(.int (provL.getD i 0)), (.int d)])
        have SS := S155.keep K156
        by_cases hq : d = (provL.getD i 0)
        ·
          refine Run.via (fun _ => XS.icmpYes X157.at X157.ex rfl (pc0 := 222) (pc' := 229) rfl (X157.de at_222) rfl (teq hq).1 (by decide) (by decide)) ?_
          show Run _ _ _ _ _ _ _ _ _ _ _ _ T157 (mkF m 229 #[.val (.int kind), .val (.int pos), .val (.int ch), .val (.int pk), .val (.int (kind &&& (3 : Int32))), .val (.int (1 : Int32)), .val (.int d), .val (.ref x154), .unset, .val (.int (Int32.ofNat i)), .val (.ref x143)] [])
          refine Run.via (fun _ => XS.iconst X157.at X157.ex rfl (X157.de at_229)) ?_
          show Run _ _ _ _ _ _ _ _ _ _ _ _ T157 (mkF m 230 #[.val (.int kind), .val (.int pos), .val (.int ch), .val (.int pk), .val (.int (kind &&& (3 : Int32))), .val (.int (1 : Int32)), .val (.int d), .val (.ref x154), .unset, .val (.int (Int32.ofNat i)), .val (.ref x143)] [(.int (0 : Int32))])
          refine Run.via (fun _ => XS.istore X157.at X157.ex rfl (X157.de at_230) rfl (l' := #[.val (.int kind), .val (.int pos), .val (.int ch), .val (.int pk), .val (.int (kind &&& (3 : Int32))), .val (.int (1 : Int32)), .val (.int d), .val (.ref x154), .val (.int (0 : Int32)), .val (.int (Int32.ofNat i)), .val (.ref x143)]) rfl) ?_
          show Run _ _ _ _ _ _ _ _ _ _ _ _ T157 (mkF m 232 #[.val (.int kind), .val (.int pos), .val (.int ch), .val (.int pk), .val (.int (kind &&& (3 : Int32))), .val (.int (1 : Int32)), .val (.int d), .val (.ref x154), .val (.int (0 : Int32)), .val (.int (Int32.ofNat i)), .val (.ref x143)] [])
          refine Run.via (fun _ => XS.goto X157.at X157.ex rfl (pc0 := 232) (pc' := 410) rfl (X157.de at_232) (by decide) (by decide)) ?_
          show Run _ _ _ _ _ _ _ _ _ _ _ _ T157 (mkF m 410 #[.val (.int kind), .val (.int pos), .val (.int ch), .val (.int pk), .val (.int (kind &&& (3 : Int32))), .val (.int (1 : Int32)), .val (.int d), .val (.ref x154), .val (.int (0 : Int32)), .val (.int (Int32.ofNat i)), .val (.ref x143)] [])
          exact J410 _ _ _ _ _ _ _ _ _ _ _ _ (X157.mono (by decide) (by decide)) SS (by rw [bro_prov i hi d, if_pos hq])
        ·
          refine Run.via (fun _ => XS.icmpNo X157.at X157.ex rfl (X157.de at_222) rfl (feq hq).1) ?_
          show Run _ _ _ _ _ _ _ _ _ _ _ _ T157 (mkF m 225 #[.val (.int kind), .val (.int pos), .val (.int ch), .val (.int pk), .val (.int (kind &&& (3 : Int32))), .val (.int (1 : Int32)), .val (.int d), .val (.ref x154), .unset, .val (.int (Int32.ofNat i)), .val (.ref x143)] [])
          refine Run.via (fun _ => XS.iconst X157.at X157.ex rfl (X157.de at_225)) ?_
          show Run _ _ _ _ _ _ _ _ _ _ _ _ T157 (mkF m 226 #[.val (.int kind), .val (.int pos), .val (.int ch), .val (.int pk), .val (.int (kind &&& (3 : Int32))), .val (.int (1 : Int32)), .val (.int d), .val (.ref x154), .unset, .val (.int (Int32.ofNat i)), .val (.ref x143)] [(.int (1 : Int32))])
          refine Run.via (fun _ => XS.goto X157.at X157.ex rfl (pc0 := 226) (pc' := 230) rfl (X157.de at_226) (by decide) (by decide)) ?_
          show Run _ _ _ _ _ _ _ _ _ _ _ _ T157 (mkF m 230 #[.val (.int kind), .val (.int pos), .val (.int ch), .val (.int pk), .val (.int (kind &&& (3 : Int32))), .val (.int (1 : Int32)), .val (.int d), .val (.ref x154), .unset, .val (.int (Int32.ofNat i)), .val (.ref x143)] [(.int (1 : Int32))])
          refine Run.via (fun _ => XS.istore X157.at X157.ex rfl (X157.de at_230) rfl (l' := #[.val (.int kind), .val (.int pos), .val (.int ch), .val (.int pk), .val (.int (kind &&& (3 : Int32))), .val (.int (1 : Int32)), .val (.int d), .val (.ref x154), .val (.int (1 : Int32)), .val (.int (Int32.ofNat i)), .val (.ref x143)]) rfl) ?_
          show Run _ _ _ _ _ _ _ _ _ _ _ _ T157 (mkF m 232 #[.val (.int kind), .val (.int pos), .val (.int ch), .val (.int pk), .val (.int (kind &&& (3 : Int32))), .val (.int (1 : Int32)), .val (.int d), .val (.ref x154), .val (.int (1 : Int32)), .val (.int (Int32.ofNat i)), .val (.ref x143)] [])
          refine Run.via (fun _ => XS.goto X157.at X157.ex rfl (pc0 := 232) (pc' := 410) rfl (X157.de at_232) (by decide) (by decide)) ?_
          show Run _ _ _ _ _ _ _ _ _ _ _ _ T157 (mkF m 410 #[.val (.int kind), .val (.int pos), .val (.int ch), .val (.int pk), .val (.int (kind &&& (3 : Int32))), .val (.int (1 : Int32)), .val (.int d), .val (.ref x154), .val (.int (1 : Int32)), .val (.int (Int32.ofNat i)), .val (.ref x143)] [])
          exact J410 _ _ _ _ _ _ _ _ _ _ _ _ (X157.mono (by decide) (by decide)) SS (by rw [bro_prov i hi d, if_neg hq])
      ·
        refine Run.via (fun _ => XS.icmpYes X0.at X0.ex rfl (pc0 := 120) (pc' := 235) rfl (X0.de at_120) rfl (feq k1).2 (by decide) (by decide)) ?_
        show Run _ _ _ _ _ _ _ _ _ _ _ _ T0 (mkF m 235 #[.val (.int kind), .val (.int pos), .val (.int ch), .val (.int pk), .val (.int (kind &&& (3 : Int32))), .val (.int (1 : Int32)), .val (.int d), .unset, .unset, .unset, .unset] [])
        refine Run.via (fun _ => XS.iload X0.at X0.ex rfl (X0.de at_235) rfl) ?_
        show Run _ _ _ _ _ _ _ _ _ _ _ _ T0 (mkF m 237 #[.val (.int kind), .val (.int pos), .val (.int ch), .val (.int pk), .val (.int (kind &&& (3 : Int32))), .val (.int (1 : Int32)), .val (.int d), .unset, .unset, .unset, .unset] [(.int (kind &&& (3 : Int32)))])
        refine Run.via (fun _ => XS.iconst X0.at X0.ex rfl (X0.de at_237)) ?_
        show Run _ _ _ _ _ _ _ _ _ _ _ _ T0 (mkF m 238 #[.val (.int kind), .val (.int pos), .val (.int ch), .val (.int pk), .val (.int (kind &&& (3 : Int32))), .val (.int (1 : Int32)), .val (.int d), .unset, .unset, .unset, .unset] [(.int (2 : Int32)), (.int (kind &&& (3 : Int32)))])
        by_cases k2 : (kind &&& (3 : Int32)) = (2 : Int32)
        ·
          refine Run.via (fun _ => XS.icmpNo X0.at X0.ex rfl (X0.de at_238) rfl (teq k2).2) ?_
          show Run _ _ _ _ _ _ _ _ _ _ _ _ T0 (mkF m 241 #[.val (.int kind), .val (.int pos), .val (.int ch), .val (.int pk), .val (.int (kind &&& (3 : Int32))), .val (.int (1 : Int32)), .val (.int d), .unset, .unset, .unset, .unset] [])
          refine Run.via (fun _ => XS.iload X0.at X0.ex rfl (X0.de at_241) rfl) ?_
          show Run _ _ _ _ _ _ _ _ _ _ _ _ T0 (mkF m 243 #[.val (.int kind), .val (.int pos), .val (.int ch), .val (.int pk), .val (.int (kind &&& (3 : Int32))), .val (.int (1 : Int32)), .val (.int d), .unset, .unset, .unset, .unset] [(.int (1 : Int32))])
          refine Run.via (fun _ => XS.ifNo X0.at X0.ex rfl (X0.de at_243) rfl ((if0 _ _).trans (feq (by decide : ¬ ((1 : Int32) = (0 : Int32)))).1)) ?_
          show Run _ _ _ _ _ _ _ _ _ _ _ _ T0 (mkF m 246 #[.val (.int kind), .val (.int pos), .val (.int ch), .val (.int pk), .val (.int (kind &&& (3 : Int32))), .val (.int (1 : Int32)), .val (.int d), .unset, .unset, .unset, .unset] [])
          refine Run.via (fun _ => XS.bipush X0.at X0.ex rfl (X0.de at_246)) ?_
          show Run _ _ _ _ _ _ _ _ _ _ _ _ T0 (mkF m 248 #[.val (.int kind), .val (.int pos), .val (.int ch), .val (.int pk), .val (.int (kind &&& (3 : Int32))), .val (.int (1 : Int32)), .val (.int d), .unset, .unset, .unset, .unset] [(.int (9 : Int32))])
          refine Run.newarr X0 (aty := .char) (n := 9) (cap := 9) (wd hw 0 rfl) rfl at_248 rfl (Nat.le_refl _) (by decide) (Nat.le_of_ble_eq_true rfl) (Nat.le_of_ble_eq_true rfl) ?_
          intro T158 h158 x158 g158 X158 K158 z158 A158
          have A158 : Arc .char Z h158 x158 [(0 : Int32), (0 : Int32), (0 : Int32), (0 : Int32), (0 : Int32), (0 : Int32), (0 : Int32), (0 : Int32), (0 : Int32)] := A158
          show Run _ _ _ _ _ _ _ _ _ _ _ _ T158 (mkF m 250 #[.val (.int kind), .val (.int pos), .val (.int ch), .val (.int pk), .val (.int (kind &&& (3 : Int32))), .val (.int (1 : Int32)), .val (.int d), .unset, .unset, .unset, .unset] [(.ref x158)])
          refine Run.via (fun _ => XS.astore X158.at X158.ex rfl (X158.de at_250) rfl rfl (l' := #[.val (.int kind), .val (.int pos), .val (.int ch), .val (.int pk), .val (.int (kind &&& (3 : Int32))), .val (.int (1 : Int32)), .val (.int d), .unset, .unset, .val (.ref x158), .unset]) rfl) ?_
          show Run _ _ _ _ _ _ _ _ _ _ _ _ T158 (mkF m 252 #[.val (.int kind), .val (.int pos), .val (.int ch), .val (.int pk), .val (.int (kind &&& (3 : Int32))), .val (.int (1 : Int32)), .val (.int d), .unset, .unset, .val (.ref x158), .unset] [])
          refine Run.via (fun _ => XS.aload X158.at X158.ex rfl (X158.de at_252) rfl rfl) ?_
          show Run _ _ _ _ _ _ _ _ _ _ _ _ T158 (mkF m 254 #[.val (.int kind), .val (.int pos), .val (.int ch), .val (.int pk), .val (.int (kind &&& (3 : Int32))), .val (.int (1 : Int32)), .val (.int d), .unset, .unset, .val (.ref x158), .unset] [(.ref x158)])
          refine Run.via (fun _ => XS.iconst X158.at X158.ex rfl (X158.de at_254)) ?_
          show Run _ _ _ _ _ _ _ _ _ _ _ _ T158 (mkF m 255 #[.val (.int kind), .val (.int pos), .val (.int ch), .val (.int pk), .val (.int (kind &&& (3 : Int32))), .val (.int (1 : Int32)), .val (.int d), .unset, .unset, .val (.ref x158), .unset] [(.int (0 : Int32)), (.ref x158)])
          refine Run.via (fun _ => XS.bipush X158.at X158.ex rfl (X158.de at_255)) ?_
          show Run _ _ _ _ _ _ _ _ _ _ _ _ T158 (mkF m 257 #[.val (.int kind), .val (.int pos), .val (.int ch), .val (.int pk), .val (.int (kind &&& (3 : Int32))), .val (.int (1 : Int32)), .val (.int d), .unset, .unset, .val (.ref x158), .unset] [(.int (112 : Int32)), (.int (0 : Int32)), (.ref x158)])
          refine Run.castore X158 (i := 0) (v' := (112 : Int32)) A158 rfl (Nat.le_of_ble_eq_true rfl) rfl (Or.inr (by omega)) (by omega) at_257 ?_
          intro T159 h159 L159 X159 K159 z159 A159
          have A159 : Arc .char Z h159 x158 [(112 : Int32), (0 : Int32), (0 : Int32), (0 : Int32), (0 : Int32), (0 : Int32), (0 : Int32), (0 : Int32), (0 : Int32)] := A159
          show Run _ _ _ _ _ _ _ _ _ _ _ _ T159 (mkF m 258 #[.val (.int kind), .val (.int pos), .val (.int ch), .val (.int pk), .val (.int (kind &&& (3 : Int32))), .val (.int (1 : Int32)), .val (.int d), .unset, .unset, .val (.ref x158), .unset] [])
          refine Run.via (fun _ => XS.aload X159.at X159.ex rfl (X159.de at_258) rfl rfl) ?_
          show Run _ _ _ _ _ _ _ _ _ _ _ _ T159 (mkF m 260 #[.val (.int kind), .val (.int pos), .val (.int ch), .val (.int pk), .val (.int (kind &&& (3 : Int32))), .val (.int (1 : Int32)), .val (.int d), .unset, .unset, .val (.ref x158), .unset] [(.ref x158)])
          refine Run.via (fun _ => XS.iconst X159.at X159.ex rfl (X159.de at_260)) ?_
          show Run _ _ _ _ _ _ _ _ _ _ _ _ T159 (mkF m 261 #[.val (.int kind), .val (.int pos), .val (.int ch), .val (.int pk), .val (.int (kind &&& (3 : Int32))), .val (.int (1 : Int32)), .val (.int d), .unset, .unset, .val (.ref x158), .unset] [(.int (1 : Int32)), (.ref x158)])
          refine Run.via (fun _ => XS.bipush X159.at X159.ex rfl (X159.de at_261)) ?_
          show Run _ _ _ _ _ _ _ _ _ _ _ _ T159 (mkF m 263 #[.val (.int kind), .val (.int pos), .val (.int ch), .val (.int pk), .val (.int (kind &&& (3 : Int32))), .val (.int (1 : Int32)), .val (.int d), .unset, .unset, .val (.ref x158), .unset] [(.int (114 : Int32)), (.int (1 : Int32)), (.ref x158)])
          refine Run.castore X159 (i := 1) (v' := (114 : Int32)) A159 rfl (Nat.le_of_ble_eq_true rfl) rfl (Or.inr (by omega)) (by omega) at_263 ?_
          intro T160 h160 L160 X160 K160 z160 A160
          have A160 : Arc .char Z h160 x158 [(112 : Int32), (114 : Int32), (0 : Int32), (0 : Int32), (0 : Int32), (0 : Int32), (0 : Int32), (0 : Int32), (0 : Int32)] := A160
          show Run _ _ _ _ _ _ _ _ _ _ _ _ T160 (mkF m 264 #[.val (.int kind), .val (.int pos), .val (.int ch), .val (.int pk), .val (.int (kind &&& (3 : Int32))), .val (.int (1 : Int32)), .val (.int d), .unset, .unset, .val (.ref x158), .unset] [])
          refine Run.via (fun _ => XS.aload X160.at X160.ex rfl (X160.de at_264) rfl rfl) ?_
          show Run _ _ _ _ _ _ _ _ _ _ _ _ T160 (mkF m 266 #[.val (.int kind), .val (.int pos), .val (.int ch), .val (.int pk), .val (.int (kind &&& (3 : Int32))), .val (.int (1 : Int32)), .val (.int d), .unset, .unset, .val (.ref x158), .unset] [(.ref x158)])
          refine Run.via (fun _ => XS.iconst X160.at X160.ex rfl (X160.de at_266)) ?_
          show Run _ _ _ _ _ _ _ _ _ _ _ _ T160 (mkF m 267 #[.val (.int kind), .val (.int pos), .val (.int ch), .val (.int pk), .val (.int (kind &&& (3 : Int32))), .val (.int (1 : Int32)), .val (.int d), .unset, .unset, .val (.ref x158), .unset] [(.int (2 : Int32)), (.ref x158)])
          refine Run.via (fun _ => XS.bipush X160.at X160.ex rfl (X160.de at_267)) ?_
          show Run _ _ _ _ _ _ _ _ _ _ _ _ T160 (mkF m 269 #[.val (.int kind), .val (.int pos), .val (.int ch), .val (.int pk), .val (.int (kind &&& (3 : Int32))), .val (.int (1 : Int32)), .val (.int d), .unset, .unset, .val (.ref x158), .unset] [(.int (111 : Int32)), (.int (2 : Int32)), (.ref x158)])
          refine Run.castore X160 (i := 2) (v' := (111 : Int32)) A160 rfl (Nat.le_of_ble_eq_true rfl) rfl (Or.inr (by omega)) (by omega) at_269 ?_
          intro T161 h161 L161 X161 K161 z161 A161
          have A161 : Arc .char Z h161 x158 [(112 : Int32), (114 : Int32), (111 : Int32), (0 : Int32), (0 : Int32), (0 : Int32), (0 : Int32), (0 : Int32), (0 : Int32)] := A161
          show Run _ _ _ _ _ _ _ _ _ _ _ _ T161 (mkF m 270 #[.val (.int kind), .val (.int pos), .val (.int ch), .val (.int pk), .val (.int (kind &&& (3 : Int32))), .val (.int (1 : Int32)), .val (.int d), .unset, .unset, .val (.ref x158), .unset] [])
          refine Run.via (fun _ => XS.aload X161.at X161.ex rfl (X161.de at_270) rfl rfl) ?_
          show Run _ _ _ _ _ _ _ _ _ _ _ _ T161 (mkF m 272 #[.val (.int kind), .val (.int pos), .val (.int ch), .val (.int pk), .val (.int (kind &&& (3 : Int32))), .val (.int (1 : Int32)), .val (.int d), .unset, .unset, .val (.ref x158), .unset] [(.ref x158)])
          refine Run.via (fun _ => XS.iconst X161.at X161.ex rfl (X161.de at_272)) ?_
          show Run _ _ _ _ _ _ _ _ _ _ _ _ T161 (mkF m 273 #[.val (.int kind), .val (.int pos), .val (.int ch), .val (.int pk), .val (.int (kind &&& (3 : Int32))), .val (.int (1 : Int32)), .val (.int d), .unset, .unset, .val (.ref x158), .unset] [(.int (3 : Int32)), (.ref x158)])
          refine Run.via (fun _ => XS.bipush X161.at X161.ex rfl (X161.de at_273)) ?_
          show Run _ _ _ _ _ _ _ _ _ _ _ _ T161 (mkF m 275 #[.val (.int kind), .val (.int pos), .val (.int ch), .val (.int pk), .val (.int (kind &&& (3 : Int32))), .val (.int (1 : Int32)), .val (.int d), .unset, .unset, .val (.ref x158), .unset] [(.int (118 : Int32)), (.int (3 : Int32)), (.ref x158)])
          refine Run.castore X161 (i := 3) (v' := (118 : Int32)) A161 rfl (Nat.le_of_ble_eq_true rfl) rfl (Or.inr (by omega)) (by omega) at_275 ?_
          intro T162 h162 L162 X162 K162 z162 A162
          have A162 : Arc .char Z h162 x158 [(112 : Int32), (114 : Int32), (111 : Int32), (118 : Int32), (0 : Int32), (0 : Int32), (0 : Int32), (0 : Int32), (0 : Int32)] := A162
          show Run _ _ _ _ _ _ _ _ _ _ _ _ T162 (mkF m 276 #[.val (.int kind), .val (.int pos), .val (.int ch), .val (.int pk), .val (.int (kind &&& (3 : Int32))), .val (.int (1 : Int32)), .val (.int d), .unset, .unset, .val (.ref x158), .unset] [])
          refine Run.via (fun _ => XS.aload X162.at X162.ex rfl (X162.de at_276) rfl rfl) ?_
          show Run _ _ _ _ _ _ _ _ _ _ _ _ T162 (mkF m 278 #[.val (.int kind), .val (.int pos), .val (.int ch), .val (.int pk), .val (.int (kind &&& (3 : Int32))), .val (.int (1 : Int32)), .val (.int d), .unset, .unset, .val (.ref x158), .unset] [(.ref x158)])
          refine Run.via (fun _ => XS.iconst X162.at X162.ex rfl (X162.de at_278)) ?_
          show Run _ _ _ _ _ _ _ _ _ _ _ _ T162 (mkF m 279 #[.val (.int kind), .val (.int pos), .val (.int ch), .val (.int pk), .val (.int (kind &&& (3 : Int32))), .val (.int (1 : Int32)), .val (.int d), .unset, .unset, .val (.ref x158), .unset] [(.int (4 : Int32)), (.ref x158)])
          refine Run.via (fun _ => XS.bipush X162.at X162.ex rfl (X162.de at_279)) ?_
          show Run _ _ _ _ _ _ _ _ _ _ _ _ T162 (mkF m 281 #[.val (.int kind), .val (.int pos), .val (.int ch), .val (.int pk), .val (.int (kind &&& (3 : Int32))), .val (.int (1 : Int32)), .val (.int d), .unset, .unset, .val (.ref x158), .unset] [(.int (105 : Int32)), (.int (4 : Int32)), (.ref x158)])
          refine Run.castore X162 (i := 4) (v' := (105 : Int32)) A162 rfl (Nat.le_of_ble_eq_true rfl) rfl (Or.inr (by omega)) (by omega) at_281 ?_
          intro T163 h163 L163 X163 K163 z163 A163
          have A163 : Arc .char Z h163 x158 [(112 : Int32), (114 : Int32), (111 : Int32), (118 : Int32), (105 : Int32), (0 : Int32), (0 : Int32), (0 : Int32), (0 : Int32)] := A163
          show Run _ _ _ _ _ _ _ _ _ _ _ _ T163 (mkF m 282 #[.val (.int kind), .val (.int pos), .val (.int ch), .val (.int pk), .val (.int (kind &&& (3 : Int32))), .val (.int (1 : Int32)), .val (.int d), .unset, .unset, .val (.ref x158), .unset] [])
          refine Run.via (fun _ => XS.aload X163.at X163.ex rfl (X163.de at_282) rfl rfl) ?_
          show Run _ _ _ _ _ _ _ _ _ _ _ _ T163 (mkF m 284 #[.val (.int kind), .val (.int pos), .val (.int ch), .val (.int pk), .val (.int (kind &&& (3 : Int32))), .val (.int (1 : Int32)), .val (.int d), .unset, .unset, .val (.ref x158), .unset] [(.ref x158)])
          refine Run.via (fun _ => XS.iconst X163.at X163.ex rfl (X163.de at_284)) ?_
          show Run _ _ _ _ _ _ _ _ _ _ _ _ T163 (mkF m 285 #[.val (.int kind), .val (.int pos), .val (.int ch), .val (.int pk), .val (.int (kind &&& (3 : Int32))), .val (.int (1 : Int32)), .val (.int d), .unset, .unset, .val (.ref x158), .unset] [(.int (5 : Int32)), (.ref x158)])
          refine Run.via (fun _ => XS.bipush X163.at X163.ex rfl (X163.de at_285)) ?_
          show Run _ _ _ _ _ _ _ _ _ _ _ _ T163 (mkF m 287 #[.val (.int kind), .val (.int pos), .val (.int ch), .val (.int pk), .val (.int (kind &&& (3 : Int32))), .val (.int (1 : Int32)), .val (.int d), .unset, .unset, .val (.ref x158), .unset] [(.int (100 : Int32)), (.int (5 : Int32)), (.ref x158)])
          refine Run.castore X163 (i := 5) (v' := (100 : Int32)) A163 rfl (Nat.le_of_ble_eq_true rfl) rfl (Or.inr (by omega)) (by omega) at_287 ?_
          intro T164 h164 L164 X164 K164 z164 A164
          have A164 : Arc .char Z h164 x158 [(112 : Int32), (114 : Int32), (111 : Int32), (118 : Int32), (105 : Int32), (100 : Int32), (0 : Int32), (0 : Int32), (0 : Int32)] := A164
          show Run _ _ _ _ _ _ _ _ _ _ _ _ T164 (mkF m 288 #[.val (.int kind), .val (.int pos), .val (.int ch), .val (.int pk), .val (.int (kind &&& (3 : Int32))), .val (.int (1 : Int32)), .val (.int d), .unset, .unset, .val (.ref x158), .unset] [])
          refine Run.via (fun _ => XS.aload X164.at X164.ex rfl (X164.de at_288) rfl rfl) ?_
          show Run _ _ _ _ _ _ _ _ _ _ _ _ T164 (mkF m 290 #[.val (.int kind), .val (.int pos), .val (.int ch), .val (.int pk), .val (.int (kind &&& (3 : Int32))), .val (.int (1 : Int32)), .val (.int d), .unset, .unset, .val (.ref x158), .unset] [(.ref x158)])
          refine Run.via (fun _ => XS.bipush X164.at X164.ex rfl (X164.de at_290)) ?_
          show Run _ _ _ _ _ _ _ _ _ _ _ _ T164 (mkF m 292 #[.val (.int kind), .val (.int pos), .val (.int ch), .val (.int pk), .val (.int (kind &&& (3 : Int32))), .val (.int (1 : Int32)), .val (.int d), .unset, .unset, .val (.ref x158), .unset] [(.int (6 : Int32)), (.ref x158)])
          refine Run.via (fun _ => XS.bipush X164.at X164.ex rfl (X164.de at_292)) ?_
          show Run _ _ _ _ _ _ _ _ _ _ _ _ T164 (mkF m 294 #[.val (.int kind), .val (.int pos), .val (.int ch), .val (.int pk), .val (.int (kind &&& (3 : Int32))), .val (.int (1 : Int32)), .val (.int d), .unset, .unset, .val (.ref x158), .unset] [(.int (101 : Int32)), (.int (6 : Int32)), (.ref x158)])
          refine Run.castore X164 (i := 6) (v' := (101 : Int32)) A164 rfl (Nat.le_of_ble_eq_true rfl) rfl (Or.inr (by omega)) (by omega) at_294 ?_
          intro T165 h165 L165 X165 K165 z165 A165
          have A165 : Arc .char Z h165 x158 [(112 : Int32), (114 : Int32), (111 : Int32), (118 : Int32), (105 : Int32), (100 : Int32), (101 : Int32), (0 : Int32), (0 : Int32)] := A165
          show Run _ _ _ _ _ _ _ _ _ _ _ _ T165 (mkF m 295 #[.val (.int kind), .val (.int pos), .val (.int ch), .val (.int pk), .val (.int (kind &&& (3 : Int32))), .val (.int (1 : Int32)), .val (.int d), .unset, .unset, .val (.ref x158), .unset] [])
          refine Run.via (fun _ => XS.aload X165.at X165.ex rfl (X165.de at_295) rfl rfl) ?_
          show Run _ _ _ _ _ _ _ _ _ _ _ _ T165 (mkF m 297 #[.val (.int kind), .val (.int pos), .val (.int ch), .val (.int pk), .val (.int (kind &&& (3 : Int32))), .val (.int (1 : Int32)), .val (.int d), .unset, .unset, .val (.ref x158), .unset] [(.ref x158)])
          refine Run.via (fun _ => XS.bipush X165.at X165.ex rfl (X165.de at_297)) ?_
          show Run _ _ _ _ _ _ _ _ _ _ _ _ T165 (mkF m 299 #[.val (.int kind), .val (.int pos), .val (.int ch), .val (.int pk), .val (.int (kind &&& (3 : Int32))), .val (.int (1 : Int32)), .val (.int d), .unset, .unset, .val (.ref x158), .unset] [(.int (7 : Int32)), (.ref x158)])
          refine Run.via (fun _ => XS.bipush X165.at X165.ex rfl (X165.de at_299)) ?_
          show Run _ _ _ _ _ _ _ _ _ _ _ _ T165 (mkF m 301 #[.val (.int kind), .val (.int pos), .val (.int ch), .val (.int pk), .val (.int (kind &&& (3 : Int32))), .val (.int (1 : Int32)), .val (.int d), .unset, .unset, .val (.ref x158), .unset] [(.int (100 : Int32)), (.int (7 : Int32)), (.ref x158)])
          refine Run.castore X165 (i := 7) (v' := (100 : Int32)) A165 rfl (Nat.le_of_ble_eq_true rfl) rfl (Or.inr (by omega)) (by omega) at_301 ?_
          intro T166 h166 L166 X166 K166 z166 A166
          have A166 : Arc .char Z h166 x158 [(112 : Int32), (114 : Int32), (111 : Int32), (118 : Int32), (105 : Int32), (100 : Int32), (101 : Int32), (100 : Int32), (0 : Int32)] := A166
          show Run _ _ _ _ _ _ _ _ _ _ _ _ T166 (mkF m 302 #[.val (.int kind), .val (.int pos), .val (.int ch), .val (.int pk), .val (.int (kind &&& (3 : Int32))), .val (.int (1 : Int32)), .val (.int d), .unset, .unset, .val (.ref x158), .unset] [])
          refine Run.via (fun _ => XS.aload X166.at X166.ex rfl (X166.de at_302) rfl rfl) ?_
          show Run _ _ _ _ _ _ _ _ _ _ _ _ T166 (mkF m 304 #[.val (.int kind), .val (.int pos), .val (.int ch), .val (.int pk), .val (.int (kind &&& (3 : Int32))), .val (.int (1 : Int32)), .val (.int d), .unset, .unset, .val (.ref x158), .unset] [(.ref x158)])
          refine Run.via (fun _ => XS.bipush X166.at X166.ex rfl (X166.de at_304)) ?_
          show Run _ _ _ _ _ _ _ _ _ _ _ _ T166 (mkF m 306 #[.val (.int kind), .val (.int pos), .val (.int ch), .val (.int pk), .val (.int (kind &&& (3 : Int32))), .val (.int (1 : Int32)), .val (.int d), .unset, .unset, .val (.ref x158), .unset] [(.int (8 : Int32)), (.ref x158)])
          refine Run.via (fun _ => XS.iload X166.at X166.ex rfl (X166.de at_306) rfl) ?_
          show Run _ _ _ _ _ _ _ _ _ _ _ _ T166 (mkF m 308 #[.val (.int kind), .val (.int pos), .val (.int ch), .val (.int pk), .val (.int (kind &&& (3 : Int32))), .val (.int (1 : Int32)), .val (.int d), .unset, .unset, .val (.ref x158), .unset] [(.int d), (.int (8 : Int32)), (.ref x158)])
          refine Run.castore X166 (i := 8) (v' := d) A166 rfl (Nat.le_of_ble_eq_true rfl) (nar_lat rd) (Or.inr (by omega)) (by omega) at_308 ?_
          intro T167 h167 L167 X167 K167 z167 A167
          have A167 : Arc .char Z h167 x158 [(112 : Int32), (114 : Int32), (111 : Int32), (118 : Int32), (105 : Int32), (100 : Int32), (101 : Int32), (100 : Int32), d] := A167
          show Run _ _ _ _ _ _ _ _ _ _ _ _ T167 (mkF m 309 #[.val (.int kind), .val (.int pos), .val (.int ch), .val (.int pk), .val (.int (kind &&& (3 : Int32))), .val (.int (1 : Int32)), .val (.int d), .unset, .unset, .val (.ref x158), .unset] [])
          have u168 := X167.kp.1
          refine Run.new X167 (wd hw 1 rfl) (wd hw 2 rfl) (wd hw 3 rfl) at_309 (Nat.le_of_ble_eq_true rfl) (Nat.le_of_ble_eq_true rfl) ?_
          intro T169 h169 x169 g169 X169 K169 z169 E169 D169
          show Run _ _ _ _ _ _ _ _ _ _ _ _ T169 (mkF m 312 #[.val (.int kind), .val (.int pos), .val (.int ch), .val (.int pk), .val (.int (kind &&& (3 : Int32))), .val (.int (1 : Int32)), .val (.int d), .unset, .unset, .val (.ref x158), .unset] [(.ref x169)])
          have s169 := K169.1
          have A169x := A167.keep K169 nin0
          have G169 : Raw Z h169 x169 := ⟨E169, D169 (Or.inr (wd hw 29 rfl)) (ty := (.array .byte)) (by decide), D169 (Or.inr (wd hw 27 rfl)) (ty := .byte) (by decide)⟩
          refine Run.via (fun _ => XS.dup X169.at X169.ex rfl (X169.de at_312) rfl rfl) ?_
          show Run _ _ _ _ _ _ _ _ _ _ _ _ T169 (mkF m 313 #[.val (.int kind), .val (.int pos), .val (.int ch), .val (.int pk), .val (.int (kind &&& (3 : Int32))), .val (.int (1 : Int32)), .val (.int d), .unset, .unset, .val (.ref x158), .unset] [(.ref x169), (.ref x169)])
          refine Run.via (fun _ => XS.aload X169.at X169.ex rfl (X169.de at_313) rfl rfl) ?_
          show Run _ _ _ _ _ _ _ _ _ _ _ _ T169 (mkF m 315 #[.val (.int kind), .val (.int pos), .val (.int ch), .val (.int pk), .val (.int (kind &&& (3 : Int32))), .val (.int (1 : Int32)), .val (.int d), .unset, .unset, .val (.ref x158), .unset] [(.ref x158), (.ref x169), (.ref x169)])
          refine Run.initStr hw hS X169 (cs := [(112 : Int32), (114 : Int32), (111 : Int32), (118 : Int32), (105 : Int32), (100 : Int32), (101 : Int32), (100 : Int32), d]) (W := 1) G169 A169x (lsS (by decide) (lsS (by decide) (lsS (by decide) (lsS (by decide) (lsS (by decide) (lsS (by decide) (lsS (by decide) (lsS (by decide) (lsS rd (ls0)))))))))) (by simp [testL, provL]) (wd hw 4 rfl) (wd hw 5 rfl) (wd hw 2 rfl) at_315 rfl (Or.inr (by omega)) (by omega) (by simp) (Nat.le_of_ble_eq_true rfl) (by decide) (by decide) (Nat.le_of_ble_eq_true rfl) (by show _ ≤ 12480; simp [testL, provL]) ?_
          intro T170 h170 L170 X170 K170 S170
          have X170 := X170.mono (k := 10) (n := 60) (Nat.le_of_ble_eq_true rfl) (by simp [testL, provL])
          show Run _ _ _ _ _ _ _ _ _ _ _ _ T170 (mkF m 318 #[.val (.int kind), .val (.int pos), .val (.int ch), .val (.int pk), .val (.int (kind &&& (3 : Int32))), .val (.int (1 : Int32)), .val (.int d), .unset, .unset, .val (.ref x158), .unset] [(.ref x169)])
          refine Run.via (fun _ => XS.astore X170.at X170.ex rfl (X170.de at_318) rfl rfl (l' := #[.val (.int kind), .val (.int pos), .val (.int ch), .val (.int pk), .val (.int (kind &&& (3 : Int32))), .val (.int (1 : Int32)), .val (.int d), .val (.ref x169), .unset, .val (.ref x158), .unset]) rfl) ?_
          show Run _ _ _ _ _ _ _ _ _ _ _ _ T170 (mkF m 320 #[.val (.int kind), .val (.int pos), .val (.int ch), .val (.int pk), .val (.int (kind &&& (3 : Int32))), .val (.int (1 : Int32)), .val (.int d), .val (.ref x169), .unset, .val (.ref x158), .unset] [])
          refine Run.via (fun _ => XS.goto X170.at X170.ex rfl (pc0 := 320) (pc' := 369) rfl (X170.de at_320) (by decide) (by decide)) ?_
          show Run _ _ _ _ _ _ _ _ _ _ _ _ T170 (mkF m 369 #[.val (.int kind), .val (.int pos), .val (.int ch), .val (.int pk), .val (.int (kind &&& (3 : Int32))), .val (.int (1 : Int32)), .val (.int d), .val (.ref x169), .unset, .val (.ref x158), .unset] [])
          refine Run.via (fun _ => XS.iconst X170.at X170.ex rfl (X170.de at_369)) ?_
          show Run _ _ _ _ _ _ _ _ _ _ _ _ T170 (mkF m 370 #[.val (.int kind), .val (.int pos), .val (.int ch), .val (.int pk), .val (.int (kind &&& (3 : Int32))), .val (.int (1 : Int32)), .val (.int d), .val (.ref x169), .unset, .val (.ref x158), .unset] [(.int (1 : Int32))])
          refine Run.via (fun _ => XS.istore X170.at X170.ex rfl (X170.de at_370) rfl (l' := #[.val (.int kind), .val (.int pos), .val (.int ch), .val (.int pk), .val (.int (kind &&& (3 : Int32))), .val (.int (1 : Int32)), .val (.int d), .val (.ref x169), .val (.int (1 : Int32)), .val (.ref x158), .unset]) rfl) ?_
          show Run _ _ _ _ _ _ _ _ _ _ _ _ T170 (mkF m 372 #[.val (.int kind), .val (.int pos), .val (.int ch), .val (.int pk), .val (.int (kind &&& (3 : Int32))), .val (.int (1 : Int32)), .val (.int d), .val (.ref x169), .val (.int (1 : Int32)), .val (.ref x158), .unset] [])
          refine Run.via (fun _ => XS.goto X170.at X170.ex rfl (pc0 := 372) (pc' := 410) rfl (X170.de at_372) (by decide) (by decide)) ?_
          show Run _ _ _ _ _ _ _ _ _ _ _ _ T170 (mkF m 410 #[.val (.int kind), .val (.int pos), .val (.int ch), .val (.int pk), .val (.int (kind &&& (3 : Int32))), .val (.int (1 : Int32)), .val (.int d), .val (.ref x169), .val (.int (1 : Int32)), .val (.ref x158), .unset] [])
          exact J410 _ _ _ _ _ _ _ _ _ _ _ _ (X170.mono (by decide) (by decide)) S170 (by unfold brought; rw [if_neg (by rintro (q | q) <;> cases q)])
        ·
          refine Run.via (fun _ => XS.icmpYes X0.at X0.ex rfl (pc0 := 238) (pc' := 375) rfl (X0.de at_238) rfl (feq k2).2 (by decide) (by decide)) ?_
          show Run _ _ _ _ _ _ _ _ _ _ _ _ T0 (mkF m 375 #[.val (.int kind), .val (.int pos), .val (.int ch), .val (.int pk), .val (.int (kind &&& (3 : Int32))), .val (.int (1 : Int32)), .val (.int d), .unset, .unset, .unset, .unset] [])
          refine Run.via (fun _ => XS.iloadN X0.at X0.ex rfl (X0.de at_375) rfl) ?_
          show Run _ _ _ _ _ _ _ _ _ _ _ _ T0 (mkF m 376 #[.val (.int kind), .val (.int pos), .val (.int ch), .val (.int pk), .val (.int (kind &&& (3 : Int32))), .val (.int (1 : Int32)), .val (.int d), .unset, .unset, .unset, .unset] [(.int pk)])
          refine Run.ldcI X0 (wd hw 70 rfl) at_376 ?_
          show Run _ _ _ _ _ _ _ _ _ _ _ _ T0 (mkF m 378 #[.val (.int kind), .val (.int pos), .val (.int ch), .val (.int pk), .val (.int (kind &&& (3 : Int32))), .val (.int (1 : Int32)), .val (.int d), .unset, .unset, .unset, .unset] [(.int (2147483647 : Int32)), (.int pk)])
          refine Run.via (fun _ => XS.iand X0.at X0.ex rfl (X0.de at_378) rfl) ?_
          show Run _ _ _ _ _ _ _ _ _ _ _ _ T0 (mkF m 379 #[.val (.int kind), .val (.int pos), .val (.int ch), .val (.int pk), .val (.int (kind &&& (3 : Int32))), .val (.int (1 : Int32)), .val (.int d), .unset, .unset, .unset, .unset] [(.int (pk &&& (2147483647 : Int32)))])
          refine Run.via (fun _ => XS.bipush X0.at X0.ex rfl (X0.de at_379)) ?_
          show Run _ _ _ _ _ _ _ _ _ _ _ _ T0 (mkF m 381 #[.val (.int kind), .val (.int pos), .val (.int ch), .val (.int pk), .val (.int (kind &&& (3 : Int32))), .val (.int (1 : Int32)), .val (.int d), .unset, .unset, .unset, .unset] [(.int (10 : Int32)), (.int (pk &&& (2147483647 : Int32)))])
          refine Run.irem X0 at_381 (by decide) ?_
          show Run _ _ _ _ _ _ _ _ _ _ _ _ T0 (mkF m 382 #[.val (.int kind), .val (.int pos), .val (.int ch), .val (.int pk), .val (.int (kind &&& (3 : Int32))), .val (.int (1 : Int32)), .val (.int d), .unset, .unset, .unset, .unset] [(.int ((pk &&& (2147483647 : Int32)) % (10 : Int32)))])
          generalize hnn : ((pk &&& (2147483647 : Int32)) % (10 : Int32)) = n
          show Run _ _ _ _ _ _ _ _ _ _ _ _ T0 (mkF m 382 #[.val (.int kind), .val (.int pos), .val (.int ch), .val (.int pk), .val (.int (kind &&& (3 : Int32))), .val (.int (1 : Int32)), .val (.int d), .unset, .unset, .unset, .unset] [(.int n)])
          refine Run.via (fun _ => XS.istore X0.at X0.ex rfl (X0.de at_382) rfl (l' := #[.val (.int kind), .val (.int pos), .val (.int ch), .val (.int pk), .val (.int (kind &&& (3 : Int32))), .val (.int (1 : Int32)), .val (.int d), .unset, .unset, .val (.int n), .unset]) rfl) ?_
          show Run _ _ _ _ _ _ _ _ _ _ _ _ T0 (mkF m 384 #[.val (.int kind), .val (.int pos), .val (.int ch), .val (.int pk), .val (.int (kind &&& (3 : Int32))), .val (.int (1 : Int32)), .val (.int d), .unset, .unset, .val (.int n), .unset] [])
          refine Run.via (fun _ => XS.iload X0.at X0.ex rfl (X0.de at_384) rfl) ?_
          show Run _ _ _ _ _ _ _ _ _ _ _ _ T0 (mkF m 386 #[.val (.int kind), .val (.int pos), .val (.int ch), .val (.int pk), .val (.int (kind &&& (3 : Int32))), .val (.int (1 : Int32)), .val (.int d), .unset, .unset, .val (.int n), .unset] [(.int n)])
          refine Run.callS X0 (y := (⟨"com/example/capstan_ledger/capstanledger/ScopeBroughtInPinLaw", "named", "(I)Ljava/lang/String;"⟩ : MethodName)) (W := 0) (con_nm l hw hN hm X0.old) (wd hw 71 rfl) (wd hw 72 rfl) (wd hw 73 rfl) (wd hw 74 rfl) (by decide) pd__I_Ljava_lang_String_ rfl (argsL := [(.int n)]) (rest := []) rfl (Nat.le_of_ble_eq_true rfl) rfl at_386 (by decide) (by decide) (Nat.le_of_ble_eq_true rfl) (Nat.le_of_ble_eq_true rfl) (nofun) (nofun) ?_
          intro v171 T171 h171 L171 q171 X171 XF171 K171
          obtain ⟨tx, rfl, SS⟩ := q171
          show Run _ _ _ _ _ _ _ _ _ _ _ _ T171 (mkF m 389 #[.val (.int kind), .val (.int pos), .val (.int ch), .val (.int pk), .val (.int (kind &&& (3 : Int32))), .val (.int (1 : Int32)), .val (.int d), .unset, .unset, .val (.int n), .unset] [(.ref tx)])
          refine Run.via (fun _ => XS.astore X171.at X171.ex rfl (X171.de at_389) rfl rfl (l' := #[.val (.int kind), .val (.int pos), .val (.int ch), .val (.int pk), .val (.int (kind &&& (3 : Int32))), .val (.int (1 : Int32)), .val (.int d), .val (.ref tx), .unset, .val (.int n), .unset]) rfl) ?_
          show Run _ _ _ _ _ _ _ _ _ _ _ _ T171 (mkF m 391 #[.val (.int kind), .val (.int pos), .val (.int ch), .val (.int pk), .val (.int (kind &&& (3 : Int32))), .val (.int (1 : Int32)), .val (.int d), .val (.ref tx), .unset, .val (.int n), .unset] [])
          refine Run.via (fun _ => XS.iload X171.at X171.ex rfl (X171.de at_391) rfl) ?_
          show Run _ _ _ _ _ _ _ _ _ _ _ _ T171 (mkF m 393 #[.val (.int kind), .val (.int pos), .val (.int ch), .val (.int pk), .val (.int (kind &&& (3 : Int32))), .val (.int (1 : Int32)), .val (.int d), .val (.ref tx), .unset, .val (.int n), .unset] [(.int n)])
          refine Run.via (fun _ => XS.iconst X171.at X171.ex rfl (X171.de at_393)) ?_
          show Run _ _ _ _ _ _ _ _ _ _ _ _ T171 (mkF m 394 #[.val (.int kind), .val (.int pos), .val (.int ch), .val (.int pk), .val (.int (kind &&& (3 : Int32))), .val (.int (1 : Int32)), .val (.int d), .val (.ref tx), .unset, .val (.int n), .unset] [(.int (2 : Int32)), (.int n)])
          by_cases q2 : n = (2 : Int32)
          ·
            refine Run.via (fun _ => XS.icmpYes X171.at X171.ex rfl (pc0 := 394) (pc' := 407) rfl (X171.de at_394) rfl (teq q2).1 (by decide) (by decide)) ?_
            show Run _ _ _ _ _ _ _ _ _ _ _ _ T171 (mkF m 407 #[.val (.int kind), .val (.int pos), .val (.int ch), .val (.int pk), .val (.int (kind &&& (3 : Int32))), .val (.int (1 : Int32)), .val (.int d), .val (.ref tx), .unset, .val (.int n), .unset] [])
            refine Run.via (fun _ => XS.iconst X171.at X171.ex rfl (X171.de at_407)) ?_
            show Run _ _ _ _ _ _ _ _ _ _ _ _ T171 (mkF m 408 #[.val (.int kind), .val (.int pos), .val (.int ch), .val (.int pk), .val (.int (kind &&& (3 : Int32))), .val (.int (1 : Int32)), .val (.int d), .val (.ref tx), .unset, .val (.int n), .unset] [(.int (0 : Int32))])
            refine Run.via (fun _ => XS.istore X171.at X171.ex rfl (X171.de at_408) rfl (l' := #[.val (.int kind), .val (.int pos), .val (.int ch), .val (.int pk), .val (.int (kind &&& (3 : Int32))), .val (.int (1 : Int32)), .val (.int d), .val (.ref tx), .val (.int (0 : Int32)), .val (.int n), .unset]) rfl) ?_
            show Run _ _ _ _ _ _ _ _ _ _ _ _ T171 (mkF m 410 #[.val (.int kind), .val (.int pos), .val (.int ch), .val (.int pk), .val (.int (kind &&& (3 : Int32))), .val (.int (1 : Int32)), .val (.int d), .val (.ref tx), .val (.int (0 : Int32)), .val (.int n), .unset] [])
            exact J410 _ _ _ _ _ _ _ _ _ _ _ _ (X171.mono (by decide) (by decide)) SS (by rw [bro_nam, if_pos (Or.inl q2)])
          ·
            refine Run.via (fun _ => XS.icmpNo X171.at X171.ex rfl (X171.de at_394) rfl (feq q2).1) ?_
            show Run _ _ _ _ _ _ _ _ _ _ _ _ T171 (mkF m 397 #[.val (.int kind), .val (.int pos), .val (.int ch), .val (.int pk), .val (.int (kind &&& (3 : Int32))), .val (.int (1 : Int32)), .val (.int d), .val (.ref tx), .unset, .val (.int n), .unset] [])
            refine Run.via (fun _ => XS.iload X171.at X171.ex rfl (X171.de at_397) rfl) ?_
            show Run _ _ _ _ _ _ _ _ _ _ _ _ T171 (mkF m 399 #[.val (.int kind), .val (.int pos), .val (.int ch), .val (.int pk), .val (.int (kind &&& (3 : Int32))), .val (.int (1 : Int32)), .val (.int d), .val (.ref tx), .unset, .val (.int n), .unset] [(.int n)])
            refine Run.via (fun _ => XS.iconst X171.at X171.ex rfl (X171.de at_399)) ?_
            show Run _ _ _ _ _ _ _ _ _ _ _ _ T171 (mkF m 400 #[.val (.int kind), .val (.int pos), .val (.int ch), .val (.int pk), .val (.int (kind &&& (3 : Int32))), .val (.int (1 : Int32)), .val (.int d), .val (.ref tx), .unset, .val (.int n), .unset] [(.int (3 : Int32)), (.int n)])
            by_cases q3 : n = (3 : Int32)
            ·
              refine Run.via (fun _ => XS.icmpYes X171.at X171.ex rfl (pc0 := 400) (pc' := 407) rfl (X171.de at_400) rfl (teq q3).1 (by decide) (by decide)) ?_
              show Run _ _ _ _ _ _ _ _ _ _ _ _ T171 (mkF m 407 #[.val (.int kind), .val (.int pos), .val (.int ch), .val (.int pk), .val (.int (kind &&& (3 : Int32))), .val (.int (1 : Int32)), .val (.int d), .val (.ref tx), .unset, .val (.int n), .unset] [])
              refine Run.via (fun _ => XS.iconst X171.at X171.ex rfl (X171.de at_407)) ?_
              show Run _ _ _ _ _ _ _ _ _ _ _ _ T171 (mkF m 408 #[.val (.int kind), .val (.int pos), .val (.int ch), .val (.int pk), .val (.int (kind &&& (3 : Int32))), .val (.int (1 : Int32)), .val (.int d), .val (.ref tx), .unset, .val (.int n), .unset] [(.int (0 : Int32))])
              refine Run.via (fun _ => XS.istore X171.at X171.ex rfl (X171.de at_408) rfl (l' := #[.val (.int kind), .val (.int pos), .val (.int ch), .val (.int pk), .val (.int (kind &&& (3 : Int32))), .val (.int (1 : Int32)), .val (.int d), .val (.ref tx), .val (.int (0 : Int32)), .val (.int n), .unset]) rfl) ?_
              show Run _ _ _ _ _ _ _ _ _ _ _ _ T171 (mkF m 410 #[.val (.int kind), .val (.int pos), .val (.int ch), .val (.int pk), .val (.int (kind &&& (3 : Int32))), .val (.int (1 : Int32)), .val (.int d), .val (.ref tx), .val (.int (0 : Int32)), .val (.int n), .unset] [])
              exact J410 _ _ _ _ _ _ _ _ _ _ _ _ (X171.mono (by decide) (by decide)) SS (by rw [bro_nam, if_pos (Or.inr q3)])
            ·
              refine Run.via (fun _ => XS.icmpNo X171.at X171.ex rfl (X171.de at_400) rfl (feq q3).1) ?_
              show Run _ _ _ _ _ _ _ _ _ _ _ _ T171 (mkF m 403 #[.val (.int kind), .val (.int pos), .val (.int ch), .val (.int pk), .val (.int (kind &&& (3 : Int32))), .val (.int (1 : Int32)), .val (.int d), .val (.ref tx), .unset, .val (.int n), .unset] [])
              refine Run.via (fun _ => XS.iconst X171.at X171.ex rfl (X171.de at_403)) ?_
              show Run _ _ _ _ _ _ _ _ _ _ _ _ T171 (mkF m 404 #[.val (.int kind), .val (.int pos), .val (.int ch), .val (.int pk), .val (.int (kind &&& (3 : Int32))), .val (.int (1 : Int32)), .val (.int d), .val (.ref tx), .unset, .val (.int n), .unset] [(.int (1 : Int32))])
              refine Run.via (fun _ => XS.goto X171.at X171.ex rfl (pc0 := 404) (pc' := 408) rfl (X171.de at_404) (by decide) (by decide)) ?_
              show Run _ _ _ _ _ _ _ _ _ _ _ _ T171 (mkF m 408 #[.val (.int kind), .val (.int pos), .val (.int ch), .val (.int pk), .val (.int (kind &&& (3 : Int32))), .val (.int (1 : Int32)), .val (.int d), .val (.ref tx), .unset, .val (.int n), .unset] [(.int (1 : Int32))])
              refine Run.via (fun _ => XS.istore X171.at X171.ex rfl (X171.de at_408) rfl (l' := #[.val (.int kind), .val (.int pos), .val (.int ch), .val (.int pk), .val (.int (kind &&& (3 : Int32))), .val (.int (1 : Int32)), .val (.int d), .val (.ref tx), .val (.int (1 : Int32)), .val (.int n), .unset]) rfl) ?_
              show Run _ _ _ _ _ _ _ _ _ _ _ _ T171 (mkF m 410 #[.val (.int kind), .val (.int pos), .val (.int ch), .val (.int pk), .val (.int (kind &&& (3 : Int32))), .val (.int (1 : Int32)), .val (.int d), .val (.ref tx), .val (.int (1 : Int32)), .val (.int n), .unset] [])
              exact J410 _ _ _ _ _ _ _ _ _ _ _ _ (X171.mono (by decide) (by decide)) SS (by rw [bro_nam, if_neg (fun z => z.elim q2 q3)])
-- part comes
set_option maxRecDepth 65536 in
set_option maxHeartbeats 40000000 in
theorem comes_1 {Post : Tables → Env → Array Value → State → Outcome → State → Prop} (hpost : ∀ tb e args s v u, (limb_1_1.after args s (.returned v) u = true ∧ limb_1_2.after args s (.returned v) u = true ∧ True) → ReturnedEndW s (.returned v) u (Jvm.fieldLocs frame_1_writes args s ++ Jvm.arrayLocs frame_1_arrays args s ++ Jvm.staticLocs frame_1_statics s) 40 12480 → Post tb e args s (.returned v) u) :
    ArmFor flags0 classFile x code maxLocals ret World_1 tables_1 room_1 Calls_1 rest_1 Pre_1 Post := by
  intro l hfl _ _ p e ha hc hk s m args below hf hA hF happ hP
  obtain ⟨hcalls, hrest, hpre⟩ := hP
  obtain ⟨-, -, -, hnamed, -, -, -, hat⟩ := (Spec.applies_iff hf).mp happ
  obtain ⟨hg, hn⟩ := and_e (Cond.before_iff.mp (show (Jvm.Cond.and given_1 narrow_1).before args s = true from hpre))
  obtain ⟨hcount, hg0⟩ := and_e hg
  obtain ⟨ga0, hg1⟩ := and_e hg0
  obtain ⟨ga1, hg2⟩ := and_e hg1
  obtain ⟨ga2, hg3⟩ := and_e hg2
  have ga3 := hg3
  obtain ⟨w0, w1, w2, w3, rfl⟩ : ∃ w0 w1 w2 w3 : Value, args = #[w0, w1, w2, w3] := by
    have hs : args.size = 4 := by simpa [Cond.value, given_1] using hcount
    obtain ⟨L⟩ := args
    match L, hs with
    | [w0, w1, w2, w3], _ => exact ⟨w0, w1, w2, w3, rfl⟩
  have hw := fun d (hd : d ∈ tables_1) => atoms_spec (ws := Jvm.Cond.code x code maxLocals ret :: tables_1) hat d (List.mem_cons_of_mem _ hd)
  obtain ⟨i0, ei0⟩ := is_v ga0
  obtain rfl : w0 = (.int i0) := Option.some.inj ei0
  obtain ⟨i1, ei1⟩ := is_v ga1
  obtain rfl : w1 = (.int i1) := Option.some.inj ei1
  obtain ⟨i2, ei2⟩ := is_v ga2
  obtain rfl : w2 = (.int i2) := Option.some.inj ei2
  obtain ⟨i3, ei3⟩ := is_v ga3
  obtain rfl : w3 = (.int i3) := Option.some.inj ei3
  obtain ⟨hsets, hown0⟩ := atoms_of _ (rest_1_c_eq ▸ (show rest_1_c.before _ s = true from hrest))
  have hS : Sets s := setsOf hsets
  have hEW : EW s _ consts_1 := (EW.cons (wd hw 34 rfl) (by decide) (EW.cons (wd hw 47 rfl) (by decide) (EW.cons (wd hw 78 rfl) (by decide) (EW.cons (wd hw 79 rfl) (by decide) (EW.cons (wd hw 77 rfl) (by decide) (EW.cons (wd hw 48 rfl) (by decide) (EW.cons (wd hw 81 rfl) (by decide) (EW.cons (wd hw 80 rfl) (by decide) (EW.cons (wd hw 75 rfl) (by decide) (EW.cons (wd hw 76 rfl) (by decide) (EW.cons (wd hw 83 rfl) (by decide) (EW.cons (wd hw 82 rfl) (by decide) EW.nil))))))))))))
  have hCH : CHv s consts_1 s.vm s.heap := CHv.start hEW (fun p hp => hcalls.1 p hp) (hsets _ (List.mem_of_getElem? (i := 2) rfl)) (wd hw 19 rfl) (wd hw 2 rfl)
  obtain ⟨n, o, h1, h2, h3, _, L, rfl, ⟨N, -, rfl⟩, -, hq, hnw, -⟩ := con_law l hw hS rfl (by decide) (by decide) (by decide) (kind := i0) (pos := i1) (ch := i2) (pk := i3) (h0 := s.heap) ⟨Nat.le_refl _, fun _ _ q => q⟩ hEW tables_1 p e ha hc hk s m _ below hf ((Spec.applies_iff_loose hf).mp happ).1 ⟨rfl, State.Warmed39.refl s, rfl, hCH, nofun⟩ trivial
  refine ⟨n, _, h1, h2, h3, hpost _ _ _ _ _ _ ⟨Cond.after_iff.mpr rfl, Cond.after_iff.mpr (eq_i res_at (Term.int_eval (1)) rfl), trivial⟩ ⟨hq.1, hq.2.1, hq.2.2.1, (hq.2.2.2.sift fun y hy => Or.inr (N y hy)).mono (by decide) (by decide)⟩⟩
theorem main_1_1 : Claimed_1_1 := comes_1 fun _ _ _ _ _ _ h hF => ⟨h.1, hF⟩
theorem main_1_2 : Claimed_1_2 := comes_1 fun _ _ _ _ _ _ h hF => ⟨h.2.1, hF⟩
end Jvm.Pilot.@@N@@
-- part witness
namespace Jvm.Pilot.@@N@@
open Jvm Jvm.ClassFile Sem Op Lib Jvm.Free Jvm.Stand Jvm.Pilot.@@N@@.Jvm.D
/-! MADE BY PROGRAM (witnessworld.py) out of the Statement's table words and the real class files: 20 classes; the members and pool entries that the words name. The judged class is class 1, her method 2. -/
namespace start1
open Jvm.ClassFile
def u (s : String) : CpInfo := .utf8 (stringToUtf16 s)
/-- a pool by its gaps: so many unusable entries, then the entry; so many at the end -/
def gap : Nat → List CpInfo → List CpInfo
  | 0, r => r
  | n + 1, r => .unusable :: gap n r
def poolList (es : List (Nat × CpInfo)) (last : Nat) : List CpInfo := es.foldr (fun e r => gap e.1 (e.2 :: r)) (gap last [])
def pool (es : List (Nat × CpInfo)) (last : Nat) : Array CpInfo := ⟨poolList es last⟩
def fileOf (pool : Array CpInfo) (this : Nat) (attrs : Array Attribute := #[]) (ms : Array MethodInfo := #[]) (fl : Nat := 33) (sup : Nat := 0) (ifs : Array Nat := #[]) (fds : Array FieldInfo := #[]) : ClassFile where
  minorVersion := 0
  majorVersion := 65
  constantPool := pool
  accessFlags := fl
  thisClass := this
  superClass := sup
  interfaces := ifs
  fields := fds
  methods := ms
  attributes := attrs
def plain (name : String) (sup : Option ClassId) : Class where
  name := name
  kind := .ordinary
  loader := none
  accessFlags := 33
  super := sup
  interfaces := #[]
  cf := none
  fields := #[]
  methods := #[]
  instanceTypes := #[]
  staticTypes := #[]
  resolved := #[]
  callSites := []
  init := .initialized
  statics := none
  mirror := none

def pool0 : Array CpInfo := pool [(5, u "<init>"), (0, u "()V"), (1, .class_ 10), (1, u "java/lang/Object")] 113

def k0c0 : Code := { maxStack := 0, maxLocals := 1, code := object_method_1_code, exceptionTable := #[], attributes := #[] }
def k0m0 : Method := { name := "<init>", desc := "()V", sig := { parameters := [], returnType := none }, accessFlags := 1, code := some k0c0 }
/-- java/lang/Object -/
def k0 : Class := { plain "java/lang/Object" none with
  accessFlags := 33
  interfaces := #[]
  cf := some (fileOf pool0 8 #[] #[{ accessFlags := 1, nameIndex := 5, descriptorIndex := 6, attributes := #[] }] 33 0 #[] #[])
  fields := #[]
  methods := #[k0m0]
  instanceTypes := #[]
  staticTypes := #[]
  resolved := Array.replicate 124 none
  statics := none }

def pool1 : Array CpInfo := pool [(2, .class_ 4), (1, u "java/lang/Object"), (0, u "<init>"), (0, u "()V"), (0, .string 8), (0, u "compile"), (0, .string 10), (0, u "runtime"), (0, .string 12), (0, u "provided"), (0, .string 14), (0, u "test"), (0, .string 16), (0, u "system"), (0, .string 18), (0, u ""), (0, .string 20), (0, u "Test"), (0, .string 22), (0, u "PROVIDED"), (0, .string 24), (0, u "tes"), (0, .string 26), (0, u "provide"), (0, .class_ 28), (0, u "java/lang/String"), (0, .methodref 27 30), (0, .nameAndType 5 31), (0, u "([C)V"), (0, .methodref 27 33), (0, .nameAndType 34 35), (0, u "charAt"), (0, u "(I)C"), (0, .integer 2147483647), (0, .methodref 38 39), (0, .class_ 40), (0, .nameAndType 41 42), (0, u "com/example/capstan_ledger/capstanledger/ScopeBroughtInPinLaw"), (0, u "named"), (0, u "(I)Ljava/lang/String;"), (0, .methodref 44 45), (0, .class_ 46), (0, .nameAndType 47 48), (0, u "com/example/capstan_ledger/capstanledger/Scope"), (0, u "broughtIn"), (0, u "(Ljava/lang/String;)Z"), (3, u "law"), (0, u "(IIII)Z")] 4

def k1m0 : Method := { name := "<init>", desc := "()V", sig := { parameters := [], returnType := none }, accessFlags := 2, code := none }
def k1c1 : Code := { maxStack := 2, maxLocals := 1, code := method_2_code, exceptionTable := #[], attributes := #[] }
def k1m1 : Method := { name := "named", desc := "(I)Ljava/lang/String;", sig := { parameters := [.int], returnType := some (.object "java/lang/String") }, accessFlags := 10, code := some k1c1 }
def k1c2 : Code := { maxStack := 3, maxLocals := 11, code := code, exceptionTable := #[], attributes := #[] }
def k1m2 : Method := { name := "law", desc := "(IIII)Z", sig := { parameters := [.int, .int, .int, .int], returnType := some .boolean }, accessFlags := 9, code := some k1c2 }
/-- com/example/capstan_ledger/capstanledger/ScopeBroughtInPinLaw -/
def k1 : Class := { plain "com/example/capstan_ledger/capstanledger/ScopeBroughtInPinLaw" (some 0) with
  accessFlags := 49
  interfaces := #[]
  cf := some (fileOf pool1 38 #[] #[{ accessFlags := 2, nameIndex := 5, descriptorIndex := 6, attributes := #[] }, { accessFlags := 10, nameIndex := 41, descriptorIndex := 42, attributes := #[] }, { accessFlags := 9, nameIndex := 52, descriptorIndex := 53, attributes := #[] }] 49 2 #[] #[])
  fields := #[]
  methods := #[k1m0, k1m1, k1m2]
  instanceTypes := #[]
  staticTypes := #[]
  resolved := Array.replicate 58 none
  statics := none }

def pool2 : Array CpInfo := pool [(1, .class_ 2), (0, u "java/io/Serializable"), (0, .class_ 4), (0, u "java/lang/Object")] 2

/-- java/io/Serializable -/
def k2 : Class := { plain "java/io/Serializable" (some 0) with
  accessFlags := 1537
  interfaces := #[]
  cf := some (fileOf pool2 1 #[] #[] 1537 3 #[] #[])
  fields := #[]
  methods := #[]
  instanceTypes := #[]
  staticTypes := #[]
  resolved := Array.replicate 7 none
  statics := none }

def pool3 : Array CpInfo := pool [(1, .class_ 2), (0, u "java/lang/Comparable"), (0, .class_ 4), (0, u "java/lang/Object")] 7

/-- java/lang/Comparable -/
def k3 : Class := { plain "java/lang/Comparable" (some 0) with
  accessFlags := 1537
  interfaces := #[]
  cf := some (fileOf pool3 1 #[] #[] 1537 3 #[] #[])
  fields := #[]
  methods := #[]
  instanceTypes := #[]
  staticTypes := #[]
  resolved := Array.replicate 12 none
  statics := none }

def pool4 : Array CpInfo := pool [(2, .class_ 4), (1, u "java/lang/CharSequence"), (42, .class_ 48), (0, u "java/lang/CharSequence$1CodePointIterator"), (10, .class_ 60), (0, u "java/lang/CharSequence$1CharIterator"), (5, .class_ 67), (0, u "java/lang/Object")] 63

/-- java/lang/CharSequence -/
def k4 : Class := { plain "java/lang/CharSequence" (some 0) with
  accessFlags := 1537
  interfaces := #[]
  cf := some (fileOf pool4 2 #[.nestMembers #[47, 59]] #[] 1537 66 #[] #[])
  fields := #[]
  methods := #[]
  instanceTypes := #[]
  staticTypes := #[]
  resolved := Array.replicate 131 none
  statics := none }

def pool5 : Array CpInfo := pool [(1, .class_ 2), (0, u "java/lang/constant/Constable"), (0, .class_ 4), (0, u "java/lang/Object")] 6

/-- java/lang/constant/Constable -/
def k5 : Class := { plain "java/lang/constant/Constable" (some 0) with
  accessFlags := 1537
  interfaces := #[]
  cf := some (fileOf pool5 1 #[] #[] 1537 3 #[] #[])
  fields := #[]
  methods := #[]
  instanceTypes := #[]
  staticTypes := #[]
  resolved := Array.replicate 11 none
  statics := none }

def pool6 : Array CpInfo := pool [(1, .class_ 2), (0, u "java/lang/constant/ConstantDesc"), (0, .class_ 4), (0, u "java/lang/Object")] 32

/-- java/lang/constant/ConstantDesc -/
def k6 : Class := { plain "java/lang/constant/ConstantDesc" (some 0) with
  accessFlags := 1537
  interfaces := #[]
  cf := some (fileOf pool6 1 #[] #[] 1537 3 #[] #[])
  fields := #[]
  methods := #[]
  instanceTypes := #[]
  staticTypes := #[]
  resolved := Array.replicate 37 none
  statics := none }

def pool7 : Array CpInfo := pool [(1, .methodref 2 3), (0, .class_ 4), (0, .nameAndType 5 6), (0, u "java/lang/Object"), (0, u "<init>"), (0, u "()V"), (2, .fieldref 10 11), (0, .class_ 12), (0, .nameAndType 13 14), (0, u "java/lang/String"), (0, u "value"), (0, u "[B"), (0, .fieldref 10 16), (0, .nameAndType 17 18), (0, u "coder"), (0, u "B"), (2, u "hash"), (0, u "I"), (2, u "hashIsZero"), (0, u "Z"), (0, .methodref 10 28), (0, .nameAndType 5 29), (0, u "([CIILjava/lang/Void;)V"), (8, .fieldref 10 39), (0, .nameAndType 40 26), (0, u "COMPACT_STRINGS"), (1, .class_ 44), (1, u "java/lang/StringUTF16"), (0, u "compress"), (1, .methodref 42 48), (0, .nameAndType 49 50), (0, u "coderFromArrayLen"), (0, u "([BI)B"), (56, .class_ 109), (1, u "java/lang/StringLatin1"), (32, u "()Z"), (34, .methodref 42 178), (0, .nameAndType 45 179), (0, u "([CII)[B"), (183, u "([BI)C"), (27, u "(II)V"), (35, u "(I)C"), (64, .methodref 10 493), (0, .nameAndType 494 142), (0, u "isLatin1"), (0, .methodref 107 496), (0, .nameAndType 497 363), (0, u "charAt"), (3, u "checkIndex"), (39, .methodref 107 542), (0, .nameAndType 543 544), (0, u "equals"), (0, u "([B[B)Z"), (28, u "(Ljava/lang/Object;)Z"), (1, .class_ 576), (0, u "java/lang/CharSequence"), (22, u "CASE_INSENSITIVE_ORDER"), (0, u "Ljava/util/Comparator;"), (409, u "([C)V"), (42, .fieldref 1054 1055), (0, .class_ 1056), (0, .nameAndType 1057 1058), (0, u "jdk/internal/util/Preconditions"), (0, u "SIOOBE_FORMATTER"), (0, u "Ljava/util/function/BiFunction;"), (0, .methodref 1054 1060), (0, .nameAndType 501 1061), (0, u "(IILjava/util/function/BiFunction;)I"), (39, u "serialPersistentFields"), (0, u "[Ljava/io/ObjectStreamField;"), (0, .class_ 1104), (0, u "java/lang/String$CaseInsensitiveComparator"), (1, .class_ 1107), (0, u "java/io/Serializable"), (0, .class_ 1109), (0, u "java/lang/Comparable"), (0, .class_ 1111), (0, u "java/lang/constant/Constable"), (0, .class_ 1113), (0, u "java/lang/constant/ConstantDesc"), (2, u "serialVersionUID"), (0, u "J"), (3, u "REPL"), (0, u "C"), (2, u "LATIN1"), (1, u "UTF16")] 323

def k7m0 : Method := { name := "<init>", desc := "()V", sig := { parameters := [], returnType := none }, accessFlags := 1, code := none }
def k7c1 : Code := { maxStack := 5, maxLocals := 2, code := jdk_42_method_3_code, exceptionTable := #[], attributes := #[] }
def k7m1 : Method := { name := "<init>", desc := "([C)V", sig := { parameters := [(.array .char)], returnType := none }, accessFlags := 1, code := some k7c1 }
def k7c2 : Code := { maxStack := 2, maxLocals := 2, code := jdk_42_method_56_code, exceptionTable := #[], attributes := #[] }
def k7m2 : Method := { name := "charAt", desc := "(I)C", sig := { parameters := [.int], returnType := some .char }, accessFlags := 1, code := some k7c2 }
def k7c3 : Code := { maxStack := 2, maxLocals := 3, code := jdk_42_method_66_code, exceptionTable := #[], attributes := #[] }
def k7m3 : Method := { name := "equals", desc := "(Ljava/lang/Object;)Z", sig := { parameters := [(.object "java/lang/Object")], returnType := some .boolean }, accessFlags := 1, code := some k7c3 }
def k7c4 : Code := { maxStack := 4, maxLocals := 6, code := jdk_42_method_149_code, exceptionTable := #[], attributes := #[] }
def k7m4 : Method := { name := "<init>", desc := "([CIILjava/lang/Void;)V", sig := { parameters := [(.array .char), .int, .int, (.object "java/lang/Void")], returnType := none }, accessFlags := 2, code := some k7c4 }
def k7c5 : Code := { maxStack := 1, maxLocals := 1, code := jdk_42_method_154_code, exceptionTable := #[], attributes := #[] }
def k7m5 : Method := { name := "isLatin1", desc := "()Z", sig := { parameters := [], returnType := some .boolean }, accessFlags := 0, code := some k7c5 }
def k7c6 : Code := { maxStack := 3, maxLocals := 2, code := jdk_42_method_155_code, exceptionTable := #[], attributes := #[] }
def k7m6 : Method := { name := "checkIndex", desc := "(II)V", sig := { parameters := [.int, .int], returnType := none }, accessFlags := 8, code := some k7c6 }
/-- java/lang/String -/
def k7 : Class := { plain "java/lang/String" (some 0) with
  accessFlags := 49
  interfaces := #[2, 3, 4, 5, 6]
  cf := some (fileOf pool7 10 #[.nestMembers #[1103]] #[{ accessFlags := 1, nameIndex := 5, descriptorIndex := 6, attributes := #[] }, { accessFlags := 1, nameIndex := 5, descriptorIndex := 1010, attributes := #[] }, { accessFlags := 1, nameIndex := 497, descriptorIndex := 427, attributes := #[] }, { accessFlags := 1, nameIndex := 543, descriptorIndex := 573, attributes := #[] }, { accessFlags := 2, nameIndex := 5, descriptorIndex := 29, attributes := #[] }, { accessFlags := 0, nameIndex := 494, descriptorIndex := 142, attributes := #[] }, { accessFlags := 8, nameIndex := 501, descriptorIndex := 391, attributes := #[] }] 49 2 #[1106, 1108, 575, 1110, 1112] #[{ accessFlags := 18, nameIndex := 13, descriptorIndex := 14, attributes := #[] }, { accessFlags := 18, nameIndex := 17, descriptorIndex := 18, attributes := #[] }, { accessFlags := 2, nameIndex := 21, descriptorIndex := 22, attributes := #[] }, { accessFlags := 2, nameIndex := 25, descriptorIndex := 26, attributes := #[] }, { accessFlags := 26, nameIndex := 1116, descriptorIndex := 1117, attributes := #[] }, { accessFlags := 24, nameIndex := 40, descriptorIndex := 26, attributes := #[] }, { accessFlags := 26, nameIndex := 1101, descriptorIndex := 1102, attributes := #[] }, { accessFlags := 26, nameIndex := 1121, descriptorIndex := 1122, attributes := #[] }, { accessFlags := 25, nameIndex := 599, descriptorIndex := 600, attributes := #[] }, { accessFlags := 24, nameIndex := 1125, descriptorIndex := 18, attributes := #[] }, { accessFlags := 24, nameIndex := 1127, descriptorIndex := 18, attributes := #[] }])
  fields := #[{ name := "value", type := (.array .byte), accessFlags := 18, slot := 0, constantValue := 0 }, { name := "coder", type := .byte, accessFlags := 18, slot := 1, constantValue := 0 }, { name := "hash", type := .int, accessFlags := 2, slot := 2, constantValue := 0 }, { name := "hashIsZero", type := .boolean, accessFlags := 2, slot := 3, constantValue := 0 }, { name := "serialVersionUID", type := .long, accessFlags := 26, slot := 0, constantValue := 0 }, { name := "COMPACT_STRINGS", type := .boolean, accessFlags := 24, slot := 1, constantValue := 0 }, { name := "serialPersistentFields", type := (.array (.object "java/io/ObjectStreamField")), accessFlags := 26, slot := 2, constantValue := 0 }, { name := "REPL", type := .char, accessFlags := 26, slot := 3, constantValue := 0 }, { name := "CASE_INSENSITIVE_ORDER", type := (.object "java/util/Comparator"), accessFlags := 25, slot := 4, constantValue := 0 }, { name := "LATIN1", type := .byte, accessFlags := 24, slot := 5, constantValue := 0 }, { name := "UTF16", type := .byte, accessFlags := 24, slot := 6, constantValue := 0 }]
  methods := #[k7m0, k7m1, k7m2, k7m3, k7m4, k7m5, k7m6]
  instanceTypes := #[(.array .byte), .byte, .int, .boolean]
  staticTypes := #[.long, .boolean, (.array (.object "java/io/ObjectStreamField")), .char, (.object "java/util/Comparator"), .byte, .byte]
  resolved := Array.replicate 1451 none
  statics := some 0 }

def pool8 : Array CpInfo := pool [(6, .class_ 8), (1, u "java/lang/Object"), (0, u "<init>"), (0, u "()V"), (1, .class_ 14), (1, u "java/lang/StringUTF16"), (31, u "$assertionsDisabled"), (0, u "Z"), (13, u "HI_BYTE_SHIFT"), (0, u "I"), (2, u "LO_BYTE_SHIFT"), (49, .methodref 12 116), (0, .nameAndType 117 118), (0, u "compress"), (0, u "([CI[BII)I"), (3, u "([CII)[B"), (138, u "coderFromArrayLen"), (0, u "([BI)B"), (106, .class_ 371), (1, u "java/lang/StringUTF16$LinesSpliterator"), (58, u "MAX_LENGTH"), (196, .class_ 628), (0, u "java/lang/StringUTF16$CodePointsSpliterator"), (0, .class_ 630), (0, u "java/lang/StringUTF16$CharsSpliterator")] 4

def k8m0 : Method := { name := "<init>", desc := "()V", sig := { parameters := [], returnType := none }, accessFlags := 0, code := none }
def k8c1 : Code := { maxStack := 2, maxLocals := 2, code := jdk_52_method_15_code, exceptionTable := #[], attributes := #[] }
def k8m1 : Method := { name := "coderFromArrayLen", desc := "([BI)B", sig := { parameters := [(.array .byte), .int], returnType := some .byte }, accessFlags := 8, code := some k8c1 }
def k8c2 : Code := { maxStack := 5, maxLocals := 6, code := jdk_52_method_16_code, exceptionTable := #[], attributes := #[] }
def k8m2 : Method := { name := "compress", desc := "([CII)[B", sig := { parameters := [(.array .char), .int, .int], returnType := some (.array .byte) }, accessFlags := 9, code := some k8c2 }
def k8c3 : Code := { maxStack := 3, maxLocals := 7, code := jdk_52_method_21_code, exceptionTable := #[], attributes := #[] }
def k8m3 : Method := { name := "compress", desc := "([CI[BII)I", sig := { parameters := [(.array .char), .int, (.array .byte), .int, .int], returnType := some .int }, accessFlags := 9, code := some k8c3 }
/-- java/lang/StringUTF16 -/
def k8 : Class := { plain "java/lang/StringUTF16" (some 0) with
  accessFlags := 48
  interfaces := #[]
  cf := some (fileOf pool8 12 #[.nestMembers #[627, 629, 369]] #[{ accessFlags := 0, nameIndex := 9, descriptorIndex := 10, attributes := #[] }, { accessFlags := 8, nameIndex := 261, descriptorIndex := 262, attributes := #[] }, { accessFlags := 9, nameIndex := 117, descriptorIndex := 122, attributes := #[] }, { accessFlags := 9, nameIndex := 117, descriptorIndex := 118, attributes := #[] }] 48 6 #[] #[{ accessFlags := 26, nameIndex := 61, descriptorIndex := 62, attributes := #[] }, { accessFlags := 26, nameIndex := 65, descriptorIndex := 62, attributes := #[] }, { accessFlags := 24, nameIndex := 430, descriptorIndex := 62, attributes := #[] }, { accessFlags := 4120, nameIndex := 46, descriptorIndex := 47, attributes := #[] }])
  fields := #[{ name := "HI_BYTE_SHIFT", type := .int, accessFlags := 26, slot := 0, constantValue := 0 }, { name := "LO_BYTE_SHIFT", type := .int, accessFlags := 26, slot := 1, constantValue := 0 }, { name := "MAX_LENGTH", type := .int, accessFlags := 24, slot := 2, constantValue := 0 }, { name := "$assertionsDisabled", type := .boolean, accessFlags := 4120, slot := 3, constantValue := 0 }]
  methods := #[k8m0, k8m1, k8m2, k8m3]
  instanceTypes := #[]
  staticTypes := #[.int, .int, .int, .boolean]
  resolved := Array.replicate 635 none
  statics := none }

def pool9 : Array CpInfo := pool [(2, .class_ 4), (1, u "java/lang/Object"), (0, u "<init>"), (0, u "()V"), (0, .class_ 8), (0, u "com/example/capstan_ledger/capstanledger/Scope"), (0, .string 10), (0, u "provided"), (0, .methodref 12 13), (0, .class_ 14), (0, .nameAndType 15 16), (0, u "java/lang/String"), (0, u "equals"), (0, u "(Ljava/lang/Object;)Z"), (0, .string 18), (0, u "test"), (24, u "RANKED"), (0, u "Ljava/util/List;"), (13, u "COMPILE"), (0, u "Ljava/lang/String;"), (1, u "RUNTIME"), (0, u "PROVIDED"), (0, u "TEST"), (0, u "SYSTEM"), (4, u "broughtIn"), (0, u "(Ljava/lang/String;)Z")] 11

def k9m0 : Method := { name := "<init>", desc := "()V", sig := { parameters := [], returnType := none }, accessFlags := 2, code := none }
def k9c1 : Code := { maxStack := 2, maxLocals := 1, code := prog_53_method_2_code, exceptionTable := #[], attributes := #[] }
def k9m1 : Method := { name := "broughtIn", desc := "(Ljava/lang/String;)Z", sig := { parameters := [(.object "java/lang/String")], returnType := some .boolean }, accessFlags := 8, code := some k9c1 }
/-- com/example/capstan_ledger/capstanledger/Scope -/
def k9 : Class := { plain "com/example/capstan_ledger/capstanledger/Scope" (some 0) with
  accessFlags := 48
  interfaces := #[]
  cf := some (fileOf pool9 7 #[] #[{ accessFlags := 2, nameIndex := 5, descriptorIndex := 6, attributes := #[] }, { accessFlags := 8, nameIndex := 69, descriptorIndex := 70, attributes := #[] }] 48 2 #[] #[{ accessFlags := 24, nameIndex := 58, descriptorIndex := 59, attributes := #[] }, { accessFlags := 24, nameIndex := 61, descriptorIndex := 59, attributes := #[] }, { accessFlags := 24, nameIndex := 62, descriptorIndex := 59, attributes := #[] }, { accessFlags := 24, nameIndex := 63, descriptorIndex := 59, attributes := #[] }, { accessFlags := 24, nameIndex := 64, descriptorIndex := 59, attributes := #[] }, { accessFlags := 26, nameIndex := 43, descriptorIndex := 44, attributes := #[] }])
  fields := #[{ name := "COMPILE", type := (.object "java/lang/String"), accessFlags := 24, slot := 0, constantValue := 0 }, { name := "RUNTIME", type := (.object "java/lang/String"), accessFlags := 24, slot := 1, constantValue := 0 }, { name := "PROVIDED", type := (.object "java/lang/String"), accessFlags := 24, slot := 2, constantValue := 0 }, { name := "TEST", type := (.object "java/lang/String"), accessFlags := 24, slot := 3, constantValue := 0 }, { name := "SYSTEM", type := (.object "java/lang/String"), accessFlags := 24, slot := 4, constantValue := 0 }, { name := "RANKED", type := (.object "java/util/List"), accessFlags := 26, slot := 5, constantValue := 0 }]
  methods := #[k9m0, k9m1]
  instanceTypes := #[]
  staticTypes := #[(.object "java/lang/String"), (.object "java/lang/String"), (.object "java/lang/String"), (.object "java/lang/String"), (.object "java/lang/String"), (.object "java/util/List")]
  resolved := Array.replicate 82 none
  statics := none }

def pool10 : Array CpInfo := pool [(1, .class_ 2), (0, u "java/lang/String"), (1, .class_ 6), (1, u "java/lang/Object"), (0, u "<init>"), (0, u "()V"), (0, .methodref 1 10), (0, .nameAndType 11 12), (0, u "checkIndex"), (0, u "(II)V"), (1, .class_ 16), (1, u "java/lang/StringLatin1"), (36, u "([BI)C"), (67, u "$assertionsDisabled"), (0, u "Z"), (98, .class_ 223), (1, u "java/lang/StringLatin1$LinesSpliterator"), (28, u "charAt"), (28, u "equals"), (0, u "([B[B)Z"), (107, .class_ 391), (0, u "java/lang/StringLatin1$CharsSpliterator")] 3

def k10m0 : Method := { name := "<init>", desc := "()V", sig := { parameters := [], returnType := none }, accessFlags := 0, code := none }
def k10c1 : Code := { maxStack := 2, maxLocals := 2, code := jdk_43_method_2_code, exceptionTable := #[], attributes := #[] }
def k10m1 : Method := { name := "charAt", desc := "([BI)C", sig := { parameters := [(.array .byte), .int], returnType := some .char }, accessFlags := 9, code := some k10c1 }
def k10c2 : Code := { maxStack := 3, maxLocals := 3, code := jdk_43_method_13_code, exceptionTable := #[], attributes := #[] }
def k10m2 : Method := { name := "equals", desc := "([B[B)Z", sig := { parameters := [(.array .byte), (.array .byte)], returnType := some .boolean }, accessFlags := 9, code := some k10c2 }
/-- java/lang/StringLatin1 -/
def k10 : Class := { plain "java/lang/StringLatin1" (some 0) with
  accessFlags := 48
  interfaces := #[]
  cf := some (fileOf pool10 14 #[.nestMembers #[390, 221]] #[{ accessFlags := 0, nameIndex := 7, descriptorIndex := 8, attributes := #[] }, { accessFlags := 9, nameIndex := 252, descriptorIndex := 53, attributes := #[] }, { accessFlags := 9, nameIndex := 281, descriptorIndex := 282, attributes := #[] }] 48 4 #[] #[{ accessFlags := 4120, nameIndex := 121, descriptorIndex := 122, attributes := #[] }])
  fields := #[{ name := "$assertionsDisabled", type := .boolean, accessFlags := 4120, slot := 0, constantValue := 0 }]
  methods := #[k10m0, k10m1, k10m2]
  instanceTypes := #[]
  staticTypes := #[.boolean]
  resolved := Array.replicate 395 none
  statics := none }

def pool11 : Array CpInfo := pool [(2, .class_ 4), (1, u "java/lang/Object"), (0, u "<init>"), (0, u "()V"), (17, .class_ 26), (1, u "jdk/internal/util/Preconditions"), (6, u "checkIndex"), (21, .class_ 56), (0, u "jdk/internal/util/Preconditions$4"), (57, .class_ 115), (0, u "jdk/internal/util/Preconditions$1"), (7, u "SIOOBE_FORMATTER"), (0, u "Ljava/util/function/BiFunction;"), (0, .class_ 126), (0, u "jdk/internal/util/Preconditions$2"), (3, u "AIOOBE_FORMATTER"), (0, .class_ 132), (0, u "jdk/internal/util/Preconditions$3"), (3, u "IOOBE_FORMATTER"), (41, u "(IILjava/util/function/BiFunction;)I")] 15

def k11m0 : Method := { name := "<init>", desc := "()V", sig := { parameters := [], returnType := none }, accessFlags := 1, code := none }
def k11c1 : Code := { maxStack := 3, maxLocals := 3, code := jdk_41_method_11_code, exceptionTable := #[], attributes := #[] }
def k11m1 : Method := { name := "checkIndex", desc := "(IILjava/util/function/BiFunction;)I", sig := { parameters := [.int, .int, (.object "java/util/function/BiFunction")], returnType := some .int }, accessFlags := 9, code := some k11c1 }
/-- jdk/internal/util/Preconditions -/
def k11 : Class := { plain "jdk/internal/util/Preconditions" (some 0) with
  accessFlags := 33
  interfaces := #[]
  cf := some (fileOf pool11 24 #[.nestMembers #[55, 131, 125, 114]] #[{ accessFlags := 1, nameIndex := 5, descriptorIndex := 6, attributes := #[] }, { accessFlags := 9, nameIndex := 33, descriptorIndex := 178, attributes := #[] }] 33 2 #[] #[{ accessFlags := 25, nameIndex := 123, descriptorIndex := 124, attributes := #[] }, { accessFlags := 25, nameIndex := 130, descriptorIndex := 124, attributes := #[] }, { accessFlags := 25, nameIndex := 136, descriptorIndex := 124, attributes := #[] }])
  fields := #[{ name := "SIOOBE_FORMATTER", type := (.object "java/util/function/BiFunction"), accessFlags := 25, slot := 0, constantValue := 0 }, { name := "AIOOBE_FORMATTER", type := (.object "java/util/function/BiFunction"), accessFlags := 25, slot := 1, constantValue := 0 }, { name := "IOOBE_FORMATTER", type := (.object "java/util/function/BiFunction"), accessFlags := 25, slot := 2, constantValue := 0 }]
  methods := #[k11m0, k11m1]
  instanceTypes := #[]
  staticTypes := #[(.object "java/util/function/BiFunction"), (.object "java/util/function/BiFunction"), (.object "java/util/function/BiFunction")]
  resolved := Array.replicate 194 none
  statics := some 1 }

def pool12 : Array CpInfo := pool [(9, u "<init>"), (6, .class_ 18), (1, u "java/lang/Object"), (0, u "()V"), (1, .class_ 23), (1, u "jdk/internal/util/ArraysSupport"), (0, u "LOG2_ARRAY_LONG_INDEX_SCALE"), (0, u "I"), (2, u "U"), (0, u "Ljdk/internal/misc/Unsafe;"), (8, u "BIG_ENDIAN"), (0, u "Z"), (8, u "LOG2_BYTE_BIT_SIZE"), (4, u "LOG2_ARRAY_INT_INDEX_SCALE"), (54, u "JLA"), (0, u "Ljdk/internal/access/JavaLangAccess;"), (11, u "LOG2_ARRAY_BOOLEAN_INDEX_SCALE"), (9, u "LOG2_ARRAY_BYTE_INDEX_SCALE"), (5, u "LOG2_ARRAY_CHAR_INDEX_SCALE"), (5, u "LOG2_ARRAY_SHORT_INDEX_SCALE"), (18, u "LOG2_ARRAY_FLOAT_INDEX_SCALE"), (24, u "LOG2_ARRAY_DOUBLE_INDEX_SCALE"), (89, u "T_BOOLEAN"), (2, u "T_CHAR"), (1, u "T_FLOAT"), (1, u "T_DOUBLE"), (1, u "T_BYTE"), (1, u "T_SHORT"), (1, u "T_INT"), (1, u "T_LONG"), (1, u "SOFT_MAX_ARRAY_LENGTH")] 83

def k12m0 : Method := { name := "<init>", desc := "()V", sig := { parameters := [], returnType := none }, accessFlags := 2, code := none }
/-- jdk/internal/util/ArraysSupport -/
def k12 : Class := { plain "jdk/internal/util/ArraysSupport" (some 0) with
  accessFlags := 33
  interfaces := #[]
  cf := some (fileOf pool12 21 #[] #[{ accessFlags := 2, nameIndex := 9, descriptorIndex := 19, attributes := #[] }] 33 16 #[] #[{ accessFlags := 24, nameIndex := 28, descriptorIndex := 29, attributes := #[] }, { accessFlags := 26, nameIndex := 38, descriptorIndex := 39, attributes := #[] }, { accessFlags := 25, nameIndex := 121, descriptorIndex := 25, attributes := #[] }, { accessFlags := 25, nameIndex := 131, descriptorIndex := 25, attributes := #[] }, { accessFlags := 25, nameIndex := 137, descriptorIndex := 25, attributes := #[] }, { accessFlags := 25, nameIndex := 143, descriptorIndex := 25, attributes := #[] }, { accessFlags := 25, nameIndex := 53, descriptorIndex := 25, attributes := #[] }, { accessFlags := 25, nameIndex := 24, descriptorIndex := 25, attributes := #[] }, { accessFlags := 25, nameIndex := 162, descriptorIndex := 25, attributes := #[] }, { accessFlags := 25, nameIndex := 187, descriptorIndex := 25, attributes := #[] }, { accessFlags := 26, nameIndex := 48, descriptorIndex := 25, attributes := #[] }, { accessFlags := 25, nameIndex := 277, descriptorIndex := 25, attributes := #[] }, { accessFlags := 25, nameIndex := 280, descriptorIndex := 25, attributes := #[] }, { accessFlags := 25, nameIndex := 282, descriptorIndex := 25, attributes := #[] }, { accessFlags := 25, nameIndex := 284, descriptorIndex := 25, attributes := #[] }, { accessFlags := 25, nameIndex := 286, descriptorIndex := 25, attributes := #[] }, { accessFlags := 25, nameIndex := 288, descriptorIndex := 25, attributes := #[] }, { accessFlags := 25, nameIndex := 290, descriptorIndex := 25, attributes := #[] }, { accessFlags := 25, nameIndex := 292, descriptorIndex := 25, attributes := #[] }, { accessFlags := 26, nameIndex := 108, descriptorIndex := 109, attributes := #[] }, { accessFlags := 25, nameIndex := 294, descriptorIndex := 25, attributes := #[] }])
  fields := #[{ name := "U", type := (.object "jdk/internal/misc/Unsafe"), accessFlags := 24, slot := 0, constantValue := 0 }, { name := "BIG_ENDIAN", type := .boolean, accessFlags := 26, slot := 1, constantValue := 0 }, { name := "LOG2_ARRAY_BOOLEAN_INDEX_SCALE", type := .int, accessFlags := 25, slot := 2, constantValue := 0 }, { name := "LOG2_ARRAY_BYTE_INDEX_SCALE", type := .int, accessFlags := 25, slot := 3, constantValue := 0 }, { name := "LOG2_ARRAY_CHAR_INDEX_SCALE", type := .int, accessFlags := 25, slot := 4, constantValue := 0 }, { name := "LOG2_ARRAY_SHORT_INDEX_SCALE", type := .int, accessFlags := 25, slot := 5, constantValue := 0 }, { name := "LOG2_ARRAY_INT_INDEX_SCALE", type := .int, accessFlags := 25, slot := 6, constantValue := 0 }, { name := "LOG2_ARRAY_LONG_INDEX_SCALE", type := .int, accessFlags := 25, slot := 7, constantValue := 0 }, { name := "LOG2_ARRAY_FLOAT_INDEX_SCALE", type := .int, accessFlags := 25, slot := 8, constantValue := 0 }, { name := "LOG2_ARRAY_DOUBLE_INDEX_SCALE", type := .int, accessFlags := 25, slot := 9, constantValue := 0 }, { name := "LOG2_BYTE_BIT_SIZE", type := .int, accessFlags := 26, slot := 10, constantValue := 0 }, { name := "T_BOOLEAN", type := .int, accessFlags := 25, slot := 11, constantValue := 0 }, { name := "T_CHAR", type := .int, accessFlags := 25, slot := 12, constantValue := 0 }, { name := "T_FLOAT", type := .int, accessFlags := 25, slot := 13, constantValue := 0 }, { name := "T_DOUBLE", type := .int, accessFlags := 25, slot := 14, constantValue := 0 }, { name := "T_BYTE", type := .int, accessFlags := 25, slot := 15, constantValue := 0 }, { name := "T_SHORT", type := .int, accessFlags := 25, slot := 16, constantValue := 0 }, { name := "T_INT", type := .int, accessFlags := 25, slot := 17, constantValue := 0 }, { name := "T_LONG", type := .int, accessFlags := 25, slot := 18, constantValue := 0 }, { name := "JLA", type := (.object "jdk/internal/access/JavaLangAccess"), accessFlags := 26, slot := 19, constantValue := 0 }, { name := "SOFT_MAX_ARRAY_LENGTH", type := .int, accessFlags := 25, slot := 20, constantValue := 0 }]
  methods := #[k12m0]
  instanceTypes := #[]
  staticTypes := #[(.object "jdk/internal/misc/Unsafe"), .boolean, .int, .int, .int, .int, .int, .int, .int, .int, .int, .int, .int, .int, .int, .int, .int, .int, .int, (.object "jdk/internal/access/JavaLangAccess"), .int]
  resolved := Array.replicate 378 none
  statics := none }

def pool13 : Array CpInfo := pool [(1, u "java/lang/Cloneable"), (0, .class_ 1), (0, u "java/lang/Object"), (0, .class_ 3)] 3

/-- java/lang/Cloneable -/
def k13 : Class := { plain "java/lang/Cloneable" (some 0) with
  accessFlags := 1537
  interfaces := #[]
  cf := some (fileOf pool13 2 #[] #[] 1537 4 #[] #[])
  fields := #[]
  methods := #[]
  instanceTypes := #[]
  staticTypes := #[]
  resolved := Array.replicate 8 none
  statics := none }

/-- the primitive byte -/
def k14 : Class := { plain "byte" none with kind := .primitive 'B', accessFlags := 0x411 }
/-- [B -/
def k15 : Class := { plain "[B" (some 0) with kind := .array 14 .byte, interfaces := #[13, 2], accessFlags := 1041 }

/-- the primitive char -/
def k16 : Class := { plain "char" none with kind := .primitive 'C', accessFlags := 0x411 }
/-- [C -/
def k17 : Class := { plain "[C" (some 0) with kind := .array 16 .char, interfaces := #[13, 2], accessFlags := 1041 }

/-- the primitive int -/
def k18 : Class := { plain "int" none with kind := .primitive 'I', accessFlags := 0x411 }
/-- [I -/
def k19 : Class := { plain "[I" (some 0) with kind := .array 18 .int, interfaces := #[13, 2], accessFlags := 1041 }

def heap : Heap := #[{ cls := 7, slots := #[.long 0, .int 1, .null, .int 0, .null, .int 0, .int 0], vm := .statics 7 },
  { cls := 11, slots := #[.null, .null, .null], vm := .statics 11 }]
def classes : Array Class := #[k0, k1, k2, k3, k4, k5, k6, k7, k8, k9, k10, k11, k12, k13, k14, k15, k16, k17, k18, k19]
def interned : List (Array UInt16 × Addr) := []
def slotsUsed : Nat := 10
def theMethod : MethodId := ⟨1, 2⟩
def args0 : Array Value := #[.int 5, .int 1, .int 66, .int 1]
def aboutOver (below : List Frame) : State where
  vm := { classes := classes, interned := interned.toArray }
  heap := heap
  slotsUsed := slotsUsed
  threads := #[{ frames := .invoking theMethod args0 :: below }]
def below0 : List Frame := [.native { method := ⟨0, 0⟩, args := #[] }]
def about1 : State := aboutOver below0
def p0 : Program := .bare "" "" ""
def e0 : Env := launch0.env 0 0 0
theorem w_frames : about1.frames = Frame.invoking theMethod args0 :: below0 := rfl
set_option maxRecDepth 65536 in
theorem w_args : argsFit about1.vm theMethod args0 = true := by decide +kernel
set_option maxRecDepth 65536 in
theorem w_heap : heapFits about1 = true := by decide +kernel
set_option maxRecDepth 65536 in
theorem w_runnable : about1.curStatus? = some .runnable := by decide +kernel
set_option maxRecDepth 65536 in
theorem w_alone : about1.alone = true := by decide +kernel
set_option maxRecDepth 65536 in
theorem w_named : about1.methodNamed? x = some theMethod := by decide +kernel
set_option maxRecDepth 65536 in
theorem w_hears : about1.hears theMethod below0 = true := by decide +kernel
set_option maxRecDepth 65536 in
theorem w_ripe : about1.ripe theMethod args0 below0 = true := by decide +kernel
theorem w_running : about1.status = .running := rfl
set_option maxRecDepth 65536 in
theorem w_room : about1.hasRoom e0.platform room_1 = true :=
  launch0.hasRoom_least _ room_1 (by decide +kernel) (by decide +kernel) (by decide +kernel) (by decide +kernel) (by decide +kernel) (by decide +kernel)
theorem allAtoms_all (ts : List Jvm.Cond) (a : Array Jvm.Value) (st : Jvm.State) : (allAtoms ts).before a st = ts.all (fun c => c.before a st) := by
  induction ts with
  | nil => rfl
  | cons c t ih =>
    show (Jvm.Cond.and c (allAtoms t)).before a st = _
    rw [Jvm.Cond.before_and, ih, List.all_cons]
def words1 : List Jvm.Cond := Jvm.Cond.code x code maxLocals ret :: tables_1
/-- a 'code' word, met by the world's own term for the bytes: nothing is compared byte by byte -/
theorem code_word {y : MethodName} {bytes : ByteArray} {mx : Nat} {rt : Option FieldType} {a : Array Value} {s : State} {m : MethodId} {meth : Method} {c : Code} (h1 : s.methodNamed? y = some m) (h2 : s.vm.method? m = some meth) (h3 : meth.code = some c) (h4 : c.code = bytes)
    (h5 : (c.maxLocals == mx && c.exceptionTable.isEmpty && decide (c.maxStack ≤ mostOperands) && decide (meth.sig.returnType = rt) && !meth.locks && decide (parseMethodDescriptor y.desc = some meth.sig)) = true) : (Jvm.Cond.code y bytes mx rt).before a s = true := by
  simp only [Bool.and_eq_true, beq_iff_eq, Bool.not_eq_true', decide_eq_true_eq] at h5
  obtain ⟨⟨⟨⟨⟨g1, g2⟩, g3⟩, g4⟩, g5⟩, g6⟩ := h5
  simp [Cond.before, Cond.holds, Cond.value, h1, h2, h3, h4, g1, g2, g3, g4, g5, g6]
def isCode : Jvm.Cond → Bool
  | .code _ _ _ _ => true
  | _ => false
theorem all_split {L : List Jvm.Cond} {P : Jvm.Cond → Bool} (h1 : L.all (fun c => isCode c || P c) = true) (h2 : ∀ c ∈ L.filter isCode, P c = true) : L.all P = true := by
  refine List.all_eq_true.mpr fun c hc => ?_
  have h := List.all_eq_true.mp h1 c hc
  rcases Bool.eq_false_or_eq_true (isCode c) with hi | hi
  · exact h2 c (List.mem_filter.mpr ⟨hc, hi⟩)
  · simpa [hi] using h
set_option maxRecDepth 65536 in
theorem w_c0 : (Jvm.Cond.code x code maxLocals ret).before args0 about1 = true := code_word (m := ⟨1, 2⟩) (meth := k1m2) (c := k1c2) (by decide +kernel) rfl rfl rfl (by decide +kernel)
set_option maxRecDepth 65536 in
theorem w_c1 : (Jvm.Cond.code ({ cls := "java/lang/String", name := "<init>", desc := "([C)V" } : Jvm.MethodName) jdk_42_method_3_code (2 : Nat) (Option.none : Option Jvm.ClassFile.FieldType)).before args0 about1 = true := code_word (m := ⟨7, 1⟩) (meth := k7m1) (c := k7c1) (by decide +kernel) rfl rfl rfl (by decide +kernel)
set_option maxRecDepth 65536 in
theorem w_c2 : (Jvm.Cond.code ({ cls := "java/lang/String", name := "<init>", desc := "([CIILjava/lang/Void;)V" } : Jvm.MethodName) jdk_42_method_149_code (6 : Nat) (Option.none : Option Jvm.ClassFile.FieldType)).before args0 about1 = true := code_word (m := ⟨7, 4⟩) (meth := k7m4) (c := k7c4) (by decide +kernel) rfl rfl rfl (by decide +kernel)
set_option maxRecDepth 65536 in
theorem w_c3 : (Jvm.Cond.code ({ cls := "java/lang/Object", name := "<init>", desc := "()V" } : Jvm.MethodName) object_method_1_code (1 : Nat) (Option.none : Option Jvm.ClassFile.FieldType)).before args0 about1 = true := code_word (m := ⟨0, 0⟩) (meth := k0m0) (c := k0c0) (by decide +kernel) rfl rfl rfl (by decide +kernel)
set_option maxRecDepth 65536 in
theorem w_c4 : (Jvm.Cond.code ({ cls := "java/lang/StringUTF16", name := "compress", desc := "([CII)[B" } : Jvm.MethodName) jdk_52_method_16_code (6 : Nat) (Option.some (Jvm.ClassFile.FieldType.array Jvm.ClassFile.FieldType.byte))).before args0 about1 = true := code_word (m := ⟨8, 2⟩) (meth := k8m2) (c := k8c2) (by decide +kernel) rfl rfl rfl (by decide +kernel)
set_option maxRecDepth 65536 in
theorem w_c5 : (Jvm.Cond.code ({ cls := "java/lang/StringUTF16", name := "compress", desc := "([CI[BII)I" } : Jvm.MethodName) jdk_52_method_21_code (7 : Nat) (Option.some Jvm.ClassFile.FieldType.int)).before args0 about1 = true := code_word (m := ⟨8, 3⟩) (meth := k8m3) (c := k8c3) (by decide +kernel) rfl rfl rfl (by decide +kernel)
set_option maxRecDepth 65536 in
theorem w_c6 : (Jvm.Cond.code ({ cls := "java/lang/StringUTF16", name := "coderFromArrayLen", desc := "([BI)B" } : Jvm.MethodName) jdk_52_method_15_code (2 : Nat) (Option.some Jvm.ClassFile.FieldType.byte)).before args0 about1 = true := code_word (m := ⟨8, 1⟩) (meth := k8m1) (c := k8c1) (by decide +kernel) rfl rfl rfl (by decide +kernel)
set_option maxRecDepth 65536 in
theorem w_c7 : (Jvm.Cond.code ({ cls := "com/example/capstan_ledger/capstanledger/Scope", name := "broughtIn", desc := "(Ljava/lang/String;)Z" } : Jvm.MethodName) prog_53_method_2_code (1 : Nat) (Option.some Jvm.ClassFile.FieldType.boolean)).before args0 about1 = true := code_word (m := ⟨9, 1⟩) (meth := k9m1) (c := k9c1) (by decide +kernel) rfl rfl rfl (by decide +kernel)
set_option maxRecDepth 65536 in
theorem w_c8 : (Jvm.Cond.code ({ cls := "java/lang/String", name := "equals", desc := "(Ljava/lang/Object;)Z" } : Jvm.MethodName) jdk_42_method_66_code (3 : Nat) (Option.some Jvm.ClassFile.FieldType.boolean)).before args0 about1 = true := code_word (m := ⟨7, 3⟩) (meth := k7m3) (c := k7c3) (by decide +kernel) rfl rfl rfl (by decide +kernel)
set_option maxRecDepth 65536 in
theorem w_c9 : (Jvm.Cond.code ({ cls := "java/lang/StringLatin1", name := "equals", desc := "([B[B)Z" } : Jvm.MethodName) jdk_43_method_13_code (3 : Nat) (Option.some Jvm.ClassFile.FieldType.boolean)).before args0 about1 = true := code_word (m := ⟨10, 2⟩) (meth := k10m2) (c := k10c2) (by decide +kernel) rfl rfl rfl (by decide +kernel)
set_option maxRecDepth 65536 in
theorem w_c10 : (Jvm.Cond.code ({ cls := "java/lang/String", name := "charAt", desc := "(I)C" } : Jvm.MethodName) jdk_42_method_56_code (2 : Nat) (Option.some Jvm.ClassFile.FieldType.char)).before args0 about1 = true := code_word (m := ⟨7, 2⟩) (meth := k7m2) (c := k7c2) (by decide +kernel) rfl rfl rfl (by decide +kernel)
set_option maxRecDepth 65536 in
theorem w_c11 : (Jvm.Cond.code ({ cls := "java/lang/String", name := "isLatin1", desc := "()Z" } : Jvm.MethodName) jdk_42_method_154_code (1 : Nat) (Option.some Jvm.ClassFile.FieldType.boolean)).before args0 about1 = true := code_word (m := ⟨7, 5⟩) (meth := k7m5) (c := k7c5) (by decide +kernel) rfl rfl rfl (by decide +kernel)
set_option maxRecDepth 65536 in
theorem w_c12 : (Jvm.Cond.code ({ cls := "java/lang/StringLatin1", name := "charAt", desc := "([BI)C" } : Jvm.MethodName) jdk_43_method_2_code (2 : Nat) (Option.some Jvm.ClassFile.FieldType.char)).before args0 about1 = true := code_word (m := ⟨10, 1⟩) (meth := k10m1) (c := k10c1) (by decide +kernel) rfl rfl rfl (by decide +kernel)
set_option maxRecDepth 65536 in
theorem w_c13 : (Jvm.Cond.code ({ cls := "java/lang/String", name := "checkIndex", desc := "(II)V" } : Jvm.MethodName) jdk_42_method_155_code (2 : Nat) (Option.none : Option Jvm.ClassFile.FieldType)).before args0 about1 = true := code_word (m := ⟨7, 6⟩) (meth := k7m6) (c := k7c6) (by decide +kernel) rfl rfl rfl (by decide +kernel)
set_option maxRecDepth 65536 in
theorem w_c14 : (Jvm.Cond.code ({ cls := "jdk/internal/util/Preconditions", name := "checkIndex", desc := "(IILjava/util/function/BiFunction;)I" } : Jvm.MethodName) jdk_41_method_11_code (3 : Nat) (Option.some Jvm.ClassFile.FieldType.int)).before args0 about1 = true := code_word (m := ⟨11, 1⟩) (meth := k11m1) (c := k11c1) (by decide +kernel) rfl rfl rfl (by decide +kernel)
set_option maxRecDepth 65536 in
theorem w_c15 : (Jvm.Cond.code ({ cls := "com/example/capstan_ledger/capstanledger/ScopeBroughtInPinLaw", name := "named", desc := "(I)Ljava/lang/String;" } : Jvm.MethodName) method_2_code (1 : Nat) (Option.some (Jvm.ClassFile.FieldType.object "java/lang/String"))).before args0 about1 = true := code_word (m := ⟨1, 1⟩) (meth := k1m1) (c := k1c1) (by decide +kernel) rfl rfl rfl (by decide +kernel)
def codes1 : List Jvm.Cond := [Jvm.Cond.code x code maxLocals ret, Jvm.Cond.code ({ cls := "java/lang/String", name := "<init>", desc := "([C)V" } : Jvm.MethodName) jdk_42_method_3_code (2 : Nat) (Option.none : Option Jvm.ClassFile.FieldType), Jvm.Cond.code ({ cls := "java/lang/String", name := "<init>", desc := "([CIILjava/lang/Void;)V" } : Jvm.MethodName) jdk_42_method_149_code (6 : Nat) (Option.none : Option Jvm.ClassFile.FieldType), Jvm.Cond.code ({ cls := "java/lang/Object", name := "<init>", desc := "()V" } : Jvm.MethodName) object_method_1_code (1 : Nat) (Option.none : Option Jvm.ClassFile.FieldType), Jvm.Cond.code ({ cls := "java/lang/StringUTF16", name := "compress", desc := "([CII)[B" } : Jvm.MethodName) jdk_52_method_16_code (6 : Nat) (Option.some (Jvm.ClassFile.FieldType.array Jvm.ClassFile.FieldType.byte)), Jvm.Cond.code ({ cls := "java/lang/StringUTF16", name := "compress", desc := "([CI[BII)I" } : Jvm.MethodName) jdk_52_method_21_code (7 : Nat) (Option.some Jvm.ClassFile.FieldType.int), Jvm.Cond.code ({ cls := "java/lang/StringUTF16", name := "coderFromArrayLen", desc := "([BI)B" } : Jvm.MethodName) jdk_52_method_15_code (2 : Nat) (Option.some Jvm.ClassFile.FieldType.byte), Jvm.Cond.code ({ cls := "com/example/capstan_ledger/capstanledger/Scope", name := "broughtIn", desc := "(Ljava/lang/String;)Z" } : Jvm.MethodName) prog_53_method_2_code (1 : Nat) (Option.some Jvm.ClassFile.FieldType.boolean), Jvm.Cond.code ({ cls := "java/lang/String", name := "equals", desc := "(Ljava/lang/Object;)Z" } : Jvm.MethodName) jdk_42_method_66_code (3 : Nat) (Option.some Jvm.ClassFile.FieldType.boolean), Jvm.Cond.code ({ cls := "java/lang/StringLatin1", name := "equals", desc := "([B[B)Z" } : Jvm.MethodName) jdk_43_method_13_code (3 : Nat) (Option.some Jvm.ClassFile.FieldType.boolean), Jvm.Cond.code ({ cls := "java/lang/String", name := "charAt", desc := "(I)C" } : Jvm.MethodName) jdk_42_method_56_code (2 : Nat) (Option.some Jvm.ClassFile.FieldType.char), Jvm.Cond.code ({ cls := "java/lang/String", name := "isLatin1", desc := "()Z" } : Jvm.MethodName) jdk_42_method_154_code (1 : Nat) (Option.some Jvm.ClassFile.FieldType.boolean), Jvm.Cond.code ({ cls := "java/lang/StringLatin1", name := "charAt", desc := "([BI)C" } : Jvm.MethodName) jdk_43_method_2_code (2 : Nat) (Option.some Jvm.ClassFile.FieldType.char), Jvm.Cond.code ({ cls := "java/lang/String", name := "checkIndex", desc := "(II)V" } : Jvm.MethodName) jdk_42_method_155_code (2 : Nat) (Option.none : Option Jvm.ClassFile.FieldType), Jvm.Cond.code ({ cls := "jdk/internal/util/Preconditions", name := "checkIndex", desc := "(IILjava/util/function/BiFunction;)I" } : Jvm.MethodName) jdk_41_method_11_code (3 : Nat) (Option.some Jvm.ClassFile.FieldType.int), Jvm.Cond.code ({ cls := "com/example/capstan_ledger/capstanledger/ScopeBroughtInPinLaw", name := "named", desc := "(I)Ljava/lang/String;" } : Jvm.MethodName) method_2_code (1 : Nat) (Option.some (Jvm.ClassFile.FieldType.object "java/lang/String"))]
set_option maxRecDepth 65536 in
theorem codes_eq : words1.filter isCode = codes1 := rfl
theorem w_codes : ∀ c ∈ words1.filter isCode, c.before args0 about1 = true := by
  rw [codes_eq]
  intro c hc
  simp only [codes1, List.mem_cons, List.not_mem_nil, or_false] at hc
  rcases hc with rfl | rfl | rfl | rfl | rfl | rfl | rfl | rfl | rfl | rfl | rfl | rfl | rfl | rfl | rfl | rfl
  · exact w_c0
  · exact w_c1
  · exact w_c2
  · exact w_c3
  · exact w_c4
  · exact w_c5
  · exact w_c6
  · exact w_c7
  · exact w_c8
  · exact w_c9
  · exact w_c10
  · exact w_c11
  · exact w_c12
  · exact w_c13
  · exact w_c14
  · exact w_c15
set_option maxRecDepth 65536 in
theorem w_t1 : (words1.take 24).all (fun c => isCode c || c.before args0 about1) = true := by decide +kernel
set_option maxRecDepth 65536 in
theorem w_t2 : ((words1.drop 24).take 24).all (fun c => isCode c || c.before args0 about1) = true := by decide +kernel
set_option maxRecDepth 65536 in
theorem w_t3 : (((words1.drop 24).drop 24).take 24).all (fun c => isCode c || c.before args0 about1) = true := by decide +kernel
set_option maxRecDepth 65536 in
theorem w_t4 : (((words1.drop 24).drop 24).drop 24).all (fun c => isCode c || c.before args0 about1) = true := by decide +kernel
theorem w_tables : (allAtoms (Jvm.Cond.code x code maxLocals ret :: tables_1)).before args0 about1 = true := by
  rw [allAtoms_all]
  show words1.all (fun c => c.before args0 about1) = true
  refine all_split ?_ w_codes
  rw [← List.take_append_drop 24 words1, List.all_append, w_t1, ← List.take_append_drop 24 (words1.drop 24), List.all_append, w_t2, ← List.take_append_drop 24 ((words1.drop 24).drop 24), List.all_append, w_t3, w_t4]
  rfl
set_option maxRecDepth 65536 in
theorem w_rest : rest_1_c.before args0 about1 = true := by decide +kernel
set_option maxRecDepth 65536 in
theorem w_case : (Jvm.Cond.and given_1 narrow_1).before args0 about1 = true := by decide +kernel
set_option maxRecDepth 65536 in
theorem w_consts : constsHeld consts_1 about1 := Jvm.Lit.constsHeldB_iff.mp (by decide +kernel)
theorem w_applies : (headSpec (Jvm.Cond.code x code maxLocals ret :: tables_1) room_1).applies x e0.platform about1 = true :=
  (Spec.applies_iff w_frames).mpr ⟨w_running, w_runnable, w_alone, w_named, w_hears, w_ripe, w_room, w_tables⟩
theorem atStart : AtStart classFile x code maxLocals ret World_1 tables_1 room_1 Calls_1 rest_1 Pre_1 launch0 p0 e0 about1 theMethod args0 below0 :=
  ⟨lists_1, trivial, launch0.admits_env _ _ _, launch0.least_env, fairChoices_fair.cas, fairChoices_fair.clock, w_frames, w_args, w_heap, w_applies, ⟨w_consts, trivial⟩, w_rest, w_case⟩
end start1
theorem witness_1 : WitnessClaimed_1 := ⟨start1.p0, start1.e0, start1.about1, start1.theMethod, start1.args0, start1.below0, start1.atStart⟩
end Jvm.Pilot.@@N@@
