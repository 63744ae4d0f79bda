import JvmDerived
import JvmDerived.Pilot.@@N@@Statement
import JvmDerived.Pilot.@@N@@Code
set_option linter.unusedVariables false
set_option linter.unusedSimpArgs false
namespace Jvm.Pilot.@@N@@
/-- the frame is the narrow one -/
def NW : Bool := false
end Jvm.Pilot.@@N@@
/- laws to paste: Road.backV, Road.codOf, Road.lenW, Road.eqW (cut by pick.py; bodies as the Statement names them) -/
namespace Jvm.Pilot.@@N@@
namespace StrChars
open Jvm Sem ClassFile Op Lib Jvm.Stand Jvm.Free.XT Jvm.Free.ALB Jvm.Free.JM Jvm.Free
open Jvm.Lib.Cold (StaticIs)
/-- a char array whose places are chars -/
def Ch (a : Addr) (A : Cell) (U : State) : Prop := Arr .char a A U ∧ Typed .char A
theorem Ch.mv {a : Addr} {A : Cell} {U U' : State} (h : Ch a A U) (hal : U.vm.Alike U'.vm) (hh : U'.heap = U.heap) : Ch a A U' := ⟨h.1.mv hal hh, h.2⟩
theorem Ch.keep {a : Addr} {A : Cell} {U U' : State} (h : Ch a A U) (hal : U.vm.Alike U'.vm) (hk : U'.heap[a]? = some A) : Ch a A U' := ⟨h.1.keep hal hk, h.2⟩
/-- what place i of a char[]'s cell holds -/
def cv (A : Cell) (i : Nat) : Int32 := match A.slots[i]? with | some (.int x) => x | _ => 0
theorem Ch.get {a : Addr} {A : Cell} {U : State} (h : Ch a A U) {i : Nat} (hi : i < A.slots.size) : A.slots[i]? = some (.int (cv A i)) := by
  have e := Array.getElem?_eq_getElem hi
  have f := h.2 i _ e
  unfold cv; rw [e]
  generalize A.slots[i] = v at f
  cases v <;> simp [fits] at f ⊢
/-- the byte that i2b leaves of a char -/
def lo8 (x : Int32) : Int32 := x.toInt8.toInt32
theorem fits_lo8 (y : Int32) : fits .byte (.int (lo8 y)) = true := by
  have h1 := y.toInt8.le_toInt
  have h2 := y.toInt8.toInt_lt
  simp only [lo8, fits, Bool.and_eq_true, decide_eq_true_eq, Int32.le_iff_toInt_le, Int8.toInt_toInt32, show (-128 : Int32).toInt = -128 from by decide, show (127 : Int32).toInt = 127 from by decide]
  omega
/-- A' is A but that each place j of lo .. hi - 1 holds f j -/
def Laid (A A' : Cell) (lo hi : Nat) (f : Nat → Value) : Prop := A'.cls = A.cls ∧ A'.vm = A.vm ∧ A'.slots.size = A.slots.size ∧ ∀ i, A'.slots[i]? = if lo ≤ i ∧ i < hi then some (f i) else A.slots[i]?
theorem Laid.zero (A : Cell) (lo : Nat) (f : Nat → Value) : Laid A A lo (lo + 0) f := ⟨rfl, rfl, rfl, fun i => by rw [if_neg (by omega)]⟩
theorem Laid.step {A Ak : Cell} {lo k : Nat} {f : Nat → Value} {v : Value} (h : Laid A Ak lo k f) (hlo : lo ≤ k) (hk : k < Ak.slots.size) (hv : v = f k) : Laid A (Ak.setSlot k v) lo (k + 1) f := by
  refine ⟨h.1, h.2.1, by simpa [Cell.setSlot] using h.2.2.1, fun i => ?_⟩
  by_cases e : k = i
  · subst e; rw [Cell.slots_setSlot_self v hk, if_pos (by omega), hv]
  · rw [Cell.slots_setSlot_ne v e, h.2.2.2 i]
    by_cases q : lo ≤ i ∧ i < k
    · rw [if_pos q, if_pos (by omega)]
    · rw [if_neg q, if_neg (by omega)]
def U16 : String := "java/lang/StringUTF16"
namespace Cmp5
def yN : MethodName := ⟨"java/lang/StringUTF16", "compress", "([CI[BII)I"⟩
abbrev yB : ByteArray := jdk_52_method_21_code
theorem d0 : decode yB 0 = .ok (.iconst 0, 1) := by decide +kernel
theorem d1 : decode yB 1 = .ok (.istore 5, 2) := by decide +kernel
theorem d3 : decode yB 3 = .ok (.iload 5, 2) := by decide +kernel
theorem d5 : decode yB 5 = .ok (.iload 4, 2) := by decide +kernel
theorem d7 : decode yB 7 = .ok (.if_icmp (.ge) 37, 3) := by decide +kernel
theorem d10 : decode yB 10 = .ok (.aload_n 0, 1) := by decide +kernel
theorem d11 : decode yB 11 = .ok (.iload_n 1, 1) := by decide +kernel
theorem d12 : decode yB 12 = .ok (.caload, 1) := by decide +kernel
theorem d13 : decode yB 13 = .ok (.istore 6, 2) := by decide +kernel
theorem d15 : decode yB 15 = .ok (.iload 6, 2) := by decide +kernel
theorem d17 : decode yB 17 = .ok (.sipush 255, 3) := by decide +kernel
theorem d20 : decode yB 20 = .ok (.if_icmp (.le) 6, 3) := by decide +kernel
theorem d26 : decode yB 26 = .ok (.aload_n 2, 1) := by decide +kernel
theorem d27 : decode yB 27 = .ok (.iload_n 3, 1) := by decide +kernel
theorem d28 : decode yB 28 = .ok (.iload 6, 2) := by decide +kernel
theorem d30 : decode yB 30 = .ok (.i2b, 1) := by decide +kernel
theorem d31 : decode yB 31 = .ok (.bastore, 1) := by decide +kernel
theorem d32 : decode yB 32 = .ok (.iinc 1 1, 3) := by decide +kernel
theorem d35 : decode yB 35 = .ok (.iinc 3 1, 3) := by decide +kernel
theorem d38 : decode yB 38 = .ok (.iinc 5 1, 3) := by decide +kernel
theorem d41 : decode yB 41 = .ok (.goto (-38), 3) := by decide +kernel
theorem d44 : decode yB 44 = .ok (.iload 4, 2) := by decide +kernel
theorem d46 : decode yB 46 = .ok (.ireturn, 1) := by decide +kernel
def site : List Cond := []
def tab : Cond := tabOf yN yB 7 (some .int) site
def P (b : Addr) (A : Cell) (d : Addr) (B : Cell) (o q len : Nat) (args : Array Value) (s : State) : Prop := args = #[.ref b, .int (Int32.ofNat o), .ref d, .int (Int32.ofNat q), .int (Int32.ofNat len)] ∧ Ch b A s ∧ Arr .byte d B s ∧ b ≠ d ∧ o + len ≤ A.slots.size ∧ q + len ≤ B.slots.size ∧ ∀ i, i < len → ¬ 255 < cv A (o + i)
def E (b : Addr) (A : Cell) (d : Addr) (B : Cell) (o q len : Nat) (r : Option Value) (s u : State) : Prop := r = some (.int (Int32.ofNat len)) ∧ ∃ B', Put d B' s u ∧ Laid B B' q (q + len) (fun j => Value.int (lo8 (cv A (o + (j - q)))))
/-- no char of the range above 255: len; the places written hold each char's low byte -/
theorem law (l : Launch) (b : Addr) (A : Cell) (d : Addr) (B : Cell) (o q len : Nat) : Law l yN 5 5 0 0 yB 7 (some .int) site (P b A d B o q len) (E b A d B o q len) (copyLocs d q len) 0 0 := by
  refine Law.of_walk (plainFor_of_name (by decide +kernel)) (by decide +kernel) (by decide +kernel) (by decide) (fun _ _ h => by rw [h.1]; rfl) (fun _ U U' hal hh h => ⟨h.1, h.2.1.mv hal hh, h.2.2.1.mv hal hh, h.2.2.2⟩) (fun r U U' V V' h1 hal h2 h => ⟨h.1, h.2.elim fun B' q => ⟨B', q.1.mv h1 h2, q.2⟩⟩) ?_
  intro p e s m args below meth c s₁ X0 hexec hbytes hml hret hlk hnm hown hh0 W hP
  obtain ⟨rfl, hA, hB, hne, l1, l2, hp⟩ := hP
  have c1 : Steps p.tables e below (s₁.setTop (entryFrame m #[.ref b, .int (Int32.ofNat o), .ref d, .int (Int32.ofNat q), .int (Int32.ofNat len)] 7)) (s₁.setTop (mkF m 0 #[.val (.ref b), .val (.int (Int32.ofNat o)), .val (.ref d), .val (.int (Int32.ofNat q)), .val (.int (Int32.ofNat len)), .unset, .unset] [])) := entry rfl
  have hA0 := hA.1.mv X0.warmed.alike hh0
  have hB0 := hB.mv X0.warmed.alike hh0
  have a31 := hA.1.2.2.2
  have c2 : Steps p.tables e below (s₁.setTop (entryFrame m #[.ref b, .int (Int32.ofNat o), .ref d, .int (Int32.ofNat q), .int (Int32.ofNat len)] 7)) (s₁.setTop (mkF m 3 #[.val (.ref b), .val (.int (Int32.ofNat o)), .val (.ref d), .val (.int (Int32.ofNat q)), .val (.int (Int32.ofNat len)), .val (.int 0), .unset] [])) := c1.trans (by
    refine iconstV X0.here hexec rfl 0 (hb hbytes d0) (by decide) ?_
    refine XS.istore X0.here hexec rfl (hb hbytes d1) rfl rfl ?_
    exact Steps.refl _)
  have loop : ∀ (r i : Nat), i + r = len → ∀ (z : Slot), (z = .unset ∨ ∃ w, z = .val w ∧ w.category = 1) → ∀ (Tl : State) (Bk : Cell), Stand p l e { frames := 0, locals := 0, cells := 0, slots := 0 } s m #[.ref b, .int (Int32.ofNat o), .ref d, .int (Int32.ofNat q), .int (Int32.ofNat len)] below meth c Tl ([] ++ copyLocs d q i) 0 0 → Put d Bk s₁ Tl → Laid B Bk q (q + i) (fun j => Value.int (lo8 (cv A (o + (j - q))))) →
      Steps p.tables e below (s₁.setTop (entryFrame m #[.ref b, .int (Int32.ofNat o), .ref d, .int (Int32.ofNat q), .int (Int32.ofNat len)] 7)) (Tl.setTop (mkF m 3 #[.val (.ref b), .val (.int (Int32.ofNat (o + i))), .val (.ref d), .val (.int (Int32.ofNat (q + i))), .val (.int (Int32.ofNat len)), .val (.int (Int32.ofNat i)), z] [])) → ∃ (T' : State) (B' : Cell) (z' : Slot), Stand p l e { frames := 0, locals := 0, cells := 0, slots := 0 } s m #[.ref b, .int (Int32.ofNat o), .ref d, .int (Int32.ofNat q), .int (Int32.ofNat len)] below meth c T' ([] ++ copyLocs d q len) 0 0 ∧ Put d B' s₁ T' ∧ Laid B B' q (q + len) (fun j => Value.int (lo8 (cv A (o + (j - q))))) ∧
      Steps p.tables e below (s₁.setTop (entryFrame m #[.ref b, .int (Int32.ofNat o), .ref d, .int (Int32.ofNat q), .int (Int32.ofNat len)] 7)) (T'.setTop (mkF m 3 #[.val (.ref b), .val (.int (Int32.ofNat (o + len))), .val (.ref d), .val (.int (Int32.ofNat (q + len))), .val (.int (Int32.ofNat len)), .val (.int (Int32.ofNat len)), z'] [])) := by
    intro r
    induction r with
    | zero =>
      intro i hi z hz Tl Bk Xl pl fl cl
      have hil : i = len := by omega
      rw [hil] at Xl fl cl
      exact ⟨Tl, Bk, z, Xl, pl, fl, cl⟩
    | succ r ih =>
      intro i hi z hz Tl Bk Xl pl fl cl
      have all := X0.warmed.alike.symm.trans Xl.warmed.alike
      have hAl := hA0.keep all (pl.other hne hA0.1)
      have hBk := hB0.like all pl.1 fl.1 fl.2.1 fl.2.2.1
      have hlt : q + i < Bk.slots.size := by rw [fl.2.2.1]; omega
      have c3 : Steps p.tables e below (s₁.setTop (entryFrame m #[.ref b, .int (Int32.ofNat o), .ref d, .int (Int32.ofNat q), .int (Int32.ofNat len)] 7)) (Tl.setTop (mkF m 12 #[.val (.ref b), .val (.int (Int32.ofNat (o + i))), .val (.ref d), .val (.int (Int32.ofNat (q + i))), .val (.int (Int32.ofNat len)), .val (.int (Int32.ofNat i)), z] [.int (Int32.ofNat (o + i)), .ref b])) := cl.trans (by
        refine XS.iload Xl.here hexec rfl (hb hbytes d3) rfl ?_
        refine XS.iload Xl.here hexec rfl (hb hbytes d5) rfl ?_
        refine XS.icmpNo Xl.here hexec rfl (hb hbytes d7) rfl (ii_ge_f (lt32 (by omega) (by omega))) ?_
        refine XS.aloadN Xl.here hexec rfl (hb hbytes d10) rfl rfl ?_
        refine XS.iloadN Xl.here hexec rfl (hb hbytes d11) rfl ?_
        exact Steps.refl _)
      have c4 : Steps p.tables e below (s₁.setTop (entryFrame m #[.ref b, .int (Int32.ofNat o), .ref d, .int (Int32.ofNat q), .int (Int32.ofNat len)] 7)) (Tl.setTop (mkF m 13 #[.val (.ref b), .val (.int (Int32.ofNat (o + i))), .val (.ref d), .val (.int (Int32.ofNat (q + i))), .val (.int (Int32.ofNat len)), .val (.int (Int32.ofNat i)), z] [.int (cv A (o + i))])) := c3.trans (by
        refine Xl.aget hexec hAl rfl (hA.get (i := o + i) (by omega)) rfl rfl (hb hbytes d12) ?_
        exact Steps.refl _)
      have c5 : Steps p.tables e below (s₁.setTop (entryFrame m #[.ref b, .int (Int32.ofNat o), .ref d, .int (Int32.ofNat q), .int (Int32.ofNat len)] 7)) (Tl.setTop (mkF m 15 #[.val (.ref b), .val (.int (Int32.ofNat (o + i))), .val (.ref d), .val (.int (Int32.ofNat (q + i))), .val (.int (Int32.ofNat len)), .val (.int (Int32.ofNat i)), .val (.int (cv A (o + i)))] [])) := c4.trans (by
        refine XS.istoreS Xl.here hexec rfl (hb hbytes d13) rfl rfl hz ?_
        exact Steps.refl _)
      have c6 : Steps p.tables e below (s₁.setTop (entryFrame m #[.ref b, .int (Int32.ofNat o), .ref d, .int (Int32.ofNat q), .int (Int32.ofNat len)] 7)) (Tl.setTop (mkF m 31 #[.val (.ref b), .val (.int (Int32.ofNat (o + i))), .val (.ref d), .val (.int (Int32.ofNat (q + i))), .val (.int (Int32.ofNat len)), .val (.int (Int32.ofNat i)), .val (.int (cv A (o + i)))] [.int (lo8 (cv A (o + i))), .int (Int32.ofNat (q + i)), .ref d])) := c5.trans (by
        refine XS.iload Xl.here hexec rfl (hb hbytes d15) rfl ?_
        refine sipushV Xl.here hexec rfl 255 (hb hbytes d17) (by decide) ?_
        refine XS.icmpYes Xl.here hexec rfl (pc0 := 20) rfl (hb hbytes d20) rfl (ii_le_t (hp i (by omega))) (by decide) rfl ?_
        refine XS.aloadN Xl.here hexec rfl (hb hbytes d26) rfl rfl ?_
        refine XS.iloadN Xl.here hexec rfl (hb hbytes d27) rfl ?_
        refine XS.iload Xl.here hexec rfl (hb hbytes d28) rfl ?_
        refine i2b Xl.here hexec rfl (hb hbytes d30) rfl ?_
        exact Steps.refl _)
      obtain ⟨T7, X7, p7, st7⟩ := Xl.aput hexec hBk rfl hlt rfl (fits_lo8 (cv A (o + i))) (g := (mkF m 31 #[.val (.ref b), .val (.int (Int32.ofNat (o + i))), .val (.ref d), .val (.int (Int32.ofNat (q + i))), .val (.int (Int32.ofNat len)), .val (.int (Int32.ofNat i)), .val (.int (cv A (o + i)))] [.int (lo8 (cv A (o + i))), .int (Int32.ofNat (q + i)), .ref d])) rfl (rest := []) rfl (hb hbytes d31)
      have c8 : Steps p.tables e below (s₁.setTop (entryFrame m #[.ref b, .int (Int32.ofNat o), .ref d, .int (Int32.ofNat q), .int (Int32.ofNat len)] 7)) (T7.setTop (mkF m 32 #[.val (.ref b), .val (.int (Int32.ofNat (o + i))), .val (.ref d), .val (.int (Int32.ofNat (q + i))), .val (.int (Int32.ofNat len)), .val (.int (Int32.ofNat i)), .val (.int (cv A (o + i)))] [])) := c6.trans (st7 _ (Steps.refl _))
      have c9 : Steps p.tables e below (s₁.setTop (entryFrame m #[.ref b, .int (Int32.ofNat o), .ref d, .int (Int32.ofNat q), .int (Int32.ofNat len)] 7)) (T7.setTop (mkF m 3 #[.val (.ref b), .val (.int (Int32.ofNat (o + i) + 1)), .val (.ref d), .val (.int (Int32.ofNat (q + i) + 1)), .val (.int (Int32.ofNat len)), .val (.int (Int32.ofNat i + 1)), .val (.int (cv A (o + i)))] [])) := c8.trans (by
        refine iincV X7.here hexec rfl 1 (hb hbytes d32) (by decide) rfl rfl ?_
        refine iincV X7.here hexec rfl 1 (hb hbytes d35) (by decide) rfl rfl ?_
        refine iincV X7.here hexec rfl 1 (hb hbytes d38) (by decide) rfl rfl ?_
        refine XS.goto X7.here hexec rfl (pc0 := 41) rfl (hb hbytes d41) (by decide) rfl ?_
        exact Steps.refl _)
      have c10 : Steps p.tables e below (s₁.setTop (entryFrame m #[.ref b, .int (Int32.ofNat o), .ref d, .int (Int32.ofNat q), .int (Int32.ofNat len)] 7)) (T7.setTop (mkF m 3 #[.val (.ref b), .val (.int (Int32.ofNat (o + (i + 1)))), .val (.ref d), .val (.int (Int32.ofNat (q + (i + 1)))), .val (.int (Int32.ofNat len)), .val (.int (Int32.ofNat (i + 1))), .val (.int (cv A (o + i)))] [])) := by
        have := c9
        rw [succ32, succ32, succ32] at this
        exact this
      exact ih (i + 1) (by omega) _ (Or.inr ⟨_, rfl, rfl⟩) T7 _ (by rw [copyLocs_step, ← List.append_assoc]; exact X7) (pl.trans p7) (fl.step (by omega) hlt (by simp)) c10
  obtain ⟨T9, B9, z9, X9, p9, f9, g9⟩ := loop len 0 (by omega) .unset (Or.inl rfl) s₁ B (by simpa [copyLocs] using X0) ⟨hB0.1, fun _ _ => rfl, rfl⟩ (Laid.zero _ _ _) c2
  have c11 : Steps p.tables e below (s₁.setTop (entryFrame m #[.ref b, .int (Int32.ofNat o), .ref d, .int (Int32.ofNat q), .int (Int32.ofNat len)] 7)) (T9.setTop (mkF m 46 #[.val (.ref b), .val (.int (Int32.ofNat (o + len))), .val (.ref d), .val (.int (Int32.ofNat (q + len))), .val (.int (Int32.ofNat len)), .val (.int (Int32.ofNat len)), z9] [.int (Int32.ofNat len)])) := g9.trans (by
    refine XS.iload X9.here hexec rfl (hb hbytes d3) rfl ?_
    refine XS.iload X9.here hexec rfl (hb hbytes d5) rfl ?_
    refine XS.icmpYes X9.here hexec rfl (pc0 := 7) rfl (hb hbytes d7) rfl (ii_ge_t (nlt32 (by omega) (Nat.le_refl _))) (by decide) rfl ?_
    refine XS.iload X9.here hexec rfl (hb hbytes d44) rfl ?_
    exact Steps.refl _)
  exact ⟨T9, some (.int (Int32.ofNat len)), _, _, _, X9, by simp, rfl, rfl, (fun h => by cases h), ⟨rfl, B9, p9.from hh0, f9⟩, fun fs hl => c11.trans (X9.ireturnOut hexec hret rfl (Or.inl rfl) (hb hbytes d46) hl)⟩
end Cmp5
namespace Cmp3
def yN : MethodName := ⟨"java/lang/StringUTF16", "compress", "([CII)[B"⟩
abbrev yB : ByteArray := jdk_52_method_16_code
theorem d0 : decode yB 0 = .ok (.iload_n 2, 1) := by decide +kernel
theorem d1 : decode yB 1 = .ok (.newarray .byte, 2) := by decide +kernel
theorem d3 : decode yB 3 = .ok (.astore_n 3, 1) := by decide +kernel
theorem d4 : decode yB 4 = .ok (.aload_n 0, 1) := by decide +kernel
theorem d5 : decode yB 5 = .ok (.iload_n 1, 1) := by decide +kernel
theorem d6 : decode yB 6 = .ok (.aload_n 3, 1) := by decide +kernel
theorem d7 : decode yB 7 = .ok (.iconst 0, 1) := by decide +kernel
theorem d8 : decode yB 8 = .ok (.iload_n 2, 1) := by decide +kernel
theorem d9 : decode yB 9 = .ok (.invokestatic 115, 3) := by decide +kernel
theorem d12 : decode yB 12 = .ok (.istore 4, 2) := by decide +kernel
theorem d14 : decode yB 14 = .ok (.iload 4, 2) := by decide +kernel
theorem d16 : decode yB 16 = .ok (.iload_n 2, 1) := by decide +kernel
theorem d17 : decode yB 17 = .ok (.if_icmp (.eq) 40, 3) := by decide +kernel
theorem d57 : decode yB 57 = .ok (.aload_n 3, 1) := by decide +kernel
theorem d58 : decode yB 58 = .ok (.areturn, 1) := by decide +kernel
def site : List Cond := [.arrayClass .byte, Cmp5.tab] ++ staticW U16 115 Cmp5.yN
def tab : Cond := tabOf yN yB 6 (some (.array .byte)) site
def P (b : Addr) (A : Cell) (o len : Nat) (args : Array Value) (s : State) : Prop := args = #[.ref b, .int (Int32.ofNat o), .int (Int32.ofNat len)] ∧ Ch b A s ∧ o + len ≤ A.slots.size ∧ len ≤ 536870912 ∧ ∀ i, i < len → ¬ 255 < cv A (o + i)
def E (b : Addr) (A : Cell) (o len : Nat) (r : Option Value) (s u : State) : Prop := NewArr .byte "[B" len (fun j => .int (lo8 (cv A (o + j)))) r s u ∧ u.heap.size = s.heap.size + 1
/-- no char of the range above 255: a new byte[] of their low bytes -/
theorem law (l : Launch) (b : Addr) (A : Cell) (o len : Nat) : Law l yN 3 3 1 18 yB 6 (some (.array .byte)) site (P b A o len) (E b A o len) [] 1 len := by
  refine Law.of_walk (plainFor_of_name (by decide +kernel)) (by decide +kernel) (by decide +kernel) (by decide) (fun _ _ h => by rw [h.1]; rfl) (fun _ U U' hal hh h => ⟨h.1, h.2.1.mv hal hh, h.2.2⟩) (fun r U U' V V' h1 hal h2 h => ⟨NewArr.mv r U U' V V' h1 hal h2 h.1, by rw [h1, h2]; exact h.2⟩) ?_
  intro p e s m args below meth c s₁ X0 hexec hbytes hml hret hlk hnm hown hh0 W hP
  obtain ⟨rfl, hA, l1, l2, hp⟩ := hP
  have a31 := hA.1.2.2.2
  have c1 : Steps p.tables e below (s₁.setTop (entryFrame m #[.ref b, .int (Int32.ofNat o), .int (Int32.ofNat len)] 6)) (s₁.setTop (mkF m 0 #[.val (.ref b), .val (.int (Int32.ofNat o)), .val (.int (Int32.ofNat len)), .unset, .unset, .unset] [])) := entry rfl
  have c2 : Steps p.tables e below (s₁.setTop (entryFrame m #[.ref b, .int (Int32.ofNat o), .int (Int32.ofNat len)] 6)) (s₁.setTop (mkF m 1 #[.val (.ref b), .val (.int (Int32.ofNat o)), .val (.int (Int32.ofNat len)), .unset, .unset, .unset] [.int (Int32.ofNat len)])) := c1.trans (by
    refine XS.iloadN X0.here hexec rfl (hb hbytes d0) rfl ?_
    exact Steps.refl _)
  obtain ⟨T3, B3, X3, ba3, bs3, bv3, bh3, bf3, st3⟩ := X0.anew hexec (atype := .byte) (wk W (.arrayClass .byte)) rfl (by show len * 1 ≤ _; omega) (by omega) (g := (mkF m 1 #[.val (.ref b), .val (.int (Int32.ofNat o)), .val (.int (Int32.ofNat len)), .unset, .unset, .unset] [.int (Int32.ofNat len)])) rfl (hb hbytes d1) (rest := []) rfl (Nat.le_refl _) (by show 0 + len ≤ len; omega)
  rw [hh0] at ba3 st3
  have kp3 : XT.Kept s T3 := (XT.Kept.of_eq hh0).push bh3
  have hA3 := hA.keep X3.warmed.alike (kp3 _ _ hA.1.1)
  have hne : b ≠ s.heap.size := hA.1.ne
  have c4 : Steps p.tables e below (s₁.setTop (entryFrame m #[.ref b, .int (Int32.ofNat o), .int (Int32.ofNat len)] 6)) (T3.setTop (mkF m 3 #[.val (.ref b), .val (.int (Int32.ofNat o)), .val (.int (Int32.ofNat len)), .unset, .unset, .unset] [.ref s.heap.size])) := c2.trans (st3 _ (Steps.refl _))
  have c5 : Steps p.tables e below (s₁.setTop (entryFrame m #[.ref b, .int (Int32.ofNat o), .int (Int32.ofNat len)] 6)) (T3.setTop (mkF m 9 #[.val (.ref b), .val (.int (Int32.ofNat o)), .val (.int (Int32.ofNat len)), .val (.ref s.heap.size), .unset, .unset] [.int (Int32.ofNat len), .int 0, .ref s.heap.size, .int (Int32.ofNat o), .ref b])) := c4.trans (by
    refine XS.astoreN X3.here hexec rfl (hb hbytes d3) rfl rfl rfl ?_
    refine XS.aloadN X3.here hexec rfl (hb hbytes d4) rfl rfl ?_
    refine XS.iloadN X3.here hexec rfl (hb hbytes d5) rfl ?_
    refine XS.aloadN X3.here hexec rfl (hb hbytes d6) rfl rfl ?_
    refine iconstV X3.here hexec rfl 0 (hb hbytes d7) (by decide) ?_
    refine XS.iloadN X3.here hexec rfl (hb hbytes d8) rfl ?_
    exact Steps.refl _)
  obtain ⟨v6, T6, X6, E6, g6⟩ := X3.callS hexec (Cmp5.law l b A s.heap.size B3 o 0 len) hown (wks W (staticW U16 115 Cmp5.yN)) (wk W Cmp5.tab) (W := 0) (Nat.le_of_ble_eq_true rfl) (Nat.le_of_ble_eq_true rfl) (Nat.le_refl _) (by show 0 + len + 0 ≤ len; omega) (g := (mkF m 9 #[.val (.ref b), .val (.int (Int32.ofNat o)), .val (.int (Int32.ofNat len)), .val (.ref s.heap.size), .unset, .unset] [.int (Int32.ofNat len), .int (Int32.ofNat 0), .ref s.heap.size, .int (Int32.ofNat o), .ref b])) rfl (by rw [hml]; rfl) c5 (argsL := [.ref b, .int (Int32.ofNat o), .ref s.heap.size, .int (Int32.ofNat 0), .int (Int32.ofNat len)]) (rest := []) rfl rfl (by show 2 * 0 + 0 ≤ _; decide) (hb hbytes d9) (⟨rfl, hA3, ba3, hne, l1, by rw [bs3]; simp, hp⟩)
  obtain ⟨rfl, B6, p6, f6⟩ := E6
  have c7 : Steps p.tables e below (s₁.setTop (entryFrame m #[.ref b, .int (Int32.ofNat o), .int (Int32.ofNat len)] 6)) (T6.setTop (mkF m 12 #[.val (.ref b), .val (.int (Int32.ofNat o)), .val (.int (Int32.ofNat len)), .val (.ref s.heap.size), .unset, .unset] [.int (Int32.ofNat len)])) := g6
  have c8 : Steps p.tables e below (s₁.setTop (entryFrame m #[.ref b, .int (Int32.ofNat o), .int (Int32.ofNat len)] 6)) (T6.setTop (mkF m 58 #[.val (.ref b), .val (.int (Int32.ofNat o)), .val (.int (Int32.ofNat len)), .val (.ref s.heap.size), .val (.int (Int32.ofNat len)), .unset] [.ref s.heap.size])) := c7.trans (by
    refine XS.istore X6.here hexec rfl (hb hbytes d12) rfl rfl ?_
    refine XS.iload X6.here hexec rfl (hb hbytes d14) rfl ?_
    refine XS.iloadN X6.here hexec rfl (hb hbytes d16) rfl ?_
    refine XS.icmpYes X6.here hexec rfl (pc0 := 17) rfl (hb hbytes d17) rfl (ii_eq_t rfl) (by decide) rfl ?_
    refine XS.aloadN X6.here hexec rfl (hb hbytes d57) rfl rfl ?_
    exact Steps.refl _)
  have X8 := X6.wide (L' := []) (cells' := 1) (slots' := len) (fun x hx hlt => by
    simp only [List.nil_append, copyLocs, List.mem_map, List.mem_range] at hx
    obtain ⟨i, -, rfl⟩ := hx
    exact absurd hlt (Nat.lt_irrefl _)) (Nat.le_refl _) (by omega)
  exact ⟨T6, some (.ref s.heap.size), _, _, _, X8, rfl, rfl, rfl, (fun h => by cases h), ⟨⟨rfl, B6, ba3.like (X3.warmed.alike.symm.trans X6.warmed.alike) p6.1 f6.1 f6.2.1 f6.2.2.1, f6.2.1.trans bv3, by rw [X6.warmed.alike.findClass, f6.1]; exact bf3, by rw [f6.2.2.1, bs3]; simp, fun j hj => by rw [f6.2.2.2 j, if_pos (by omega)]; rfl, kp3.put p6 (Nat.le_refl _)⟩, by rw [p6.2.2, bh3, hh0]; simp⟩, fun fs hl => c8.trans (X8.areturnOut hexec rfl hret rfl (hb hbytes d58) hl)⟩
end Cmp3
namespace CodL
def yN : MethodName := ⟨"java/lang/StringUTF16", "coderFromArrayLen", "([BI)B"⟩
abbrev yB : ByteArray := jdk_52_method_15_code
theorem d0 : decode yB 0 = .ok (.iload_n 1, 1) := by decide +kernel
theorem d1 : decode yB 1 = .ok (.aload_n 0, 1) := by decide +kernel
theorem d2 : decode yB 2 = .ok (.arraylength, 1) := by decide +kernel
theorem d3 : decode yB 3 = .ok (.isub, 1) := by decide +kernel
theorem d4 : decode yB 4 = .ok (.bipush 31, 2) := by decide +kernel
theorem d6 : decode yB 6 = .ok (.iushr, 1) := by decide +kernel
theorem d7 : decode yB 7 = .ok (.i2b, 1) := by decide +kernel
theorem d8 : decode yB 8 = .ok (.ireturn, 1) := by decide +kernel
def site : List Cond := []
def tab : Cond := tabOf yN yB 2 (some .byte) site
def P (d : Addr) (B : Cell) (args : Array Value) (s : State) : Prop := args = #[.ref d, .int (Int32.ofNat B.slots.size)] ∧ Arr .byte d B s
def E (r : Option Value) (s u : State) : Prop := XT.PureE (some (.int 0)) r s u
/-- an array as long as the number of chars: LATIN1 -/
theorem law (l : Launch) (d : Addr) (B : Cell) : Law l yN 2 2 0 0 yB 2 (some .byte) site (P d B) E [] 0 0 := by
  refine Law.of_walk (plainFor_of_name (by decide +kernel)) (by decide +kernel) (by decide +kernel) (by decide) (fun _ _ h => by rw [h.1]; rfl) (fun _ U U' hal hh h => ⟨h.1, h.2.mv hal hh⟩) (fun r U U' V V' h1 hal h2 h => XT.PureE.mv r U U' V V' h1 hal h2 h) ?_
  intro p e s m args below meth c s₁ X0 hexec hbytes hml hret hlk hnm hown hh0 W hP
  obtain ⟨rfl, hB⟩ := hP
  have hB0 := hB.mv X0.warmed.alike hh0
  have c1 : Steps p.tables e below (s₁.setTop (entryFrame m #[.ref d, .int (Int32.ofNat B.slots.size)] 2)) (s₁.setTop (mkF m 0 #[.val (.ref d), .val (.int (Int32.ofNat B.slots.size))] [])) := entry rfl
  have c2 : Steps p.tables e below (s₁.setTop (entryFrame m #[.ref d, .int (Int32.ofNat B.slots.size)] 2)) (s₁.setTop (mkF m 2 #[.val (.ref d), .val (.int (Int32.ofNat B.slots.size))] [.ref d, .int (Int32.ofNat B.slots.size)])) := c1.trans (by
    refine XS.iloadN X0.here hexec rfl (hb hbytes d0) rfl ?_
    refine XS.aloadN X0.here hexec rfl (hb hbytes d1) rfl rfl ?_
    exact Steps.refl _)
  have c3 : Steps p.tables e below (s₁.setTop (entryFrame m #[.ref d, .int (Int32.ofNat B.slots.size)] 2)) (s₁.setTop (mkF m 8 #[.val (.ref d), .val (.int (Int32.ofNat B.slots.size))] [.int (lo8 (ushr (Int32.ofNat B.slots.size - Int32.ofNat B.slots.size) 31))])) := c2.trans (by
    refine X0.alen hexec hB0 rfl rfl (hb hbytes d2) ?_
    refine XS.isub X0.here hexec rfl (hb hbytes d3) rfl ?_
    refine bipushV X0.here hexec rfl 31 (hb hbytes d4) (by decide) ?_
    refine iushr X0.here hexec rfl (hb hbytes d6) rfl ?_
    refine i2b X0.here hexec rfl (hb hbytes d7) rfl ?_
    exact Steps.refl _)
  have e0 : lo8 (ushr (Int32.ofNat B.slots.size - Int32.ofNat B.slots.size) 31) = 0 := by rw [Int32.sub_self]; decide
  rw [e0] at c3
  exact ⟨s₁, some (.int 0), _, _, _, X0, rfl, rfl, rfl, (fun h => by cases h), ⟨rfl, hh0⟩, fun fs hl => c3.trans (X0.ireturnOut hexec hret rfl (Or.inr (Or.inr (Or.inl rfl))) (hb hbytes d8) hl)⟩
end CodL
/-- the String at a is Latin-1 over a new byte[] (the heap's one new cell): the low bytes of the len chars of A from o on; every cell but a is kept -/
def Got (a : Addr) (D : Cell) (fV fC : Field) (A : Cell) (o len : Nat) (r : Option Value) (s u : State) : Prop := r = none ∧ ∃ D' V : Cell, Blank "java/lang/String" a D' u ∧ Same D D' [fV.slot, fC.slot] ∧ D'.slots[fV.slot]? = some (.ref s.heap.size) ∧ D'.slots[fC.slot]? = some (.int 0) ∧ Arr .byte s.heap.size V u ∧ V.vm = .none ∧ u.vm.findClass "[B" = some V.cls ∧ V.slots.size = len ∧ (∀ j, j < len → V.slots[j]? = some (.int (lo8 (cv A (o + j))))) ∧ (∀ (y : Addr) (c : Cell), y ≠ a → s.heap[y]? = some c → u.heap[y]? = some c) ∧ u.heap.size = s.heap.size + 1
theorem Got.mv {a : Addr} {D A : Cell} {fV fC : Field} {o len : Nat} : ∀ r (U U' V V' : State), U'.heap = U.heap → V.vm.Alike V'.vm → V'.heap = V.heap → Got a D fV fC A o len r U V → Got a D fV fC A o len r U' V' :=
  fun r U U' V V' h1 hal h2 ⟨e0, D', X, a1, a2, a3, a4, a5, a6, a7, a8, a9, a10, a11⟩ => ⟨e0, D', X, a1.mv hal h2, a2, by rw [h1]; exact a3, a4, by rw [h1]; exact a5.mv hal h2, a6, by rw [hal.findClass]; exact a7, a8, a9, by rw [h1, h2]; exact a10, by rw [h1, h2]; exact a11⟩
namespace New4
def yN : MethodName := ⟨"java/lang/String", "<init>", "([CIILjava/lang/Void;)V"⟩
abbrev yB : ByteArray := jdk_42_method_149_code
theorem d0 : decode yB 0 = .ok (.aload_n 0, 1) := by decide +kernel
theorem d1 : decode yB 1 = .ok (.invokespecial 1, 3) := by decide +kernel
theorem d4 : decode yB 4 = .ok (.iload_n 3, 1) := by decide +kernel
theorem d5 : decode yB 5 = .ok (.ifCond (.ne) 22, 3) := by decide +kernel
theorem d27 : decode yB 27 = .ok (.getstatic 38, 3) := by decide +kernel
theorem d30 : decode yB 30 = .ok (.ifCond (.eq) 28, 3) := by decide +kernel
theorem d33 : decode yB 33 = .ok (.aload_n 1, 1) := by decide +kernel
theorem d34 : decode yB 34 = .ok (.iload_n 2, 1) := by decide +kernel
theorem d35 : decode yB 35 = .ok (.iload_n 3, 1) := by decide +kernel
theorem d36 : decode yB 36 = .ok (.invokestatic 177, 3) := by decide +kernel
theorem d39 : decode yB 39 = .ok (.astore 5, 2) := by decide +kernel
theorem d41 : decode yB 41 = .ok (.aload_n 0, 1) := by decide +kernel
theorem d42 : decode yB 42 = .ok (.aload 5, 2) := by decide +kernel
theorem d44 : decode yB 44 = .ok (.iload_n 3, 1) := by decide +kernel
theorem d45 : decode yB 45 = .ok (.invokestatic 47, 3) := by decide +kernel
theorem d48 : decode yB 48 = .ok (.putfield 15, 3) := by decide +kernel
theorem d51 : decode yB 51 = .ok (.aload_n 0, 1) := by decide +kernel
theorem d52 : decode yB 52 = .ok (.aload 5, 2) := by decide +kernel
theorem d54 : decode yB 54 = .ok (.putfield 9, 3) := by decide +kernel
theorem d57 : decode yB 57 = .ok (.return_, 1) := by decide +kernel
def site : List Cond := [.fieldLink "java/lang/String" 38 "java/lang/String" "COMPACT_STRINGS" "Z", Cmp3.tab, CodL.tab, .laysFinal "java/lang/String" "java/lang/String" "value" "[B", .fieldLink "java/lang/String" 9 "java/lang/String" "value" "[B", .laysFinal "java/lang/String" "java/lang/String" "coder" "B", .fieldLink "java/lang/String" 15 "java/lang/String" "coder" "B"] ++ objW "java/lang/String" 1 ++ staticW "java/lang/String" 177 Cmp3.yN ++ staticW "java/lang/String" 47 CodL.yN
def tab : Cond := tabOf yN yB 6 none site
def P (a : Addr) (D : Cell) (fV fC : Field) (b : Addr) (A : Cell) (z : Int32) (o len : Nat) (args : Array Value) (s : State) : Prop := args = #[.ref a, .ref b, .int (Int32.ofNat o), .int (Int32.ofNat len), .null] ∧ Blank "java/lang/String" a D s ∧ Found "java/lang/String" "value" "[B" fV s ∧ Found "java/lang/String" "coder" "B" fC s ∧ Ch b A s ∧ StaticIs s "java/lang/String" "COMPACT_STRINGS" "Z" (.int z) ∧ ¬ z = 0 ∧ 0 < len ∧ o + len ≤ A.slots.size ∧ len ≤ 536870912 ∧ ∀ i, i < len → ¬ 255 < cv A (o + i)
def E (a : Addr) (D : Cell) (fV fC : Field) (A : Cell) (o len : Nat) (r : Option Value) (s u : State) : Prop := Got a D fV fC A o len r s u
/-- len > 0, no char of the range above 255: a Latin-1 String of their low bytes -/
theorem law (l : Launch) (a : Addr) (D : Cell) (fV fC : Field) (b : Addr) (A : Cell) (z : Int32) (o len : Nat) : Law l yN 5 4 2 35 yB 6 none site (P a D fV fC b A z o len) (E a D fV fC A o len) [⟨a, fC.slot⟩, ⟨a, fV.slot⟩] 1 len := by
  refine Law.of_walk (plainFor_of_name (by decide +kernel)) (by decide +kernel) (by decide +kernel) (by decide) (fun _ _ h => by rw [h.1]; rfl) (fun _ U U' hal hh h => ⟨h.1, h.2.1.mv hal hh, h.2.2.1.al hal, h.2.2.2.1.al hal, h.2.2.2.2.1.mv hal hh, h.2.2.2.2.2.1.there hal hh, h.2.2.2.2.2.2⟩) (fun r U U' V V' h1 hal h2 h => Got.mv r U U' V V' h1 hal h2 h) ?_
  intro p e s m args below meth c s₁ X0 hexec hbytes hml hret hlk hnm hown hh0 W hP
  obtain ⟨rfl, hB, f1, f2, hA, s1, hz, l0, l1, l2, hp⟩ := hP
  have a31 := hA.1.2.2.2
  have c1 : Steps p.tables e below (s₁.setTop (entryFrame m #[.ref a, .ref b, .int (Int32.ofNat o), .int (Int32.ofNat len), .null] 6)) (s₁.setTop (mkF m 0 #[.val (.ref a), .val (.ref b), .val (.int (Int32.ofNat o)), .val (.int (Int32.ofNat len)), .val .null, .unset] [])) := entry rfl
  have c2 : Steps p.tables e below (s₁.setTop (entryFrame m #[.ref a, .ref b, .int (Int32.ofNat o), .int (Int32.ofNat len), .null] 6)) (s₁.setTop (mkF m 1 #[.val (.ref a), .val (.ref b), .val (.int (Int32.ofNat o)), .val (.int (Int32.ofNat len)), .val .null, .unset] [.ref a])) := c1.trans (by
    refine XS.aloadN X0.here hexec rfl (hb hbytes d0) rfl rfl ?_
    exact Steps.refl _)
  obtain ⟨T3, X3, q3, st3⟩ := X0.oinit hexec hown (wks W (objW "java/lang/String" 1)) (g := (mkF m 1 #[.val (.ref a), .val (.ref b), .val (.int (Int32.ofNat o)), .val (.int (Int32.ofNat len)), .val .null, .unset] [.ref a])) rfl (by rw [hml]; rfl) (rest := []) rfl (hb hbytes d1) (W := 0) (by show 2 * 0 + 0 ≤ _; decide) (Nat.le_of_ble_eq_true rfl) (Nat.le_of_ble_eq_true rfl)
  have hh3 := q3.trans hh0
  have c4 : Steps p.tables e below (s₁.setTop (entryFrame m #[.ref a, .ref b, .int (Int32.ofNat o), .int (Int32.ofNat len), .null] 6)) (T3.setTop (mkF m 27 #[.val (.ref a), .val (.ref b), .val (.int (Int32.ofNat o)), .val (.int (Int32.ofNat len)), .val .null, .unset] [])) := (c2.trans (st3 _ (Steps.refl _))).trans (by
    refine XS.iloadN X3.here hexec rfl (hb hbytes d4) rfl ?_
    refine XS.ifYes X3.here hexec rfl (pc0 := 5) rfl (hb hbytes d5) rfl (i0_ne_t (nz32 (by omega) l0)) (by decide) rfl ?_
    exact Steps.refl _)
  obtain ⟨T5, X5, q5, st5⟩ := X3.sget hexec hown (wk W (.fieldLink "java/lang/String" 38 "java/lang/String" "COMPACT_STRINGS" "Z")) s1 (fun _ _ h => by rw [hh3]; exact h) (g := (mkF m 27 #[.val (.ref a), .val (.ref b), .val (.int (Int32.ofNat o)), .val (.int (Int32.ofNat len)), .val .null, .unset] [])) rfl (hb hbytes d27)
  have hh5 := q5.trans hh3
  have c6 : Steps p.tables e below (s₁.setTop (entryFrame m #[.ref a, .ref b, .int (Int32.ofNat o), .int (Int32.ofNat len), .null] 6)) (T5.setTop (mkF m 30 #[.val (.ref a), .val (.ref b), .val (.int (Int32.ofNat o)), .val (.int (Int32.ofNat len)), .val .null, .unset] [.int z])) := c4.trans (st5 _ (Steps.refl _))
  have c7 : Steps p.tables e below (s₁.setTop (entryFrame m #[.ref a, .ref b, .int (Int32.ofNat o), .int (Int32.ofNat len), .null] 6)) (T5.setTop (mkF m 36 #[.val (.ref a), .val (.ref b), .val (.int (Int32.ofNat o)), .val (.int (Int32.ofNat len)), .val .null, .unset] [.int (Int32.ofNat len), .int (Int32.ofNat o), .ref b])) := c6.trans (by
    refine XS.ifNo X5.here hexec rfl (hb hbytes d30) rfl (i0_eq_f hz) ?_
    refine XS.aloadN X5.here hexec rfl (hb hbytes d33) rfl rfl ?_
    refine XS.iloadN X5.here hexec rfl (hb hbytes d34) rfl ?_
    refine XS.iloadN X5.here hexec rfl (hb hbytes d35) rfl ?_
    exact Steps.refl _)
  obtain ⟨v8, T8, X8, E8, g8⟩ := X5.callS hexec (Cmp3.law l b A o len) hown (wks W (staticW "java/lang/String" 177 Cmp3.yN)) (wk W Cmp3.tab) (W := 0) (Nat.le_of_ble_eq_true rfl) (Nat.le_of_ble_eq_true rfl) (Nat.le_refl _) (by show 0 + len ≤ len; omega) (g := (mkF m 36 #[.val (.ref a), .val (.ref b), .val (.int (Int32.ofNat o)), .val (.int (Int32.ofNat len)), .val .null, .unset] [.int (Int32.ofNat len), .int (Int32.ofNat o), .ref b])) rfl (by rw [hml]; rfl) c7 (argsL := [.ref b, .int (Int32.ofNat o), .int (Int32.ofNat len)]) (rest := []) rfl rfl (by show 2 * 0 + 0 ≤ _; decide) (hb hbytes d36) (⟨rfl, hA.mv X5.warmed.alike hh5, l1, l2, hp⟩)
  obtain ⟨e8, z8⟩ := E8
  obtain ⟨rfl, N, n1, n2, n3, n4, n5, n6⟩ := NewArr.mv _ T5 s _ _ hh5.symm (Vm.Alike.refl _) rfl e8
  rw [hh5] at z8
  have hB1 := hB.keep X8.warmed.alike (n6 _ _ hB.1)
  have hne : s.heap.size ≠ a := (Nat.ne_of_lt (Array.getElem?_eq_some_iff.mp hB.1).1).symm
  have c9 : Steps p.tables e below (s₁.setTop (entryFrame m #[.ref a, .ref b, .int (Int32.ofNat o), .int (Int32.ofNat len), .null] 6)) (T8.setTop (mkF m 39 #[.val (.ref a), .val (.ref b), .val (.int (Int32.ofNat o)), .val (.int (Int32.ofNat len)), .val .null, .unset] [.ref s.heap.size])) := g8
  have c10 : Steps p.tables e below (s₁.setTop (entryFrame m #[.ref a, .ref b, .int (Int32.ofNat o), .int (Int32.ofNat len), .null] 6)) (T8.setTop (mkF m 45 #[.val (.ref a), .val (.ref b), .val (.int (Int32.ofNat o)), .val (.int (Int32.ofNat len)), .val .null, .val (.ref s.heap.size)] [.int (Int32.ofNat N.slots.size), .ref s.heap.size, .ref a])) := by
    have hc : Steps p.tables e below (s₁.setTop (entryFrame m #[.ref a, .ref b, .int (Int32.ofNat o), .int (Int32.ofNat len), .null] 6)) (T8.setTop (mkF m 45 #[.val (.ref a), .val (.ref b), .val (.int (Int32.ofNat o)), .val (.int (Int32.ofNat len)), .val .null, .val (.ref s.heap.size)] [.int (Int32.ofNat len), .ref s.heap.size, .ref a])) := c9.trans (by
      refine XS.astore X8.here hexec rfl (hb hbytes d39) rfl rfl rfl ?_
      refine XS.aloadN X8.here hexec rfl (hb hbytes d41) rfl rfl ?_
      refine XS.aload X8.here hexec rfl (hb hbytes d42) rfl rfl ?_
      refine XS.iloadN X8.here hexec rfl (hb hbytes d44) rfl ?_
      exact Steps.refl _)
    rw [n4]; exact hc
  obtain ⟨v11, T11, X11, E11, g11⟩ := X8.callS hexec (CodL.law l s.heap.size N) hown (wks W (staticW "java/lang/String" 47 CodL.yN)) (wk W CodL.tab) (W := 1) (Nat.le_of_ble_eq_true rfl) (Nat.le_of_ble_eq_true rfl) (Nat.le_refl _) (by show 0 + len + 0 ≤ len; omega) (g := (mkF m 45 #[.val (.ref a), .val (.ref b), .val (.int (Int32.ofNat o)), .val (.int (Int32.ofNat len)), .val .null, .val (.ref s.heap.size)] [.int (Int32.ofNat N.slots.size), .ref s.heap.size, .ref a])) rfl (by rw [hml]; rfl) c10 (argsL := [.ref s.heap.size, .int (Int32.ofNat N.slots.size)]) (rest := [.ref a]) rfl rfl (by show 2 * 0 + (1 + 0) ≤ _; decide) (hb hbytes d45) (⟨rfl, n1⟩)
  obtain ⟨rfl, q11⟩ := E11
  have hB11 := hB1.mv (X8.warmed.alike.symm.trans X11.warmed.alike) q11
  have c12 : Steps p.tables e below (s₁.setTop (entryFrame m #[.ref a, .ref b, .int (Int32.ofNat o), .int (Int32.ofNat len), .null] 6)) (T11.setTop (mkF m 48 #[.val (.ref a), .val (.ref b), .val (.int (Int32.ofNat o)), .val (.int (Int32.ofNat len)), .val .null, .val (.ref s.heap.size)] [.int 0, .ref a])) := g11
  obtain ⟨T13, X13, p13, bl13, sl13, st13⟩ := X11.finit hexec hown (wk W (.fieldLink "java/lang/String" 15 "java/lang/String" "coder" "B")) (Or.inr ⟨_, (wk W (.laysFinal "java/lang/String" "java/lang/String" "coder" "B"))⟩) (Or.inl ⟨rfl, hnm⟩) f2 (Or.inl rfl) hB11 (t := .byte) (by decide +kernel) rfl (g := (mkF m 48 #[.val (.ref a), .val (.ref b), .val (.int (Int32.ofNat o)), .val (.int (Int32.ofNat len)), .val .null, .val (.ref s.heap.size)] [.int 0, .ref a])) rfl (rest := []) rfl (hb hbytes d48)
  have c14 : Steps p.tables e below (s₁.setTop (entryFrame m #[.ref a, .ref b, .int (Int32.ofNat o), .int (Int32.ofNat len), .null] 6)) (T13.setTop (mkF m 54 #[.val (.ref a), .val (.ref b), .val (.int (Int32.ofNat o)), .val (.int (Int32.ofNat len)), .val .null, .val (.ref s.heap.size)] [.ref s.heap.size, .ref a])) := (c12.trans (st13 _ (Steps.refl _))).trans (by
    refine XS.aloadN X13.here hexec rfl (hb hbytes d51) rfl rfl ?_
    refine XS.aload X13.here hexec rfl (hb hbytes d52) rfl rfl ?_
    exact Steps.refl _)
  obtain ⟨T15, X15, p15, bl15, sl15, st15⟩ := X13.finit hexec hown (wk W (.fieldLink "java/lang/String" 9 "java/lang/String" "value" "[B")) (Or.inr ⟨_, (wk W (.laysFinal "java/lang/String" "java/lang/String" "value" "[B"))⟩) (Or.inl ⟨rfl, hnm⟩) f1 (Or.inl rfl) bl13 (t := (.array .byte)) (by decide +kernel) rfl (g := (mkF m 54 #[.val (.ref a), .val (.ref b), .val (.int (Int32.ofNat o)), .val (.int (Int32.ofNat len)), .val .null, .val (.ref s.heap.size)] [.ref s.heap.size, .ref a])) rfl (rest := []) rfl (hb hbytes d54)
  have c16 : Steps p.tables e below (s₁.setTop (entryFrame m #[.ref a, .ref b, .int (Int32.ofNat o), .int (Int32.ofNat len), .null] 6)) (T15.setTop (mkF m 57 #[.val (.ref a), .val (.ref b), .val (.int (Int32.ofNat o)), .val (.int (Int32.ofNat len)), .val .null, .val (.ref s.heap.size)] [])) := c14.trans (st15 _ (Steps.refl _))
  have ap := apart (Or.inr ⟨_, (wk W (.laysFinal "java/lang/String" "java/lang/String" "value" "[B"))⟩) (Or.inr ⟨_, (wk W (.laysFinal "java/lang/String" "java/lang/String" "coder" "B"))⟩) f1 f2 (t₁ := .array .byte) (t₂ := .byte) (by decide +kernel) (by decide +kernel) (by decide)
  have al := X8.warmed.alike.symm.trans X15.warmed.alike
  have n7 : T11.heap[s.heap.size]? = some N := by rw [q11]; exact n1.1
  exact ⟨T15, none, _, _, _, X15, by simp, rfl, by omega, (fun _ => rfl), ⟨rfl, _, N, bl15, ((Same.refl D _).set _ (by simp)).set _ (by simp), sl15, (Cell.slots_setSlot_ne _ ap).trans sl13, n1.keep al (p15.other hne (p13.other hne n7)), n2, by rw [al.findClass]; exact n3, n4, n5, fun y c h1 h2 => p15.other h1 (p13.other h1 (by rw [q11]; exact n6 y c h2)), by rw [p15.2.2, p13.2.2, q11]; exact z8⟩, fun fs hl => c16.trans (X15.returnOut hexec hret (hb hbytes d57) hl)⟩
end New4
namespace New1
def yN : MethodName := ⟨"java/lang/String", "<init>", "([C)V"⟩
abbrev yB : ByteArray := jdk_42_method_3_code
theorem d0 : decode yB 0 = .ok (.aload_n 0, 1) := by decide +kernel
theorem d1 : decode yB 1 = .ok (.aload_n 1, 1) := by decide +kernel
theorem d2 : decode yB 2 = .ok (.iconst 0, 1) := by decide +kernel
theorem d3 : decode yB 3 = .ok (.aload_n 1, 1) := by decide +kernel
theorem d4 : decode yB 4 = .ok (.arraylength, 1) := by decide +kernel
theorem d5 : decode yB 5 = .ok (.aconst_null, 1) := by decide +kernel
theorem d6 : decode yB 6 = .ok (.invokespecial 27, 3) := by decide +kernel
theorem d9 : decode yB 9 = .ok (.return_, 1) := by decide +kernel
def site : List Cond := [New4.tab] ++ initW "java/lang/String" 27 New4.yN
def tab : Cond := tabOf yN yB 2 none site
def P (a : Addr) (D : Cell) (fV fC : Field) (b : Addr) (A : Cell) (z : Int32) (args : Array Value) (s : State) : Prop := args = #[.ref a, .ref b] ∧ Blank "java/lang/String" a D s ∧ Found "java/lang/String" "value" "[B" fV s ∧ Found "java/lang/String" "coder" "B" fC s ∧ Ch b A s ∧ StaticIs s "java/lang/String" "COMPACT_STRINGS" "Z" (.int z) ∧ ¬ z = 0 ∧ 0 < A.slots.size ∧ A.slots.size ≤ 536870912 ∧ ∀ i, i < A.slots.size → ¬ 255 < cv A i
def E (a : Addr) (D : Cell) (fV fC : Field) (A : Cell) (r : Option Value) (s u : State) : Prop := Got a D fV fC A 0 A.slots.size r s u
/-- new String(chars), not empty, no char above 255: a Latin-1 String of their low bytes -/
theorem law (l : Launch) (a : Addr) (D : Cell) (fV fC : Field) (b : Addr) (A : Cell) (z : Int32) : Law l yN 2 1 3 52 yB 2 none site (P a D fV fC b A z) (E a D fV fC A) [⟨a, fC.slot⟩, ⟨a, fV.slot⟩] 1 A.slots.size := by
  refine Law.of_walk (plainFor_of_name (by decide +kernel)) (by decide +kernel) (by decide +kernel) (by decide) (fun _ _ h => by rw [h.1]; rfl) (fun _ U U' hal hh h => ⟨h.1, h.2.1.mv hal hh, h.2.2.1.al hal, h.2.2.2.1.al hal, h.2.2.2.2.1.mv hal hh, h.2.2.2.2.2.1.there hal hh, h.2.2.2.2.2.2⟩) (fun r U U' V V' h1 hal h2 h => Got.mv r U U' V V' h1 hal h2 h) ?_
  intro p e s m args below meth c s₁ X0 hexec hbytes hml hret hlk hnm hown hh0 W hP
  obtain ⟨rfl, hB, f1, f2, hA, s1, hz, l0, l2, hp⟩ := hP
  have c1 : Steps p.tables e below (s₁.setTop (entryFrame m #[.ref a, .ref b] 2)) (s₁.setTop (mkF m 0 #[.val (.ref a), .val (.ref b)] [])) := entry rfl
  have c2 : Steps p.tables e below (s₁.setTop (entryFrame m #[.ref a, .ref b] 2)) (s₁.setTop (mkF m 6 #[.val (.ref a), .val (.ref b)] [.null, .int (Int32.ofNat A.slots.size), .int 0, .ref b, .ref a])) := c1.trans (by
    refine XS.aloadN X0.here hexec rfl (hb hbytes d0) rfl rfl ?_
    refine XS.aloadN X0.here hexec rfl (hb hbytes d1) rfl rfl ?_
    refine iconstV X0.here hexec rfl 0 (hb hbytes d2) (by decide) ?_
    refine XS.aloadN X0.here hexec rfl (hb hbytes d3) rfl rfl ?_
    refine X0.alen hexec (hA.1.mv X0.warmed.alike hh0) rfl rfl (hb hbytes d4) ?_
    refine XS.aconstNull X0.here hexec rfl (hb hbytes d5) ?_
    exact Steps.refl _)
  obtain ⟨v3, T3, X3, E3, g3⟩ := X0.callN hexec (New4.law l a D fV fC b A z 0 A.slots.size) rfl hown (wks W (initW "java/lang/String" 27 New4.yN)) (W New4.tab (by simp only [site, List.mem_cons, List.mem_append, true_or, or_true])) (W := 0) (Nat.le_of_ble_eq_true rfl) (Nat.le_of_ble_eq_true rfl) (Nat.le_refl _) (by show 0 + A.slots.size ≤ A.slots.size; omega) (g := (mkF m 6 #[.val (.ref a), .val (.ref b)] [.null, .int (Int32.ofNat A.slots.size), .int (Int32.ofNat 0), .ref b, .ref a])) rfl (by rw [hml]; rfl) c2 (argsL := [.ref b, .int (Int32.ofNat 0), .int (Int32.ofNat A.slots.size), .null]) (rest := []) rfl rfl (by show 2 * 0 + 0 ≤ _; decide) (hb hbytes d6) (⟨rfl, hB.mv X0.warmed.alike hh0, f1.al X0.warmed.alike, f2.al X0.warmed.alike, hA.mv X0.warmed.alike hh0, s1.there X0.warmed.alike hh0, hz, l0, by omega, l2, fun i hi => by rw [Nat.zero_add]; exact hp i hi⟩)
  have e0 := Got.mv _ s₁ s _ _ hh0.symm (Vm.Alike.refl _) rfl E3
  obtain rfl := e0.1
  have c4 : Steps p.tables e below (s₁.setTop (entryFrame m #[.ref a, .ref b] 2)) (T3.setTop (mkF m 9 #[.val (.ref a), .val (.ref b)] [])) := g3
  exact ⟨T3, none, _, _, _, X3, by simp, rfl, by omega, (fun _ => rfl), e0, fun fs hl => c4.trans (X3.returnOut hexec hret (hb hbytes d9) hl)⟩
theorem pays {l : Launch} {R : Room} {p : Program} {e : Env} {below : List Frame} {s : State} {sargs : Array Value} {len W : Nat} (a : Addr) (D : Cell) (fV fC : Field) (b : Addr) (A : Cell) (z : Int32) (htab : tab.before sargs s = true) (hfr : 4 ≤ R.frames) (hlo : W + 65 ≤ R.locals) :
    Back l R p e below s sargs yN len W (fun A₁ a₁ => A₁.cells + 1 ≤ R.cells ∧ A₁.slots + A.slots.size ≤ R.slots ∧ P a D fV fC b A z a₁ A₁.U) (fun A₁ _ v₁ B₁ => E a D fV fC A v₁ A₁.U B₁.U ∧ B₁.locs = A₁.locs ++ [⟨a, fC.slot⟩, ⟨a, fV.slot⟩] ∧ B₁.cells = A₁.cells + 1 ∧ B₁.slots = A₁.slots + A.slots.size) :=
  (law l a D fV fC b A z).pays htab hfr (by omega)
end New1
/-- the byte, read back as charAt reads it, is the char -/
theorem lo8_mask {x : Int32} (h0 : ¬ x < 0) (h1 : ¬ 255 < x) : lo8 x &&& 255 = x := by
  have t : ∀ k : Fin 256, lo8 (Int32.ofNat k.val) &&& 255 = Int32.ofNat k.val := by decide +kernel
  rw [Int32.lt_iff_toInt_lt] at h0 h1
  have e0 : (0 : Int32).toInt = 0 := rfl
  have e1 : (255 : Int32).toInt = 255 := rfl
  obtain ⟨k, hk⟩ : ∃ k : Nat, x.toInt = k := ⟨x.toInt.toNat, by omega⟩
  have hx : x = Int32.ofNat k := Int32.toInt_inj.mp (by rw [hk, Int32.toInt_ofNat_small (by omega)])
  rw [hx]
  exact t ⟨k, by omega⟩
end StrChars
namespace StrChars.Road
open Jvm Sem ClassFile Op Lib Jvm.Stand Jvm.Free Jvm.Free.XT
open Jvm.Lib.Cold (StaticIs)
abbrev ST : String := "java/lang/String"
/-- every table word that New1's law asks, flat -/
abbrev words : List Jvm.Cond := [.code New1.yN New1.yB 2 none, .initialized ST, .methodLink ST 27 New4.yN, .instanceMethod New4.yN,
  .code New4.yN New4.yB 6 none, .fieldLink ST 38 ST "COMPACT_STRINGS" "Z", .laysFinal ST ST "value" "[B", .fieldLink ST 9 ST "value" "[B", .laysFinal ST ST "coder" "B", .fieldLink ST 15 ST "coder" "B",
  .methodLink ST 1 Lib.objectInit, .instanceMethod Lib.objectInit, .code Lib.objectInit ⟨#[0xb1]⟩ 1 none, .methodLink ST 177 Cmp3.yN, .static Cmp3.yN, .methodLink ST 47 CodL.yN, .static CodL.yN,
  .code Cmp3.yN Cmp3.yB 6 (some (.array .byte)), .initialized U16, .arrayClass .byte, .methodLink U16 115 Cmp5.yN, .static Cmp5.yN, .code Cmp5.yN Cmp5.yB 7 (some .int), .code CodL.yN CodL.yB 2 (some .byte)]
theorem tab_of {a : Array Value} {s : State} (h : ∀ w ∈ words, w.before a s = true) : New1.tab.before a s = true := by
  have h5 : Cmp5.tab.before a s = true := unparts (wk h (.code Cmp5.yN Cmp5.yB 7 (some .int))) (wks h (.initialized Cmp5.yN.cls :: Cmp5.site))
  have hc : CodL.tab.before a s = true := unparts (wk h (.code CodL.yN CodL.yB 2 (some .byte))) (wks h (.initialized CodL.yN.cls :: CodL.site))
  have q5 : ∀ w ∈ Cmp5.tab :: words, w.before a s = true := fun w hw => (List.mem_cons.mp hw).elim (fun e => e ▸ h5) (h w)
  have h3 : Cmp3.tab.before a s = true := unparts (wk q5 (.code Cmp3.yN Cmp3.yB 6 (some (.array .byte)))) (wks q5 (.initialized Cmp3.yN.cls :: Cmp3.site))
  have q3 : ∀ w ∈ Cmp3.tab :: CodL.tab :: words, w.before a s = true := fun w hw => (List.mem_cons.mp hw).elim (fun e => e ▸ h3) fun hw => (List.mem_cons.mp hw).elim (fun e => e ▸ hc) (h w)
  have h4 : New4.tab.before a s = true := unparts (wk q3 (.code New4.yN New4.yB 6 none)) (wks q3 (.initialized New4.yN.cls :: New4.site))
  have q4 : ∀ w ∈ New4.tab :: words, w.before a s = true := fun w hw => (List.mem_cons.mp hw).elim (fun e => e ▸ h4) (h w)
  exact unparts (wk q4 (.code New1.yN New1.yB 2 none)) (wks q4 (.initialized New1.yN.cls :: New1.site))
/-- the words ride from the start Z to the walk's own state -/
theorem moved {Z s : State} {a0 args : Array Value} (hZ : Z.Warmed39 s.vm) (hw : ∀ d ∈ words, d.before a0 Z = true) : ∀ d ∈ words, d.before args s = true := fun d hd => by
  have q := hw d hd
  have t : ∀ d ∈ words, d = .arrayClass .byte ∨ (d.onTables && d.keepsFace) = true := by decide +kernel
  rcases t d hd with rfl | t
  · exact RoadKit.mvA hZ q
  · exact RoadKit.mv hZ q t
/-- WHAT COMES BACK, over the tables of the start Z: h the heap at the call, h' behind it -/
def Q (Z : State) (x : Addr) (A : Cell) (h : Heap) (v : Option Value) (h' : Heap) (L : List Loc) : Prop := v = none ∧ (∀ y ∈ L, y.base = x) ∧ RoadKit.Keep h h' [x] ∧ h'.size = h.size + 1 ∧ RoadKit.Exa Z h' x ST ∧ RoadKit.Fld Z h' x ST "value" "[B" (.ref h.size) ∧ RoadKit.Fld Z h' x ST "coder" "B" (.int 0) ∧
  (∃ V : Cell, RoadKit.Arr Z h' h.size V .byte ∧ V.vm = .none ∧ Z.vm.findClass "[B" = some V.cls ∧ V.slots.size = A.slots.size ∧ ∀ j, j < A.slots.size → V.slots[j]? = some (.int (lo8 (cv A j)))) ∧
  ∀ (O n d : String) (w : Value), RoadKit.Fld Z h x O n d w → RoadKit.slotOf Z O n d ≠ RoadKit.slotOf Z ST "value" "[B" → RoadKit.slotOf Z O n d ≠ RoadKit.slotOf Z ST "coder" "B" → RoadKit.Fld Z h' x O n d w
/-- **new String(chars) AT A CALL, IN THE ROAD'S FORM**: for specialBack behind newO: x the fresh String, b the char[] with the cell A -/
theorem back {p : Program} {l : Launch} {e : Env} {R : Room} {s : State} {args : Array Value} {below : List Frame} {len W : Nat} {Z : State} {a0 : Array Value} {h : Heap} (hZ : Z.Warmed39 s.vm) (hw : ∀ d ∈ words, d.before a0 Z = true) {kI : Nat} (wi : (Jvm.Cond.instantiable ST kI).before a0 Z = true)
    {x b : Addr} {A : Cell} {z : Int32} {v0 c0 : Value} (E : RoadKit.Exa Z h x ST) (V : RoadKit.Fld Z h x ST "value" "[B" v0) (C : RoadKit.Fld Z h x ST "coder" "B" c0) (K : RoadKit.Arr Z h b A .char) (hty : Typed .char A) (S : RoadKit.Sta Z h ST "COMPACT_STRINGS" "Z" (.int z)) (hz : ¬ z = 0)
    (l0 : 0 < A.slots.size) (l2 : A.slots.size ≤ 536870912) (hp : ∀ i, i < A.slots.size → ¬ 255 < cv A i) (hfr : 4 ≤ R.frames) (hlo : W + 65 ≤ R.locals) :
    Back l R p e below s args New1.yN len W (fun P a => a = #[.ref x, .ref b] ∧ P.U.heap = h ∧ P.cells + 1 ≤ R.cells ∧ P.slots + A.slots.size ≤ R.slots)
      (fun P _ v B => ∃ L, Q Z x A h v B.U.heap L ∧ B.locs = P.locs ++ L ∧ B.cells = P.cells + 1 ∧ B.slots = P.slots + A.slots.size) := by
  intro m meth c P g ig mk a X hg hsize hdg hW hn hp'
  obtain ⟨rfl, rfl, r1, r2⟩ := hp'
  have al : Z.vm.Alike P.U.vm := hZ.alike.trans X.warmed.alike
  obtain ⟨D, cfV, kV, iV, fV, hD, gV, stV, knV, obV, asV, slV⟩ := id V
  obtain ⟨D', cfC, kC, iC, fC, hD', gC, stC, -, -, asC, slC⟩ := id C
  cases hD.symm.trans hD'
  obtain ⟨D2, kD, e1, e2, e3, e4, e5⟩ := id E
  cases hD.symm.trans e1
  obtain ⟨c2, k2, i1, i2, i3, -⟩ := Cond.instantiable_spec wi
  cases e2.symm.trans i1
  cases e3.symm.trans i2
  obtain ⟨kU, u1, u2⟩ := al.2.2 _ _ e3
  have hB : Blank ST x D P.U := ⟨hD, ⟨knV, fun q hq => by rw [hq] at obV; cases obV⟩, by rw [al.findClass]; exact e2, kU, u1, by rw [u2]; exact i3, by rw [u2]; exact e5 i3⟩
  have F1 : Found ST "value" "[B" fV P.U := ⟨SBG.found_only al ⟨cfV, kV, iV, gV⟩, stV⟩
  have F2 : Found ST "coder" "B" fC P.U := ⟨SBG.found_only al ⟨cfC, kC, iC, gC⟩, stC⟩
  have hA : Ch b A P.U := ⟨⟨K.1, State.isArrayOf_alike al K.2.1, K.2.2, by omega⟩, hty⟩
  have hS : StaticIs P.U ST "COMPACT_STRINGS" "Z" (.int z) := by
    obtain ⟨cfS, iS, kS, fS, st, cS, t1, t2, t3, t4, t5, t6, t7⟩ := S
    exact StaticIs.there (s := { Z with heap := P.U.heap }) ⟨cfS, iS, kS, fS, st, cS, t1, t2, t3, t4, t5, (fun q => by rw [q] at t6; cases t6), t7⟩ al rfl
  obtain ⟨v, B, X', ⟨⟨hv, E', V', q1, q2, q3, q4, q5, q6, q7, q8, q9, q10, q11⟩, hl, hc, hs⟩, st⟩ := New1.pays x D fV fC b A z (tab_of (moved hZ hw)) hfr hlo m meth c P g ig mk _ X hg hsize hdg hW hn ⟨r1, r2, rfl, hB, F1, F2, hA, hS, hz, l0, l2, hp⟩
  have al' : Z.vm.Alike B.U.vm := hZ.alike.trans X'.warmed.alike
  have hsz : E'.slots.size = D.slots.size := by
    obtain ⟨-, -, -, kB, w1, w2, w3⟩ := q1
    obtain ⟨kB', y1, y2⟩ := al'.2.2 _ _ e3
    rw [q2.2.1] at w1
    cases w1.symm.trans y1
    rw [w3, e5 i3, y2]
  refine ⟨v, B, X', ⟨_, ⟨hv, ?_, ⟨by omega, fun y cy hy hn' => q10 y cy (by simpa using hn') hy, fun y cy hy => ?_⟩, q11, ⟨E', _, q1.1, by rw [q2.2.1]; exact e2, by rw [q2.2.1]; exact e3, by rw [q2.1]; exact obV, fun _ => by rw [hsz]; exact e5 i3⟩,
    ⟨E', cfV, kV, iV, fV, q1.1, gV, stV, by rw [q2.1]; exact knV, by rw [q2.1]; exact obV, by rw [q2.2.1]; exact asV, q3⟩, ⟨E', cfC, kC, iC, fC, q1.1, gC, stC, by rw [q2.1]; exact knV, by rw [q2.1]; exact obV, by rw [q2.2.1]; exact asC, q4⟩,
    ⟨V', ⟨q5.1, State.isArrayOf_alike al'.symm q5.2.1, q5.2.2.1⟩, q6, by rw [← al'.findClass]; exact q7, q8, fun j hj => by have := q9 j hj; rwa [Nat.zero_add] at this⟩, fun O n d w F n1 n2 => ?_⟩, hl, hc, hs⟩, st⟩
  · intro y hy
    simp only [List.mem_cons, List.not_mem_nil, or_false] at hy
    rcases hy with rfl | rfl <;> rfl
  · by_cases q : y = x
    · subst q
      cases hD.symm.trans hy
      exact ⟨E', q1.1, q2.2.1, q2.1, hsz⟩
    · exact ⟨cy, q10 y cy q hy, rfl, rfl, rfl⟩
  · obtain ⟨D3, cf, k, i, f, g1, g2, g3, g4, g5, g6, g7⟩ := F
    cases hD.symm.trans g1
    simp only [RoadKit.slotOf, g2, gV, gC, Option.map_some, Option.getD_some] at n1 n2
    exact ⟨E', cf, k, i, f, q1.1, g2, g3, by rw [q2.1]; exact g4, by rw [q2.1]; exact g5, by rw [q2.2.1]; exact g6, by rw [q2.2.2 f.slot (by simp [n1, n2])]; exact g7⟩
end StrChars.Road
namespace StrChars.Road
open Jvm Sem ClassFile Op Lib Jvm.Stand Jvm.Free Jvm.Free.XT
/-- WHAT COMES BACK, the byte[] as a list of values -/
def QA (Z : State) (x : Addr) (zn : Int32) (cs : List Int32) (h : Heap) (v : Option Value) (h' : Heap) (L : List Loc) : Prop := v = none ∧ (∀ y ∈ L, y.base = x) ∧ RoadKit.Keep h h' [x] ∧ h'.size = h.size + 1 ∧ RoadKit.Exa Z h' x ST ∧ RoadKit.Fld Z h' x ST "value" "[B" (.ref h.size) ∧ RoadKit.Fld Z h' x ST "coder" "B" (.int 0) ∧
  (∃ kb, Z.vm.findClass "[B" = some kb ∧ RoadKit.Arv Z h' h.size kb .byte zn (cs.map fun c => .int (lo8 c)) (.int 0)) ∧
  ∀ (O n d : String) (w : Value), RoadKit.Fld Z h x O n d w → RoadKit.slotOf Z O n d ≠ RoadKit.slotOf Z ST "value" "[B" → RoadKit.slotOf Z O n d ≠ RoadKit.slotOf Z ST "coder" "B" → RoadKit.Fld Z h' x O n d w
/-- **new String(chars) AT A CALL, THE ARRAYS AS LISTS**: the char[] at b holds cs, not empty, no char above 255 -/
theorem backArv {p : Program} {l : Launch} {e : Env} {R : Room} {s : State} {args : Array Value} {below : List Frame} {len W : Nat} {Z : State} {a0 : Array Value} {h : Heap} (hZ : Z.Warmed39 s.vm) (hw : ∀ d ∈ words, d.before a0 Z = true) {kI : Nat} (wi : (Jvm.Cond.instantiable ST kI).before a0 Z = true)
    {x b : Addr} {k : ClassId} {zn z : Int32} {cs : List Int32} {dv v0 c0 : Value} (E : RoadKit.Exa Z h x ST) (V : RoadKit.Fld Z h x ST "value" "[B" v0) (C : RoadKit.Fld Z h x ST "coder" "B" c0) (K : RoadKit.Arv Z h b k .char zn (cs.map Value.int) dv) (S : RoadKit.Sta Z h ST "COMPACT_STRINGS" "Z" (.int z)) (hz : ¬ z = 0)
    (hlen : zn.toNatClampNeg = cs.length) (h0 : 0 < cs.length) (hbig : cs.length ≤ 536870912) (hall : ∀ c ∈ cs, ¬ 255 < c) (hfr : 4 ≤ R.frames) (hlo : W + 65 ≤ R.locals) :
    Back l R p e below s args New1.yN len W (fun P a => a = #[.ref x, .ref b] ∧ P.U.heap = h ∧ P.cells + 1 ≤ R.cells ∧ P.slots + cs.length ≤ R.slots)
      (fun P _ v B => ∃ L, QA Z x zn cs h v B.U.heap L ∧ B.locs = P.locs ++ L ∧ B.cells = P.cells + 1 ∧ B.slots = P.slots + cs.length) := by
  obtain ⟨A, K1, K2, K3, K4, K5, K6⟩ := K
  have e : A.slots.size = cs.length := K3.trans hlen
  have hat : ∀ (i : Nat) (hi : i < cs.length), A.slots[i]? = some (.int cs[i]) := fun i hi => by rw [K5 i (by omega)]; simp [List.getD_eq_getElem?_getD, hi]
  have hcv : ∀ (i : Nat) (hi : i < cs.length), cv A i = cs[i] := fun i hi => by unfold cv; rw [hat i hi]
  have hty : Typed .char A := fun i v hv => by
    have hi : i < A.slots.size := (Array.getElem?_eq_some_iff.mp hv).1
    have q := K5 i hi
    rw [hv] at q
    rw [Option.some.inj q]
    exact K6 i hi
  refine Back.mono (back hZ hw wi E V C K1 hty S hz (by omega) (by omega) (fun i hi => by rw [hcv i (by omega)]; exact hall _ (List.getElem_mem _)) hfr hlo) (fun P a hp => ⟨hp.1, hp.2.1, hp.2.2.1, by rw [e]; exact hp.2.2.2⟩) (fun P a v B hp hq => ?_)
  obtain ⟨L, ⟨q1, q2, q3, q4, q5, q6, q7, ⟨V', v1, v2, v3, v4, v5⟩, q9⟩, hl, hc, hs⟩ := hq
  refine ⟨L, ⟨q1, q2, q3, q4, q5, q6, q7, ⟨V'.cls, v3, V', v1, rfl, by rw [v4, e, hlen], K4, fun i hi => ?_, fun i hi => ?_⟩, q9⟩, hl, hc, by rw [hs, e]⟩
  · have hi' : i < cs.length := by omega
    rw [v5 i (by omega), hcv i hi']; simp [List.getD_eq_getElem?_getD, hi']
  · have hi' : i < cs.length := by omega
    simp only [List.getD_eq_getElem?_getD, List.getElem?_map, List.getElem?_eq_getElem hi', Option.map_some, Option.getD_some]
    exact fits_lo8 _
end StrChars.Road
namespace StrChars.Road
open Jvm Sem ClassFile Op Lib Jvm.Stand Jvm.Free Jvm.Free.XT
/-- WHAT COMES BACK, in the writer's own shape -/
def QV (Z : State) (x : Addr) (N : Int32) (bs : List Int32) (h : Heap) (n0 : Nat) (v : Option Value) (h' : Heap) (L : List Loc) : Prop := v = none ∧ RoadKit.Fr n0 L ∧ RoadKit.Keep h h' [x] ∧ RoadKit.Exa Z h' x ST ∧ RoadKit.Fld Z h' x ST "coder" "B" (.int 0) ∧
  ∃ (t : Addr) (kb : ClassId), n0 ≤ t ∧ h.size ≤ t ∧ ¬ t = x ∧ RoadKit.Fld Z h' x ST "value" "[B" (.ref t) ∧ RoadKit.Arv Z h' t kb .byte N (bs.map Value.int) (.int 0)
/-- **new String(chars) AT A CALL, FOR THE WRITER**: a char[] of n known ints, each 0 to 255 -/
theorem backV {p : Program} {l : Launch} {e : Env} {R : Room} {s : State} {args : Array Value} {below : List Frame} {len W : Nat} {Z : State} {a0 : Array Value} {h : Heap} (hZ : Z.Warmed39 s.vm) (hw : ∀ d ∈ words, d.before a0 Z = true) {kI : Nat} (wi : (Jvm.Cond.instantiable ST kI).before a0 Z = true)
    {x b : Addr} {kC : ClassId} {cs bs : List Int32} {d v0 c0 : Value} {z N : Int32} {n n0 : Nat} (hx0 : n0 ≤ x) (hh0 : n0 ≤ h.size) (E : RoadKit.Exa Z h x ST) (V : RoadKit.Fld Z h x ST "value" "[B" v0) (C : RoadKit.Fld Z h x ST "coder" "B" c0) (K : RoadKit.Arv Z h b kC .char N (cs.map Value.int) d) (S : RoadKit.Sta Z h ST "COMPACT_STRINGS" "Z" (.int z)) (hz : ¬ z = 0)
    (hn : cs.length = n) (hN : N = Int32.ofNat n) (l0 : 0 < n) (l2 : n ≤ 4000) (hp : ∀ c ∈ cs, ¬ c < 0 ∧ ¬ (255 : Int32) < c) (hb : bs = cs.map (fun c => c.toInt8.toInt32)) (hfr : 4 ≤ R.frames) (hlo : W + 65 ≤ R.locals) :
    Back l R p e below s args (⟨"java/lang/String", "<init>", "([C)V"⟩ : MethodName) len W (fun P a => a = #[.ref x, .ref b] ∧ P.U.heap = h ∧ P.cells + 1 ≤ R.cells ∧ P.slots + n ≤ R.slots)
      (fun P _ v B => ∃ L, QV Z x N bs h n0 v B.U.heap L ∧ B.locs = P.locs ++ L ∧ B.cells = P.cells + 1 ∧ B.slots = P.slots + n) := by
  subst hn hN hb
  refine Back.mono (backArv hZ hw wi E V C K S hz (n32 (by omega)) l0 (by omega) (fun c hc => (hp c hc).2) hfr hlo) (fun P a hp => hp) (fun P a v B hp hq => ?_)
  obtain ⟨L, ⟨q1, q2, q3, q4, q5, q6, q7, ⟨kb, v1, v2⟩, q9⟩, hl, hc, hs⟩ := hq
  exact ⟨L, ⟨q1, fun y hy => by rw [q2 y hy]; exact hx0, q3, q5, q7, h.size, kb, hh0, Nat.le_refl _, Nat.ne_of_gt E.lt, q6, by rw [List.map_map]; exact v2⟩, hl, hc, hs⟩
end StrChars.Road
namespace StrChars
open Jvm Sem ClassFile Op Lib Jvm.Stand Jvm.Free.XT Jvm.Free.ALB Jvm.Free.JM Jvm.Free
open Jvm.Lib.Cold (StaticIs)
def hi8 (x : Int32) : Int32 := lo8 (x >>> ((8 : Int32) &&& 31))
/-- what StringUTF16.getChar makes of two bytes -/
def pairCh (u v : Int32) : Int32 := (((u &&& 255) <<< ((0 : Int32) &&& 31)) ||| ((v &&& 255) <<< ((8 : Int32) &&& 31))).toUInt32.toUInt16.toUInt32.toInt32
theorem shr0 (c : Int32) : c >>> ((0 : Int32) &&& 31) = c := by
  have e : ((0 : Int32) &&& 31) = 0 := by decide
  rw [e]
  apply Int32.toBitVec_inj.mp
  rw [Int32.toBitVec_shiftRight]
  have e1 : ((0 : Int32).toBitVec.smod 32) = 0#32 := by decide
  rw [e1, BitVec.sshiftRight_eq']
  exact BitVec.sshiftRight_zero
theorem lo8_and (x : Int32) : (lo8 x &&& 255).toBitVec.toNat = x.toBitVec.toNat % 256 := by
  have h : (lo8 x).toBitVec = (x.toBitVec.signExtend 8).signExtend 32 := by rw [lo8, Int8.toBitVec_toInt32, Int32.toBitVec_toInt8]
  rw [Int32.toBitVec_and, BitVec.toNat_and, h]
  have e : ((x.toBitVec.signExtend 8).signExtend 32).toNat % 256 = x.toBitVec.toNat % 256 := by
    rw [BitVec.toNat_signExtend]
    have hlt := x.toBitVec.isLt
    simp only [BitVec.toNat_setWidth, BitVec.toNat_signExtend]
    split <;> split <;> omega
  rw [← e]
  exact Nat.and_two_pow_sub_one_eq_mod _ 8
theorem pair_says {c : Int32} (h0 : ¬ c < 0) (h1 : ¬ 65535 < c) : pairCh (lo8 c) (hi8 c) = c := by
  rw [Int32.lt_iff_toInt_lt] at h0 h1
  have e0 : (0 : Int32).toInt = 0 := rfl
  have e1 : (65535 : Int32).toInt = 65535 := rfl
  have hc : c.toInt = c.toBitVec.toNat := by
    have := c.toBitVec.isLt
    have e : c.toInt = c.toBitVec.toInt := rfl
    rw [e] at h0 h1
    rw [e]
    rw [BitVec.toInt_eq_toNat_cond] at h0 h1 ⊢
    split at h0 <;> split <;> omega
  have hn : c.toBitVec.toNat < 65536 := by omega
  have a1 := lo8_and c
  have a2 : (hi8 c &&& 255).toBitVec.toNat = c.toBitVec.toNat / 256 := by
    rw [hi8, lo8_and]
    have e : ((8 : Int32) &&& 31) = 8 := by decide
    rw [e, Int32.toBitVec_shiftRight]
    have e2 : ((8 : Int32).toBitVec.smod 32) = 8#32 := by decide
    rw [e2, BitVec.sshiftRight_eq', BitVec.toNat_sshiftRight_of_msb_false (by rw [BitVec.msb_eq_false_iff_two_mul_lt]; omega)]
    show c.toBitVec.toNat >>> 8 % 256 = _
    rw [Nat.shiftRight_eq_div_pow]
    omega
  unfold pairCh
  apply Int32.toBitVec_inj.mp
  apply BitVec.eq_of_toNat_eq
  have f0 : ((0 : Int32) &&& 31) = 0 := by decide
  have f8 : ((8 : Int32) &&& 31) = 8 := by decide
  rw [f0, f8]
  have g : (((lo8 c &&& 255) <<< (0 : Int32)) ||| ((hi8 c &&& 255) <<< (8 : Int32))).toBitVec.toNat = c.toBitVec.toNat := by
    rw [Int32.toBitVec_or, Int32.toBitVec_shiftLeft, Int32.toBitVec_shiftLeft]
    have s0 : ((0 : Int32).toBitVec.smod 32) = 0#32 := by decide
    have s8 : ((8 : Int32).toBitVec.smod 32) = 8#32 := by decide
    rw [s0, s8, BitVec.toNat_or]
    simp only [BitVec.shiftLeft_eq', BitVec.toNat_shiftLeft, a1, a2]
    show (c.toBitVec.toNat % 256) <<< 0 % 2 ^ 32 ||| (c.toBitVec.toNat / 256) <<< 8 % 2 ^ 32 = _
    rw [Nat.shiftLeft_zero, Nat.mod_eq_of_lt (show c.toBitVec.toNat % 256 < 2 ^ 32 by omega), Nat.mod_eq_of_lt (show (c.toBitVec.toNat / 256) <<< 8 < 2 ^ 32 by rw [Nat.shiftLeft_eq]; omega), Nat.or_comm, ← Nat.shiftLeft_add_eq_or_of_lt (by omega), Nat.shiftLeft_eq]
    omega
  show BitVec.toNat (((((lo8 c &&& 255) <<< (0 : Int32)) ||| ((hi8 c &&& 255) <<< (8 : Int32))).toBitVec.setWidth 16).setWidth 32) = _
  rw [BitVec.toNat_setWidth, BitVec.toNat_setWidth, g]
  omega
end StrChars
namespace StrChars
open Jvm Sem ClassFile Op Lib Jvm.Stand Jvm.Free.XT Jvm.Free.ALB Jvm.Free.JM Jvm.Free
open Jvm.Lib.Cold (StaticIs)
theorem shr1 {n : Nat} (h : 2 * n < 2 ^ 31) : Int32.ofNat (2 * n) >>> ((1 : Int32) &&& 31) = Int32.ofNat n := by
  have e : ((1 : Int32) &&& 31) = 1 := by decide
  rw [e]
  apply Int32.toBitVec_inj.mp
  rw [Int32.toBitVec_shiftRight]
  have e1 : ((1 : Int32).toBitVec.smod 32) = 1#32 := by decide
  have hm : (BitVec.ofNat 32 (2 * n)).toNat = 2 * n := by rw [BitVec.toNat_ofNat, Nat.mod_eq_of_lt (by omega)]
  rw [e1, BitVec.sshiftRight_eq']
  apply BitVec.eq_of_toNat_eq
  show ((BitVec.ofNat 32 (2 * n)).sshiftRight 1).toNat = (BitVec.ofNat 32 n).toNat
  rw [BitVec.toNat_sshiftRight_of_msb_false (by rw [BitVec.msb_eq_false_iff_two_mul_lt, hm]; omega), hm, BitVec.toNat_ofNat, Nat.shiftRight_eq_div_pow]
  omega
/-- the array's cell V codes the n chars f 0 .. f (n - 1) by the coder cd, as the JDK does: coder 1 just where some char is above 255 -/
def Cod (cd : Int32) (n : Nat) (f : Nat → Int32) (V : Cell) : Prop := (cd = 0 ∧ V.slots.size = n ∧ ∀ j, j < n → V.slots[j]? = some (.int (lo8 (f j))) ∧ ¬ 255 < f j) ∨ (cd = 1 ∧ V.slots.size = 2 * n ∧ (∀ j, j < n → V.slots[2 * j]? = some (.int (lo8 (f j))) ∧ V.slots[2 * j + 1]? = some (.int (hi8 (f j)))) ∧ ∃ j, j < n ∧ 255 < f j)
theorem Cod.cd {cd : Int32} {n : Nat} {f : Nat → Int32} {V : Cell} (h : Cod cd n f V) : cd = 0 ∨ cd = 1 := h.imp (fun q => q.1) fun q => q.1
theorem Cod.len {cd : Int32} {n : Nat} {f : Nat → Int32} {V : Cell} (h : Cod cd n f V) (hs : V.slots.size < 2 ^ 31) : Int32.ofNat V.slots.size >>> (cd &&& 31) = Int32.ofNat n := by
  rcases h with ⟨rfl, h, -⟩ | ⟨rfl, h, -⟩
  · rw [shr0, h]
  · rw [h, shr1 (by omega)]
/-- **x is a String of the n chars f 0 .. f (n - 1)**, Latin-1 or UTF-16; its array at t has the cell V -/
def Txt (x t : Addr) (V : Cell) (cd : Int32) (n : Nat) (f : Nat → Int32) (U : State) : Prop := Exact "java/lang/String" x U ∧ Has x "java/lang/String" "value" "[B" (.ref t) U ∧ Has x "java/lang/String" "coder" "B" (.int cd) U ∧ XT.Arr .byte t V U ∧ Cod cd n f V ∧ ∀ j, j < n → ¬ f j < 0 ∧ ¬ 65535 < f j
theorem Txt.mv {x t : Addr} {V : Cell} {cd : Int32} {n : Nat} {f : Nat → Int32} {U U' : State} (h : Txt x t V cd n f U) (hal : U.vm.Alike U'.vm) (hh : U'.heap = U.heap) : Txt x t V cd n f U' := ⟨h.1.mv hal hh, h.2.1.mv hal hh, h.2.2.1.mv hal hh, h.2.2.2.1.mv hal hh, h.2.2.2.2⟩
namespace Cdr
def yN : MethodName := ⟨"java/lang/String", "coder", "()B"⟩
abbrev yB : ByteArray := jdk_42_method_152_code
theorem d0 : decode yB 0 = .ok (.getstatic 38, 3) := by decide +kernel
theorem d3 : decode yB 3 = .ok (.ifCond (.eq) 10, 3) := by decide +kernel
theorem d6 : decode yB 6 = .ok (.aload_n 0, 1) := by decide +kernel
theorem d7 : decode yB 7 = .ok (.getfield 15, 3) := by decide +kernel
theorem d10 : decode yB 10 = .ok (.goto 4, 3) := by decide +kernel
theorem d14 : decode yB 14 = .ok (.ireturn, 1) := by decide +kernel
def site : List Cond := [.fieldLink "java/lang/String" 38 "java/lang/String" "COMPACT_STRINGS" "Z", .fieldLink "java/lang/String" 15 "java/lang/String" "coder" "B"]
def tab : Cond := tabOf yN yB 1 (some .byte) site
def P (x : Addr) (cd z : Int32) (args : Array Value) (s : State) : Prop := args = #[.ref x] ∧ Has x "java/lang/String" "coder" "B" (.int cd) s ∧ (cd = 0 ∨ cd = 1) ∧ StaticIs s "java/lang/String" "COMPACT_STRINGS" "Z" (.int z) ∧ ¬ z = 0
def E (cd : Int32) (r : Option Value) (s u : State) : Prop := XT.PureE (some (.int cd)) r s u
theorem law (l : Launch) (x : Addr) (cd z : Int32) : Law l yN 1 0 0 0 yB 1 (some .byte) site (P x cd z) (E cd) [] 0 0 := by
  refine Law.of_walk (plainFor_of_name (by decide +kernel)) (by decide +kernel) (by decide +kernel) (by decide) (fun _ _ h => by rw [h.1]; rfl) (fun _ U U' hal hh h => ⟨h.1, h.2.1.mv hal hh, h.2.2.1, h.2.2.2.1.there hal hh, h.2.2.2.2⟩) (fun r U U' V V' h1 hal h2 h => XT.PureE.mv r U U' V V' h1 hal h2 h) ?_
  intro p e s m args below meth c s₁ X0 hexec hbytes hml hret hlk hnm hown hh0 W hP
  obtain ⟨rfl, hx, hc, s1, hz⟩ := hP
  have c1 : Steps p.tables e below (s₁.setTop (entryFrame m #[.ref x] 1)) (s₁.setTop (mkF m 0 #[.val (.ref x)] [])) := entry rfl
  obtain ⟨T2, X2, q2, st2⟩ := X0.sget hexec hown (wk W (.fieldLink "java/lang/String" 38 "java/lang/String" "COMPACT_STRINGS" "Z")) s1 (fun _ _ h => by rw [hh0]; exact h) (g := (mkF m 0 #[.val (.ref x)] [])) rfl (hb hbytes d0)
  have hh2 := q2.trans hh0
  have c3 : Steps p.tables e below (s₁.setTop (entryFrame m #[.ref x] 1)) (T2.setTop (mkF m 7 #[.val (.ref x)] [.ref x])) := (c1.trans (st2 _ (Steps.refl _))).trans (by
    refine XS.ifNo X2.here hexec rfl (hb hbytes d3) rfl (i0_eq_f hz) ?_
    refine XS.aloadN X2.here hexec rfl (hb hbytes d6) rfl rfl ?_
    exact Steps.refl _)
  obtain ⟨T4, X4, q4, st4⟩ := X2.hget hexec hown (wk W (.fieldLink "java/lang/String" 15 "java/lang/String" "coder" "B")) (hx.mv X2.warmed.alike hh2) (g := (mkF m 7 #[.val (.ref x)] [.ref x])) rfl (rest := []) rfl (hb hbytes d7)
  have c5 : Steps p.tables e below (s₁.setTop (entryFrame m #[.ref x] 1)) (T4.setTop (mkF m 14 #[.val (.ref x)] [.int cd])) := (c3.trans (st4 _ (Steps.refl _))).trans (by
    refine XS.goto X4.here hexec rfl (pc0 := 10) rfl (hb hbytes d10) (by decide) rfl ?_
    exact Steps.refl _)
  exact ⟨T4, some (.int cd), _, _, _, X4, rfl, rfl, rfl, (fun h => by cases h), ⟨rfl, q4.trans hh2⟩, fun fs hl => c5.trans (X4.ireturnOut hexec hret (by rcases hc with rfl | rfl <;> rfl) (Or.inr (Or.inr (Or.inl rfl))) (hb hbytes d14) hl)⟩
end Cdr
namespace Len
def yN : MethodName := ⟨"java/lang/String", "length", "()I"⟩
abbrev yB : ByteArray := jdk_42_method_54_code
theorem d0 : decode yB 0 = .ok (.aload_n 0, 1) := by decide +kernel
theorem d1 : decode yB 1 = .ok (.getfield 9, 3) := by decide +kernel
theorem d4 : decode yB 4 = .ok (.arraylength, 1) := by decide +kernel
theorem d5 : decode yB 5 = .ok (.aload_n 0, 1) := by decide +kernel
theorem d6 : decode yB 6 = .ok (.invokevirtual 335, 3) := by decide +kernel
theorem d9 : decode yB 9 = .ok (.ishr, 1) := by decide +kernel
theorem d10 : decode yB 10 = .ok (.ireturn, 1) := by decide +kernel
def site : List Cond := [.fieldLink "java/lang/String" 9 "java/lang/String" "value" "[B", Cdr.tab] ++ virtW "java/lang/String" 335 "java/lang/String" Cdr.yN Cdr.yN
def tab : Cond := tabOf yN yB 1 (some .int) site
def P (x t : Addr) (V : Cell) (cd : Int32) (n : Nat) (f : Nat → Int32) (z : Int32) (args : Array Value) (s : State) : Prop := args = #[.ref x] ∧ Txt x t V cd n f s ∧ StaticIs s "java/lang/String" "COMPACT_STRINGS" "Z" (.int z) ∧ ¬ z = 0
def E (n : Nat) (r : Option Value) (s u : State) : Prop := XT.PureE (some (.int (Int32.ofNat n))) r s u
/-- length() of a String of n chars, in either coding -/
theorem law (l : Launch) (x t : Addr) (V : Cell) (cd : Int32) (n : Nat) (f : Nat → Int32) (z : Int32) : Law l yN 1 0 1 13 yB 1 (some .int) site (P x t V cd n f z) (E n) [] 0 0 := by
  refine Law.of_walk (plainFor_of_name (by decide +kernel)) (by decide +kernel) (by decide +kernel) (by decide) (fun _ _ h => by rw [h.1]; rfl) (fun _ U U' hal hh h => ⟨h.1, h.2.1.mv hal hh, h.2.2.1.there hal hh, h.2.2.2⟩) (fun r U U' V V' h1 hal h2 h => XT.PureE.mv r U U' V V' h1 hal h2 h) ?_
  intro p e s m args below meth c s₁ X0 hexec hbytes hml hret hlk hnm hown hh0 W hP
  obtain ⟨rfl, hx, s1, hz⟩ := hP
  have v31 := hx.2.2.2.1.2.2.2
  have c1 : Steps p.tables e below (s₁.setTop (entryFrame m #[.ref x] 1)) (s₁.setTop (mkF m 1 #[.val (.ref x)] [.ref x])) := Steps.trans (entry rfl) (by
    show Steps p.tables e below (s₁.setTop (mkF m 0 #[.val (.ref x)] [])) _
    refine XS.aloadN X0.here hexec rfl (hb hbytes d0) rfl rfl ?_
    exact Steps.refl _)
  obtain ⟨T2, X2, q2, st2⟩ := X0.hget hexec hown (wk W (.fieldLink "java/lang/String" 9 "java/lang/String" "value" "[B")) (hx.mv X0.warmed.alike hh0).2.1 (g := (mkF m 1 #[.val (.ref x)] [.ref x])) rfl (rest := []) rfl (hb hbytes d1)
  have hh2 := q2.trans hh0
  have hx2 := hx.mv X2.warmed.alike hh2
  have c3 : Steps p.tables e below (s₁.setTop (entryFrame m #[.ref x] 1)) (T2.setTop (mkF m 6 #[.val (.ref x)] [.ref x, .int (Int32.ofNat V.slots.size)])) := (c1.trans (st2 _ (Steps.refl _))).trans (by
    refine X2.alen hexec hx2.2.2.2.1 rfl rfl (hb hbytes d4) ?_
    refine XS.aloadN X2.here hexec rfl (hb hbytes d5) rfl rfl ?_
    exact Steps.refl _)
  obtain ⟨v4, T4, X4, E4, g4⟩ := X2.callV hexec (Cdr.law l x cd z) hown (wks W (virtW "java/lang/String" 335 "java/lang/String" Cdr.yN Cdr.yN)) rfl (by decide) (wk W Cdr.tab) (W := 1) (Nat.le_of_ble_eq_true rfl) (Nat.le_of_ble_eq_true rfl) (Nat.le_refl _) (Nat.le_refl _) (hx2.1.fc X2.warmed.alike) hx2.1.is (g := (mkF m 6 #[.val (.ref x)] [.ref x, .int (Int32.ofNat V.slots.size)])) rfl (by rw [hml]; rfl) c3 (argsL := []) (rest := [.int (Int32.ofNat V.slots.size)]) rfl rfl (by show 2 * 0 + (1 + 0) ≤ _; decide) (hb hbytes d6) (⟨rfl, hx2.2.2.1, hx.2.2.2.2.1.cd, s1.there X2.warmed.alike hh2, hz⟩)
  obtain ⟨rfl, q4⟩ := E4
  have c5 : Steps p.tables e below (s₁.setTop (entryFrame m #[.ref x] 1)) (T4.setTop (mkF m 10 #[.val (.ref x)] [.int (Int32.ofNat V.slots.size >>> (cd &&& 31))])) := Steps.trans g4 (by
    refine ishr X4.here hexec rfl (hb hbytes d9) rfl ?_
    exact Steps.refl _)
  rw [hx.2.2.2.2.1.len v31] at c5
  exact ⟨T4, some (.int (Int32.ofNat n)), _, _, _, X4, rfl, rfl, rfl, (fun h => by cases h), ⟨rfl, q4.trans hh2⟩, fun fs hl => c5.trans (X4.ireturnOut hexec hret rfl (Or.inl rfl) (hb hbytes d10) hl)⟩
theorem pays {l : Launch} {R : Room} {p : Program} {e : Env} {below : List Frame} {s : State} {sargs : Array Value} {len W : Nat} (x t : Addr) (V : Cell) (cd : Int32) (n : Nat) (f : Nat → Int32) (z : Int32) (htab : tab.before sargs s = true) (hfr : 2 ≤ R.frames) (hlo : W + 25 ≤ R.locals) :
    Back l R p e below s sargs yN len W (fun A₁ a₁ => A₁.cells + 0 ≤ R.cells ∧ A₁.slots + 0 ≤ R.slots ∧ P x t V cd n f z a₁ A₁.U) (fun A₁ _ v₁ B₁ => E n v₁ A₁.U B₁.U ∧ B₁.locs = A₁.locs ++ [] ∧ B₁.cells = A₁.cells + 0 ∧ B₁.slots = A₁.slots + 0) :=
  (law l x t V cd n f z).pays htab hfr (by omega)
end Len
end StrChars
namespace StrChars.Road
open Jvm Sem ClassFile Op Lib Jvm.Stand Jvm.Free Jvm.Free.XT
open Jvm.Lib.Cold (StaticIs)
theorem consq {a : Array Value} {s : State} {c : Jvm.Cond} {L : List Jvm.Cond} (h0 : c.before a s = true) (h : ∀ w ∈ L, w.before a s = true) : ∀ w ∈ c :: L, w.before a s = true := fun w hw => (List.mem_cons.mp hw).elim (fun e => e ▸ h0) (h w)
/-- the words of String.length(), either coding -/
abbrev wordsLen : List Jvm.Cond := [.code Len.yN Len.yB 1 (some .int), .initialized ST, .fieldLink ST 9 ST "value" "[B", .fieldLink ST 38 ST "COMPACT_STRINGS" "Z", .fieldLink ST 15 ST "coder" "B", .code Cdr.yN Cdr.yB 1 (some .byte), .methodLink ST 335 Cdr.yN, .declares Cdr.yN, .selects ST Cdr.yN Cdr.yN, .instanceMethod Cdr.yN]
theorem tabLen_of {a : Array Value} {s : State} (h : ∀ w ∈ wordsLen, w.before a s = true) : Len.tab.before a s = true := by
  have hc : Cdr.tab.before a s = true := unparts (wk h (.code Cdr.yN Cdr.yB 1 (some .byte))) (wks h (.initialized Cdr.yN.cls :: Cdr.site))
  have q := consq hc h
  exact unparts (wk q (.code Len.yN Len.yB 1 (some .int))) (wks q (.initialized Len.yN.cls :: Len.site))
theorem movedLen {Z s : State} {a0 args : Array Value} (hZ : Z.Warmed39 s.vm) (hw : ∀ d ∈ wordsLen, d.before a0 Z = true) : ∀ d ∈ wordsLen, d.before args s = true := fun d hd => by
  have q := hw d hd
  have t : ∀ d ∈ wordsLen, d = .arrayClass .byte ∨ (d.onTables && d.keepsFace) = true := by decide +kernel
  rcases t d hd with rfl | t
  · exact RoadKit.mvA hZ q
  · exact RoadKit.mv hZ q t
/-- the bytes of the chars cs, low before high -/
def wideBytes : List Int32 → List Value
  | [] => []
  | c :: cs => .int (lo8 c) :: .int (hi8 c) :: wideBytes cs
theorem wide_lo (d : Value) : ∀ (cs : List Int32) (j : Nat), j < cs.length → (wideBytes cs).getD (2 * j) d = .int (lo8 (cs.getD j 0))
  | [], j, h => absurd h (Nat.not_lt_zero j)
  | c :: cs, 0, _ => rfl
  | c :: cs, j + 1, h => by
    have q := wide_lo d cs j (by simpa using h)
    rw [show 2 * (j + 1) = 2 * j + 1 + 1 from by omega]
    simpa [wideBytes] using q
theorem wide_hi (d : Value) : ∀ (cs : List Int32) (j : Nat), j < cs.length → (wideBytes cs).getD (2 * j + 1) d = .int (hi8 (cs.getD j 0))
  | [], j, h => absurd h (Nat.not_lt_zero j)
  | c :: cs, 0, _ => rfl
  | c :: cs, j + 1, h => by
    have q := wide_hi d cs j (by simpa using h)
    rw [show 2 * (j + 1) + 1 = 2 * j + 1 + 1 + 1 from by omega]
    simpa [wideBytes] using q
theorem low_at (d : Value) (cs : List Int32) (j : Nat) (h : j < cs.length) : (cs.map fun c => Value.int (lo8 c)).getD j d = .int (lo8 (cs.getD j 0)) := by
  simp [List.getD_eq_getElem?_getD, h]
/-- an array of N2 bytes vs codes the chars cs by the coder cd -/
def CodA (cs : List Int32) (cd N2 : Int32) (vs : List Value) : Prop := (cd = 0 ∧ N2 = Int32.ofNat cs.length ∧ vs = (cs.map fun c => Value.int (lo8 c)) ∧ ∀ c ∈ cs, ¬ 255 < c) ∨ (cd = 1 ∧ N2 = Int32.ofNat (2 * cs.length) ∧ vs = wideBytes cs ∧ ∃ c ∈ cs, 255 < c)
theorem CodA.cod {cs : List Int32} {cd N2 : Int32} {vs : List Value} {V : Cell} (h : CodA cs cd N2 vs) (hn : 2 * cs.length < 2 ^ 31) (hs : V.slots.size = N2.toNatClampNeg) (hv : RoadKit.Has V vs (.int 0)) : Cod cd cs.length (fun j => cs.getD j 0) V := by
  rcases h with ⟨rfl, rfl, rfl, h⟩ | ⟨rfl, rfl, rfl, c, hc, hw⟩
  · rw [n32 (by omega)] at hs
    exact Or.inl ⟨rfl, hs, fun j hj => ⟨by rw [hv j (by omega), low_at _ _ _ hj], by
      have e : cs.getD j 0 = cs[j] := by simp [List.getD_eq_getElem?_getD, hj]
      show ¬ 255 < cs.getD j 0
      rw [e]; exact h _ (List.getElem_mem _)⟩⟩
  · rw [n32 (by omega)] at hs
    obtain ⟨j, hj, rfl⟩ := List.getElem_of_mem hc
    exact Or.inr ⟨rfl, hs, fun j hj => ⟨by rw [hv _ (by omega), wide_lo _ _ _ hj], by rw [hv _ (by omega), wide_hi _ _ _ hj]⟩, j, hj, by
      have e : cs.getD j 0 = cs[j] := by simp [List.getD_eq_getElem?_getD, hj]
      show 255 < cs.getD j 0
      rw [e]; exact hw⟩
/-- an object of exactly java/lang/String, its two fields found: as the laws ask it -/
theorem strObj {Z U : State} {a0 : Array Value} {kI : Nat} (wi : (Jvm.Cond.instantiable ST kI).before a0 Z = true) (al : Z.vm.Alike U.vm) {x : Addr} {v0 c0 : Value} (E : RoadKit.Exa Z U.heap x ST) (V : RoadKit.Fld Z U.heap x ST "value" "[B" v0) (C : RoadKit.Fld Z U.heap x ST "coder" "B" c0) :
    ∃ (D : Cell) (fV fC : Field), Blank ST x D U ∧ Found ST "value" "[B" fV U ∧ Found ST "coder" "B" fC U ∧ D.slots[fV.slot]? = some v0 ∧ D.slots[fC.slot]? = some c0 ∧ RoadKit.slotOf Z ST "value" "[B" = fV.slot ∧ RoadKit.slotOf Z ST "coder" "B" = fC.slot := by
  obtain ⟨D, cfV, kV, iV, fV, hD, gV, stV, knV, obV, asV, slV⟩ := V
  obtain ⟨D', cfC, kC, iC, fC, hD', gC, stC, -, -, asC, slC⟩ := C
  cases hD.symm.trans hD'
  obtain ⟨D2, kD, e1, e2, e3, e4, e5⟩ := E
  cases hD.symm.trans e1
  obtain ⟨c2, k2, i1, i2, i3, -⟩ := Cond.instantiable_spec wi
  cases e2.symm.trans i1
  cases e3.symm.trans i2
  obtain ⟨kU, u1, u2⟩ := al.2.2 _ _ e3
  exact ⟨D, fV, fC, ⟨hD, ⟨knV, fun q hq => by rw [hq] at obV; cases obV⟩, by rw [al.findClass]; exact e2, kU, u1, by rw [u2]; exact i3, by rw [u2]; exact e5 i3⟩, ⟨SBG.found_only al ⟨cfV, kV, iV, gV⟩, stV⟩, ⟨SBG.found_only al ⟨cfC, kC, iC, gC⟩, stC⟩, slV, slC, by simp [RoadKit.slotOf, gV], by simp [RoadKit.slotOf, gC]⟩
theorem sta_is {Z U : State} (al : Z.vm.Alike U.vm) {C n d : String} {v : Value} (S : RoadKit.Sta Z U.heap C n d v) : StaticIs U C n d v := by
  obtain ⟨cfS, iS, kS, fS, st, cS, t1, t2, t3, t4, t5, t6, t7⟩ := S
  exact StaticIs.there (s := { Z with heap := U.heap }) ⟨cfS, iS, kS, fS, st, cS, t1, t2, t3, t4, t5, (fun q => by rw [q] at t6; cases t6), t7⟩ al rfl
/-- **length() OF SUCH A STRING** -/
theorem lenW {p : Program} {l : Launch} {e : Env} {R : Room} {s : State} {args : Array Value} {below : List Frame} {len W : Nat} {Z : State} {a0 : Array Value} {h : Heap} (hZ : Z.Warmed39 s.vm) (hw : ∀ d ∈ wordsLen, d.before a0 Z = true) {kI : Nat} (wi : (Jvm.Cond.instantiable ST kI).before a0 Z = true)
    {x t : Addr} {kb : ClassId} {cs : List Int32} {cd N2 z : Int32} {vs : List Value} (E : RoadKit.Exa Z h x ST) (V : RoadKit.Fld Z h x ST "value" "[B" (.ref t)) (C : RoadKit.Fld Z h x ST "coder" "B" (.int cd)) (K : RoadKit.Arv Z h t kb .byte N2 vs (.int 0)) (hc : CodA cs cd N2 vs) (hb : ∀ c ∈ cs, ¬ c < 0 ∧ ¬ (65535 : Int32) < c)
    (S : RoadKit.Sta Z h ST "COMPACT_STRINGS" "Z" (.int z)) (hz : ¬ z = 0) (l2 : cs.length ≤ 4000) (hfr : 2 ≤ R.frames) (hlo : W + 25 ≤ R.locals) :
    Back l R p e below s args (⟨"java/lang/String", "length", "()I"⟩ : MethodName) len W (fun P a => a = #[.ref x] ∧ P.U.heap = h ∧ P.cells + 0 ≤ R.cells ∧ P.slots + 0 ≤ R.slots)
      (fun P _ v B => ∃ L, (v = some (.int (Int32.ofNat cs.length)) ∧ L = [] ∧ B.U.heap = h) ∧ B.locs = P.locs ++ L ∧ B.cells = P.cells + 0 ∧ B.slots = P.slots + 0) := by
  obtain ⟨A, K1, K2, K3, K4, K5, K6⟩ := K
  have hcod := hc.cod (by omega) K3 K5
  intro m meth c P g ig mk a X hg hsize hdg hW hn hp'
  obtain ⟨rfl, rfl, r1, r2⟩ := hp'
  have al : Z.vm.Alike P.U.vm := hZ.alike.trans X.warmed.alike
  obtain ⟨D, fV, fC, hB, F1, F2, g1, g2, -, -⟩ := strObj wi al E V C
  have hx : Txt x t A cd cs.length (fun j => cs.getD j 0) P.U := ⟨⟨_, hB.2.2.1, D, hB.1, rfl, by cases q : D.vm <;> first | rfl | exact absurd q (hB.2.1.2 _)⟩, Has.of hB F1 g1, Has.of hB F2 g2, ⟨K1.1, State.isArrayOf_alike al K1.2.1, K1.2.2, by rcases hcod with ⟨-, q, -⟩ | ⟨-, q, -⟩ <;> omega⟩, hcod, fun j hj => by
    have e : cs.getD j 0 = cs[j] := by simp [List.getD_eq_getElem?_getD, hj]
    show ¬ cs.getD j 0 < 0 ∧ ¬ 65535 < cs.getD j 0
    rw [e]; exact hb _ (List.getElem_mem _)⟩
  obtain ⟨v, B, X', ⟨⟨hv, hh⟩, hl, hk, hs⟩, st⟩ := Len.pays x t A cd cs.length (fun j => cs.getD j 0) z (tabLen_of (movedLen hZ hw)) hfr hlo m meth c P g ig mk _ X hg hsize hdg hW hn ⟨r1, r2, rfl, hx, sta_is al S, hz⟩
  exact ⟨v, B, X', ⟨[], ⟨hv, rfl, hh⟩, hl, hk, hs⟩, st⟩
end StrChars.Road
namespace StrChars
open Jvm Sem ClassFile Op Lib Jvm.Stand Jvm.Free.XT Jvm.Free.ALB Jvm.Free.JM Jvm.Free
open Jvm.Lib.Cold (StaticIs)
/-- what place i of a byte[]'s cell holds -/
def yv (A : Cell) (i : Nat) : Int32 := match A.slots[i]? with | some (.int x) => x | _ => 0
theorem yv_get {a : Addr} {A : Cell} {U : State} (h : XT.Arr .byte a A U) (ht : Typed .byte A) {i : Nat} (hi : i < A.slots.size) : A.slots[i]? = some (.int (yv A i)) := by
  have e := Array.getElem?_eq_getElem hi
  have f := ht i _ e
  unfold yv; rw [e]
  generalize A.slots[i] = v at f
  cases v <;> simp [fits] at f ⊢
/-- the two arrays are equal, place for place -/
def EqC (A B : Cell) : Prop := A.slots.size = B.slots.size ∧ ∀ i, i < A.slots.size → yv A i = yv B i
/-- a boolean that says whether p -/
def Says01 (q : Prop) (r : Option Value) (s u : State) : Prop := ∃ v : Int32, r = some (.int v) ∧ u.heap = s.heap ∧ ((v = 1 ∧ q) ∨ (v = 0 ∧ ¬ q))
theorem Says01.mv {q : Prop} : ∀ r (U U' V V' : State), U'.heap = U.heap → V.vm.Alike V'.vm → V'.heap = V.heap → Says01 q r U V → Says01 q r U' V' :=
  fun r U U' V V' h1 _ h2 ⟨v, a, b, c⟩ => ⟨v, a, by rw [h1, h2]; exact b, c⟩
namespace LEq
def yN : MethodName := ⟨"java/lang/StringLatin1", "equals", "([B[B)Z"⟩
abbrev yB : ByteArray := jdk_43_method_13_code
theorem d0 : decode yB 0 = .ok (.aload_n 0, 1) := by decide +kernel
theorem d1 : decode yB 1 = .ok (.arraylength, 1) := by decide +kernel
theorem d2 : decode yB 2 = .ok (.aload_n 1, 1) := by decide +kernel
theorem d3 : decode yB 3 = .ok (.arraylength, 1) := by decide +kernel
theorem d4 : decode yB 4 = .ok (.if_icmp (.ne) 30, 3) := by decide +kernel
theorem d7 : decode yB 7 = .ok (.iconst 0, 1) := by decide +kernel
theorem d8 : decode yB 8 = .ok (.istore_n 2, 1) := by decide +kernel
theorem d9 : decode yB 9 = .ok (.iload_n 2, 1) := by decide +kernel
theorem d10 : decode yB 10 = .ok (.aload_n 0, 1) := by decide +kernel
theorem d11 : decode yB 11 = .ok (.arraylength, 1) := by decide +kernel
theorem d12 : decode yB 12 = .ok (.if_icmp (.ge) 20, 3) := by decide +kernel
theorem d15 : decode yB 15 = .ok (.aload_n 0, 1) := by decide +kernel
theorem d16 : decode yB 16 = .ok (.iload_n 2, 1) := by decide +kernel
theorem d17 : decode yB 17 = .ok (.baload, 1) := by decide +kernel
theorem d18 : decode yB 18 = .ok (.aload_n 1, 1) := by decide +kernel
theorem d19 : decode yB 19 = .ok (.iload_n 2, 1) := by decide +kernel
theorem d20 : decode yB 20 = .ok (.baload, 1) := by decide +kernel
theorem d21 : decode yB 21 = .ok (.if_icmp (.eq) 5, 3) := by decide +kernel
theorem d24 : decode yB 24 = .ok (.iconst 0, 1) := by decide +kernel
theorem d25 : decode yB 25 = .ok (.ireturn, 1) := by decide +kernel
theorem d26 : decode yB 26 = .ok (.iinc 2 1, 3) := by decide +kernel
theorem d29 : decode yB 29 = .ok (.goto (-20), 3) := by decide +kernel
theorem d32 : decode yB 32 = .ok (.iconst 1, 1) := by decide +kernel
theorem d33 : decode yB 33 = .ok (.ireturn, 1) := by decide +kernel
theorem d34 : decode yB 34 = .ok (.iconst 0, 1) := by decide +kernel
theorem d35 : decode yB 35 = .ok (.ireturn, 1) := by decide +kernel
def site : List Cond := []
def tab : Cond := tabOf yN yB 3 (some .boolean) site
def P (a : Addr) (A : Cell) (b : Addr) (B : Cell) (args : Array Value) (s : State) : Prop := args = #[.ref a, .ref b] ∧ XT.Arr .byte a A s ∧ Typed .byte A ∧ XT.Arr .byte b B s ∧ Typed .byte B
/-- whether two byte[] are equal, place for place -/
theorem law (l : Launch) (a : Addr) (A : Cell) (b : Addr) (B : Cell) : Law l yN 2 2 0 0 yB 3 (some .boolean) site (P a A b B) (Says01 (EqC A B)) [] 0 0 := by
  refine Law.of_walk (plainFor_of_name (by decide +kernel)) (by decide +kernel) (by decide +kernel) (by decide) (fun _ _ h => by rw [h.1]; rfl) (fun _ U U' hal hh h => ⟨h.1, h.2.1.mv hal hh, h.2.2.1, h.2.2.2.1.mv hal hh, h.2.2.2.2⟩) (fun r U U' V V' h1 hal h2 h => Says01.mv r U U' V V' h1 hal h2 h) ?_
  intro p e s m args below meth c s₁ X0 hexec hbytes hml hret hlk hnm hown hh0 W hP
  obtain ⟨rfl, hA, tA, hB, tB⟩ := hP
  have a31 := hA.2.2.2
  have b31 := hB.2.2.2
  have hA0 := hA.mv X0.warmed.alike hh0
  have hB0 := hB.mv X0.warmed.alike hh0
  have c1 : Steps p.tables e below (s₁.setTop (entryFrame m #[.ref a, .ref b] 3)) (s₁.setTop (mkF m 0 #[.val (.ref a), .val (.ref b), .unset] [])) := entry rfl
  have c2 : Steps p.tables e below (s₁.setTop (entryFrame m #[.ref a, .ref b] 3)) (s₁.setTop (mkF m 4 #[.val (.ref a), .val (.ref b), .unset] [.int (Int32.ofNat B.slots.size), .int (Int32.ofNat A.slots.size)])) := c1.trans (by
    refine XS.aloadN X0.here hexec rfl (hb hbytes d0) rfl rfl ?_
    refine X0.alen hexec hA0 rfl rfl (hb hbytes d1) ?_
    refine XS.aloadN X0.here hexec rfl (hb hbytes d2) rfl rfl ?_
    refine X0.alen hexec hB0 rfl rfl (hb hbytes d3) ?_
    exact Steps.refl _)
  by_cases hs : A.slots.size = B.slots.size
  · have c3 : Steps p.tables e below (s₁.setTop (entryFrame m #[.ref a, .ref b] 3)) (s₁.setTop (mkF m 9 #[.val (.ref a), .val (.ref b), .val (.int 0)] [])) := c2.trans (by
      refine XS.icmpNo X0.here hexec rfl (hb hbytes d4) rfl (ii_ne_f (by rw [hs])) ?_
      refine iconstV X0.here hexec rfl 0 (hb hbytes d7) (by decide) ?_
      refine XS.istoreN X0.here hexec rfl (hb hbytes d8) rfl rfl ?_
      exact Steps.refl _)
    have loop : ∀ (r i : Nat), i + r = A.slots.size → (∀ j, j < i → yv A j = yv B j) → Steps p.tables e below (s₁.setTop (entryFrame m #[.ref a, .ref b] 3)) (s₁.setTop (mkF m 9 #[.val (.ref a), .val (.ref b), .val (.int (Int32.ofNat i))] [])) → ∃ (pc : Nat) (Ls : Array Slot) (v : Int32), (pc = 25 ∨ pc = 33) ∧ ((v = 1 ∧ EqC A B) ∨ (v = 0 ∧ ¬ EqC A B)) ∧ Steps p.tables e below (s₁.setTop (entryFrame m #[.ref a, .ref b] 3)) (s₁.setTop (mkF m pc Ls [.int v])) := by
      intro r
      induction r with
      | zero =>
        intro i hi he cl
        exact ⟨33, _, 1, Or.inr rfl, Or.inl ⟨rfl, hs, fun j hj => he j (by omega)⟩, cl.trans (by
          refine XS.iloadN X0.here hexec rfl (hb hbytes d9) rfl ?_
          refine XS.aloadN X0.here hexec rfl (hb hbytes d10) rfl rfl ?_
          refine X0.alen hexec hA0 rfl rfl (hb hbytes d11) ?_
          refine XS.icmpYes X0.here hexec rfl (pc0 := 12) rfl (hb hbytes d12) rfl (ii_ge_t (nlt32 (by omega) (by omega))) (by decide) rfl ?_
          refine iconstV X0.here hexec rfl 1 (hb hbytes d32) (by decide) ?_
          exact Steps.refl _)⟩
      | succ r ih =>
        intro i hi he cl
        have c4 : Steps p.tables e below (s₁.setTop (entryFrame m #[.ref a, .ref b] 3)) (s₁.setTop (mkF m 21 #[.val (.ref a), .val (.ref b), .val (.int (Int32.ofNat i))] [.int (yv B i), .int (yv A i)])) := cl.trans (by
          refine XS.iloadN X0.here hexec rfl (hb hbytes d9) rfl ?_
          refine XS.aloadN X0.here hexec rfl (hb hbytes d10) rfl rfl ?_
          refine X0.alen hexec hA0 rfl rfl (hb hbytes d11) ?_
          refine XS.icmpNo X0.here hexec rfl (hb hbytes d12) rfl (ii_ge_f (lt32 (by omega) (by omega))) ?_
          refine XS.aloadN X0.here hexec rfl (hb hbytes d15) rfl rfl ?_
          refine XS.iloadN X0.here hexec rfl (hb hbytes d16) rfl ?_
          refine X0.aget hexec hA0 rfl (yv_get hA tA (i := i) (by omega)) rfl rfl (hb hbytes d17) ?_
          refine XS.aloadN X0.here hexec rfl (hb hbytes d18) rfl rfl ?_
          refine XS.iloadN X0.here hexec rfl (hb hbytes d19) rfl ?_
          refine X0.aget hexec hB0 rfl (yv_get hB tB (i := i) (by omega)) rfl rfl (hb hbytes d20) ?_
          exact Steps.refl _)
        by_cases hv : yv A i = yv B i
        · have c5 : Steps p.tables e below (s₁.setTop (entryFrame m #[.ref a, .ref b] 3)) (s₁.setTop (mkF m 9 #[.val (.ref a), .val (.ref b), .val (.int (Int32.ofNat i + 1))] [])) := c4.trans (by
            refine XS.icmpYes X0.here hexec rfl (pc0 := 21) rfl (hb hbytes d21) rfl (ii_eq_t hv) (by decide) rfl ?_
            refine iincV X0.here hexec rfl 1 (hb hbytes d26) (by decide) rfl rfl ?_
            refine XS.goto X0.here hexec rfl (pc0 := 29) rfl (hb hbytes d29) (by decide) rfl ?_
            exact Steps.refl _)
          rw [succ32] at c5
          exact ih (i + 1) (by omega) (fun j hj => by
            by_cases e : j = i
            · rw [e]; exact hv
            · exact he j (by omega)) c5
        · exact ⟨25, _, 0, Or.inl rfl, Or.inr ⟨rfl, fun q => hv (q.2 i (by omega))⟩, c4.trans (by
            refine XS.icmpNo X0.here hexec rfl (hb hbytes d21) rfl (ii_eq_f hv) ?_
            refine iconstV X0.here hexec rfl 0 (hb hbytes d24) (by decide) ?_
            exact Steps.refl _)⟩
    obtain ⟨pc, Ls, v, hpc, hv, cz⟩ := loop A.slots.size 0 (by omega) (fun j hj => absurd hj (Nat.not_lt_zero j)) c3
    have nv : narrow .boolean (.int v) = .int v := by rcases hv with ⟨rfl, -⟩ | ⟨rfl, -⟩ <;> rfl
    rcases hpc with rfl | rfl
    · exact ⟨s₁, some (.int v), _, _, _, X0, rfl, rfl, rfl, (fun h => by cases h), ⟨v, rfl, hh0, hv⟩, fun fs hl => cz.trans (X0.ireturnOut hexec hret nv (Or.inr (Or.inl rfl)) (hb hbytes d25) hl)⟩
    · exact ⟨s₁, some (.int v), _, _, _, X0, rfl, rfl, rfl, (fun h => by cases h), ⟨v, rfl, hh0, hv⟩, fun fs hl => cz.trans (X0.ireturnOut hexec hret nv (Or.inr (Or.inl rfl)) (hb hbytes d33) hl)⟩
  · have c3 : Steps p.tables e below (s₁.setTop (entryFrame m #[.ref a, .ref b] 3)) (s₁.setTop (mkF m 35 #[.val (.ref a), .val (.ref b), .unset] [.int 0])) := c2.trans (by
      refine XS.icmpYes X0.here hexec rfl (pc0 := 4) rfl (hb hbytes d4) rfl (ii_ne_t (ne32 a31 b31 hs)) (by decide) rfl ?_
      refine iconstV X0.here hexec rfl 0 (hb hbytes d34) (by decide) ?_
      exact Steps.refl _)
    exact ⟨s₁, some (.int 0), _, _, _, X0, rfl, rfl, rfl, (fun h => by cases h), ⟨0, rfl, hh0, Or.inr ⟨rfl, fun q => hs q.1⟩⟩, fun fs hl => c3.trans (X0.ireturnOut hexec hret rfl (Or.inr (Or.inl rfl)) (hb hbytes d35) hl)⟩
end LEq
theorem Cod.ty {cd : Int32} {n : Nat} {f : Nat → Int32} {V : Cell} (h : Cod cd n f V) : Typed .byte V := fun i v hv => by
  have hi : i < V.slots.size := (Array.getElem?_eq_some_iff.mp hv).1
  rcases h with ⟨-, k1, k2⟩ | ⟨-, k1, k2, -⟩
  · rw [(k2 i (by omega)).1] at hv; cases hv; exact fits_lo8 _
  · rcases Nat.mod_two_eq_zero_or_one i with e | e
    · obtain ⟨j, rfl⟩ : ∃ j, i = 2 * j := ⟨i / 2, by omega⟩
      rw [(k2 j (by omega)).1] at hv; cases hv; exact fits_lo8 _
    · obtain ⟨j, rfl⟩ : ∃ j, i = 2 * j + 1 := ⟨i / 2, by omega⟩
      rw [(k2 j (by omega)).2] at hv; cases hv; exact fits_lo8 _
/-- the same text -/
def SameT (n : Nat) (f : Nat → Int32) (k : Nat) (g : Nat → Int32) : Prop := n = k ∧ ∀ j, j < n → f j = g j
theorem lo8_inj {x y : Int32} (h0 : ¬ x < 0) (h1 : ¬ 255 < x) (k0 : ¬ y < 0) (k1 : ¬ 255 < y) (h : lo8 x = lo8 y) : x = y := by
  rw [← lo8_mask h0 h1, ← lo8_mask k0 k1, h]
/-- arrays coded by one coder are equal just where the texts are -/
theorem Cod.eqv {cd : Int32} {n k : Nat} {f g : Nat → Int32} {V V' : Cell} (h : Cod cd n f V) (h' : Cod cd k g V') (hf : ∀ j, j < n → ¬ f j < 0 ∧ ¬ 65535 < f j) (hg : ∀ j, j < k → ¬ g j < 0 ∧ ¬ 65535 < g j) : EqC V V' ↔ SameT n f k g := by
  have yvv : ∀ {W : Cell} {i : Nat} {x : Int32}, W.slots[i]? = some (.int x) → yv W i = x := fun q => by unfold yv; rw [q]
  rcases h with ⟨rfl, k1, k2⟩ | ⟨rfl, k1, k2, -⟩
  · rcases h' with ⟨-, m1, m2⟩ | ⟨e, -⟩
    · constructor
      · rintro ⟨e1, e2⟩
        refine ⟨by omega, fun j hj => ?_⟩
        have q := e2 j (by omega)
        rw [yvv (k2 j hj).1, yvv (m2 j (by omega)).1] at q
        exact lo8_inj (hf j hj).1 (k2 j hj).2 (hg j (by omega)).1 (m2 j (by omega)).2 q
      · rintro ⟨rfl, e2⟩
        refine ⟨by omega, fun j hj => ?_⟩
        rw [yvv (k2 j (by omega)).1, yvv (m2 j (by omega)).1, e2 j (by omega)]
    · exact absurd e (by decide)
  · rcases h' with ⟨e, -⟩ | ⟨-, m1, m2, -⟩
    · exact absurd e (by decide)
    · constructor
      · rintro ⟨e1, e2⟩
        refine ⟨by omega, fun j hj => ?_⟩
        have q1 := e2 (2 * j) (by omega)
        have q2 := e2 (2 * j + 1) (by omega)
        rw [yvv (k2 j hj).1, yvv (m2 j (by omega)).1] at q1
        rw [yvv (k2 j hj).2, yvv (m2 j (by omega)).2] at q2
        rw [← pair_says (hf j hj).1 (hf j hj).2, ← pair_says (hg j (by omega)).1 (hg j (by omega)).2, q1, q2]
      · rintro ⟨rfl, e2⟩
        refine ⟨by omega, fun i hi => ?_⟩
        rcases Nat.mod_two_eq_zero_or_one i with e | e
        · obtain ⟨j, rfl⟩ : ∃ j, i = 2 * j := ⟨i / 2, by omega⟩
          rw [yvv (k2 j (by omega)).1, yvv (m2 j (by omega)).1, e2 j (by omega)]
        · obtain ⟨j, rfl⟩ : ∃ j, i = 2 * j + 1 := ⟨i / 2, by omega⟩
          rw [yvv (k2 j (by omega)).2, yvv (m2 j (by omega)).2, e2 j (by omega)]
/-- two codings differ: so do the texts -/
theorem Cod.dif {cd cd' : Int32} {n k : Nat} {f g : Nat → Int32} {V V' : Cell} (h : Cod cd n f V) (h' : Cod cd' k g V') (hne : ¬ cd = cd') : ¬ SameT n f k g := by
  rintro ⟨rfl, e⟩
  rcases h with ⟨rfl, -, k2⟩ | ⟨rfl, -, -, j, hj, hw⟩
  · rcases h' with ⟨rfl, -⟩ | ⟨-, -, -, j, hj, hw⟩
    · exact hne rfl
    · exact (k2 j hj).2 (by rw [e j hj]; exact hw)
  · rcases h' with ⟨-, -, m2⟩ | ⟨rfl, -⟩
    · exact (m2 j hj).2 (by rw [← e j hj]; exact hw)
    · exact hne rfl
/-- an object of exactly C is an instance of C -/
theorem cinst {p : Program} {l : Launch} {e : Env} {R : Room} {s : State} {m : MethodId} {args : Array Value} {below : List Frame} {meth : Method} {c : Code} {T : State} {locs : List Loc} {cells slots : Nat} (X : Stand p l e R s m args below meth c T locs cells slots) (hexec : p.tables.exec = Jvm.exec) {own C : String} {index : Nat} (hown : s.vm.findClass own = some m.cls) (hlink : (Cond.classLink own index C).before args s = true) {a : Addr} (hE : Exact C a T)
    {g : JFrame} (hg : g.method = m) {rest : List Value} (hstack : g.stack = .ref a :: rest) (hdg : decode c.code g.pc = .ok (.instanceof index, 3)) :
    ∃ T', Stand p l e R s m args below meth c T' locs cells slots ∧ T'.heap = T.heap ∧ ∀ target, Steps p.tables e below (T'.setTop { g with pc := g.pc + 3, stack := .int 1 :: rest }) target → Steps p.tables e below (T.setTop g) target := by
  obtain ⟨cB, h1, D, h2, h3, h4⟩ := hE
  have h1' : s.vm.findClass C = some cB := by rw [← X.warmed.alike.findClass]; exact h1
  obtain ⟨vm', X', st⟩ := X.instanceofYes hexec hown hlink h2 h4 h1' (by rw [h3]; exact Jvm.Free.SB.assignable_self _ _) hg hstack hdg
  exact ⟨_, X', rfl, st⟩
theorem cself {p : Program} {l : Launch} {e : Env} {R : Room} {s : State} {m : MethodId} {args : Array Value} {below : List Frame} {meth : Method} {c : Code} {T : State} {locs : List Loc} {cells slots : Nat} (X : Stand p l e R s m args below meth c T locs cells slots) (hexec : p.tables.exec = Jvm.exec) {own C : String} {index : Nat} (hown : s.vm.findClass own = some m.cls) (hlink : (Cond.classLink own index C).before args s = true) {a : Addr} (hE : Exact C a T)
    {g : JFrame} (hg : g.method = m) {rest : List Value} (hstack : g.stack = .ref a :: rest) (hdg : decode c.code g.pc = .ok (.checkcast index, 3)) :
    ∃ T', Stand p l e R s m args below meth c T' locs cells slots ∧ T'.heap = T.heap ∧ ∀ target, Steps p.tables e below (T'.setTop { g with pc := g.pc + 3, stack := .ref a :: rest }) target → Steps p.tables e below (T.setTop g) target := by
  obtain ⟨cB, h1, D, h2, h3, h4⟩ := hE
  have h1' : s.vm.findClass C = some cB := by rw [← X.warmed.alike.findClass]; exact h1
  obtain ⟨vm', X', st⟩ := X.checkcastYes hexec hown hlink h2 h4 h1' (by rw [h3]; exact Jvm.Free.SB.assignable_self _ _) hg hstack hdg
  exact ⟨_, X', rfl, fun t h => st t (by rw [← hstack] at h; exact h)⟩
namespace SEq
def yN : MethodName := ⟨"java/lang/String", "equals", "(Ljava/lang/Object;)Z"⟩
abbrev yB : ByteArray := jdk_42_method_66_code
theorem d0 : decode yB 0 = .ok (.aload_n 0, 1) := by decide +kernel
theorem d1 : decode yB 1 = .ok (.aload_n 1, 1) := by decide +kernel
theorem d2 : decode yB 2 = .ok (.if_acmp (.ne) 5, 3) := by decide +kernel
theorem d5 : decode yB 5 = .ok (.iconst 1, 1) := by decide +kernel
theorem d6 : decode yB 6 = .ok (.ireturn, 1) := by decide +kernel
theorem d7 : decode yB 7 = .ok (.aload_n 1, 1) := by decide +kernel
theorem d8 : decode yB 8 = .ok (.instanceof 10, 3) := by decide +kernel
theorem d11 : decode yB 11 = .ok (.ifCond (.eq) 43, 3) := by decide +kernel
theorem d14 : decode yB 14 = .ok (.aload_n 1, 1) := by decide +kernel
theorem d15 : decode yB 15 = .ok (.checkcast 10, 3) := by decide +kernel
theorem d18 : decode yB 18 = .ok (.astore_n 2, 1) := by decide +kernel
theorem d19 : decode yB 19 = .ok (.getstatic 38, 3) := by decide +kernel
theorem d22 : decode yB 22 = .ok (.ifCond (.eq) 14, 3) := by decide +kernel
theorem d25 : decode yB 25 = .ok (.aload_n 0, 1) := by decide +kernel
theorem d26 : decode yB 26 = .ok (.getfield 15, 3) := by decide +kernel
theorem d29 : decode yB 29 = .ok (.aload_n 2, 1) := by decide +kernel
theorem d30 : decode yB 30 = .ok (.getfield 15, 3) := by decide +kernel
theorem d33 : decode yB 33 = .ok (.if_icmp (.ne) 21, 3) := by decide +kernel
theorem d36 : decode yB 36 = .ok (.aload_n 0, 1) := by decide +kernel
theorem d37 : decode yB 37 = .ok (.getfield 9, 3) := by decide +kernel
theorem d40 : decode yB 40 = .ok (.aload_n 2, 1) := by decide +kernel
theorem d41 : decode yB 41 = .ok (.getfield 9, 3) := by decide +kernel
theorem d44 : decode yB 44 = .ok (.invokestatic 541, 3) := by decide +kernel
theorem d47 : decode yB 47 = .ok (.ifCond (.eq) 7, 3) := by decide +kernel
theorem d50 : decode yB 50 = .ok (.iconst 1, 1) := by decide +kernel
theorem d51 : decode yB 51 = .ok (.goto 4, 3) := by decide +kernel
theorem d54 : decode yB 54 = .ok (.iconst 0, 1) := by decide +kernel
theorem d55 : decode yB 55 = .ok (.ireturn, 1) := by decide +kernel
def site : List Cond := [.classLink "java/lang/String" 10 "java/lang/String", .fieldLink "java/lang/String" 38 "java/lang/String" "COMPACT_STRINGS" "Z", .fieldLink "java/lang/String" 15 "java/lang/String" "coder" "B", .fieldLink "java/lang/String" 9 "java/lang/String" "value" "[B", LEq.tab] ++ staticW "java/lang/String" 541 LEq.yN
def tab : Cond := tabOf yN yB 3 (some .boolean) site
def P (x t : Addr) (V : Cell) (cd : Int32) (n : Nat) (f : Nat → Int32) (y t' : Addr) (V' : Cell) (cd' : Int32) (k : Nat) (g : Nat → Int32) (z : Int32) (args : Array Value) (s : State) : Prop := args = #[.ref x, .ref y] ∧ Txt x t V cd n f s ∧ Txt y t' V' cd' k g s ∧ StaticIs s "java/lang/String" "COMPACT_STRINGS" "Z" (.int z) ∧ ¬ z = 0
/-- equals(Object) of two Strings: whether the texts are the same -/
theorem law (l : Launch) (x t : Addr) (V : Cell) (cd : Int32) (n : Nat) (f : Nat → Int32) (y t' : Addr) (V' : Cell) (cd' : Int32) (k : Nat) (g : Nat → Int32) (z : Int32) : Law l yN 2 1 1 14 yB 3 (some .boolean) site (P x t V cd n f y t' V' cd' k g z) (Says01 (SameT n f k g)) [] 0 0 := by
  refine Law.of_walk (plainFor_of_name (by decide +kernel)) (by decide +kernel) (by decide +kernel) (by decide) (fun _ _ h => by rw [h.1]; rfl) (fun _ U U' hal hh h => ⟨h.1, h.2.1.mv hal hh, h.2.2.1.mv hal hh, h.2.2.2.1.there hal hh, h.2.2.2.2⟩) (fun r U U' V V' h1 hal h2 h => Says01.mv r U U' V V' h1 hal h2 h) ?_
  intro p e s m args below meth c s₁ X0 hexec hbytes hml hret hlk hnm hown hh0 W hP
  obtain ⟨rfl, hx, hy, s1, hz⟩ := hP
  have c1 : Steps p.tables e below (s₁.setTop (entryFrame m #[.ref x, .ref y] 3)) (s₁.setTop (mkF m 2 #[.val (.ref x), .val (.ref y), .unset] [.ref y, .ref x])) := Steps.trans (entry rfl) (by
    show Steps p.tables e below (s₁.setTop (mkF m 0 #[.val (.ref x), .val (.ref y), .unset] [])) _
    refine XS.aloadN X0.here hexec rfl (hb hbytes d0) rfl rfl ?_
    refine XS.aloadN X0.here hexec rfl (hb hbytes d1) rfl rfl ?_
    exact Steps.refl _)
  by_cases hxy : x = y
  · have c2 : Steps p.tables e below (s₁.setTop (entryFrame m #[.ref x, .ref y] 3)) (s₁.setTop (mkF m 6 #[.val (.ref x), .val (.ref y), .unset] [.int 1])) := c1.trans (by
      refine acmpNo X0.here hexec rfl (hb hbytes d2) rfl rfl rfl (by simp [acmp, hxy]) ?_
      refine iconstV X0.here hexec rfl 1 (hb hbytes d5) (by decide) ?_
      exact Steps.refl _)
    subst hxy
    have ec : cd = cd' := by
      obtain ⟨D, fd, a1, a2, a3⟩ := hx.2.2.1
      obtain ⟨D', fd', b1, b2, b3⟩ := hy.2.2.1
      cases a1.symm.trans b1
      obtain ⟨q1, q2, q3, q4⟩ := a2.1
      obtain ⟨r1, r2, r3, r4⟩ := b2.1
      cases q4.symm.trans r4
      cases a3.symm.trans b3; rfl
    have et : t = t' := by
      obtain ⟨D, fd, a1, a2, a3⟩ := hx.2.1
      obtain ⟨D', fd', b1, b2, b3⟩ := hy.2.1
      cases a1.symm.trans b1
      obtain ⟨q1, q2, q3, q4⟩ := a2.1
      obtain ⟨r1, r2, r3, r4⟩ := b2.1
      cases q4.symm.trans r4
      cases a3.symm.trans b3; rfl
    subst ec et
    have ev : V = V' := by cases hx.2.2.2.1.1.symm.trans hy.2.2.2.1.1; rfl
    subst ev
    have hs : SameT n f k g := (Cod.eqv hx.2.2.2.2.1 hy.2.2.2.2.1 hx.2.2.2.2.2 hy.2.2.2.2.2).mp ⟨rfl, fun _ _ => rfl⟩
    exact ⟨s₁, some (.int 1), _, _, _, X0, rfl, rfl, rfl, (fun h => by cases h), ⟨1, rfl, hh0, Or.inl ⟨rfl, hs⟩⟩, fun fs hl => c2.trans (X0.ireturnOut hexec hret rfl (Or.inr (Or.inl rfl)) (hb hbytes d6) hl)⟩
  · have c2 : Steps p.tables e below (s₁.setTop (entryFrame m #[.ref x, .ref y] 3)) (s₁.setTop (mkF m 8 #[.val (.ref x), .val (.ref y), .unset] [.ref y])) := c1.trans (by
      refine acmpYes X0.here hexec rfl (pc0 := 2) rfl (hb hbytes d2) rfl rfl rfl (by simp [acmp, hxy]) (by decide) rfl ?_
      refine XS.aloadN X0.here hexec rfl (hb hbytes d7) rfl rfl ?_
      exact Steps.refl _)
    obtain ⟨T3, X3, q3, st3⟩ := cinst X0 hexec hown (wk W (.classLink "java/lang/String" 10 "java/lang/String")) (hy.mv X0.warmed.alike hh0).1 (g := (mkF m 8 #[.val (.ref x), .val (.ref y), .unset] [.ref y])) rfl (rest := []) rfl (hb hbytes d8)
    have hh3 := q3.trans hh0
    have c4 : Steps p.tables e below (s₁.setTop (entryFrame m #[.ref x, .ref y] 3)) (T3.setTop (mkF m 15 #[.val (.ref x), .val (.ref y), .unset] [.ref y])) := (c2.trans (st3 _ (Steps.refl _))).trans (by
      refine XS.ifNo X3.here hexec rfl (hb hbytes d11) rfl (i0_eq_f (by decide)) ?_
      refine XS.aloadN X3.here hexec rfl (hb hbytes d14) rfl rfl ?_
      exact Steps.refl _)
    obtain ⟨T5, X5, q5, st5⟩ := cself X3 hexec hown (wk W (.classLink "java/lang/String" 10 "java/lang/String")) (hy.mv X3.warmed.alike hh3).1 (g := (mkF m 15 #[.val (.ref x), .val (.ref y), .unset] [.ref y])) rfl (rest := []) rfl (hb hbytes d15)
    have hh5 := q5.trans hh3
    have c6 : Steps p.tables e below (s₁.setTop (entryFrame m #[.ref x, .ref y] 3)) (T5.setTop (mkF m 19 #[.val (.ref x), .val (.ref y), .val (.ref y)] [])) := (c4.trans (st5 _ (Steps.refl _))).trans (by
      refine XS.astoreN X5.here hexec rfl (hb hbytes d18) rfl rfl rfl ?_
      exact Steps.refl _)
    obtain ⟨T7, X7, q7, st7⟩ := X5.sget hexec hown (wk W (.fieldLink "java/lang/String" 38 "java/lang/String" "COMPACT_STRINGS" "Z")) s1 (fun _ _ h => by rw [hh5]; exact h) (g := (mkF m 19 #[.val (.ref x), .val (.ref y), .val (.ref y)] [])) rfl (hb hbytes d19)
    have hh7 := q7.trans hh5
    have c8 : Steps p.tables e below (s₁.setTop (entryFrame m #[.ref x, .ref y] 3)) (T7.setTop (mkF m 26 #[.val (.ref x), .val (.ref y), .val (.ref y)] [.ref x])) := (c6.trans (st7 _ (Steps.refl _))).trans (by
      refine XS.ifNo X7.here hexec rfl (hb hbytes d22) rfl (i0_eq_f hz) ?_
      refine XS.aloadN X7.here hexec rfl (hb hbytes d25) rfl rfl ?_
      exact Steps.refl _)
    obtain ⟨T9, X9, q9, st9⟩ := X7.hget hexec hown (wk W (.fieldLink "java/lang/String" 15 "java/lang/String" "coder" "B")) (hx.mv X7.warmed.alike hh7).2.2.1 (g := (mkF m 26 #[.val (.ref x), .val (.ref y), .val (.ref y)] [.ref x])) rfl (rest := []) rfl (hb hbytes d26)
    have hh9 := q9.trans hh7
    have c10 : Steps p.tables e below (s₁.setTop (entryFrame m #[.ref x, .ref y] 3)) (T9.setTop (mkF m 30 #[.val (.ref x), .val (.ref y), .val (.ref y)] [.ref y, .int cd])) := (c8.trans (st9 _ (Steps.refl _))).trans (by
      refine XS.aloadN X9.here hexec rfl (hb hbytes d29) rfl rfl ?_
      exact Steps.refl _)
    obtain ⟨T11, X11, q11, st11⟩ := X9.hget hexec hown (wk W (.fieldLink "java/lang/String" 15 "java/lang/String" "coder" "B")) (hy.mv X9.warmed.alike hh9).2.2.1 (g := (mkF m 30 #[.val (.ref x), .val (.ref y), .val (.ref y)] [.ref y, .int cd])) rfl (rest := [.int cd]) rfl (hb hbytes d30)
    have hh11 := q11.trans hh9
    have c12 : Steps p.tables e below (s₁.setTop (entryFrame m #[.ref x, .ref y] 3)) (T11.setTop (mkF m 33 #[.val (.ref x), .val (.ref y), .val (.ref y)] [.int cd', .int cd])) := c10.trans (st11 _ (Steps.refl _))
    by_cases hcd : cd = cd'
    · subst hcd
      have c13 : Steps p.tables e below (s₁.setTop (entryFrame m #[.ref x, .ref y] 3)) (T11.setTop (mkF m 37 #[.val (.ref x), .val (.ref y), .val (.ref y)] [.ref x])) := c12.trans (by
        refine XS.icmpNo X11.here hexec rfl (hb hbytes d33) rfl (ii_ne_f rfl) ?_
        refine XS.aloadN X11.here hexec rfl (hb hbytes d36) rfl rfl ?_
        exact Steps.refl _)
      obtain ⟨T14, X14, q14, st14⟩ := X11.hget hexec hown (wk W (.fieldLink "java/lang/String" 9 "java/lang/String" "value" "[B")) (hx.mv X11.warmed.alike hh11).2.1 (g := (mkF m 37 #[.val (.ref x), .val (.ref y), .val (.ref y)] [.ref x])) rfl (rest := []) rfl (hb hbytes d37)
      have hh14 := q14.trans hh11
      have c15 : Steps p.tables e below (s₁.setTop (entryFrame m #[.ref x, .ref y] 3)) (T14.setTop (mkF m 41 #[.val (.ref x), .val (.ref y), .val (.ref y)] [.ref y, .ref t])) := (c13.trans (st14 _ (Steps.refl _))).trans (by
        refine XS.aloadN X14.here hexec rfl (hb hbytes d40) rfl rfl ?_
        exact Steps.refl _)
      obtain ⟨T16, X16, q16, st16⟩ := X14.hget hexec hown (wk W (.fieldLink "java/lang/String" 9 "java/lang/String" "value" "[B")) (hy.mv X14.warmed.alike hh14).2.1 (g := (mkF m 41 #[.val (.ref x), .val (.ref y), .val (.ref y)] [.ref y, .ref t])) rfl (rest := [.ref t]) rfl (hb hbytes d41)
      have hh16 := q16.trans hh14
      have c17 : Steps p.tables e below (s₁.setTop (entryFrame m #[.ref x, .ref y] 3)) (T16.setTop (mkF m 44 #[.val (.ref x), .val (.ref y), .val (.ref y)] [.ref t', .ref t])) := c15.trans (st16 _ (Steps.refl _))
      obtain ⟨v18, T18, X18, E18, g18⟩ := X16.callS hexec (LEq.law l t V t' V') hown (wks W (staticW "java/lang/String" 541 LEq.yN)) (wk W LEq.tab) (W := 0) (Nat.le_of_ble_eq_true rfl) (Nat.le_of_ble_eq_true rfl) (Nat.le_refl _) (Nat.le_refl _) (g := (mkF m 44 #[.val (.ref x), .val (.ref y), .val (.ref y)] [.ref t', .ref t])) rfl (by rw [hml]; rfl) c17 (argsL := [.ref t, .ref t']) (rest := []) rfl rfl (by show 2 * 0 + 0 ≤ _; decide) (hb hbytes d44) (⟨rfl, hx.2.2.2.1.mv X16.warmed.alike hh16, hx.2.2.2.2.1.ty, hy.2.2.2.1.mv X16.warmed.alike hh16, hy.2.2.2.2.1.ty⟩)
      obtain ⟨v, rfl, q18, hv⟩ := E18
      have iff := Cod.eqv hx.2.2.2.2.1 hy.2.2.2.2.1 hx.2.2.2.2.2 hy.2.2.2.2.2
      rcases hv with ⟨rfl, he⟩ | ⟨rfl, he⟩
      · have c19 : Steps p.tables e below (s₁.setTop (entryFrame m #[.ref x, .ref y] 3)) (T18.setTop (mkF m 55 #[.val (.ref x), .val (.ref y), .val (.ref y)] [.int 1])) := Steps.trans g18 (by
          refine XS.ifNo X18.here hexec rfl (hb hbytes d47) rfl (i0_eq_f (by decide)) ?_
          refine iconstV X18.here hexec rfl 1 (hb hbytes d50) (by decide) ?_
          refine XS.goto X18.here hexec rfl (pc0 := 51) rfl (hb hbytes d51) (by decide) rfl ?_
          exact Steps.refl _)
        exact ⟨T18, some (.int 1), _, _, _, X18, rfl, rfl, rfl, (fun h => by cases h), ⟨1, rfl, q18.trans hh16, Or.inl ⟨rfl, iff.mp he⟩⟩, fun fs hl => c19.trans (X18.ireturnOut hexec hret rfl (Or.inr (Or.inl rfl)) (hb hbytes d55) hl)⟩
      · have c19 : Steps p.tables e below (s₁.setTop (entryFrame m #[.ref x, .ref y] 3)) (T18.setTop (mkF m 55 #[.val (.ref x), .val (.ref y), .val (.ref y)] [.int 0])) := Steps.trans g18 (by
          refine XS.ifYes X18.here hexec rfl (pc0 := 47) rfl (hb hbytes d47) rfl (i0_eq_t rfl) (by decide) rfl ?_
          refine iconstV X18.here hexec rfl 0 (hb hbytes d54) (by decide) ?_
          exact Steps.refl _)
        exact ⟨T18, some (.int 0), _, _, _, X18, rfl, rfl, rfl, (fun h => by cases h), ⟨0, rfl, q18.trans hh16, Or.inr ⟨rfl, fun q => he (iff.mpr q)⟩⟩, fun fs hl => c19.trans (X18.ireturnOut hexec hret rfl (Or.inr (Or.inl rfl)) (hb hbytes d55) hl)⟩
    · have c13 : Steps p.tables e below (s₁.setTop (entryFrame m #[.ref x, .ref y] 3)) (T11.setTop (mkF m 55 #[.val (.ref x), .val (.ref y), .val (.ref y)] [.int 0])) := c12.trans (by
        refine XS.icmpYes X11.here hexec rfl (pc0 := 33) rfl (hb hbytes d33) rfl (ii_ne_t hcd) (by decide) rfl ?_
        refine iconstV X11.here hexec rfl 0 (hb hbytes d54) (by decide) ?_
        exact Steps.refl _)
      exact ⟨T11, some (.int 0), _, _, _, X11, rfl, rfl, rfl, (fun h => by cases h), ⟨0, rfl, hh11, Or.inr ⟨rfl, Cod.dif hx.2.2.2.2.1 hy.2.2.2.2.1 hcd⟩⟩, fun fs hl => c13.trans (X11.ireturnOut hexec hret rfl (Or.inr (Or.inl rfl)) (hb hbytes d55) hl)⟩
theorem pays {l : Launch} {R : Room} {p : Program} {e : Env} {below : List Frame} {s : State} {sargs : Array Value} {len W : Nat} (x t : Addr) (V : Cell) (cd : Int32) (n : Nat) (f : Nat → Int32) (y t' : Addr) (V' : Cell) (cd' : Int32) (k : Nat) (g : Nat → Int32) (z : Int32) (htab : tab.before sargs s = true) (hfr : 2 ≤ R.frames) (hlo : W + 28 ≤ R.locals) :
    Back l R p e below s sargs yN len W (fun A₁ a₁ => A₁.cells + 0 ≤ R.cells ∧ A₁.slots + 0 ≤ R.slots ∧ P x t V cd n f y t' V' cd' k g z a₁ A₁.U) (fun A₁ _ v₁ B₁ => Says01 (SameT n f k g) v₁ A₁.U B₁.U ∧ B₁.locs = A₁.locs ++ [] ∧ B₁.cells = A₁.cells + 0 ∧ B₁.slots = A₁.slots + 0) :=
  (law l x t V cd n f y t' V' cd' k g z).pays htab hfr (by omega)
end SEq
end StrChars
namespace StrChars.Road
open Jvm Sem ClassFile Op Lib Jvm.Stand Jvm.Free Jvm.Free.XT
open Jvm.Lib.Cold (StaticIs)
/-- the words of String.equals(Object) -/
abbrev wordsEq : List Jvm.Cond := [.code SEq.yN SEq.yB 3 (some .boolean), .initialized ST, .classLink ST 10 ST, .fieldLink ST 38 ST "COMPACT_STRINGS" "Z", .fieldLink ST 15 ST "coder" "B", .fieldLink ST 9 ST "value" "[B", .methodLink ST 541 LEq.yN, .static LEq.yN, .code LEq.yN LEq.yB 3 (some .boolean), .initialized "java/lang/StringLatin1"]
theorem tabEq_of {a : Array Value} {s : State} (h : ∀ w ∈ wordsEq, w.before a s = true) : SEq.tab.before a s = true := by
  have hl : LEq.tab.before a s = true := unparts (wk h (.code LEq.yN LEq.yB 3 (some .boolean))) (wks h (.initialized LEq.yN.cls :: LEq.site))
  have q := consq hl h
  exact unparts (wk q (.code SEq.yN SEq.yB 3 (some .boolean))) (wks q (.initialized SEq.yN.cls :: SEq.site))
theorem movedEq {Z s : State} {a0 args : Array Value} (hZ : Z.Warmed39 s.vm) (hw : ∀ d ∈ wordsEq, d.before a0 Z = true) : ∀ d ∈ wordsEq, d.before args s = true := fun d hd => by
  have t : ∀ d ∈ wordsEq, (d.onTables && d.keepsFace) = true := by decide +kernel
  exact RoadKit.mv hZ (hw d hd) (t d hd)
/-- the road's facts of a String, as the laws ask it -/
theorem txt_of {Z U : State} {a0 : Array Value} {kI : Nat} (wi : (Jvm.Cond.instantiable ST kI).before a0 Z = true) (al : Z.vm.Alike U.vm) {x t : Addr} {kb : ClassId} {cs : List Int32} {cd N2 : Int32} {vs : List Value} (E : RoadKit.Exa Z U.heap x ST) (V : RoadKit.Fld Z U.heap x ST "value" "[B" (.ref t)) (C : RoadKit.Fld Z U.heap x ST "coder" "B" (.int cd)) (K : RoadKit.Arv Z U.heap t kb .byte N2 vs (.int 0)) (hc : CodA cs cd N2 vs) (hb : ∀ c ∈ cs, ¬ c < 0 ∧ ¬ (65535 : Int32) < c) (l2 : cs.length ≤ 4000) :
    ∃ A, Txt x t A cd cs.length (fun j => cs.getD j 0) U := by
  obtain ⟨A, K1, K2, K3, K4, K5, K6⟩ := K
  have hcod := hc.cod (by omega) K3 K5
  obtain ⟨D, fV, fC, hB, F1, F2, g1, g2, -, -⟩ := strObj wi al E V C
  exact ⟨A, ⟨_, hB.2.2.1, D, hB.1, rfl, by cases q : D.vm <;> first | rfl | exact absurd q (hB.2.1.2 _)⟩, Has.of hB F1 g1, Has.of hB F2 g2, ⟨K1.1, State.isArrayOf_alike al K1.2.1, K1.2.2, by rcases hcod with ⟨-, q, -⟩ | ⟨-, q, -⟩ <;> omega⟩, hcod, fun j hj => by
    have e : cs.getD j 0 = cs[j] := by simp [List.getD_eq_getElem?_getD, hj]
    show ¬ cs.getD j 0 < 0 ∧ ¬ 65535 < cs.getD j 0
    rw [e]; exact hb _ (List.getElem_mem _)⟩
theorem same_list (cs ds : List Int32) : SameT cs.length (fun j => cs.getD j 0) ds.length (fun j => ds.getD j 0) ↔ cs = ds := by
  constructor
  · rintro ⟨e, q⟩
    refine List.ext_getElem e fun j h1 h2 => ?_
    have := q j h1
    simpa [List.getD_eq_getElem?_getD, h1, h2] using this
  · rintro rfl
    exact ⟨rfl, fun _ _ => rfl⟩
/-- **equals(Object) OF TWO SUCH STRINGS**: 1 just where the chars are the same -/
theorem eqW {p : Program} {l : Launch} {e : Env} {R : Room} {s : State} {args : Array Value} {below : List Frame} {len W : Nat} {Z : State} {a0 : Array Value} {h : Heap} (hZ : Z.Warmed39 s.vm) (hw : ∀ d ∈ wordsEq, d.before a0 Z = true) {kI : Nat} (wi : (Jvm.Cond.instantiable ST kI).before a0 Z = true)
    {x t : Addr} {kb : ClassId} {cs : List Int32} {cd N2 : Int32} {vs : List Value} (E : RoadKit.Exa Z h x ST) (V : RoadKit.Fld Z h x ST "value" "[B" (.ref t)) (C : RoadKit.Fld Z h x ST "coder" "B" (.int cd)) (K : RoadKit.Arv Z h t kb .byte N2 vs (.int 0)) (hc : CodA cs cd N2 vs) (hb : ∀ c ∈ cs, ¬ c < 0 ∧ ¬ (65535 : Int32) < c) (l2 : cs.length ≤ 4000)
    {y t' : Addr} {kb' : ClassId} {ds : List Int32} {cd' N2' : Int32} {vs' : List Value} (E' : RoadKit.Exa Z h y ST) (V' : RoadKit.Fld Z h y ST "value" "[B" (.ref t')) (C' : RoadKit.Fld Z h y ST "coder" "B" (.int cd')) (K' : RoadKit.Arv Z h t' kb' .byte N2' vs' (.int 0)) (hc' : CodA ds cd' N2' vs') (hb' : ∀ c ∈ ds, ¬ c < 0 ∧ ¬ (65535 : Int32) < c) (l2' : ds.length ≤ 4000)
    {z : Int32} (S : RoadKit.Sta Z h ST "COMPACT_STRINGS" "Z" (.int z)) (hz : ¬ z = 0) (hfr : 2 ≤ R.frames) (hlo : W + 28 ≤ R.locals) :
    Back l R p e below s args (⟨"java/lang/String", "equals", "(Ljava/lang/Object;)Z"⟩ : MethodName) len W (fun P a => a = #[.ref x, .ref y] ∧ P.U.heap = h ∧ P.cells + 0 ≤ R.cells ∧ P.slots + 0 ≤ R.slots)
      (fun P _ v B => ∃ L, (((v = some (.int 1) ∧ cs = ds) ∨ (v = some (.int 0) ∧ ¬ cs = ds)) ∧ L = [] ∧ B.U.heap = h) ∧ B.locs = P.locs ++ L ∧ B.cells = P.cells + 0 ∧ B.slots = P.slots + 0) := by
  intro m meth c P g ig mk a X hg hsize hdg hW hn hp'
  obtain ⟨rfl, rfl, r1, r2⟩ := hp'
  have al : Z.vm.Alike P.U.vm := hZ.alike.trans X.warmed.alike
  obtain ⟨A, hx⟩ := txt_of wi al E V C K hc hb l2
  obtain ⟨A', hy⟩ := txt_of wi al E' V' C' K' hc' hb' l2'
  obtain ⟨v, B, X', ⟨⟨w, hv, hh, hq⟩, hl, hk, hs⟩, st⟩ := SEq.pays x t A cd cs.length (fun j => cs.getD j 0) y t' A' cd' ds.length (fun j => ds.getD j 0) z (tabEq_of (movedEq hZ hw)) hfr hlo m meth c P g ig mk _ X hg hsize hdg hW hn ⟨r1, r2, rfl, hx, hy, sta_is al S, hz⟩
  refine ⟨v, B, X', ⟨[], ⟨?_, rfl, hh⟩, hl, hk, hs⟩, st⟩
  rcases hq with ⟨rfl, q⟩ | ⟨rfl, q⟩
  · exact Or.inl ⟨hv, (same_list cs ds).mp q⟩
  · exact Or.inr ⟨hv, fun e => q ((same_list cs ds).mpr e)⟩
end StrChars.Road
namespace StrChars.Road
open Jvm Sem ClassFile Op Lib Jvm.Stand Jvm.Free Jvm.Free.XT
open Jvm.Lib.Cold (StaticIs)
/-- what backV says of its String, as the contracts of this text ask it: cs's low bytes, coder 0 -/
theorem codOf {cs : List Int32} {n : Nat} (hn : cs.length = n) (hb : ∀ c ∈ cs, ¬ 255 < c) : CodA cs 0 (Int32.ofNat n) ((cs.map lo8).map Value.int) := Or.inl ⟨rfl, by rw [hn], by simp [List.map_map, Function.comp_def], hb⟩
end StrChars.Road
end Jvm.Pilot.@@N@@
-- part pre
namespace Jvm.Pilot.@@N@@
open Jvm Jvm.ClassFile Sem Op Lib Jvm.Free Jvm.Stand Jvm.LawKit Jvm.RoadKit Bundle Jvm.Pilot.@@N@@.Jvm.D
section Pre
variable {Z : State} {a0 : Array Value} {EL : List (String × Nat)} {sv : Bool} {p : Program} {l : Launch} {e : Env} {R : Room} {s : State} {m : MethodId} {args : Array Value} {below : List Frame} {meth : Method} {c : Code} {own : String} {bytes : ByteArray} {maxL : Nat} {rt : Option FieldType} {nm : String} {h0 : Heap} {ws sf : List Addr} {T : State} {h : Heap} {locs : List Loc} {cells slots : Nat} {Q : Option Value → Heap → Prop} {kc ks : Nat}
theorem neA {x y : Addr} (h : @LT.lt Nat _ x y ∨ @LT.lt Nat _ y x) : x ≠ y := fun e => by subst e; rcases h with h | h <;> exact Nat.lt_irrefl _ h
/-- the i-th word of the tables -/
theorem wd (hw : ∀ d ∈ tables_1, d.before a0 Z = true) (i : Nat) {d : Jvm.Cond} (hd : tables_1[i]? = some d) : d.before a0 Z = true := hw d (List.mem_of_getElem? hd)
/-- the run from T with the frame g on top ends well: it returns, and Q says what -/
def Run (Z : State) (EL : List (String × Nat)) (sv : Bool) (p : Program) (e : Env) (below : List Frame) (s : State) (h0 : Heap) (ws : List Addr) (Q : Option Value → Heap → Prop) (kc ks : Nat) (T : State) (g : JFrame) : Prop :=
  ∃ s₂ o, Steps p.tables e below (T.setTop g) s₂ ∧ s₂.status = .running ∧ Ended s₂ below o ∧ ∃ v L, o = .returned v ∧ (Fr Z.heap.size L ∧ Keep h0 s₂.heap ws ∧ Q v s₂.heap) ∧ CHr Z EL s.vm h0 s₂.vm s₂.heap ∧ ReturnedEndW s o s₂ L kc ks ∧ (NW = true → s.WarmedH s₂.vm) ∧ (sv = true → ∀ x, v = some (.ref x) → x < s₂.heap.size ∧ Safe Z EL s₂.vm s₂.heap x)
/-- what a walk bears at every place: besides the Stand (over the start with the tables at hand): what is plain; what is said of the tables -/
def Sit (Z : State) (a0 : Array Value) (EL : List (String × Nat)) (p : Program) (l : Launch) (e : Env) (R : Room) (s : State) (m : MethodId) (args : Array Value) (below : List Frame) (meth : Method) (c : Code) (own : String) (bytes : ByteArray) (maxL : Nat) (rt : Option FieldType) (nm : String) (h0 : Heap) (ws : List Addr) (sf : List Addr) (T : State) (h : Heap) (locs : List Loc) (cells slots : Nat) : Prop :=
  (T.heap = h ∧ p.tables.exec = Jvm.exec ∧ c.code = bytes ∧ c.maxLocals = maxL ∧ meth.sig.returnType = rt ∧ meth.locks = false ∧ meth.name = nm ∧ Fr Z.heap.size locs ∧ Keep h0 h ws ∧ Ext Z.heap h ∧ EW Z a0 EL) ∧
  ∃ vm0 k0, Stand p l e R (s.setVm vm0) m args below meth c T locs cells slots ∧ Z.Warmed39 vm0 ∧ vm0.findClass own = some m.cls ∧ s.Since vm0 k0 ∧ k0 ≤ h.size ∧ CHr Z EL s.vm h0 vm0 h ∧ (∀ x ∈ sf, x < h.size ∧ Safe Z EL vm0 h x) ∧ (NW = true → s.WarmedH vm0)
theorem Sit.eh (X : Sit Z a0 EL p l e R s m args below meth c own bytes maxL rt nm h0 ws sf T h locs cells slots) : T.heap = h := X.1.1
theorem Sit.ex (X : Sit Z a0 EL p l e R s m args below meth c own bytes maxL rt nm h0 ws sf T h locs cells slots) : p.tables.exec = Jvm.exec := X.1.2.1
theorem Sit.byt (X : Sit Z a0 EL p l e R s m args below meth c own bytes maxL rt nm h0 ws sf T h locs cells slots) : c.code = bytes := X.1.2.2.1
theorem Sit.ml (X : Sit Z a0 EL p l e R s m args below meth c own bytes maxL rt nm h0 ws sf T h locs cells slots) : c.maxLocals = maxL := X.1.2.2.2.1
theorem Sit.rtt (X : Sit Z a0 EL p l e R s m args below meth c own bytes maxL rt nm h0 ws sf T h locs cells slots) : meth.sig.returnType = rt := X.1.2.2.2.2.1
theorem Sit.lk (X : Sit Z a0 EL p l e R s m args below meth c own bytes maxL rt nm h0 ws sf T h locs cells slots) : meth.locks = false := X.1.2.2.2.2.2.1
theorem Sit.nmm (X : Sit Z a0 EL p l e R s m args below meth c own bytes maxL rt nm h0 ws sf T h locs cells slots) : meth.name = nm := X.1.2.2.2.2.2.2.1
theorem Sit.fr (X : Sit Z a0 EL p l e R s m args below meth c own bytes maxL rt nm h0 ws sf T h locs cells slots) : Fr Z.heap.size locs := X.1.2.2.2.2.2.2.2.1
theorem Sit.kp (X : Sit Z a0 EL p l e R s m args below meth c own bytes maxL rt nm h0 ws sf T h locs cells slots) : Keep h0 h ws := X.1.2.2.2.2.2.2.2.2.1
theorem Sit.old (X : Sit Z a0 EL p l e R s m args below meth c own bytes maxL rt nm h0 ws sf T h locs cells slots) : Ext Z.heap h := X.1.2.2.2.2.2.2.2.2.2.1
theorem Sit.ew (X : Sit Z a0 EL p l e R s m args below meth c own bytes maxL rt nm h0 ws sf T h locs cells slots) : EW Z a0 EL := X.1.2.2.2.2.2.2.2.2.2.2
theorem Sit.at (X : Sit Z a0 EL p l e R s m args below meth c own bytes maxL rt nm h0 ws sf T h locs cells slots) : At T m c below := by obtain ⟨-, vm0, k0, X, -⟩ := X; exact X.here
theorem Sit.de (X : Sit Z a0 EL p l e R s m args below meth c own bytes maxL rt nm h0 ws sf T h locs cells slots) {pc : Nat} {r : Except ClassFile.DecodeError (ClassFile.Instr × Nat)} (h2 : ClassFile.decode bytes pc = r) : ClassFile.decode c.code pc = r := X.byt ▸ h2
theorem extKp {h' : Heap} {wz : List Addr} (O : Ext Z.heap h) (K : Keep h h' wz) (q : ∀ x ∈ wz, Z.heap.size ≤ x) : Ext Z.heap h' := ⟨Nat.le_trans O.1 K.1, fun a cl r => K.2.1 _ _ (O.2 _ _ r) fun z => absurd (Array.getElem?_eq_some_iff.mp r).1 (Nat.not_lt.mpr (q _ z))⟩
theorem extK {h h' : Heap} (E : Ext h h') : Keep h h' [] := (Keep.refl h []).ext E
theorem Sit.mono (X : Sit Z a0 EL p l e R s m args below meth c own bytes maxL rt nm h0 ws sf T h locs cells slots) {k n : Nat} (hk : cells ≤ k) (hn : slots ≤ n) : Sit Z a0 EL p l e R s m args below meth c own bytes maxL rt nm h0 ws sf T h locs k n := by
  obtain ⟨F, vm0, k0, Y, r⟩ := X; exact ⟨F, vm0, k0, Y.mono hk hn, r⟩
theorem Sit.less {sf' : List Addr} (X : Sit Z a0 EL p l e R s m args below meth c own bytes maxL rt nm h0 ws sf T h locs cells slots) (q : ∀ x ∈ sf', x ∈ sf) : Sit Z a0 EL p l e R s m args below meth c own bytes maxL rt nm h0 ws sf' T h locs cells slots := by
  obtain ⟨F, vm0, k0, Y, r1, r2, r3, r4, r5, r6, r7⟩ := X; exact ⟨F, vm0, k0, Y, r1, r2, r3, r4, r5, fun x hx => r6 x (q x hx), r7⟩
theorem Run.via {T' : State} {g g' : JFrame} (q : ∀ t, Steps p.tables e below (T'.setTop g') t → Steps p.tables e below (T.setTop g) t) (r : Run Z EL sv p e below s h0 ws Q kc ks T' g') : Run Z EL sv p e below s h0 ws Q kc ks T g := by
  obtain ⟨s₂, o, r1, r2⟩ := r
  exact ⟨s₂, o, q _ r1, r2⟩
theorem Run.on {T' : State} {g g' : JFrame} (q : Steps p.tables e below (T.setTop g) (T'.setTop g')) (r : Run Z EL sv p e below s h0 ws Q kc ks T' g') : Run Z EL sv p e below s h0 ws Q kc ks T g := Run.via (fun _ k => q.trans k) r
/-- the end -/
theorem Run.out (X : Sit Z a0 EL p l e R s m args below meth c own bytes maxL rt nm h0 ws sf T h locs cells slots) {v : Option Value} {g : JFrame} (hv : rt = none → v = none) (hc : cells ≤ kc) (hs : slots ≤ ks) (hq : Q v h) (hsv : sv = true → ∀ x, v = some (.ref x) → x ∈ sf)
    (q : ∀ vm0 fs, Stand p l e R (s.setVm vm0) m args below meth c T locs cells slots → (∀ (f : JFrame) (acts : List Action), f.method = m → f.locked = none → f.entered = [] → (doReturn e (T.setTop f) acts v).1 = T.setFrames fs) → Steps p.tables e below (T.setTop g) (T.setFrames fs)) : Run Z EL sv p e below s h0 ws Q kc ks T g := by
  obtain ⟨F, vm0, k0, Y, r1, r2, r3, r4, r5, r6, r7⟩ := id X
  obtain ⟨fs, hr, hrun, hended, hW⟩ := Y.leaveW r3 (by rw [X.eh]; exact r4) (v := v) (fun z => hv (X.rtt.symm.trans z)) X.lk
  have eh : (T.setFrames fs).heap = h := X.eh
  have ev : (T.setFrames fs).vm = T.vm := rfl
  refine ⟨_, _, q vm0 fs Y hr, hrun, hended, v, locs, rfl, ⟨X.fr, by rw [eh]; exact X.kp, by rw [eh]; exact hq⟩, ?_, ⟨hW.1, hW.2.1, hW.2.2.1, hW.2.2.2.mono hc hs⟩, fun z => ?_, fun z x hx => ?_⟩
  · rw [eh, ev]; exact r5.trans (CHv.at Y r1 X.ew r5.1)
  · rw [ev]; exact State.WarmedH.trans (t := s.setVm vm0) (r7 z) Y.warmed
  · rw [eh, ev]; exact ⟨(r6 x (hsv z x hx)).1, (CHv.at Y r1 X.ew r5.1).safe (r6 x (hsv z x hx)).1 (r6 x (hsv z x hx)).2⟩
theorem Run.retN (X : Sit Z a0 EL p l e R s m args below meth c own bytes maxL rt nm h0 ws sf T h locs cells slots) {pc : Nat} {Ls : Array Slot} {z : Int32} {rest : List Value} {t : FieldType} (hr : rt = some t) (ht : t = .boolean ∨ t = .byte ∨ t = .char ∨ t = .short) (hd : decode bytes pc = .ok (.ireturn, 1)) (hc : cells ≤ kc) (hs : slots ≤ ks) (hq : Q (some (.int (nar t z))) h) :
    Run Z EL sv p e below s h0 ws Q kc ks T (mkF m pc Ls (.int z :: rest)) :=
  Run.out X (fun z => by rw [hr] at z; cases z) hc hs hq (fun _ _ z => by cases z) fun vm0 fs Y q => Jvm.RoadKit.retN Y X.ex (X.rtt.trans hr) ht (X.de hd) q
theorem Run.retI (X : Sit Z a0 EL p l e R s m args below meth c own bytes maxL rt nm h0 ws sf T h locs cells slots) {pc : Nat} {Ls : Array Slot} {z : Int32} {rest : List Value} (hr : rt = some .int) (hd : decode bytes pc = .ok (.ireturn, 1)) (hc : cells ≤ kc) (hs : slots ≤ ks) (hq : Q (some (.int z)) h) :
    Run Z EL sv p e below s h0 ws Q kc ks T (mkF m pc Ls (.int z :: rest)) :=
  Run.out X (fun z => by rw [hr] at z; cases z) hc hs hq (fun _ _ z => by cases z) fun vm0 fs Y q => retOut Y X.ex (X.rtt.trans hr) rfl (Or.inl ⟨rfl, Or.inl rfl, z, rfl⟩) (X.de hd) q
theorem Run.retA (X : Sit Z a0 EL p l e R s m args below meth c own bytes maxL rt nm h0 ws sf T h locs cells slots) {pc : Nat} {Ls : Array Slot} {v : Value} {rest : List Value} {t : FieldType} (hr : rt = some t) (ht : t.isReference = true) (hv : v.isRef = true) (hd : decode bytes pc = .ok (.areturn, 1)) (hc : cells ≤ kc) (hs : slots ≤ ks) (hq : Q (some v) h) (hsv : sv = true → ∀ x, v = .ref x → x ∈ sf) :
    Run Z EL sv p e below s h0 ws Q kc ks T (mkF m pc Ls (v :: rest)) :=
  Run.out X (fun z => by rw [hr] at z; cases z) hc hs hq (fun z x hx => hsv z x (Option.some.inj hx)) fun vm0 fs Y q => retOut Y X.ex (X.rtt.trans hr) (by rcases ref_cases hv with rfl | ⟨_, rfl⟩ <;> cases t <;> rfl) (Or.inr (Or.inr (Or.inr (Or.inr ⟨rfl, ht, hv⟩)))) (X.de hd) q
theorem Run.retV (X : Sit Z a0 EL p l e R s m args below meth c own bytes maxL rt nm h0 ws sf T h locs cells slots) {pc : Nat} {Ls : Array Slot} (hr : rt = none) (hd : decode bytes pc = .ok (.return_, 1)) (hc : cells ≤ kc) (hs : slots ≤ ks) (hq : Q none h) :
    Run Z EL sv p e below s h0 ws Q kc ks T (mkF m pc Ls []) :=
  Run.out X (fun _ => rfl) hc hs hq (fun _ _ z => by cases z) fun vm0 fs Y q => Y.returnOut X.ex (X.rtt.trans hr) (X.de hd) q
/-- a body's contract; sf: objects handed in that are no booked literal's -/
def Con (l : Launch) (Z : State) (a0 : Array Value) (EL : List (String × Nat)) (sv : Bool) (y : MethodName) (bytes : ByteArray) (maxL : Nat) (rt : Option FieldType) (rm : Room) (ws sf : List Addr) (as' : Array Value) (h0 : Heap) (Q : Option Value → Heap → Prop) : Prop :=
  EW Z a0 EL → ∀ wds, MetFree l y (head1 (Jvm.Cond.code y bytes maxL rt :: wds) rm) (fun a U => a = as' ∧ Z.Warmed39 U.vm ∧ U.heap = h0 ∧ CHv Z EL U.vm h0 ∧ ∀ x ∈ sf, x < h0.size ∧ Safe Z EL U.vm h0 x) (fun _ _ _ _ _ => True) (fun _ U o U' => ∃ v L, o = .returned v ∧ (Fr Z.heap.size L ∧ Keep h0 U'.heap ws ∧ Q v U'.heap) ∧ CHr Z EL U.vm h0 U'.vm U'.heap ∧ ReturnedEndW U o U' L rm.cells rm.slots ∧ (NW = true → U.WarmedH U'.vm) ∧ (sv = true → ∀ x, v = some (.ref x) → x < U'.heap.size ∧ Safe Z EL U'.vm U'.heap x))
theorem Con.enter {y : MethodName} {rm : Room} {as' : Array Value} (hn : plainFor y = true) (hE : Ext Z.heap h0)
    (body : ∀ p e s m below meth c T, Sit Z a0 EL p l e rm s m as' below meth c y.cls bytes maxL rt y.name h0 ws sf T h0 [] 0 0 → Run Z EL sv p e below s h0 ws Q rm.cells rm.slots T (entryFrame m as' maxL)) : Con l Z a0 EL sv y bytes maxL rt rm ws sf as' h0 Q := by
  intro hEW wds
  refine MetFree.of_bodySF hn hisR ?_
  intro p e s m args below meth c s₁ Bd hml0 hP hK
  obtain ⟨rfl, hZ, hh, hH, hsf⟩ := hP
  have X0 : Stand p l e rm s m args below meth c s₁ [] 0 0 := Stand.of_body Bd
  have e0 : s₁.heap = h0 := by rw [← hh, Bd.state]; rfl
  exact body p e s m below meth c s₁ ⟨⟨e0, Bd.exec, Bd.bytes, hml0, Bd.returns, Bd.notSynchronized, (name_of_methodNamed Bd.named Bd.method).1, Fr.nil _, Keep.refl _ _, hE, hEW⟩, s.vm, h0.size, X0, hZ, findClass_of_methodNamed Bd.named, (State.WarmedH.refl s).since _, Nat.le_refl _, CHr.refl hH, hsf, fun _ => State.WarmedH.refl s⟩
/-! steps: the same base -/
/-- the walk goes on: other state, same heap -/
theorem Sit.same (X : Sit Z a0 EL p l e R s m args below meth c own bytes maxL rt nm h0 ws sf T h locs cells slots) {Q' : State → Prop} (q : ∀ vm0, Stand p l e R (s.setVm vm0) m args below meth c T locs cells slots → Z.Warmed39 (s.setVm vm0).vm → (s.setVm vm0).vm.findClass own = some m.cls → ∃ T', Stand p l e R (s.setVm vm0) m args below meth c T' locs cells slots ∧ T'.heap = h ∧ Q' T') : ∃ T', Sit Z a0 EL p l e R s m args below meth c own bytes maxL rt nm h0 ws sf T' h locs cells slots ∧ Q' T' := by
  obtain ⟨F, vm0, k0, Y, r1, r2, r⟩ := id X
  obtain ⟨T', Y', e', q'⟩ := q vm0 Y r1 r2
  exact ⟨T', ⟨⟨e', X.ex, X.byt, X.ml, X.rtt, X.lk, X.nmm, X.fr, X.kp, X.old, X.ew⟩, vm0, k0, Y', r1, r2, r⟩, q'⟩
/-- .. the heap has grown by an object x; it is nobody's literal -/
theorem Sit.grow (X : Sit Z a0 EL p l e R s m args below meth c own bytes maxL rt nm h0 ws sf T h locs cells slots) {k n : Nat} {Q' : State → Heap → Prop} (q : ∀ vm0, Stand p l e R (s.setVm vm0) m args below meth c T locs cells slots → Z.Warmed39 (s.setVm vm0).vm → (s.setVm vm0).vm.findClass own = some m.cls → ∃ T' h', Stand p l e R (s.setVm vm0) m args below meth c T' locs k n ∧ T'.heap = h' ∧ Ext h h' ∧ h.size < h'.size ∧ Q' T' h') : ∃ T' h', Sit Z a0 EL p l e R s m args below meth c own bytes maxL rt nm h0 ws (h.size :: sf) T' h' locs k n ∧ Ext h h' ∧ Q' T' h' := by
  obtain ⟨F, vm0, k0, Y, r1, r2, r3, r4, r5, r6, r7⟩ := id X
  obtain ⟨T', h', Y', e', E, lt, q'⟩ := q vm0 Y r1 r2
  refine ⟨T', h', ⟨⟨e', X.ex, X.byt, X.ml, X.rtt, X.lk, X.nmm, X.fr, X.kp.ext E, extKp X.old (extK E) (fun _ z => nomatch z), X.ew⟩, vm0, k0, Y', r1, r2, r3, Nat.le_trans r4 E.1, r5.trans (CHr.ext E r5.1), fun x hx => ?_, r7⟩, E, q'⟩
  rcases List.mem_cons.mp hx with rfl | hx
  · exact ⟨lt, (Safe.new (Nat.le_refl _)).ext E r5.1⟩
  · exact ⟨Nat.lt_of_lt_of_le (r6 x hx).1 E.1, (r6 x hx).2.ext E r5.1⟩
/-- .. only the places wz were written, none of a literal's -/
theorem Sit.go (X : Sit Z a0 EL p l e R s m args below meth c own bytes maxL rt nm h0 ws sf T h locs cells slots) {k n : Nat} {wz : List Addr} {Q' : State → Heap → List Loc → Prop} (r : ∀ x ∈ wz, (x ∈ ws ∨ h0.size ≤ x) ∧ Z.heap.size ≤ x) (sfe : ∀ vm0, Z.vm.Alike vm0 → (∀ x ∈ sf, Safe Z EL vm0 h x) → ∀ x ∈ wz, Safe Z EL vm0 h x)
    (q : ∀ vm0, Stand p l e R (s.setVm vm0) m args below meth c T locs cells slots → Z.Warmed39 (s.setVm vm0).vm → (s.setVm vm0).vm.findClass own = some m.cls → ∃ T' h' L, Stand p l e R (s.setVm vm0) m args below meth c T' (locs ++ L) k n ∧ T'.heap = h' ∧ Keep h h' wz ∧ Fr Z.heap.size L ∧ Q' T' h' L) : ∃ T' h' L, Sit Z a0 EL p l e R s m args below meth c own bytes maxL rt nm h0 ws sf T' h' (locs ++ L) k n ∧ Keep h h' wz ∧ Q' T' h' L := by
  obtain ⟨F, vm0, k0, Y, r1, r2, r3, r4, r5, r6, r7⟩ := id X
  obtain ⟨T', h', L, Y', e', K, N, q'⟩ := q vm0 Y r1 r2
  have sw := sfe vm0 r1.alike fun x hx => (r6 x hx).2
  exact ⟨T', h', L, ⟨⟨e', X.ex, X.byt, X.ml, X.rtt, X.lk, X.nmm, Fr.app X.fr N, X.kp.trans K fun x hx => (r x hx).1, extKp X.old K fun x hx => (r x hx).2, X.ew⟩, vm0, k0, Y', r1, r2, r3, Nat.le_trans r4 K.1, r5.trans (CHr.keep K sw r5.1), fun x hx => ⟨Nat.lt_of_lt_of_le (r6 x hx).1 K.1, (r6 x hx).2.keep K sw r5.1⟩, r7⟩, K, q'⟩
/-- .. as 'go', the places said anew -/
theorem Sit.goL (X : Sit Z a0 EL p l e R s m args below meth c own bytes maxL rt nm h0 ws sf T h locs cells slots) {k n : Nat} {wz : List Addr} {Q' : State → Heap → Prop} (r : ∀ x ∈ wz, (x ∈ ws ∨ h0.size ≤ x) ∧ Z.heap.size ≤ x) (sfe : ∀ vm0, Z.vm.Alike vm0 → (∀ x ∈ sf, Safe Z EL vm0 h x) → ∀ x ∈ wz, Safe Z EL vm0 h x)
    (q : ∀ vm0, Stand p l e R (s.setVm vm0) m args below meth c T locs cells slots → Z.Warmed39 (s.setVm vm0).vm → (s.setVm vm0).vm.findClass own = some m.cls → ∃ T' h' L, Stand p l e R (s.setVm vm0) m args below meth c T' L k n ∧ T'.heap = h' ∧ Keep h h' wz ∧ Fr Z.heap.size L ∧ Q' T' h') : ∃ T' h' L, Sit Z a0 EL p l e R s m args below meth c own bytes maxL rt nm h0 ws sf T' h' L k n ∧ Keep h h' wz ∧ Q' T' h' := by
  obtain ⟨F, vm0, k0, Y, r1, r2, r3, r4, r5, r6, r7⟩ := id X
  obtain ⟨T', h', L, Y', e', K, N, q'⟩ := q vm0 Y r1 r2
  have sw := sfe vm0 r1.alike fun x hx => (r6 x hx).2
  exact ⟨T', h', L, ⟨⟨e', X.ex, X.byt, X.ml, X.rtt, X.lk, X.nmm, N, X.kp.trans K fun x hx => (r x hx).1, extKp X.old K fun x hx => (r x hx).2, X.ew⟩, vm0, k0, Y', r1, r2, r3, Nat.le_trans r4 K.1, r5.trans (CHr.keep K sw r5.1), fun x hx => ⟨Nat.lt_of_lt_of_le (r6 x hx).1 K.1, (r6 x hx).2.keep K sw r5.1⟩, r7⟩, K, q'⟩
/-- the reference that comes back, where the contract says that it is nobody's literal -/
def rvs (su : Bool) (v : Option Value) : List Addr := match su, v with
  | true, some (.ref x) => [x]
  | _, _ => []
theorem rvs_safe {su : Bool} {v : Option Value} {P : Addr → Prop} (q : su = true → ∀ x, v = some (.ref x) → P x) : ∀ x ∈ rvs su v, P x := fun x hx => by
  unfold rvs at hx
  split at hx
  · cases List.mem_singleton.mp hx; exact q rfl x rfl
  · cases hx
/-- .. a step that may have interned: another base -/
theorem Sit.reb (X : Sit Z a0 EL p l e R s m args below meth c own bytes maxL rt nm h0 ws sf T h locs cells slots) {k n : Nat} {wz : List Addr} {Q' : State → Heap → List Loc → List Addr → Prop} (r : ∀ x ∈ wz, (x ∈ ws ∨ h0.size ≤ x) ∧ Z.heap.size ≤ x)
    (q : ∀ vm0 k0, Stand p l e R (s.setVm vm0) m args below meth c T locs cells slots → Z.Warmed39 (s.setVm vm0).vm → (s.setVm vm0).vm.findClass own = some m.cls → s.Since vm0 k0 → k0 ≤ h.size → CHv Z EL vm0 h → (∀ x ∈ sf, x < h.size ∧ Safe Z EL vm0 h x) → ∃ T' h' L vm1 k1 sx, Stand p l e R (s.setVm vm1) m args below meth c T' (locs ++ L) k n ∧ T'.heap = h' ∧ Keep h h' wz ∧ Fr Z.heap.size L ∧ Z.Warmed39 vm1 ∧ vm1.findClass own = some m.cls ∧ s.Since vm1 k1 ∧ k1 ≤ h'.size ∧ CHr Z EL vm0 h vm1 h' ∧ (NW = true → (s.setVm vm0).WarmedH vm1) ∧ (∀ x ∈ sx, x < h'.size ∧ Safe Z EL vm1 h' x) ∧ Q' T' h' L sx) : ∃ T' h' L sx, Sit Z a0 EL p l e R s m args below meth c own bytes maxL rt nm h0 ws (sx ++ sf) T' h' (locs ++ L) k n ∧ Keep h h' wz ∧ Q' T' h' L sx := by
  obtain ⟨F, vm0, k0, Y, r1, r2, r3, r4, r5, r6, r7⟩ := id X
  obtain ⟨T', h', L, vm1, k1, sx, Y', e', K, N, W1, W2, S1, hk1, C1, n1, f1, q'⟩ := q vm0 k0 Y r1 r2 r3 r4 r5.1 r6
  refine ⟨T', h', L, sx, ⟨⟨e', X.ex, X.byt, X.ml, X.rtt, X.lk, X.nmm, Fr.app X.fr N, X.kp.trans K fun x hx => (r x hx).1, extKp X.old K fun x hx => (r x hx).2, X.ew⟩, vm1, k1, Y', W1, W2, S1, hk1, r5.trans C1, fun x hx => ?_, fun z => State.WarmedH.trans (t := s.setVm vm0) (r7 z) (n1 z)⟩, K, q'⟩
  rcases List.mem_append.mp hx with hx | hx
  · exact f1 x hx
  · exact ⟨Nat.lt_of_lt_of_le (r6 x hx).1 K.1, C1.safe (r6 x hx).1 (r6 x hx).2⟩
theorem Run.new (X : Sit Z a0 EL p l e R s m args below meth c own bytes maxL rt nm h0 ws sf T h locs cells slots) {C : String} {index n pc : Nat} {Ls : Array Slot} {st : List Value} (w : (Cond.classLink own index C).before a0 Z = true) (wi : (Cond.instantiable C n).before a0 Z = true) (wz : (Cond.initialized C).before a0 Z = true) (hd : decode bytes pc = .ok (.new index, 3)) (hc : cells + 1 ≤ R.cells) (hl : slots + n ≤ R.slots)
    (k : ∀ (T' : State) (h' : Heap) (x : Addr), @Eq Nat x h.size → Sit Z a0 EL p l e R s m args below meth c own bytes maxL rt nm h0 ws (x :: sf) T' h' locs (cells + 1) (slots + n) → Keep h h' [] → @LT.lt Nat _ x h'.size → Exa Z h' x C → (∀ {O f d : String} {ty : FieldType}, Laid Z a0 C O f d → parseFieldDescriptor d = some ty → Fld Z h' x O f d (defaultValue ty)) → Run Z EL sv p e below s h0 ws Q kc ks T' (mkF m (pc + 3) Ls (.ref x :: st))) :
    Run Z EL sv p e below s h0 ws Q kc ks T (mkF m pc Ls st) := by
  obtain ⟨T', h', X', E, A, D, q⟩ := X.grow (k := cells + 1) (n := slots + n) (Q' := fun T' h' => Exa Z h' h.size C ∧ (∀ {O f d : String} {ty : FieldType}, Laid Z a0 C O f d → parseFieldDescriptor d = some ty → Fld Z h' h.size O f d (defaultValue ty)) ∧ ∀ t, Steps p.tables e below (T'.setTop (mkF m (pc + 3) Ls (.ref h.size :: st))) t → Steps p.tables e below (T.setTop (mkF m pc Ls st)) t) fun vm0 Y hZ ho => by
    obtain ⟨T', h', Y', e', E, A, D, -, q⟩ := newO Y X.ex hZ ho w wi wz X.eh (g := mkF m pc Ls st) rfl (X.de hd) hc hl
    exact ⟨T', h', Y', e', E, A.lt, A, D, q⟩
  exact Run.via q (k T' h' _ rfl X' (extK E) A.lt A D)
theorem Run.getf (X : Sit Z a0 EL p l e R s m args below meth c own bytes maxL rt nm h0 ws sf T h locs cells slots) {R0 O f d : String} {index pc : Nat} {Ls : Array Slot} {st : List Value} {a : Addr} {v : Value} (w : (Cond.fieldLink own index R0 f d).before a0 Z = true) (via : Via Z R0 O f d) (F : Fld Z h a O f d v) (hd : decode bytes pc = .ok (.getfield index, 3))
    (k : ∀ (T' : State), Sit Z a0 EL p l e R s m args below meth c own bytes maxL rt nm h0 ws sf T' h locs cells slots → Run Z EL sv p e below s h0 ws Q kc ks T' (mkF m (pc + 3) Ls (v :: st))) : Run Z EL sv p e below s h0 ws Q kc ks T (mkF m pc Ls (.ref a :: st)) := by
  obtain ⟨T', X', q⟩ := X.same fun vm0 Y hZ ho => getF Y X.ex hZ ho (host := "") (Or.inl w) via X.eh F (g := mkF m pc Ls (.ref a :: st)) rfl rfl (X.de hd)
  exact Run.via q (k T' X')
theorem Run.gets (X : Sit Z a0 EL p l e R s m args below meth c own bytes maxL rt nm h0 ws sf T h locs cells slots) {R0 O f d : String} {index pc : Nat} {Ls : Array Slot} {st : List Value} {v : Value} (w : (Cond.fieldLink own index R0 f d).before a0 Z = true) (via : Via Z R0 O f d) (F : Sta Z Z.heap O f d v) (hd : decode bytes pc = .ok (.getstatic index, 3))
    (k : ∀ (T' : State), Sit Z a0 EL p l e R s m args below meth c own bytes maxL rt nm h0 ws sf T' h locs cells slots → Run Z EL sv p e below s h0 ws Q kc ks T' (mkF m (pc + 3) Ls (v :: st))) : Run Z EL sv p e below s h0 ws Q kc ks T (mkF m pc Ls st) := by
  obtain ⟨T', X', q⟩ := X.same fun vm0 Y hZ ho => getS Y X.ex hZ (host := "") ho w via X.eh (F.ext X.old) (g := mkF m pc Ls st) rfl (X.de hd)
  exact Run.via q (k T' X')
theorem Run.putf (X : Sit Z a0 EL p l e R s m args below meth c own bytes maxL rt nm h0 ws sf T h locs cells slots) {R0 O f d C : String} {index pc kk : Nat} {Ls : Array Slot} {st : List Value} {a : Addr} {v v' old : Value} {ty : FieldType} (w : (Cond.fieldLink own index R0 f d).before a0 Z = true) (via : Via Z R0 O f d) (F : Fld Z h a O f d old) (E : Exa Z h a C) (L : (Cond.lays C O f d).before a0 Z = true ∨ ((Cond.laysFinal C O f d).before a0 Z = true ∧ own = O ∧ nm = "<init>")) (wi : (Cond.instantiable C kk).before a0 Z = true)
    (hty : parseFieldDescriptor d = some ty) (hn : narrow ty v = v') (hf : fits ty v' = true) (ha : a ∈ ws ∨ h0.size ≤ a) (hz : Z.heap.size ≤ a) (hsf : (C ≠ "java/lang/String" ∧ C ≠ "[B") ∨ a ∈ sf) (hd : decode bytes pc = .ok (.putfield index, 3))
    (k : ∀ (T' : State) (h' : Heap) (L : List Loc), Sit Z a0 EL p l e R s m args below meth c own bytes maxL rt nm h0 ws sf T' h' (locs ++ L) cells slots → Keep h h' [a] → Wr h h' a (RoadKit.slotOf Z O f d) v' → Fld Z h' a O f d v' → Exa Z h' a C → Run Z EL sv p e below s h0 ws Q kc ks T' (mkF m (pc + 3) Ls st)) : Run Z EL sv p e below s h0 ws Q kc ks T (mkF m pc Ls (v :: .ref a :: st)) := by
  obtain ⟨T', h', L', X', K, W, q⟩ := X.go (k := cells) (n := slots) (wz := [a]) (Q' := fun T' h' _ => Wr h h' a (RoadKit.slotOf Z O f d) v' ∧ ∀ t, Steps p.tables e below (T'.setTop (mkF m (pc + 3) Ls st)) t → Steps p.tables e below (T.setTop (mkF m pc Ls (v :: .ref a :: st))) t) (fun x hx => by cases List.mem_singleton.mp hx; exact ⟨ha, hz⟩) (fun vm0 al hs x hx => by cases List.mem_singleton.mp hx; exact hsf.elim (fun z => Safe.exa al E z.1 z.2) (hs a)) fun vm0 Y hZ ho => by
    obtain ⟨T', h', Y', e', W, q⟩ := putFN Y X.ex hZ ho w via X.eh F E (L.imp id fun z => ⟨z.1, z.2.1, X.nmm.trans z.2.2⟩) wi hty hn hf (g := mkF m pc Ls (v :: .ref a :: st)) rfl rfl (X.de hd)
    exact ⟨T', h', _, Y', e', Keep.of_wr W, fun y hy => by cases List.mem_singleton.mp hy; exact hz, W, q⟩
  exact Run.via q (k T' h' L' X' K W (F.same W) (E.wr W))
theorem Run.initO (X : Sit Z a0 EL p l e R s m args below meth c own bytes maxL rt nm h0 ws sf T h locs cells slots) {idx pc : Nat} {Ls : Array Slot} {a : Addr} {st : List Value} (w1 : (Cond.methodLink own idx Lib.objectInit).before a0 Z = true) (w2 : (Cond.instanceMethod Lib.objectInit).before a0 Z = true) (w3 : (Cond.code Lib.objectInit ⟨#[0xb1]⟩ 1 none).before a0 Z = true)
    (hsz : Ls.size = maxL) (hd : decode bytes pc = .ok (.invokespecial idx, 3)) (hf : 1 ≤ R.frames) (hl : (st.map fun v => v.category).sum + 12 ≤ R.locals)
    (k : ∀ (T' : State), Sit Z a0 EL p l e R s m args below meth c own bytes maxL rt nm h0 ws sf T' h locs cells slots → Run Z EL sv p e below s h0 ws Q kc ks T' (mkF m (pc + 3) Ls st)) : Run Z EL sv p e below s h0 ws Q kc ks T (mkF m pc Ls (.ref a :: st)) := by
  obtain ⟨T', X', q⟩ := X.same fun vm0 Y hZ ho => Jvm.RoadKit.initO Y X.ex hZ ho w1 w2 w3 X.eh (g := mkF m pc Ls (.ref a :: st)) rfl (hsz.trans X.ml.symm) rfl (X.de hd) hf (W := (st.map fun v => v.category).sum) (by show 2 * 0 + _ ≤ _; omega) hl
  exact Run.via q (k T' X')
theorem Run.ldcI (X : Sit Z a0 EL p l e R s m args below meth c own bytes maxL rt nm h0 ws sf T h locs cells slots) {index pc : Nat} {v : Int32} {Ls : Array Slot} {st : List Value} (w : (Cond.constant own index v).before a0 Z = true) (hd : decode bytes pc = .ok (.ldc index, 2))
    (k : Run Z EL sv p e below s h0 ws Q kc ks T (mkF m (pc + 2) Ls (.int v :: st))) : Run Z EL sv p e below s h0 ws Q kc ks T (mkF m pc Ls st) := by
  obtain ⟨-, vm0, k0, Y, r1, r2, -⟩ := id X
  exact Run.via (Y.ldcInt X.ex r2 (mv (s := s.setVm vm0) r1 w) (g := mkF m pc Ls st) rfl (X.de hd)) k
theorem Run.ldcL (X : Sit Z a0 EL p l e R s m args below meth c own bytes maxL rt nm h0 ws sf T h locs cells slots) {index pc : Nat} {v : Int64} {Ls : Array Slot} {st : List Value} (w : (Cond.constantLong own index v).before a0 Z = true) (hd : decode bytes pc = .ok (.ldc2_w index, 3))
    (k : Run Z EL sv p e below s h0 ws Q kc ks T (mkF m (pc + 3) Ls (.long v :: st))) : Run Z EL sv p e below s h0 ws Q kc ks T (mkF m pc Ls st) := by
  obtain ⟨-, vm0, k0, Y, r1, r2, -⟩ := id X
  exact Run.via (Y.ldc2Long X.ex r2 (mv (s := s.setVm vm0) r1 w) (g := mkF m pc Ls st) rfl (X.de hd)) k
theorem Run.irem (X : Sit Z a0 EL p l e R s m args below meth c own bytes maxL rt nm h0 ws sf T h locs cells slots) {pc : Nat} {x y : Int32} {Ls : Array Slot} {st : List Value} (hd : decode bytes pc = .ok (.irem, 1)) (hy : y ≠ 0)
    (k : Run Z EL sv p e below s h0 ws Q kc ks T (mkF m (pc + 1) Ls (.int (x % y) :: st))) : Run Z EL sv p e below s h0 ws Q kc ks T (mkF m pc Ls (.int y :: .int x :: st)) := by
  obtain ⟨-, vm0, k0, Y, -⟩ := id X
  exact Run.via (fun t r => iremM Y X.ex (g := mkF m pc Ls (.int y :: .int x :: st)) rfl (X.de hd) rfl hy r) k
theorem Run.lswHit (X : Sit Z a0 EL p l e R s m args below meth c own bytes maxL rt nm h0 ws sf T h locs cells slots) {pc len : Nat} {k : Int32} {df : Int} {pairs : Array (Int × Int)} {Ls : Array Slot} {st : List Value} (hd : decode bytes pc = .ok (.lookupswitch df pairs, len)) (hso : (pairs.toList.zip (pairs.toList.drop 1)).all (fun (a, next) => a.1 < next.1) = true) {a off : Int} (hf : pairs.find? (·.1 == k.toInt) = some (a, off)) (ho : 0 ≤ (pc : Int) + off)
    (r : Run Z EL sv p e below s h0 ws Q kc ks T (mkF m ((pc : Int) + off).toNat Ls st)) : Run Z EL sv p e below s h0 ws Q kc ks T (mkF m pc Ls (.int k :: st)) := by
  obtain ⟨-, vm0, k0, Y, -⟩ := id X
  exact Run.via (fun t r => Y.lookupswitchHit X.ex (g := mkF m pc Ls (.int k :: st)) rfl rfl (X.de hd) hso hf ho t r) r
theorem Run.lswMiss (X : Sit Z a0 EL p l e R s m args below meth c own bytes maxL rt nm h0 ws sf T h locs cells slots) {pc len : Nat} {k : Int32} {df : Int} {pairs : Array (Int × Int)} {Ls : Array Slot} {st : List Value} (hd : decode bytes pc = .ok (.lookupswitch df pairs, len)) (hso : (pairs.toList.zip (pairs.toList.drop 1)).all (fun (a, next) => a.1 < next.1) = true) (hf : pairs.find? (·.1 == k.toInt) = none) (ho : 0 ≤ (pc : Int) + df)
    (r : Run Z EL sv p e below s h0 ws Q kc ks T (mkF m ((pc : Int) + df).toNat Ls st)) : Run Z EL sv p e below s h0 ws Q kc ks T (mkF m pc Ls (.int k :: st)) := by
  obtain ⟨-, vm0, k0, Y, -⟩ := id X
  exact Run.via (fun t r => Y.lookupswitchMiss X.ex (g := mkF m pc Ls (.int k :: st)) rfl rfl (X.de hd) hso hf ho t r) r
/-! arrays of chars or bytes -/
/-- the array b holds just these -/
def Arc (ty : FieldType) (Z : State) (h : Heap) (b : Addr) (cs : List Int32) : Prop := ∃ k, Arv Z h b k ty (Int32.ofNat cs.length) (cs.map Value.int) (.int 0) ∧ cs.length ≤ 4000
theorem n32' {n : Nat} (h : n ≤ 4000) : ¬ Int32.ofNat n < 0 ∧ (Int32.ofNat n).toNatClampNeg = n := by
  have e : (Int32.ofNat n).toInt = n := Int32.toInt_ofNat_small (by omega)
  refine ⟨fun q => ?_, ?_⟩
  · rw [Int32.lt_iff_toInt_lt, e] at q; have : (0 : Int32).toInt = 0 := rfl; omega
  · show (Int32.ofNat n).toInt.toNat = n
    rw [e]; simp
theorem Arc.keep {ty : FieldType} {h' : Heap} {wz : List Addr} {b : Addr} {cs : List Int32} (A : Arc ty Z h b cs) (K : Keep h h' wz) (q : b ∉ wz) : Arc ty Z h' b cs := by
  obtain ⟨k, A, r⟩ := A; exact ⟨k, A.keep K q, r⟩
theorem Arc.lt {ty : FieldType} {b : Addr} {cs : List Int32} (A : Arc ty Z h b cs) : @LT.lt Nat _ b h.size := by obtain ⟨k, A, r⟩ := A; exact A.lt
theorem getD_map (cs : List Int32) (i : Nat) : (cs.map Value.int).getD i (.int 0) = .int (cs.getD i 0) := by
  simp only [List.getD_eq_getElem?_getD, List.getElem?_map]; cases cs[i]? <;> rfl
theorem Run.newarr (X : Sit Z a0 EL p l e R s m args below meth c own bytes maxL rt nm h0 ws sf T h locs cells slots) {aty : ArrayType} {pc n cap : Nat} {j : Int32} {Ls : Array Slot} {st : List Value} (w : (Cond.arrayClass (newarray.typeOf aty)).before a0 Z = true) (hi : defaultValue (newarray.typeOf aty) = .int 0) (hd : decode bytes pc = .ok (.newarray aty, 2)) (hj : j = Int32.ofNat n) (hcap : n ≤ cap) (hn : cap ≤ 4000) (hc : cells + 1 ≤ R.cells) (hl : slots + cap ≤ R.slots)
    (k : ∀ (T' : State) (h' : Heap) (x : Addr), @Eq Nat x h.size → Sit Z a0 EL p l e R s m args below meth c own bytes maxL rt nm h0 ws (x :: sf) T' h' locs (cells + 1) (slots + cap) → Keep h h' [] → @LT.lt Nat _ x h'.size → Arc (newarray.typeOf aty) Z h' x (List.replicate n 0) → Run Z EL sv p e below s h0 ws Q kc ks T' (mkF m (pc + 2) Ls (.ref x :: st))) :
    Run Z EL sv p e below s h0 ws Q kc ks T (mkF m pc Ls (.int j :: st)) := by
  subst hj
  have hn' : n ≤ 4000 := Nat.le_trans hcap hn
  have q32 := n32' hn'
  obtain ⟨T', h', X', E, lt, A, q⟩ := X.grow (k := cells + 1) (n := slots + cap) (Q' := fun T' h' => h.size < h'.size ∧ Arc (newarray.typeOf aty) Z h' h.size (List.replicate n 0) ∧ ∀ t, Steps p.tables e below (T'.setTop (mkF m (pc + 2) Ls (.ref h.size :: st))) t → Steps p.tables e below (T.setTop (mkF m pc Ls (.int (Int32.ofNat n) :: st))) t) fun vm0 Y hZ ho => by
    obtain ⟨T', h', kA, Y', e', E, A, q⟩ := newP Y X.ex hZ w X.eh (g := mkF m pc Ls (.int (Int32.ofNat n) :: st)) rfl (X.de hd) rfl q32.1 (cap := cap) (by rw [q32.2]; exact hcap) (by omega) hc hl
    have V := Arv.new A q32.1
    rw [hi] at V
    refine ⟨T', h', Y', e', E, A.lt, A.lt, ⟨kA, ?_, by simpa using hn'⟩, q⟩
    have V2 := V.pad (vs' := (List.replicate n (0 : Int32)).map Value.int) fun i => by
      have := pad_rep [] (.int 0) n i
      simpa using this
    simpa using V2
  exact Run.via q (k T' h' _ rfl X' (extK E) lt A)
theorem idx_of {j : Int32} {i n : Nat} (hj : j = Int32.ofNat i) (hi : i < n) (hn : n ≤ 4000) : ¬ (j < 0 ∨ (Int32.ofNat n).toNatClampNeg ≤ j.toNatClampNeg) ∧ j.toNatClampNeg = i := by
  subst hj
  have a := n32' (n := i) (by omega)
  have b := n32' hn
  exact ⟨fun q => q.elim a.1 fun q => by rw [a.2, b.2] at q; omega, a.2⟩
theorem Arc.set {ty : FieldType} {h' : Heap} {b : Addr} {cs : List Int32} {j v' : Int32} {i : Nat} {kA : ClassId} {cl : Cell} (hlen : cs.length ≤ 4000) (A : Arr Z h b cl ty) (q1 : cl.cls = kA) (S : cl.slots.size = (Int32.ofNat cs.length).toNatClampNeg) (q3 : ¬ Int32.ofNat cs.length < 0) (H : RoadKit.Has cl (cs.map Value.int) (.int 0)) (G : ∀ i, i < cl.slots.size → fits ty ((cs.map Value.int).getD i (.int 0)) = true) (hv : fits ty (.int v') = true) (W : Wr h h' b j.toNatClampNeg (.int v')) (j2 : j.toNatClampNeg = i) (hi : i < cs.length) : Arc ty Z h' b (cs.set i v') := by
  have V' := Arv.set A q1 S q3 H G hv W i j2 (by simpa using hi)
  refine ⟨kA, ?_, by simpa using hlen⟩
  have e1 : (cs.map Value.int).set i (.int v') = (cs.set i v').map Value.int := by simp [List.map_set]
  rw [e1] at V'
  simpa using V'
theorem Run.castore (X : Sit Z a0 EL p l e R s m args below meth c own bytes maxL rt nm h0 ws sf T h locs cells slots) {pc i : Nat} {j v v' : Int32} {b : Addr} {cs : List Int32} {Ls : Array Slot} {st : List Value} (A : Arc .char Z h b cs) (hj : j = Int32.ofNat i) (hi : i < cs.length) (hv : nar .char v = v') (ha : b ∈ ws ∨ h0.size ≤ b) (hz : Z.heap.size ≤ b) (hd : decode bytes pc = .ok (.castore, 1))
    (k : ∀ (T' : State) (h' : Heap) (L : List Loc), Sit Z a0 EL p l e R s m args below meth c own bytes maxL rt nm h0 ws sf T' h' (locs ++ L) cells slots → Keep h h' [b] → h'.size = h.size → Arc .char Z h' b (cs.set i v') → Run Z EL sv p e below s h0 ws Q kc ks T' (mkF m (pc + 1) Ls st)) : Run Z EL sv p e below s h0 ws Q kc ks T (mkF m pc Ls (.int v :: .int j :: .ref b :: st)) := by
  obtain ⟨kA, V, hlen⟩ := A
  obtain ⟨cl, A, q1, S, q3, H, G⟩ := id V
  obtain ⟨j1, j2⟩ := idx_of hj hi hlen
  obtain ⟨T', h', L', X', K, W, q⟩ := X.go (k := cells) (n := slots) (wz := [b]) (Q' := fun T' h' _ => Wr h h' b j.toNatClampNeg (.int (nar .char v)) ∧ ∀ t, Steps p.tables e below (T'.setTop (mkF m (pc + 1) Ls st)) t → Steps p.tables e below (T.setTop (mkF m pc Ls (.int v :: .int j :: .ref b :: st))) t) (fun x hx => by cases List.mem_singleton.mp hx; exact ⟨ha, hz⟩) (fun vm0 al hs x hx => by cases List.mem_singleton.mp hx; exact Safe.arv al V (by decide)) fun vm0 Y hZ ho => by
    obtain ⟨T', h', Y', e', W, q⟩ := stC Y X.ex hZ X.eh A (j := j) (by rw [S]; exact j1) (g := mkF m pc Ls (.int v :: .int j :: .ref b :: st)) rfl rfl (X.de hd)
    exact ⟨T', h', _, Y', e', Keep.of_wr W, fun y hy => by cases List.mem_singleton.mp hy; exact hz, W, q⟩
  rw [hv] at W
  exact Run.via q (k T' h' L' X' K W.size (Arc.set hlen A q1 S q3 H G (by rw [← hv]; exact fits_nar_char _) W j2 hi))
theorem Run.bastore (X : Sit Z a0 EL p l e R s m args below meth c own bytes maxL rt nm h0 ws sf T h locs cells slots) {pc i : Nat} {j v v' : Int32} {b : Addr} {cs : List Int32} {Ls : Array Slot} {st : List Value} (A : Arc .byte Z h b cs) (hj : j = Int32.ofNat i) (hi : i < cs.length) (hv : nar .byte v = v') (ha : b ∈ ws ∨ h0.size ≤ b) (hz : Z.heap.size ≤ b) (hsf : b ∈ sf) (hd : decode bytes pc = .ok (.bastore, 1))
    (k : ∀ (T' : State) (h' : Heap) (L : List Loc), Sit Z a0 EL p l e R s m args below meth c own bytes maxL rt nm h0 ws sf T' h' (locs ++ L) cells slots → Keep h h' [b] → h'.size = h.size → Arc .byte Z h' b (cs.set i v') → Run Z EL sv p e below s h0 ws Q kc ks T' (mkF m (pc + 1) Ls st)) : Run Z EL sv p e below s h0 ws Q kc ks T (mkF m pc Ls (.int v :: .int j :: .ref b :: st)) := by
  obtain ⟨kA, V, hlen⟩ := A
  obtain ⟨cl, A, q1, S, q3, H, G⟩ := id V
  obtain ⟨j1, j2⟩ := idx_of hj hi hlen
  obtain ⟨T', h', L', X', K, W, q⟩ := X.go (k := cells) (n := slots) (wz := [b]) (Q' := fun T' h' _ => Wr h h' b j.toNatClampNeg (.int (nar .byte v)) ∧ ∀ t, Steps p.tables e below (T'.setTop (mkF m (pc + 1) Ls st)) t → Steps p.tables e below (T.setTop (mkF m pc Ls (.int v :: .int j :: .ref b :: st))) t) (fun x hx => by cases List.mem_singleton.mp hx; exact ⟨ha, hz⟩) (fun vm0 al hs x hx => by cases List.mem_singleton.mp hx; exact hs b hsf) fun vm0 Y hZ ho => by
    obtain ⟨T', h', Y', e', W, q⟩ := stB Y X.ex hZ X.eh A (j := j) (by rw [S]; exact j1) (g := mkF m pc Ls (.int v :: .int j :: .ref b :: st)) rfl rfl (X.de hd)
    exact ⟨T', h', _, Y', e', Keep.of_wr W, fun y hy => by cases List.mem_singleton.mp hy; exact hz, W, q⟩
  rw [hv] at W
  exact Run.via q (k T' h' L' X' K W.size (Arc.set hlen A q1 S q3 H G (by rw [← hv]; exact fits_nar_byte _) W j2 hi))
theorem Run.caload (X : Sit Z a0 EL p l e R s m args below meth c own bytes maxL rt nm h0 ws sf T h locs cells slots) {pc i : Nat} {j : Int32} {b : Addr} {cs : List Int32} {Ls : Array Slot} {st : List Value} (A : Arc .char Z h b cs) (hj : j = Int32.ofNat i) (hi : i < cs.length) (hd : decode bytes pc = .ok (.caload, 1))
    (k : Run Z EL sv p e below s h0 ws Q kc ks T (mkF m (pc + 1) Ls (.int (cs.getD i 0) :: st))) : Run Z EL sv p e below s h0 ws Q kc ks T (mkF m pc Ls (.int j :: .ref b :: st)) := by
  obtain ⟨kA, V, hlen⟩ := A
  obtain ⟨cl, A, q1, S, q3, H, G⟩ := V
  obtain ⟨j1, j2⟩ := idx_of hj hi hlen
  obtain ⟨-, vm0, k0, Y, r1, r2, -⟩ := id X
  exact Run.via (fun t r => Y.caload X.ex (j := j) (v := .int (cs.getD i 0)) (by rw [X.eh]; exact A.1) (State.isArrayOf_alike r1.alike A.2.1) A.2.2 (by rw [S]; exact j1) (by rw [j2, H i (by rw [S, (n32' hlen).2]; exact hi), getD_map]) (g := mkF m pc Ls (.int j :: .ref b :: st)) rfl rfl (X.de hd) t r) k
theorem Run.baload (X : Sit Z a0 EL p l e R s m args below meth c own bytes maxL rt nm h0 ws sf T h locs cells slots) {pc i : Nat} {j : Int32} {b : Addr} {cs : List Int32} {Ls : Array Slot} {st : List Value} (A : Arc .byte Z h b cs) (hj : j = Int32.ofNat i) (hi : i < cs.length) (hd : decode bytes pc = .ok (.baload, 1))
    (k : Run Z EL sv p e below s h0 ws Q kc ks T (mkF m (pc + 1) Ls (.int (cs.getD i 0) :: st))) : Run Z EL sv p e below s h0 ws Q kc ks T (mkF m pc Ls (.int j :: .ref b :: st)) := by
  obtain ⟨kA, V, hlen⟩ := A
  obtain ⟨cl, A, q1, S, q3, H, G⟩ := V
  obtain ⟨j1, j2⟩ := idx_of hj hi hlen
  obtain ⟨-, vm0, k0, Y, r1, r2, -⟩ := id X
  exact Run.via (fun t r => Y.baloadBytes X.ex (j := j) (v := .int (cs.getD i 0)) (by rw [X.eh]; exact A.1) (State.isArrayOf_alike r1.alike A.2.1) A.2.2 (by rw [S]; exact j1) (by rw [j2, H i (by rw [S, (n32' hlen).2]; exact hi), getD_map]) (g := mkF m pc Ls (.int j :: .ref b :: st)) rfl rfl (X.de hd) t r) k
theorem Run.alen {ty : FieldType} (X : Sit Z a0 EL p l e R s m args below meth c own bytes maxL rt nm h0 ws sf T h locs cells slots) {pc : Nat} {b : Addr} {cs : List Int32} {Ls : Array Slot} {st : List Value} (A : Arc ty Z h b cs) (hd : decode bytes pc = .ok (.arraylength, 1))
    (k : Run Z EL sv p e below s h0 ws Q kc ks T (mkF m (pc + 1) Ls (.int (Int32.ofNat cs.length) :: st))) : Run Z EL sv p e below s h0 ws Q kc ks T (mkF m pc Ls (.ref b :: st)) := by
  obtain ⟨kA, V, hlen⟩ := A
  obtain ⟨cl, A, q1, S, q3, H, G⟩ := V
  obtain ⟨-, vm0, k0, Y, r1, r2, -⟩ := id X
  refine Run.via (fun t r => Y.arraylength X.ex (by rw [X.eh]; exact A.1) (State.isArrayOf_alike r1.alike A.2.1) (g := mkF m pc Ls (.ref b :: st)) rfl rfl (X.de hd) t ?_) k
  rw [len_of S q3]
  exact r
/-! calls -/
theorem Con.payS {y : MethodName} {rm : Room} {as' : Array Value} {wz sz : List Addr} {Q' : Option Value → Heap → Prop} {by' : ByteArray} {ml : Nat} {rt' : Option FieldType} {len W : Nat} {vm0 : Vm} {su : Bool} (C : Con l Z a0 EL su y by' ml rt' rm wz sz as' h Q') (hEL : EW Z a0 EL) (hZ : Z.Warmed39 vm0) (H : CHv Z EL vm0 h) (hsz : ∀ x ∈ sz, x < h.size ∧ Safe Z EL vm0 h x) (wc : (Cond.code y by' ml rt').before a0 Z = true) (wz' : (Cond.initialized y.cls).before a0 Z = true) (hf : rm.frames + 1 ≤ R.frames) (hl : W + (ml + 11) + rm.locals ≤ R.locals) :
    BackS l R p e below (s.setVm vm0) args y len W (fun A a => a = as' ∧ A.U.heap = h ∧ A.cells + rm.cells ≤ R.cells ∧ A.slots + rm.slots ≤ R.slots)
      (fun A _ v B => ∃ L, (Fr Z.heap.size L ∧ Keep h B.U.heap wz ∧ Q' v B.U.heap) ∧ B.locs = A.locs ++ L ∧ B.cells = A.cells + rm.cells ∧ B.slots = A.slots + rm.slots ∧ CHr Z EL vm0 h B.U.vm B.U.heap ∧ (NW = true → (s.setVm vm0).WarmedH B.U.vm) ∧ (su = true → ∀ x, v = some (.ref x) → x < B.U.heap.size ∧ Safe Z EL B.U.vm B.U.heap x)) :=
  BackS.of_freeW (bytes := by') (maxL := ml) (ret := rt') (E := fun _ first o t L k n => k = rm.cells ∧ n = rm.slots ∧ (∃ v, o = .returned v ∧ (Fr Z.heap.size L ∧ Keep h t.heap wz ∧ Q' v t.heap) ∧ (su = true → ∀ x, v = some (.ref x) → x < t.heap.size ∧ Safe Z EL t.vm t.heap x)) ∧ CHr Z EL first.vm h t.vm t.heap ∧ (NW = true → first.WarmedH t.vm)) (C hEL []) hf hl
    (fun m meth c A a Y hp => have hU : Z.Warmed39 A.U.vm := wtrans (s := s.setVm vm0) hZ Y.warmed
      ⟨by show (Cond.and _ .tt).before a A.U = true; rw [Cond.before_and, mv hU wc]; rfl, mv hU wc, mv hU wz', hp.2.2.1, hp.2.2.2⟩)
    (fun m meth c A a g mk Y hp => ⟨hp.1, wtrans (s := s.setVm vm0) hZ Y.warmed, hp.2.1, (CHv.at Y hZ hEL H).1, fun x hx => ⟨(hsz x hx).1, (CHv.at Y hZ hEL H).safe (hsz x hx).1 (hsz x hx).2⟩⟩) (fun _ _ _ _ _ _ _ _ _ => trivial)
    (fun _ _ _ _ ⟨v, L, g1, g2, g3, g4, g5, g6⟩ => ⟨L, _, _, g4, rfl, rfl, ⟨v, g1, g2, g6⟩, g3, g5⟩)
    (fun m meth c A a g mk v t L k n Y hp _ _ ⟨e1, e2, ⟨v', e3, e4, e7⟩, e5, e6⟩ => by
      cases e3; subst e1 e2
      exact ⟨L, e4, rfl, rfl, rfl, (CHv.at Y hZ hEL H).trans e5, fun z => State.WarmedH.trans (t := A.U) Y.warmed (e6 z), e7⟩)
/-- what a call by a contract leaves, whichever instruction made it -/
theorem Run.called (X : Sit Z a0 EL p l e R s m args below meth c own bytes maxL rt nm h0 ws sf T h locs cells slots) {y : MethodName} {by' : ByteArray} {ml : Nat} {rt' : Option FieldType} {rm : Room} {wz sz : List Addr} {Q' : Option Value → Heap → Prop} {len pc W : Nat} {Ls : Array Slot} {st rest : List Value} {as' : Array Value}
    {su : Bool} (C : Con l Z a0 EL su y by' ml rt' rm wz sz as' h Q') (w3 : (Cond.initialized y.cls).before a0 Z = true) (w4 : (Cond.code y by' ml rt').before a0 Z = true) (hf : rm.frames + 1 ≤ R.frames) (hl : W + (ml + 11) + rm.locals ≤ R.locals) (hwz : ∀ x ∈ wz, (x ∈ ws ∨ h0.size ≤ x) ∧ Z.heap.size ≤ x) (hsz : ∀ x ∈ sz, x ∈ sf)
    (q : ∀ vm0, Stand p l e R (s.setVm vm0) m args below meth c T locs cells slots → Z.Warmed39 (s.setVm vm0).vm → (s.setVm vm0).vm.findClass own = some m.cls →
      ∀ {Post : Pt → Array Value → Option Value → Pt → Prop}, BackS l R p e below (s.setVm vm0) args y len W (fun A a => a = as' ∧ A.U.heap = h ∧ A.cells + rm.cells ≤ R.cells ∧ A.slots + rm.slots ≤ R.slots) Post → ∃ (v : Option Value) (vm₁ : Vm) (B : Pt), (s.setVm vm0).WarmedH vm₁ ∧ Stand p l e R ((s.setVm vm0).setVm B.U.vm) m args below meth c B.U B.locs B.cells B.slots ∧ (s.setVm vm0).Since B.U.vm B.U.heap.size ∧ T.heap.size ≤ B.U.heap.size ∧ Post ⟨T.setVm vm₁, locs, cells, slots⟩ as' v B ∧ Steps p.tables e below (T.setTop (mkF m pc Ls st)) (B.U.setTop (mkF m (pc + len) Ls (v.toList ++ rest))))
    (k : ∀ (v : Option Value) (T' : State) (h' : Heap) (L : List Loc), Q' v h' → Sit Z a0 EL p l e R s m args below meth c own bytes maxL rt nm h0 ws sf T' h' (locs ++ L) (cells + rm.cells) (slots + rm.slots) → (su = true → ∀ x, v = some (.ref x) → Sit Z a0 EL p l e R s m args below meth c own bytes maxL rt nm h0 ws (x :: sf) T' h' (locs ++ L) (cells + rm.cells) (slots + rm.slots)) → Keep h h' wz → Run Z EL sv p e below s h0 ws Q kc ks T' (mkF m (pc + len) Ls (v.toList ++ rest))) : Run Z EL sv p e below s h0 ws Q kc ks T (mkF m pc Ls st) := by
  obtain ⟨T', h', L, sx, X', K, v, q3, rfl, sp⟩ := X.reb (k := cells + rm.cells) (n := slots + rm.slots) (wz := wz) (Q' := fun T' h' L sx => ∃ v, Q' v h' ∧ sx = rvs su v ∧ Steps p.tables e below (T.setTop (mkF m pc Ls st)) (T'.setTop (mkF m (pc + len) Ls (v.toList ++ rest)))) hwz fun vm0 k0 Y hZ ho hS hk H hs => by
    obtain ⟨v, vm₁, ⟨T', L', k', n'⟩, -, Y', S', hT, ⟨Lc, ⟨q1, q2, q3⟩, l1, y1, z1, C1, n1, f1⟩, sp⟩ := q vm0 Y hZ ho (C.payS (W := W) X.ew hZ H (fun x hx => hs x (hsz x hx)) w4 w3 hf hl)
    dsimp only [Pt.U, Pt.locs, Pt.cells, Pt.slots] at Y' S' hT l1 y1 z1 sp q1 q2 q3 C1 n1 f1
    subst l1 y1 z1
    exact ⟨T', T'.heap, Lc, T'.vm, T'.heap.size, rvs su v, Y', rfl, q2, q1, State.Warmed39.trans (t := s.setVm vm0) hZ S'.1, (S'.1.alike.findClass _ _).trans ho, hS.trans S' (Nat.le_trans hk (by rw [X.eh] at hT; exact hT)), Nat.le_refl _, C1, n1, rvs_safe f1, v, q3, rfl, sp⟩
  refine Run.on sp (k v T' h' L q3 (X'.less fun x hx => List.mem_append_right _ hx) (fun z x hx => ?_) K)
  subst z hx
  exact X'
theorem Run.callS (X : Sit Z a0 EL p l e R s m args below meth c own bytes maxL rt nm h0 ws sf T h locs cells slots) {y : MethodName} {by' : ByteArray} {ml : Nat} {rt' : Option FieldType} {rm : Room} {wz sz : List Addr} {Q' : Option Value → Heap → Prop} {index pc W : Nat} {Ls : Array Slot} {st argsL rest : List Value} {ps : List FieldType} {rr : Option FieldType}
    {su : Bool} (C : Con l Z a0 EL su y by' ml rt' rm wz sz argsL.toArray h Q') (w1 : (Cond.methodLink own index y).before a0 Z = true) (w2 : (Cond.static y).before a0 Z = true) (w3 : (Cond.initialized y.cls).before a0 Z = true) (w4 : (Cond.code y by' ml rt').before a0 Z = true) (hy : y.cls ≠ "java/lang/invoke/MethodHandle" ∧ y.cls ≠ "java/lang/invoke/VarHandle")
    (hds : parseMethodDescriptor y.desc = some ⟨ps, rr⟩) (hln : argsL.length = ps.length) (hst : st = argsL.reverse ++ rest) (hW : (rest.map fun v => v.category).sum ≤ W) (hsz : Ls.size = maxL) (hd : decode bytes pc = .ok (.invokestatic index, 3)) (hf : rm.frames + 1 ≤ R.frames) (hl : W + (ml + 11) + rm.locals ≤ R.locals) (hc : cells + rm.cells ≤ R.cells) (hs : slots + rm.slots ≤ R.slots) (hwz : ∀ x ∈ wz, (x ∈ ws ∨ h0.size ≤ x) ∧ Z.heap.size ≤ x) (hsf : ∀ x ∈ sz, x ∈ sf)
    (k : ∀ (v : Option Value) (T' : State) (h' : Heap) (L : List Loc), Q' v h' → Sit Z a0 EL p l e R s m args below meth c own bytes maxL rt nm h0 ws sf T' h' (locs ++ L) (cells + rm.cells) (slots + rm.slots) → (su = true → ∀ x, v = some (.ref x) → Sit Z a0 EL p l e R s m args below meth c own bytes maxL rt nm h0 ws (x :: sf) T' h' (locs ++ L) (cells + rm.cells) (slots + rm.slots)) → Keep h h' wz → Run Z EL sv p e below s h0 ws Q kc ks T' (mkF m (pc + 3) Ls (v.toList ++ rest))) : Run Z EL sv p e below s h0 ws Q kc ks T (mkF m pc Ls st) :=
  Run.called X (len := 3) (W := W) C w3 w4 hf hl hwz hsf (fun vm0 Y hZ ho _ bk => callSS Y X.ex (y := y) ho (mv hZ w1) (mv hZ w2) (mv hZ w3) (mv hZ w4) hy bk (g := mkF m pc Ls st) rfl (hsz.trans X.ml.symm) (argsL := argsL) (rest := rest) (lenOf hds hln) hst (by show 2 * 0 + _ ≤ _; omega) (X.de hd) (fun _ _ => ⟨rfl, X.eh, hc, hs⟩)) k
theorem Run.callN (X : Sit Z a0 EL p l e R s m args below meth c own bytes maxL rt nm h0 ws sf T h locs cells slots) {y : MethodName} {by' : ByteArray} {ml : Nat} {rm : Room} {wz sz : List Addr} {Q' : Option Value → Heap → Prop} {index pc W : Nat} {Ls : Array Slot} {a : Addr} {st argsL rest : List Value} {ps : List FieldType} {rr : Option FieldType}
    {su : Bool} (C : Con l Z a0 EL su y by' ml none rm wz sz (.ref a :: argsL).toArray h Q') (hi : y.name = "<init>") (w1 : (Cond.methodLink own index y).before a0 Z = true) (w2 : (Cond.instanceMethod y).before a0 Z = true) (w3 : (Cond.initialized y.cls).before a0 Z = true) (w4 : (Cond.code y by' ml none).before a0 Z = true) (hy : y.cls ≠ "java/lang/invoke/MethodHandle" ∧ y.cls ≠ "java/lang/invoke/VarHandle")
    (hds : parseMethodDescriptor y.desc = some ⟨ps, rr⟩) (hln : argsL.length = ps.length) (hst : st = argsL.reverse ++ .ref a :: rest) (hW : (rest.map fun v => v.category).sum ≤ W) (hsz : Ls.size = maxL) (hd : decode bytes pc = .ok (.invokespecial index, 3)) (hf : rm.frames + 1 ≤ R.frames) (hl : W + (ml + 11) + rm.locals ≤ R.locals) (hc : cells + rm.cells ≤ R.cells) (hs : slots + rm.slots ≤ R.slots) (hwz : ∀ x ∈ wz, (x ∈ ws ∨ h0.size ≤ x) ∧ Z.heap.size ≤ x) (hsf : ∀ x ∈ sz, x ∈ sf)
    (k : ∀ (v : Option Value) (T' : State) (h' : Heap) (L : List Loc), Q' v h' → Sit Z a0 EL p l e R s m args below meth c own bytes maxL rt nm h0 ws sf T' h' (locs ++ L) (cells + rm.cells) (slots + rm.slots) → (su = true → ∀ x, v = some (.ref x) → Sit Z a0 EL p l e R s m args below meth c own bytes maxL rt nm h0 ws (x :: sf) T' h' (locs ++ L) (cells + rm.cells) (slots + rm.slots)) → Keep h h' wz → Run Z EL sv p e below s h0 ws Q kc ks T' (mkF m (pc + 3) Ls (v.toList ++ rest))) : Run Z EL sv p e below s h0 ws Q kc ks T (mkF m pc Ls st) :=
  Run.called X (len := 3) (W := W) C w3 w4 hf hl hwz hsf (fun vm0 Y hZ ho _ bk => Y.specialBackS X.ex (y := y) hi ho (mv hZ w1) (mv hZ w2) (mv hZ w4) hy bk (g := mkF m pc Ls st) rfl (hsz.trans X.ml.symm) (Steps.refl _) (a := a) (argsL := argsL) (rest := rest) (lenOf hds hln) hst (by show 2 * 0 + _ ≤ _; omega) (X.de hd) (fun _ _ => ⟨rfl, X.eh, hc, hs⟩)) k
theorem Run.callV (X : Sit Z a0 EL p l e R s m args below meth c own bytes maxL rt nm h0 ws sf T h locs cells slots) {y : MethodName} {by' : ByteArray} {ml : Nat} {rt' : Option FieldType} {rm : Room} {wz sz : List Addr} {Q' : Option Value → Heap → Prop} {index pc W : Nat} {Ls : Array Slot} {a : Addr} {cls : String} {st argsL rest : List Value} {ps : List FieldType} {rr : Option FieldType}
    {su : Bool} (C : Con l Z a0 EL su y by' ml rt' rm wz sz (.ref a :: argsL).toArray h Q') (E : Exa Z h a cls) (w1 : (Cond.methodLink own index y).before a0 Z = true) (wd : (Cond.declares y).before a0 Z = true) (w2 : (Cond.instanceMethod y).before a0 Z = true) (wl : (Cond.selects cls y y).before a0 Z = true) (w3 : (Cond.initialized y.cls).before a0 Z = true) (w4 : (Cond.code y by' ml rt').before a0 Z = true) (hy : y.cls ≠ "java/lang/invoke/MethodHandle" ∧ y.cls ≠ "java/lang/invoke/VarHandle")
    (hds : parseMethodDescriptor y.desc = some ⟨ps, rr⟩) (hln : argsL.length = ps.length) (hst : st = argsL.reverse ++ .ref a :: rest) (hW : (rest.map fun v => v.category).sum ≤ W) (hsz : Ls.size = maxL) (hd : decode bytes pc = .ok (.invokevirtual index, 3)) (hf : rm.frames + 1 ≤ R.frames) (hl : W + (ml + 11) + rm.locals ≤ R.locals) (hc : cells + rm.cells ≤ R.cells) (hs : slots + rm.slots ≤ R.slots) (hwz : ∀ x ∈ wz, (x ∈ ws ∨ h0.size ≤ x) ∧ Z.heap.size ≤ x) (hsf : ∀ x ∈ sz, x ∈ sf)
    (k : ∀ (v : Option Value) (T' : State) (h' : Heap) (L : List Loc), Q' v h' → Sit Z a0 EL p l e R s m args below meth c own bytes maxL rt nm h0 ws sf T' h' (locs ++ L) (cells + rm.cells) (slots + rm.slots) → (su = true → ∀ x, v = some (.ref x) → Sit Z a0 EL p l e R s m args below meth c own bytes maxL rt nm h0 ws (x :: sf) T' h' (locs ++ L) (cells + rm.cells) (slots + rm.slots)) → Keep h h' wz → Run Z EL sv p e below s h0 ws Q kc ks T' (mkF m (pc + 3) Ls (v.toList ++ rest))) : Run Z EL sv p e below s h0 ws Q kc ks T (mkF m pc Ls st) :=
  Run.called X (len := 3) (W := W) C w3 w4 hf hl hwz hsf (fun vm0 Y hZ ho _ bk => by
    obtain ⟨cq, kq, qa, qb, qc⟩ := isOf (s := s.setVm vm0) hZ X.eh E
    exact Y.virtualBackS X.ex (y := y) (z := y) ho (mv hZ w1) (mv hZ wd) (notFace_of_selects (args := #[]) (mv hZ wl)) (mv hZ wl) (mv hZ w2) hy bk qa qc (g := mkF m pc Ls st) rfl (hsz.trans X.ml.symm) (Steps.refl _) (argsL := argsL) (rest := rest) (lenOf hds hln) hst (by show 2 * 0 + _ ≤ _; omega) (X.de hd) (fun _ _ => ⟨rfl, X.eh, hc, hs⟩)) k
theorem Run.callI (X : Sit Z a0 EL p l e R s m args below meth c own bytes maxL rt nm h0 ws sf T h locs cells slots) {xi y : MethodName} {by' : ByteArray} {ml : Nat} {rt' : Option FieldType} {rm : Room} {wz sz : List Addr} {Q' : Option Value → Heap → Prop} {index count pc W : Nat} {Ls : Array Slot} {a : Addr} {cls : String} {st argsL rest : List Value} {ps : List FieldType} {rr : Option FieldType}
    {su : Bool} (C : Con l Z a0 EL su y by' ml rt' rm wz sz (.ref a :: argsL).toArray h Q') (E : Exa Z h a cls) (w1 : (Cond.methodLink own index xi).before a0 Z = true) (wd : (Cond.declares xi).before a0 Z = true) (wf : (Cond.interfaceMethod xi.cls xi.cls xi.name xi.desc).before a0 Z = true) (hfa : ((Cond.interfaceMethod xi.cls xi.cls xi.name xi.desc).onTables && (Cond.interfaceMethod xi.cls xi.cls xi.name xi.desc).keepsFace) = true) (wl : (Cond.selects cls xi y).before a0 Z = true) (w2 : (Cond.instanceMethod y).before a0 Z = true) (wp : (Cond.publicMethod y).before a0 Z = true) (wu : (Cond.unhidden cls xi.name xi.desc).before a0 Z = true) (wc : (Cond.castable cls xi.cls).before a0 Z = true) (w3 : (Cond.initialized y.cls).before a0 Z = true) (w4 : (Cond.code y by' ml rt').before a0 Z = true) (hy : xi.cls ≠ "java/lang/invoke/MethodHandle" ∧ xi.cls ≠ "java/lang/invoke/VarHandle")
    (hds : parseMethodDescriptor xi.desc = some ⟨ps, rr⟩) (hln : argsL.length = ps.length) (hst : st = argsL.reverse ++ .ref a :: rest) (hW : (rest.map fun v => v.category).sum ≤ W) (hsz : Ls.size = maxL) (hd : decode bytes pc = .ok (.invokeinterface index count, 5)) (hf : rm.frames + 1 ≤ R.frames) (hl : W + (ml + 11) + rm.locals ≤ R.locals) (hc : cells + rm.cells ≤ R.cells) (hs : slots + rm.slots ≤ R.slots) (hwz : ∀ x ∈ wz, (x ∈ ws ∨ h0.size ≤ x) ∧ Z.heap.size ≤ x) (hsf : ∀ x ∈ sz, x ∈ sf)
    (k : ∀ (v : Option Value) (T' : State) (h' : Heap) (L : List Loc), Q' v h' → Sit Z a0 EL p l e R s m args below meth c own bytes maxL rt nm h0 ws sf T' h' (locs ++ L) (cells + rm.cells) (slots + rm.slots) → (su = true → ∀ x, v = some (.ref x) → Sit Z a0 EL p l e R s m args below meth c own bytes maxL rt nm h0 ws (x :: sf) T' h' (locs ++ L) (cells + rm.cells) (slots + rm.slots)) → Keep h h' wz → Run Z EL sv p e below s h0 ws Q kc ks T' (mkF m (pc + 5) Ls (v.toList ++ rest))) : Run Z EL sv p e below s h0 ws Q kc ks T (mkF m pc Ls st) :=
  Run.called X (len := 5) (W := W) C w3 w4 hf hl hwz hsf (fun vm0 Y hZ ho _ bk => by
    obtain ⟨cq, kq, qa, qb, qc⟩ := isOf (s := s.setVm vm0) hZ X.eh E
    exact Y.interfaceBackS X.ex (xi := xi) (y := y) ho (mv hZ w1) (mv hZ wd) (mv hZ wf hfa) (mv hZ wl) (mv hZ w2) (mv hZ wp) (mv hZ wu) (mv hZ wc) hy bk qa qb qc (g := mkF m pc Ls st) rfl (hsz.trans X.ml.symm) (Steps.refl _) (argsL := argsL) (rest := rest) (lenOf hds hln) hst (by show 2 * 0 + _ ≤ _; omega) (X.de hd) (fun _ _ => ⟨rfl, X.eh, hc, hs⟩)) k
end Pre
end Jvm.Pilot.@@N@@
-- part str
namespace Jvm.Pilot.@@N@@
open Jvm Jvm.ClassFile Sem Op Lib Jvm.Free Jvm.Stand Jvm.LawKit Jvm.RoadKit Bundle Jvm.Pilot.@@N@@.Jvm.D
section Strs
variable {Z : State} {a0 : Array Value} {EL : List (String × Nat)} {sv : Bool} {p : Program} {l : Launch} {e : Env} {R : Room} {s : State} {m : MethodId} {args : Array Value} {below : List Frame} {meth : Method} {c : Code} {own : String} {bytes : ByteArray} {maxL : Nat} {rt : Option FieldType} {nm : String} {h0 : Heap} {ws sf : List Addr} {T : State} {h h' : Heap} {locs : List Loc} {cells slots : Nat} {Q : Option Value → Heap → Prop} {kc ks : Nat} {a : Addr} {cs : List Int32}
/-- the String a spells cs -/
def Str (Z : State) (h : Heap) (a : Addr) (cs : List Int32) : Prop :=
  Exa Z h a "java/lang/String" ∧ ∃ (t : Addr) (kb : ClassId) (cd N2 : Int32) (vs : List Value), Fld Z h a "java/lang/String" "value" "[B" (.ref t) ∧ Fld Z h a "java/lang/String" "coder" "B" (.int cd) ∧ Arv Z h t kb .byte N2 vs (.int 0) ∧ StrChars.Road.CodA cs cd N2 vs ∧ (∀ c ∈ cs, ¬ c < 0 ∧ ¬ (65535 : Int32) < c) ∧ cs.length ≤ 4000
theorem Str.keep (S : Str Z h a cs) (K : Keep h h' []) : Str Z h' a cs := by
  obtain ⟨E, t, kb, cd, N2, vs, V, C, A, r⟩ := S
  exact ⟨E.keep K, t, kb, cd, N2, vs, V.keep K nin0, C.keep K nin0, A.keep K nin0, r⟩
theorem Str.lt (S : Str Z h a cs) : @LT.lt Nat _ a h.size := S.1.lt
/-- a String as 'new' leaves it -/
def Raw (Z : State) (h : Heap) (a : Addr) : Prop := Exa Z h a "java/lang/String" ∧ Fld Z h a "java/lang/String" "value" "[B" .null ∧ Fld Z h a "java/lang/String" "coder" "B" (.int 0)
theorem Raw.keep {wz : List Addr} (S : Raw Z h a) (K : Keep h h' wz) (q : a ∉ wz) : Raw Z h' a := ⟨S.1.keep K, S.2.1.keep K q, S.2.2.keep K q⟩
/-- the JDK's statics -/
def Sets (Z : State) : Prop := ∃ (z : Int32) (fm : Value), Sta Z Z.heap "java/lang/String" "COMPACT_STRINGS" "Z" (.int z) ∧ ¬ z = 0 ∧ Sta Z Z.heap "jdk/internal/util/Preconditions" "SIOOBE_FORMATTER" "Ljava/util/function/BiFunction;" fm ∧ fm.isRef = true
theorem up (cs : List Int32) (h : ∀ c ∈ cs, ¬ c < 0 ∧ ¬ (255 : Int32) < c) : ∀ c ∈ cs, ¬ c < 0 ∧ ¬ (65535 : Int32) < c := fun c hc => ⟨(h c hc).1, fun q => (h c hc).2 (by rw [Int32.lt_iff_toInt_lt] at q ⊢; have e1 : (65535 : Int32).toInt = 65535 := rfl; have e2 : (255 : Int32).toInt = 255 := rfl; omega)⟩
theorem hwsV (hw : ∀ d ∈ tables_1, d.before a0 Z = true) : ∀ d ∈ StrChars.Road.words, d.before a0 Z = true := fun d hd => hw d ((by decide +kernel : ∀ d ∈ StrChars.Road.words, d ∈ tables_1) d hd)
/-- new String(char[]): the constructor's call -/
theorem Run.initStr (hw : ∀ d ∈ tables_1, d.before a0 Z = true) (hS : Sets Z) (X : Sit Z a0 EL p l e R s m args below meth c own bytes maxL rt nm h0 ws sf T h locs cells slots) {x b : Addr} {index pc W : Nat} {Ls : Array Slot} {rest : List Value} (G : Raw Z h x) (A : Arc .char Z h b cs) (hcs : ∀ c ∈ cs, ¬ c < 0 ∧ ¬ (255 : Int32) < c) (h1 : 0 < cs.length)
    (w1 : (Cond.methodLink own index (⟨"java/lang/String", "<init>", "([C)V"⟩ : MethodName)).before a0 Z = true) (w2 : (Cond.instanceMethod (⟨"java/lang/String", "<init>", "([C)V"⟩ : MethodName)).before a0 Z = true) (wi : (Cond.instantiable "java/lang/String" 4).before a0 Z = true) (hd : decode bytes pc = .ok (.invokespecial index, 3)) (hsz : Ls.size = maxL) (hx : x ∈ ws ∨ h0.size ≤ x) (hz : Z.heap.size ≤ x) (hsf : x ∈ sf)
    (hW : (rest.map fun v => v.category).sum ≤ W) (hf : 4 ≤ R.frames) (hl : W + 65 ≤ R.locals) (hc : cells + 1 ≤ R.cells) (hs : slots + cs.length ≤ R.slots)
    (k : ∀ (T' : State) (h' : Heap) (L : List Loc), Sit Z a0 EL p l e R s m args below meth c own bytes maxL rt nm h0 ws sf T' h' (locs ++ L) (cells + 1) (slots + cs.length) → Keep h h' [x] → Str Z h' x cs → Run Z EL sv p e below s h0 ws Q kc ks T' (mkF m (pc + 3) Ls rest)) : Run Z EL sv p e below s h0 ws Q kc ks T (mkF m pc Ls (.ref b :: .ref x :: rest)) := by
  obtain ⟨zz, fm, S1, S2, S3, S4⟩ := hS
  obtain ⟨kA, V, hlen⟩ := A
  have wc := hwsV hw _ (List.mem_cons_self ..)
  obtain ⟨T', h', L', X', K, S, sp⟩ := X.go (k := cells + 1) (n := slots + cs.length) (wz := [x]) (Q' := fun T' h' _ => Str Z h' x cs ∧ Steps p.tables e below (T.setTop (mkF m pc Ls (.ref b :: .ref x :: rest))) (T'.setTop (mkF m (pc + 3) Ls rest))) (fun y hy => by cases List.mem_singleton.mp hy; exact ⟨hx, hz⟩) (fun vm0 al hs y hy => by cases List.mem_singleton.mp hy; exact hs x hsf) fun vm0 Y hZ ho => by
    obtain ⟨v, _, ⟨T', L', k', n'⟩, -, Y', ⟨Lc, ⟨q1, q2, q3, q4, q5, t, kb, q6, q7, q8, q9, q10⟩, l1, y1, z1⟩, sp⟩ := Y.specialBack X.ex (y := (⟨"java/lang/String", "<init>", "([C)V"⟩ : MethodName)) rfl ho (mv hZ w1) (mv hZ w2) (mv hZ wc) (by decide) (StrChars.Road.backV (W := W) hZ (hwsV hw) (kI := 4) wi (cs := cs) (bs := cs.map fun c => c.toInt8.toInt32) (n := cs.length) hz X.old.1 G.1 G.2.1 G.2.2 V (S1.ext X.old) S2 rfl rfl h1 hlen hcs rfl hf hl) (g := mkF m pc Ls (.ref b :: .ref x :: rest)) rfl (hsz.trans X.ml.symm) (Steps.refl _) (a := x) (argsL := [.ref b]) (rest := rest) (lenOf (ps := [.array .char]) (r := none) (by decide +kernel) rfl) rfl (by show 2 * 0 + _ ≤ _; omega) (X.de hd) (fun _ _ => ⟨rfl, X.eh, hc, hs⟩)
    dsimp only [Pt.U, Pt.locs, Pt.cells, Pt.slots] at Y' l1 y1 z1 sp q1 q2 q3 q4 q5 q6 q7 q8 q9 q10
    subst l1 y1 z1 q1
    exact ⟨T', T'.heap, Lc, Y', rfl, q3, q2, ⟨q4, t, kb, 0, _, _, q9, q5, q10, StrChars.Road.codOf rfl fun c hc => (hcs c hc).2, up _ hcs, hlen⟩, sp⟩
  exact Run.on sp (k T' h' L' X' K S)
theorem nar_i2c (x : Int32) : nar .char (x.toUInt32.toUInt16.toUInt32.toInt32) = x.toUInt32.toUInt16.toUInt32.toInt32 := by simp only [nar, UInt32.toUInt32_toInt32, UInt16.toUInt16_toUInt32]
theorem and255 (x : Int32) : ¬ ((x &&& (255 : Int32)).toUInt32.toUInt16.toUInt32.toInt32) < 0 ∧ ¬ (255 : Int32) < ((x &&& (255 : Int32)).toUInt32.toUInt16.toUInt32.toInt32) := by
  have t : ∀ k : Fin 256, ¬ ((Int32.ofNat k.val).toUInt32.toUInt16.toUInt32.toInt32) < 0 ∧ ¬ (255 : Int32) < ((Int32.ofNat k.val).toUInt32.toUInt16.toUInt32.toInt32) := by decide +kernel
  have h : (x &&& 255).toBitVec.toNat < 256 := by
    simp only [Int32.toBitVec_and, BitVec.toNat_and]
    exact Nat.lt_succ_of_le Nat.and_le_right
  have e : (x &&& 255) = Int32.ofNat (x &&& 255).toBitVec.toNat := by
    apply Int32.toBitVec_inj.mp
    show _ = BitVec.ofNat 32 _
    rw [BitVec.ofNat_toNat]; simp
  rw [e]
  exact t ⟨_, h⟩
/-- a char, that it is one -/
theorem i2c_rng (x : Int32) : ¬ (x.toUInt32.toUInt16.toUInt32.toInt32) < 0 ∧ ¬ (65535 : Int32) < (x.toUInt32.toUInt16.toUInt32.toInt32) := by
  obtain ⟨-, q1, q2⟩ := c_i2c x
  constructor
  · intro q; rw [Int32.lt_iff_toInt_lt] at q; have : (0 : Int32).toInt = 0 := rfl; omega
  · intro q; rw [Int32.lt_iff_toInt_lt] at q; have : (65535 : Int32).toInt = 65535 := rfl; omega
theorem nar_char {c : Int32} (h : ¬ c < 0 ∧ ¬ (65535 : Int32) < c) : nar .char c = c := by
  have q := c_i2c c
  have e : (nar .char c) = c.toUInt32.toUInt16.toUInt32.toInt32 := rfl
  rw [e]
  apply Int32.toInt_inj.mp
  rw [Int32.lt_iff_toInt_lt, Int32.lt_iff_toInt_lt] at h
  have : (0 : Int32).toInt = 0 := rfl
  have : (65535 : Int32).toInt = 65535 := rfl
  omega
/-- an instance method of a JDK class that moves nothing, by a pasted law -/
theorem Run.virtP (X : Sit Z a0 EL p l e R s m args below meth c own bytes maxL rt nm h0 ws sf T h locs cells slots) {y : MethodName} {index pc W : Nat} {Ls : Array Slot} {cls : String} {st argsL rest : List Value} {ps : List FieldType} {rr : Option FieldType} {V : Option Value → Prop}
    (bk : ∀ vm0, Z.Warmed39 (s.setVm vm0).vm → Back l R p e below (s.setVm vm0) args y 3 W (fun P b => b = (.ref a :: argsL).toArray ∧ P.U.heap = h ∧ P.cells + 0 ≤ R.cells ∧ P.slots + 0 ≤ R.slots) (fun P _ v B => ∃ L, (V v ∧ L = [] ∧ B.U.heap = h) ∧ B.locs = P.locs ++ L ∧ B.cells = P.cells + 0 ∧ B.slots = P.slots + 0))
    (E : Exa Z h a cls) (w1 : (Cond.methodLink own index y).before a0 Z = true) (wd : (Cond.declares y).before a0 Z = true) (w2 : (Cond.instanceMethod y).before a0 Z = true) (wl : (Cond.selects cls y y).before a0 Z = true) (hy : y.cls ≠ "java/lang/invoke/MethodHandle" ∧ y.cls ≠ "java/lang/invoke/VarHandle")
    (hds : parseMethodDescriptor y.desc = some ⟨ps, rr⟩) (hln : argsL.length = ps.length) (hst : st = argsL.reverse ++ .ref a :: rest) (hW : (rest.map fun v => v.category).sum ≤ W) (hsz : Ls.size = maxL) (hd : decode bytes pc = .ok (.invokevirtual index, 3)) (hc : cells ≤ R.cells) (hs : slots ≤ R.slots)
    (k : ∀ (v : Option Value) (T' : State), V v → Sit Z a0 EL p l e R s m args below meth c own bytes maxL rt nm h0 ws sf T' h locs cells slots → Run Z EL sv p e below s h0 ws Q kc ks T' (mkF m (pc + 3) Ls (v.toList ++ rest))) : Run Z EL sv p e below s h0 ws Q kc ks T (mkF m pc Ls st) := by
  obtain ⟨T', X', v, hv, sp⟩ := X.same (Q' := fun T' => ∃ v, V v ∧ Steps p.tables e below (T.setTop (mkF m pc Ls st)) (T'.setTop (mkF m (pc + 3) Ls (v.toList ++ rest)))) fun vm0 Y hZ ho => by
    obtain ⟨cq, kq, qa, qb, qc⟩ := isOf (s := s.setVm vm0) hZ X.eh E
    obtain ⟨v, _, ⟨T', L', k', n'⟩, -, Y', ⟨Lc, ⟨q1, q2, q3⟩, l1, y1, z1⟩, sp⟩ := Y.virtualBack X.ex (y := y) (z := y) ho (mv hZ w1) (mv hZ wd) (notFace_of_selects (args := #[]) (mv hZ wl)) (mv hZ wl) (mv hZ w2) hy (bk vm0 hZ) qa qc (g := mkF m pc Ls st) rfl (hsz.trans X.ml.symm) (Steps.refl _) (argsL := argsL) (rest := rest) (lenOf hds hln) hst (by show 2 * 0 + _ ≤ _; omega) (X.de hd) (fun _ _ => ⟨rfl, X.eh, hc, hs⟩)
    dsimp only [Pt.U, Pt.locs, Pt.cells, Pt.slots] at Y' l1 y1 z1 sp q1 q2 q3
    subst l1 y1 z1 q2
    simp only [List.append_nil] at Y'
    exact ⟨T', Y', q3, v, q1, sp⟩
  exact Run.on sp (k v T' hv X')
end Strs
end Jvm.Pilot.@@N@@
-- part strs
namespace Jvm.Pilot.@@N@@
open Jvm Jvm.ClassFile Sem Op Lib Jvm.Free Jvm.Stand Jvm.LawKit Jvm.RoadKit Bundle Jvm.Pilot.@@N@@.Jvm.D
theorem hwsLit {Z : State} {a0 : Array Value} (hw : ∀ d ∈ tables_1, d.before a0 Z = true) : ∀ d ∈ Bundle.stringAtoms, d.before a0 Z = true := fun d hd => hw d ((by decide +kernel : ∀ d ∈ Bundle.stringAtoms, d ∈ tables_1) d hd)
/-- 'ldc' of a String constant, whether the JVM holds it already or not -/
theorem Run.ldcS {Z : State} {a0 : Array Value} {EL : List (String × Nat)} {sv : Bool} {p : Program} {l : Launch} {e : Env} {R : Room} {s : State} {m : MethodId} {args : Array Value} {below : List Frame} {meth : Method} {c : Code} {own : String} {bytes : ByteArray} {maxL : Nat} {rt : Option FieldType} {nm : String} {h0 : Heap} {ws sf : List Addr} {T : State} {h : Heap} {locs : List Loc} {cells slots : Nat} {Q : Option Value → Heap → Prop} {kc ks : Nat} (hw : ∀ d ∈ tables_1, d.before a0 Z = true) (hN : NW = false) (X : Sit Z a0 EL p l e R s m args below meth c own bytes maxL rt nm h0 ws sf T h locs cells slots) {text : String} {cs : List Int32} {index pc n : Nat} {Ls : Array Slot} {st : List Value} (w : (Cond.stringLink own index text).before a0 Z = true) (hm : (own, index) ∈ EL)
    (ht : (∀ c ∈ text.toList, c.toNat < 256) ∧ text.toList.map (fun c => Value.int (Jvm.Lit.byteI c.toNat.toUInt16)) = (cs.map fun c => Value.int (StrChars.lo8 c))) (hcs : ∀ c ∈ cs, ¬ c < 0 ∧ ¬ (255 : Int32) < c) (hlen : cs.length ≤ 4000) (hd : decode bytes pc = .ok (.ldc index, 2)) (hn : 4 * text.toList.length ≤ n) (hbig : n ≤ 20000) (hc : cells + 2 ≤ R.cells) (hl' : slots + (n + 4) ≤ R.slots)
    (k : ∀ (a : Addr) (T' : State) (h' : Heap) (L : List Loc), Sit Z a0 EL p l e R s m args below meth c own bytes maxL rt nm h0 ws sf T' h' (locs ++ L) (cells + 2) (slots + (n + 4)) → Keep h h' [] → Str Z h' a cs → Run Z EL sv p e below s h0 ws Q kc ks T' (mkF m (pc + 2) Ls (.ref a :: st))) : Run Z EL sv p e below s h0 ws Q kc ks T (mkF m pc Ls st) := by
  obtain ⟨T', h', L', sx, X', K, a, S, sp⟩ := X.reb (k := cells + 2) (n := slots + (n + 4)) (wz := []) (Q' := fun T' h' _ _ => ∃ a, Str Z h' a cs ∧ ∀ t, Steps p.tables e below (T'.setTop (mkF m (pc + 2) Ls (.ref a :: st))) t → Steps p.tables e below (T.setTop (mkF m pc Ls st)) t) (fun x hx => nomatch hx) fun vm0 k0 Y hZ ho hS hk H hs => by
    obtain ⟨a, T', h', k1, b, kb, Y', e', E, S1, hk1, hZ1, ho1, A1, F1, F2, V1, -, -, C1, -, -, st1⟩ := ldcCH Y X.ex hZ ho w (hwsLit hw) X.eh hS hk X.ew hm H (z := Int32.ofNat cs.length) ht (n32' hlen).1 (by rw [(n32' hlen).2]; simp) (g := mkF m pc Ls st) rfl (X.de hd) hn (by omega) hc hl'
    exact ⟨T', h', [], T'.vm, k1, [], by rw [List.append_nil]; exact Y', e', extK E, Fr.nil _, hZ1, ho1, S1, hk1, C1, (fun z => by rw [hN] at z; cases z), (fun _ z => nomatch z), a, ⟨A1, b, kb, 0, _, _, F2, F1, V1, Or.inl ⟨rfl, rfl, rfl, fun c hc => (hcs c hc).2⟩, up _ hcs, hlen⟩, st1⟩
  exact Run.via sp (k a T' h' L' (X'.less fun x hx => List.mem_append_right _ hx) K S)
end Jvm.Pilot.@@N@@
namespace Jvm.Pilot.@@N@@
open Jvm Jvm.ClassFile Sem Op Lib Jvm.Free Jvm.Stand Jvm.LawKit Jvm.RoadKit Bundle Jvm.Pilot.@@N@@.Jvm.D
theorem hwsEq {Z : State} {a0 : Array Value} (hw : ∀ d ∈ tables_1, d.before a0 Z = true) : ∀ d ∈ StrChars.Road.wordsEq, d.before a0 Z = true := fun d hd => hw d ((by decide +kernel : ∀ d ∈ StrChars.Road.wordsEq, d ∈ tables_1) d hd)
theorem Run.seq {Z : State} {a0 : Array Value} {EL : List (String × Nat)} {sv : Bool} {p : Program} {l : Launch} {e : Env} {R : Room} {s : State} {m : MethodId} {args : Array Value} {below : List Frame} {meth : Method} {c : Code} {own : String} {bytes : ByteArray} {maxL : Nat} {rt : Option FieldType} {nm : String} {h0 : Heap} {ws sf : List Addr} {T : State} {h : Heap} {locs : List Loc} {cells slots : Nat} {Q : Option Value → Heap → Prop} {kc ks : Nat} (hw : ∀ d ∈ tables_1, d.before a0 Z = true) (hS : Sets Z) (X : Sit Z a0 EL p l e R s m args below meth c own bytes maxL rt nm h0 ws sf T h locs cells slots) {a b : Addr} {cs ds : List Int32} {index pc W : Nat} {Ls : Array Slot} {rest : List Value} (S : Str Z h a cs) (S' : Str Z h b ds)
    (w1 : (Cond.methodLink own index (⟨"java/lang/String", "equals", "(Ljava/lang/Object;)Z"⟩ : MethodName)).before a0 Z = true) (wd : (Cond.declares (⟨"java/lang/String", "equals", "(Ljava/lang/Object;)Z"⟩ : MethodName)).before a0 Z = true) (w2 : (Cond.instanceMethod (⟨"java/lang/String", "equals", "(Ljava/lang/Object;)Z"⟩ : MethodName)).before a0 Z = true) (wl : (Cond.selects "java/lang/String" (⟨"java/lang/String", "equals", "(Ljava/lang/Object;)Z"⟩ : MethodName) (⟨"java/lang/String", "equals", "(Ljava/lang/Object;)Z"⟩ : MethodName)).before a0 Z = true) (wi : (Cond.instantiable "java/lang/String" 4).before a0 Z = true)
    (hd : decode bytes pc = .ok (.invokevirtual index, 3)) (hsz : Ls.size = maxL) (hW : (rest.map fun v => v.category).sum ≤ W) (hf : 2 ≤ R.frames) (hl : W + 28 ≤ R.locals) (hc : cells ≤ R.cells) (hs : slots ≤ R.slots)
    (k : ∀ (T' : State), Sit Z a0 EL p l e R s m args below meth c own bytes maxL rt nm h0 ws sf T' h locs cells slots → Run Z EL sv p e below s h0 ws Q kc ks T' (mkF m (pc + 3) Ls (.int (if cs = ds then 1 else 0) :: rest))) : Run Z EL sv p e below s h0 ws Q kc ks T (mkF m pc Ls (.ref b :: .ref a :: rest)) := by
  obtain ⟨zz, fm, S1, S2, S3, S4⟩ := hS
  obtain ⟨E, t, kb, cd, N2, vs, V, C, A, r1, r2, r3⟩ := S
  obtain ⟨E', t', kb', cd', N2', vs', V', C', A', r1', r2', r3'⟩ := S'
  refine Run.virtP X (W := W) (V := fun v => ((v = some (.int 1) ∧ cs = ds) ∨ (v = some (.int 0) ∧ ¬ cs = ds))) (fun vm0 hZ => StrChars.Road.eqW hZ (hwsEq hw) wi E V C A r1 r2 r3 E' V' C' A' r1' r2' r3' (S1.ext X.old) S2 hf hl) E w1 wd w2 wl (by decide) (ps := [.object "java/lang/Object"]) (rr := some .boolean) (by decide +kernel) (argsL := [.ref b]) rfl rfl hW hsz hd hc hs ?_
  intro v T' hv X'
  have q := k T' X'
  rcases hv with ⟨rfl, hv⟩ | ⟨rfl, hv⟩
  · rw [if_pos hv] at q; exact q
  · rw [if_neg hv] at q; exact q
end Jvm.Pilot.@@N@@
namespace Jvm.Pilot.@@N@@
open Jvm Jvm.ClassFile Sem Op Lib Jvm.Free Jvm.Stand Jvm.LawKit Jvm.RoadKit Bundle Jvm.Pilot.@@N@@.Jvm.D
theorem hwsLen {Z : State} {a0 : Array Value} (hw : ∀ d ∈ tables_1, d.before a0 Z = true) : ∀ d ∈ StrChars.Road.wordsLen, d.before a0 Z = true := fun d hd => hw d ((by decide +kernel : ∀ d ∈ StrChars.Road.wordsLen, d ∈ tables_1) d hd)
theorem Run.slen {Z : State} {a0 : Array Value} {EL : List (String × Nat)} {sv : Bool} {p : Program} {l : Launch} {e : Env} {R : Room} {s : State} {m : MethodId} {args : Array Value} {below : List Frame} {meth : Method} {c : Code} {own : String} {bytes : ByteArray} {maxL : Nat} {rt : Option FieldType} {nm : String} {h0 : Heap} {ws sf : List Addr} {T : State} {h : Heap} {locs : List Loc} {cells slots : Nat} {Q : Option Value → Heap → Prop} {kc ks : Nat} (hw : ∀ d ∈ tables_1, d.before a0 Z = true) (hS : Sets Z) (X : Sit Z a0 EL p l e R s m args below meth c own bytes maxL rt nm h0 ws sf T h locs cells slots) {a : Addr} {cs : List Int32} {index pc W : Nat} {Ls : Array Slot} {rest : List Value} (S : Str Z h a cs)
    (w1 : (Cond.methodLink own index (⟨"java/lang/String", "length", "()I"⟩ : MethodName)).before a0 Z = true) (wd : (Cond.declares (⟨"java/lang/String", "length", "()I"⟩ : MethodName)).before a0 Z = true) (w2 : (Cond.instanceMethod (⟨"java/lang/String", "length", "()I"⟩ : MethodName)).before a0 Z = true) (wl : (Cond.selects "java/lang/String" (⟨"java/lang/String", "length", "()I"⟩ : MethodName) (⟨"java/lang/String", "length", "()I"⟩ : MethodName)).before a0 Z = true) (wi : (Cond.instantiable "java/lang/String" 4).before a0 Z = true)
    (hd : decode bytes pc = .ok (.invokevirtual index, 3)) (hsz : Ls.size = maxL) (hW : (rest.map fun v => v.category).sum ≤ W) (hf : 2 ≤ R.frames) (hl : W + 25 ≤ R.locals) (hc : cells ≤ R.cells) (hs : slots ≤ R.slots)
    (k : ∀ (T' : State), Sit Z a0 EL p l e R s m args below meth c own bytes maxL rt nm h0 ws sf T' h locs cells slots → Run Z EL sv p e below s h0 ws Q kc ks T' (mkF m (pc + 3) Ls (.int (Int32.ofNat cs.length) :: rest))) : Run Z EL sv p e below s h0 ws Q kc ks T (mkF m pc Ls (.ref a :: rest)) := by
  obtain ⟨zz, fm, S1, S2, S3, S4⟩ := hS
  obtain ⟨E, t, kb, cd, N2, vs, V, C, A, r1, r2, r3⟩ := S
  refine Run.virtP X (W := W) (V := fun v => v = some (.int (Int32.ofNat cs.length))) (fun vm0 hZ => StrChars.Road.lenW hZ (hwsLen hw) wi E V C A r1 r2 (S1.ext X.old) S2 r3 hf hl) E w1 wd w2 wl (by decide) (ps := []) (rr := some .int) (by decide +kernel) (argsL := []) rfl rfl hW hsz hd hc hs ?_
  intro v T' hv X'
  subst hv
  exact k T' X'
end Jvm.Pilot.@@N@@
namespace Jvm.Pilot.@@N@@
open Jvm Jvm.ClassFile Sem Op Lib Jvm.Free Jvm.Stand Jvm.LawKit Jvm.RoadKit Bundle Jvm.Pilot.@@N@@.Jvm.D
theorem range_getD (L : List Int32) (sp nn : Nat) (h : sp + nn ≤ L.length) : (List.range nn).map (fun i => (L.map Value.int).getD (sp + i) (.int 0)) = ((L.drop sp).take nn).map Value.int := by
  apply List.ext_getElem
  · simp; omega
  · intro i h1 h2
    simp only [List.length_map, List.length_range] at h1
    have q : sp + i < L.length := by omega
    simp [List.getD_eq_getElem?_getD, List.getElem?_eq_getElem q]
/-- System.arraycopy of bytes -/
theorem Run.acopy {Z : State} {a0 : Array Value} {EL : List (String × Nat)} {sv : Bool} {p : Program} {l : Launch} {e : Env} {R : Room} {s : State} {m : MethodId} {args : Array Value} {below : List Frame} {meth : Method} {c : Code} {own : String} {bytes : ByteArray} {maxL : Nat} {rt : Option FieldType} {nm : String} {h0 : Heap} {ws sf : List Addr} {T : State} {h : Heap} {locs : List Loc} {cells slots : Nat} {Q : Option Value → Heap → Prop} {kc ks : Nat} (X : Sit Z a0 EL p l e R s m args below meth c own bytes maxL rt nm h0 ws sf T h locs cells slots) {a b : Addr} {as' bs : List Int32} {sp dp nn index pc W : Nat} {Ls : Array Slot} {rest : List Value} (A : Arc .byte Z h a as') (B : Arc .byte Z h b bs) (h4 : sp + nn ≤ as'.length) (h5 : dp + nn ≤ bs.length)
    (w1 : (Cond.methodLink own index Jvm.Stand.acN).before a0 Z = true) (w2 : (Cond.native Jvm.Stand.acN).before a0 Z = true) (w3 : (Cond.static Jvm.Stand.acN).before a0 Z = true) (w4 : (Cond.initialized "java/lang/System").before a0 Z = true)
    (hx : b ∈ ws ∨ h0.size ≤ b) (hz : Z.heap.size ≤ b) (hsf : b ∈ sf) (hsz : Ls.size = maxL) (hd : decode bytes pc = .ok (.invokestatic index, 3)) (hW : (rest.map fun v => v.category).sum ≤ W) (hf : 1 ≤ R.frames) (hlo : W + (nativeFrameWords "java/lang/System" "arraycopy" 5 + 11) ≤ R.locals)
    (k : ∀ (T' : State) (h' : Heap) (L : List Loc), Sit Z a0 EL p l e R s m args below meth c own bytes maxL rt nm h0 ws sf T' h' L cells slots → Keep h h' [b] → Arc .byte Z h' b (bs.take dp ++ (as'.drop sp).take nn ++ bs.drop (dp + nn)) → Run Z EL sv p e below s h0 ws Q kc ks T' (mkF m (pc + 3) Ls rest)) :
    Run Z EL sv p e below s h0 ws Q kc ks T (mkF m pc Ls (.int (Int32.ofNat nn) :: .int (Int32.ofNat dp) :: .ref b :: .int (Int32.ofNat sp) :: .ref a :: rest)) := by
  obtain ⟨kA, VA, lA⟩ := A
  obtain ⟨kB, VB, lB⟩ := B
  have e1 := n32' (n := sp) (by omega); have e2 := n32' (n := dp) (by omega); have e3 := n32' (n := nn) (by omega); have e4 := n32' lA; have e5 := n32' lB
  obtain ⟨T', h', L, X', K, V, st⟩ := X.goL (k := cells) (n := slots) (wz := [b]) (Q' := fun T' h' => Arv Z h' b kB .byte (Int32.ofNat bs.length) ((bs.map Value.int).take dp ++ ((as'.drop sp).take nn).map Value.int ++ (bs.map Value.int).drop (dp + nn)) (.int 0) ∧ ∀ t, Steps p.tables e below (T'.setTop (mkF m (pc + 3) Ls rest)) t → Steps p.tables e below (T.setTop (mkF m pc Ls (.int (Int32.ofNat nn) :: .int (Int32.ofNat dp) :: .ref b :: .int (Int32.ofNat sp) :: .ref a :: rest))) t) (fun y hy => by cases List.mem_singleton.mp hy; exact ⟨hx, hz⟩) (fun vm0 al hs y hy => by cases List.mem_singleton.mp hy; exact hs b hsf) fun vm0 Y hZ ho => by
    obtain ⟨T', h', L, Y', e', N, K, V, st⟩ := cpA Y X.ex hZ ho w1 w2 w3 w4 X.eh VA VB (us := ((as'.drop sp).take nn).map Value.int) (Or.inl ⟨rfl, rfl⟩) e1.1 e2.1 e3.1 (by rw [e1.2, e3.2, e4.2]; exact h4) (by rw [e2.2, e3.2, e5.2]; exact h5) (by rw [e1.2, e3.2]; exact (range_getD as' sp nn h4).symm) (by rw [e2.2, e3.2]; simpa using h5) X.fr hz (g := mkF m pc Ls (.int (Int32.ofNat nn) :: .int (Int32.ofNat dp) :: .ref b :: .int (Int32.ofNat sp) :: .ref a :: rest)) rfl (hsz.trans X.ml.symm) (rest := rest) rfl (X.de hd) hf (W := W) (by show 2 * 0 + _ ≤ _; omega) hlo
    rw [e2.2, e3.2] at V
    exact ⟨T', h', L, Y', e', K, N, V, st⟩
  refine Run.via st (k T' h' L X' K ⟨kB, ?_, by simp; omega⟩)
  have q : (bs.take dp ++ (as'.drop sp).take nn ++ bs.drop (dp + nn)).length = bs.length := by simp; omega
  rw [q]
  simpa [List.map_take, List.map_drop] using V
end Jvm.Pilot.@@N@@
-- part own
namespace Jvm.Pilot.@@N@@
open Jvm Jvm.ClassFile Sem Op Lib Jvm.Free Jvm.Stand Jvm.LawKit Jvm.RoadKit Bundle Jvm.Pilot.@@N@@.Jvm.D
theorem setsOf {s : State} {args : Array Value} (hsets : ∀ d ∈ jdkStatics_1, d.before args s = true) : Sets s := by
  have n5 := not_v (Cond.before_iff.mp (hsets _ (List.mem_of_getElem? (i := 2) rfl)))
  obtain ⟨i1, e1⟩ := is_v (Cond.before_iff.mp (hsets _ (List.mem_of_getElem? (i := 1) rfl)))
  obtain ⟨v3, e3, r3⟩ := isR_v (Cond.before_iff.mp (hsets _ (List.mem_of_getElem? (i := 8) rfl)))
  exact ⟨i1, v3, Sta.start e1 (Or.inl (hsets _ (List.mem_of_getElem? (i := 0) rfl))), gotF (Cond.eq_ints e1 (Term.int_eval (0))) n5, Sta.start e3 (Or.inl (hsets _ (List.mem_of_getElem? (i := 7) rfl))), r3⟩
theorem ls0 {P : Int32 → Prop} : ∀ c ∈ ([] : List Int32), P c := fun _ q => nomatch q
theorem lsS {P : Int32 → Prop} {y : Int32} {L : List Int32} (q : P y) (r : ∀ c ∈ L, P c) : ∀ c ∈ y :: L, P c := fun x z => (List.mem_cons.mp z).elim (fun u => u ▸ q) (r x)
theorem nar_lat {c : Int32} (h : ¬ c < 0 ∧ ¬ (255 : Int32) < c) : nar .char c = c := nar_char ⟨h.1, fun q => h.2 (by rw [Int32.lt_iff_toInt_lt] at q ⊢; have e1 : (65535 : Int32).toInt = 65535 := rfl; have e2 : (255 : Int32).toInt = 255 := rfl; omega)⟩

theorem i32lt {a b : Nat} (ha : a ≤ 100000) (hb : b ≤ 100000) : Int32.ofNat a < Int32.ofNat b ↔ a < b := by
  have e1 : (Int32.ofNat a).toInt = a := Int32.toInt_ofNat_small (by omega)
  have e2 : (Int32.ofNat b).toInt = b := Int32.toInt_ofNat_small (by omega)
  rw [Int32.lt_iff_toInt_lt, e1, e2]; omega
theorem i32eq {a b : Nat} (ha : a ≤ 100000) (hb : b ≤ 100000) : Int32.ofNat a = Int32.ofNat b ↔ a = b := by
  have e1 : (Int32.ofNat a).toInt = a := Int32.toInt_ofNat_small (by omega)
  have e2 : (Int32.ofNat b).toInt = b := Int32.toInt_ofNat_small (by omega)
  rw [← Int32.toInt_inj, e1, e2]; omega
theorem i32of {x : Int32} {n : Nat} (h : x.toInt = n) (hn : n ≤ 100000) : x = Int32.ofNat n := by
  apply Int32.toInt_inj.mp; rw [h, Int32.toInt_ofNat_small (by omega)]
theorem i32n {n : Nat} (hn : n ≤ 100000) : (Int32.ofNat n).toInt = n := Int32.toInt_ofNat_small (by omega)
theorem i32add {a b : Nat} (h : a + b ≤ 100000) : Int32.ofNat a + Int32.ofNat b = Int32.ofNat (a + b) := by
  apply i32of _ h
  have q := c_iadd (Int32.ofNat a) (Int32.ofNat b); have r := rng32 (Int32.ofNat a + Int32.ofNat b)
  rw [i32n (by omega), i32n (by omega)] at q; omega
theorem i32succ {a : Nat} (h : a < 100000) : Int32.ofNat a + (1 : Int32) = Int32.ofNat (a + 1) := i32add (b := 1) h
theorem shl1 {n : Nat} (h : n ≤ 10000) : Int32.ofNat n <<< ((1 : Int32) &&& 31) = Int32.ofNat (2 * n) := by
  apply i32of _ (by omega)
  have q := c_ishl (Int32.ofNat n) 1 1 (by decide); have r := rng32 (Int32.ofNat n <<< ((1 : Int32) &&& 31))
  rw [i32n (by omega)] at q; omega
theorem mem_getD {cs : List Int32} {i : Nat} (h : i < cs.length) : cs.getD i 0 ∈ cs := by rw [List.getD_eq_getElem?_getD, List.getElem?_eq_getElem h]; exact List.getElem_mem h
theorem i32pred {a : Nat} (h0 : 0 < a) (h : a ≤ 100000) : Int32.ofNat a - (1 : Int32) = Int32.ofNat (a - 1) := by
  apply i32of _ (by omega)
  have q := c_isub (Int32.ofNat a) 1; have r := rng32 (Int32.ofNat a - 1)
  rw [i32n (by omega)] at q; have : (1 : Int32).toInt = 1 := rfl; omega
theorem i32sub {a b : Nat} (h0 : b ≤ a) (h : a ≤ 100000) : Int32.ofNat a - Int32.ofNat b = Int32.ofNat (a - b) := by
  apply i32of _ (by omega)
  have q := c_isub (Int32.ofNat a) (Int32.ofNat b); have r := rng32 (Int32.ofNat a - Int32.ofNat b)
  rw [i32n (by omega), i32n (by omega)] at q; omega
theorem i32zero (x : Int32) : x + (0 : Int32) = x := by
  apply Int32.toInt_inj.mp
  have q := c_iadd x 0; have r := rng32 (x + 0); have r' := rng32 x; have : (0 : Int32).toInt = 0 := rfl; omega
theorem lo8_in {x y : Int32} (hx : ¬ x < 0 ∧ ¬ (255 : Int32) < x) (hy : ¬ y < 0 ∧ ¬ (255 : Int32) < y) (h : StrChars.lo8 x = StrChars.lo8 y) : x = y := by
  apply Int32.toInt_inj.mp
  obtain ⟨a1, a2, a3⟩ := c_i2b x
  obtain ⟨b1, b2, b3⟩ := c_i2b y
  have e1 : StrChars.lo8 x = x.toInt8.toInt32 := rfl
  have e2 : StrChars.lo8 y = y.toInt8.toInt32 := rfl
  rw [e1, e2] at h; rw [h] at a1
  simp only [Int32.lt_iff_toInt_lt] at hx hy
  have : (0 : Int32).toInt = 0 := rfl; have : (255 : Int32).toInt = 255 := rfl; omega
theorem map_getD (cs : List Int32) (i : Nat) (hi : i < cs.length) : (cs.map StrChars.lo8).getD i 0 = StrChars.lo8 (cs.getD i 0) := by
  simp [List.getD_eq_getElem?_getD, List.getElem?_eq_getElem hi]
/-- a Latin-1 text -/
def Lat (cs : List Int32) : Prop := ∀ c ∈ cs, ¬ c < 0 ∧ ¬ (255 : Int32) < c
theorem Str.lat {Z : State} {h : Heap} {a : Addr} {cs : List Int32} (S : Str Z h a cs) (hl : Lat cs) : Exa Z h a "java/lang/String" ∧ cs.length ≤ 4000 ∧ ∃ t : Addr, Fld Z h a "java/lang/String" "value" "[B" (.ref t) ∧ Fld Z h a "java/lang/String" "coder" "B" (.int 0) ∧ Arc .byte Z h t (cs.map StrChars.lo8) := by
  obtain ⟨E, t, kb, cd, N2, vs, V, C, A, r1, r2, r3⟩ := S
  rcases r1 with ⟨rfl, rfl, rfl, q⟩ | ⟨rfl, rfl, rfl, c, hc, q⟩
  · refine ⟨E, r3, t, V, C, ⟨kb, ?_, by simpa using r3⟩⟩
    simpa [List.map_map, Function.comp_def] using A
  · exact absurd q (hl c hc).2
theorem Str.ofLat {Z : State} {h : Heap} {a t : Addr} {cs : List Int32} (E : Exa Z h a "java/lang/String") (V : Fld Z h a "java/lang/String" "value" "[B" (.ref t)) (C : Fld Z h a "java/lang/String" "coder" "B" (.int 0)) (A : Arc .byte Z h t (cs.map StrChars.lo8)) (hl : Lat cs) : Str Z h a cs := by
  obtain ⟨k, A, r⟩ := A
  refine ⟨E, t, k, 0, _, _, V, C, A, Or.inl ⟨rfl, by simp, by simp [List.map_map, Function.comp_def], fun c hc => (hl c hc).2⟩, up _ hl, by simpa using r⟩
theorem Lat.sub {cs : List Int32} (h : Lat cs) (b n : Nat) : Lat ((cs.drop b).take n) := fun c hc => h c (List.mem_of_mem_drop (List.mem_of_mem_take hc))
theorem nar_b {P : Prop} [Decidable P] : nar .boolean (if P then 1 else 0 : Int32) = if P then 1 else 0 := by
  by_cases h : P
  · rw [if_pos h]; rfl
  · rw [if_neg h]; rfl
theorem b_y {P : Prop} [Decidable P] (h : ¬ (if P then 1 else 0 : Int32) = 0) : P := Decidable.byContradiction fun z => h (if_neg z)
theorem b_n {P : Prop} [Decidable P] (h : (if P then 1 else 0 : Int32) = 0) : ¬ P := fun z => by rw [if_pos z] at h; exact absurd h (by decide)
theorem mm_y {x : Int32} (hx : ¬ x < 0 ∧ ¬ (255 : Int32) < x) (q : (if StrChars.lo8 x = StrChars.lo8 34 then -1 else 0 : Int32) < 0) : x = 34 := by
  by_cases h : StrChars.lo8 x = StrChars.lo8 34
  · exact lo8_in hx (by decide) h
  · rw [if_neg h] at q; exact absurd q (by decide)
theorem mm_n {x : Int32} (q : ¬ (if StrChars.lo8 x = StrChars.lo8 34 then -1 else 0 : Int32) < 0) : ¬ x = 34 := fun z => by
  rw [z, if_pos rfl] at q; exact q (by decide)
/-- what unquoted leaves -/
def unq (cs : List Int32) : List Int32 := if 1 < cs.length ∧ cs.getD 0 0 = 34 ∧ cs.getD (cs.length - 1) 0 = 34 then (cs.drop 1).take (cs.length - 1 - 1) else cs
theorem rem_5 (x : Int32) : (x &&& 2147483647) % 5 = 0 ∨ (x &&& 2147483647) % 5 = 1 ∨ (x &&& 2147483647) % 5 = 2 ∨ (x &&& 2147483647) % 5 = 3 ∨ (x &&& 2147483647) % 5 = 4 := by
  have q1 := c_and x 2147483647 (by decide)
  have q2 := (c_irem (x &&& 2147483647) 5 5 rfl).1 q1.1
  have q3 := Int.emod_lt_of_pos (x &&& 2147483647).toInt (show (0 : Int) < 5 by decide); have q4 := Int.emod_nonneg (x &&& 2147483647).toInt (show (5 : Int) ≠ 0 by decide)
  simp only [← Int32.toInt_inj]
  have : (0 : Int32).toInt = 0 := rfl; have : (1 : Int32).toInt = 1 := rfl; have : (2 : Int32).toInt = 2 := rfl; have : (3 : Int32).toInt = 3 := rfl; have : (4 : Int32).toInt = 4 := rfl
  omega
theorem pd___B : parseMethodDescriptor "()B" = some ⟨[], some .byte⟩ := by decide +kernel
theorem pd___Z : parseMethodDescriptor "()Z" = some ⟨[], some .boolean⟩ := by decide +kernel
theorem pd__II_I : parseMethodDescriptor "(II)I" = some ⟨[.int, .int], some .int⟩ := by decide +kernel
theorem pd__II_Ljava_lang_String_ : parseMethodDescriptor "(II)Ljava/lang/String;" = some ⟨[.int, .int], some (.object "java/lang/String")⟩ := by decide +kernel
theorem pd__II_V : parseMethodDescriptor "(II)V" = some ⟨[.int, .int], none⟩ := by decide +kernel
theorem pd__III_V : parseMethodDescriptor "(III)V" = some ⟨[.int, .int, .int], none⟩ := by decide +kernel
theorem pd__IIILjava_util_function_BiFunction__I : parseMethodDescriptor "(IIILjava/util/function/BiFunction;)I" = some ⟨[.int, .int, .int, (.object "java/util/function/BiFunction")], some .int⟩ := by decide +kernel
theorem pd__Ljava_lang_String__Ljava_lang_String_ : parseMethodDescriptor "(Ljava/lang/String;)Ljava/lang/String;" = some ⟨[(.object "java/lang/String")], some (.object "java/lang/String")⟩ := by decide +kernel
theorem pd__Ljava_lang_String__Z : parseMethodDescriptor "(Ljava/lang/String;)Z" = some ⟨[(.object "java/lang/String")], some .boolean⟩ := by decide +kernel
theorem pd__Ljava_lang_String_I_Z : parseMethodDescriptor "(Ljava/lang/String;I)Z" = some ⟨[(.object "java/lang/String"), .int], some .boolean⟩ := by decide +kernel
theorem pd___BB_V : parseMethodDescriptor "([BB)V" = some ⟨[(.array .byte), .byte], none⟩ := by decide +kernel
theorem pd___BII_Ljava_lang_String_ : parseMethodDescriptor "([BII)Ljava/lang/String;" = some ⟨[(.array .byte), .int, .int], some (.object "java/lang/String")⟩ := by decide +kernel
theorem pd___BII__B : parseMethodDescriptor "([BII)[B" = some ⟨[(.array .byte), .int, .int], some (.array .byte)⟩ := by decide +kernel
theorem pd___BI_BII_I : parseMethodDescriptor "([BI[BII)I" = some ⟨[(.array .byte), .int, (.array .byte), .int, .int], some .int⟩ := by decide +kernel
theorem pd___C_V : parseMethodDescriptor "([C)V" = some ⟨[(.array .char)], none⟩ := by decide +kernel
theorem pd___CII_Ljava_lang_String_ : parseMethodDescriptor "([CII)Ljava/lang/String;" = some ⟨[(.array .char), .int, .int], some (.object "java/lang/String")⟩ := by decide +kernel
theorem pd___CIILjava_lang_Void__V : parseMethodDescriptor "([CIILjava/lang/Void;)V" = some ⟨[(.array .char), .int, .int, (.object "java/lang/Void")], none⟩ := by decide +kernel
-- part con_n4e
theorem n4d_0 : decode jdk_42_method_149_code 0 = .ok (.aload_n 0, 1) := by decide +kernel
theorem n4d_1 : decode jdk_42_method_149_code 1 = .ok (.invokespecial 1, 3) := by decide +kernel
theorem n4d_4 : decode jdk_42_method_149_code 4 = .ok (.iload_n 3, 1) := by decide +kernel
theorem n4d_5 : decode jdk_42_method_149_code 5 = .ok (.ifCond .ne 22, 3) := by decide +kernel
theorem n4d_8 : decode jdk_42_method_149_code 8 = .ok (.aload_n 0, 1) := by decide +kernel
theorem n4d_9 : decode jdk_42_method_149_code 9 = .ok (.ldc 7, 2) := by decide +kernel
theorem n4d_11 : decode jdk_42_method_149_code 11 = .ok (.getfield 9, 3) := by decide +kernel
theorem n4d_14 : decode jdk_42_method_149_code 14 = .ok (.putfield 9, 3) := by decide +kernel
theorem n4d_17 : decode jdk_42_method_149_code 17 = .ok (.aload_n 0, 1) := by decide +kernel
theorem n4d_18 : decode jdk_42_method_149_code 18 = .ok (.ldc 7, 2) := by decide +kernel
theorem n4d_20 : decode jdk_42_method_149_code 20 = .ok (.getfield 15, 3) := by decide +kernel
theorem n4d_23 : decode jdk_42_method_149_code 23 = .ok (.putfield 15, 3) := by decide +kernel
theorem n4d_26 : decode jdk_42_method_149_code 26 = .ok (.return_, 1) := by decide +kernel
set_option maxRecDepth 65536 in
set_option maxHeartbeats 40000000 in
theorem con_n4e (l : Launch) {Z : State} {a0 : Array Value} {EL : List (String × Nat)} {h0 : Heap} (hw : ∀ d ∈ tables_1, d.before a0 Z = true) (hN : NW = false) (hm : ("java/lang/String", 7) ∈ EL) {xa ba : Addr} (G : Raw Z h0 xa) (hz : Z.heap.size ≤ xa) (O : Ext Z.heap h0) : Con l Z a0 EL false (⟨"java/lang/String", "<init>", "([CIILjava/lang/Void;)V"⟩ : MethodName) jdk_42_method_149_code 6 none ({ frames := 1, cells := 4, slots := 8, locals := 16 } : Room) [xa] [xa] #[(.ref xa), (.ref ba), (.int (0 : Int32)), (.int (0 : Int32)), .null] h0 (fun v h => v = none ∧ Str Z h xa []) := by
  refine Con.enter (plainFor_of_name (by first | (simp [plainName, overriddenIn]; done) | decide +kernel)) O ?_
  intro p e s m below meth c T0 X0
  rw [show entryFrame m #[(.ref xa), (.ref ba), (.int (0 : Int32)), (.int (0 : Int32)), .null] 6 = (mkF m 0 #[.val (.ref xa), .val (.ref ba), .val (.int (0 : Int32)), .val (.int (0 : Int32)), .val .null, .unset] []) from by first | (simp [entryFrame, mkF, argsToLocals, Value.category]; done) | rfl]
  refine Run.via (fun _ => XS.aloadN X0.at X0.ex rfl (X0.de n4d_0) rfl rfl) ?_
  show Run _ _ _ _ _ _ _ _ _ _ _ _ T0 (mkF m 1 #[.val (.ref xa), .val (.ref ba), .val (.int (0 : Int32)), .val (.int (0 : Int32)), .val .null, .unset] [(.ref xa)])
  refine Run.initO X0 (wd hw 16 rfl) (wd hw 17 rfl) (wd hw 18 rfl) rfl n4d_1 (by decide) (Nat.le_of_ble_eq_true rfl) ?_
  intro T101 X101
  show Run _ _ _ _ _ _ _ _ _ _ _ _ T101 (mkF m 4 #[.val (.ref xa), .val (.ref ba), .val (.int (0 : Int32)), .val (.int (0 : Int32)), .val .null, .unset] [])
  refine Run.via (fun _ => XS.iloadN X101.at X101.ex rfl (X101.de n4d_4) rfl) ?_
  show Run _ _ _ _ _ _ _ _ _ _ _ _ T101 (mkF m 5 #[.val (.ref xa), .val (.ref ba), .val (.int (0 : Int32)), .val (.int (0 : Int32)), .val .null, .unset] [(.int (0 : Int32))])
  refine Run.via (fun _ => XS.ifNo X101.at X101.ex rfl (X101.de n4d_5) rfl ((if0 _ _).trans (teq (by decide : ((0 : Int32) = (0 : Int32)))).2)) ?_
  show Run _ _ _ _ _ _ _ _ _ _ _ _ T101 (mkF m 8 #[.val (.ref xa), .val (.ref ba), .val (.int (0 : Int32)), .val (.int (0 : Int32)), .val .null, .unset] [])
  refine Run.via (fun _ => XS.aloadN X101.at X101.ex rfl (X101.de n4d_8) rfl rfl) ?_
  show Run _ _ _ _ _ _ _ _ _ _ _ _ T101 (mkF m 9 #[.val (.ref xa), .val (.ref ba), .val (.int (0 : Int32)), .val (.int (0 : Int32)), .val .null, .unset] [(.ref xa)])
  refine Run.ldcS hw hN X101 (cs := []) (n := 0) (wd hw 72 rfl) hm (by decide) (by decide) (by decide) n4d_9 (by decide) (by decide) (Nat.le_of_ble_eq_true rfl) (Nat.le_of_ble_eq_true rfl) ?_
  intro a102 T102 h102 L102 X102 K102 S102
  show Run _ _ _ _ _ _ _ _ _ _ _ _ T102 (mkF m 11 #[.val (.ref xa), .val (.ref ba), .val (.int (0 : Int32)), .val (.int (0 : Int32)), .val .null, .unset] [(.ref a102), (.ref xa)])
  have hZ1 : Z.heap.size ≤ xa := hz
  have G := G.keep K102 nin0
  obtain ⟨EL1, t1, kb1, cd1, N1, vs1, V1, C1, A1, R1, -⟩ := id S102
  refine Run.getf X102 (wd hw 33 rfl) Via.refl V1 n4d_11 ?_
  intro T103 X103
  show Run _ _ _ _ _ _ _ _ _ _ _ _ T103 (mkF m 14 #[.val (.ref xa), .val (.ref ba), .val (.int (0 : Int32)), .val (.int (0 : Int32)), .val .null, .unset] [(.ref t1), (.ref xa)])
  refine Run.putf X103 (wd hw 33 rfl) Via.refl G.2.1 G.1 (Or.inr ⟨(wd hw 34 rfl), rfl, rfl⟩) (wd hw 7 rfl) (ty := (.array .byte)) (v' := (.ref t1)) (by decide) rfl rfl (Or.inl (List.mem_singleton.mpr rfl)) hz (Or.inr (by simp)) n4d_14 ?_
  intro T104 h104 L104 X104 K104 W104 F104 E104
  show Run _ _ _ _ _ _ _ _ _ _ _ _ T104 (mkF m 17 #[.val (.ref xa), .val (.ref ba), .val (.int (0 : Int32)), .val (.int (0 : Int32)), .val .null, .unset] [])
  have C0 := (G.2.2.other W104 (Or.inr (slot_ne (Or.inr (wd hw 32 rfl)) (Or.inr (wd hw 34 rfl)) (by decide) (t := .byte) (t' := (.array .byte)) (by decide) (by decide))))
  have A1 := A1.keep K104 (ninS (Ne.symm (G.1.neArv A1 (wd hw 7 rfl))) nin0)
  refine Run.via (fun _ => XS.aloadN X104.at X104.ex rfl (X104.de n4d_17) rfl rfl) ?_
  show Run _ _ _ _ _ _ _ _ _ _ _ _ T104 (mkF m 18 #[.val (.ref xa), .val (.ref ba), .val (.int (0 : Int32)), .val (.int (0 : Int32)), .val .null, .unset] [(.ref xa)])
  refine Run.ldcS hw hN X104 (cs := []) (n := 0) (wd hw 72 rfl) hm (by decide) (by decide) (by decide) n4d_18 (by decide) (by decide) (Nat.le_of_ble_eq_true rfl) (Nat.le_of_ble_eq_true rfl) ?_
  intro a105 T105 h105 L105 X105 K105 S105
  show Run _ _ _ _ _ _ _ _ _ _ _ _ T105 (mkF m 20 #[.val (.ref xa), .val (.ref ba), .val (.int (0 : Int32)), .val (.int (0 : Int32)), .val .null, .unset] [(.ref a105), (.ref xa)])
  have C0 := C0.keep K105 nin0
  have F1 := F104.keep K105 nin0
  have E1 := E104.keep K105
  have A1 := A1.keep K105 nin0
  obtain ⟨EL2, t2, kb2, cd2, N2, vs2, V2, C2, A2, R2, -⟩ := id S105
  obtain ⟨rfl, rfl, rfl, -⟩ : cd1 = 0 ∧ N1 = 0 ∧ vs1 = [] ∧ True := by
    obtain ⟨z1, z2, z3, -⟩ | ⟨-, -, -, c, hc, -⟩ := R1
    · exact ⟨z1, z2, z3, trivial⟩
    · cases hc
  obtain rfl : cd2 = 0 := by
    obtain ⟨z1, -⟩ | ⟨-, -, -, c, hc, -⟩ := R2
    · exact z1
    · cases hc
  refine Run.getf X105 (wd hw 31 rfl) Via.refl C2 n4d_20 ?_
  intro T106 X106
  show Run _ _ _ _ _ _ _ _ _ _ _ _ T106 (mkF m 23 #[.val (.ref xa), .val (.ref ba), .val (.int (0 : Int32)), .val (.int (0 : Int32)), .val .null, .unset] [(.int (0 : Int32)), (.ref xa)])
  refine Run.putf X106 (wd hw 31 rfl) Via.refl C0 E1 (Or.inr ⟨(wd hw 32 rfl), rfl, rfl⟩) (wd hw 7 rfl) (ty := .byte) (v' := (.int (0 : Int32))) (by decide) rfl rfl (Or.inl (List.mem_singleton.mpr rfl)) hz (Or.inr (by simp)) n4d_23 ?_
  intro T107 h107 L107 X107 K107 W107 F107 E107
  show Run _ _ _ _ _ _ _ _ _ _ _ _ T107 (mkF m 26 #[.val (.ref xa), .val (.ref ba), .val (.int (0 : Int32)), .val (.int (0 : Int32)), .val .null, .unset] [])
  have F1 := (F1.other W107 (Or.inr (slot_ne (Or.inr (wd hw 34 rfl)) (Or.inr (wd hw 32 rfl)) (by decide) (t := (.array .byte)) (t' := .byte) (by decide) (by decide))))
  have A1 := A1.keep K107 (ninS (Ne.symm (E1.neArv A1 (wd hw 7 rfl))) nin0)
  exact Run.retV X107 rfl n4d_26 (Nat.le_of_ble_eq_true rfl) (Nat.le_of_ble_eq_true rfl) (⟨rfl, E107, t1, kb1, 0, 0, [], F1, F107, A1, Or.inl ⟨rfl, rfl, rfl, ls0⟩, ls0, Nat.zero_le _⟩)
-- part con_n1e
theorem n1d_0 : decode jdk_42_method_3_code 0 = .ok (.aload_n 0, 1) := by decide +kernel
theorem n1d_1 : decode jdk_42_method_3_code 1 = .ok (.aload_n 1, 1) := by decide +kernel
theorem n1d_2 : decode jdk_42_method_3_code 2 = .ok (.iconst 0, 1) := by decide +kernel
theorem n1d_3 : decode jdk_42_method_3_code 3 = .ok (.aload_n 1, 1) := by decide +kernel
theorem n1d_4 : decode jdk_42_method_3_code 4 = .ok (.arraylength, 1) := by decide +kernel
theorem n1d_5 : decode jdk_42_method_3_code 5 = .ok (.aconst_null, 1) := by decide +kernel
theorem n1d_6 : decode jdk_42_method_3_code 6 = .ok (.invokespecial 27, 3) := by decide +kernel
theorem n1d_9 : decode jdk_42_method_3_code 9 = .ok (.return_, 1) := by decide +kernel
set_option maxRecDepth 65536 in
set_option maxHeartbeats 40000000 in
theorem con_n1e (l : Launch) {Z : State} {a0 : Array Value} {EL : List (String × Nat)} {h0 : Heap} (hw : ∀ d ∈ tables_1, d.before a0 Z = true) (hN : NW = false) (hm : ("java/lang/String", 7) ∈ EL) {xa ba : Addr} (G : Raw Z h0 xa) (A : Arc .char Z h0 ba []) (hz : Z.heap.size ≤ xa) (O : Ext Z.heap h0) : Con l Z a0 EL false (⟨"java/lang/String", "<init>", "([C)V"⟩ : MethodName) jdk_42_method_3_code 2 none ({ frames := 2, cells := 4, slots := 8, locals := 36 } : Room) [xa] [xa] #[(.ref xa), (.ref ba)] h0 (fun v h => v = none ∧ Str Z h xa []) := by
  refine Con.enter (plainFor_of_name (by first | (simp [plainName, overriddenIn]; done) | decide +kernel)) O ?_
  intro p e s m below meth c T0 X0
  rw [show entryFrame m #[(.ref xa), (.ref ba)] 2 = (mkF m 0 #[.val (.ref xa), .val (.ref ba)] []) from by first | (simp [entryFrame, mkF, argsToLocals, Value.category]; done) | rfl]
  refine Run.via (fun _ => XS.aloadN X0.at X0.ex rfl (X0.de n1d_0) rfl rfl) ?_
  show Run _ _ _ _ _ _ _ _ _ _ _ _ T0 (mkF m 1 #[.val (.ref xa), .val (.ref ba)] [(.ref xa)])
  refine Run.via (fun _ => XS.aloadN X0.at X0.ex rfl (X0.de n1d_1) rfl rfl) ?_
  show Run _ _ _ _ _ _ _ _ _ _ _ _ T0 (mkF m 2 #[.val (.ref xa), .val (.ref ba)] [(.ref ba), (.ref xa)])
  refine Run.via (fun _ => XS.iconst X0.at X0.ex rfl (X0.de n1d_2)) ?_
  show Run _ _ _ _ _ _ _ _ _ _ _ _ T0 (mkF m 3 #[.val (.ref xa), .val (.ref ba)] [(.int (0 : Int32)), (.ref ba), (.ref xa)])
  refine Run.via (fun _ => XS.aloadN X0.at X0.ex rfl (X0.de n1d_3) rfl rfl) ?_
  show Run _ _ _ _ _ _ _ _ _ _ _ _ T0 (mkF m 4 #[.val (.ref xa), .val (.ref ba)] [(.ref ba), (.int (0 : Int32)), (.ref ba), (.ref xa)])
  refine Run.alen X0 A n1d_4 ?_
  show Run _ _ _ _ _ _ _ _ _ _ _ _ T0 (mkF m 5 #[.val (.ref xa), .val (.ref ba)] [(.int (0 : Int32)), (.int (0 : Int32)), (.ref ba), (.ref xa)])
  refine Run.via (fun _ => XS.aconstNull X0.at X0.ex rfl (X0.de n1d_5)) ?_
  show Run _ _ _ _ _ _ _ _ _ _ _ _ T0 (mkF m 6 #[.val (.ref xa), .val (.ref ba)] [.null, (.int (0 : Int32)), (.int (0 : Int32)), (.ref ba), (.ref xa)])
  refine Run.callN X0 (y := (⟨"java/lang/String", "<init>", "([CIILjava/lang/Void;)V"⟩ : MethodName)) (W := 0) (con_n4e l hw hN hm G hz O) rfl (wd hw 12 rfl) (wd hw 13 rfl) (wd hw 8 rfl) (wd hw 15 rfl) (by decide) pd___CIILjava_lang_Void__V rfl (argsL := [(.ref ba), (.int (0 : Int32)), (.int (0 : Int32)), .null]) (rest := []) rfl (Nat.le_of_ble_eq_true rfl) rfl n1d_6 (by decide) (by decide) (Nat.le_of_ble_eq_true rfl) (Nat.le_of_ble_eq_true rfl) (fun y hy => by cases List.mem_singleton.mp hy; exact ⟨Or.inl (List.mem_singleton.mpr rfl), hz⟩) (fun y hy => hy) ?_
  intro v102 T102 h102 L102 q102 X102 XF102 K102
  obtain ⟨rfl, S⟩ := q102
  show Run _ _ _ _ _ _ _ _ _ _ _ _ T102 (mkF m 9 #[.val (.ref xa), .val (.ref ba)] [])
  exact Run.retV X102 rfl n1d_9 (Nat.le_of_ble_eq_true rfl) (Nat.le_of_ble_eq_true rfl) (⟨rfl, S⟩)
-- part con_cd
theorem cdd_0 : decode jdk_42_method_152_code 0 = .ok (.getstatic 38, 3) := by decide +kernel
theorem cdd_3 : decode jdk_42_method_152_code 3 = .ok (.ifCond .eq 10, 3) := by decide +kernel
theorem cdd_6 : decode jdk_42_method_152_code 6 = .ok (.aload_n 0, 1) := by decide +kernel
theorem cdd_7 : decode jdk_42_method_152_code 7 = .ok (.getfield 15, 3) := by decide +kernel
theorem cdd_10 : decode jdk_42_method_152_code 10 = .ok (.goto 4, 3) := by decide +kernel
theorem cdd_14 : decode jdk_42_method_152_code 14 = .ok (.ireturn, 1) := by decide +kernel
set_option maxRecDepth 65536 in
set_option maxHeartbeats 40000000 in
theorem con_cd (l : Launch) {Z : State} {a0 : Array Value} {EL : List (String × Nat)} {h0 : Heap} (hw : ∀ d ∈ tables_1, d.before a0 Z = true) (hS : Sets Z) {a : Addr} (F : Fld Z h0 a "java/lang/String" "coder" "B" (.int 0)) (O : Ext Z.heap h0) : Con l Z a0 EL false (⟨"java/lang/String", "coder", "()B"⟩ : MethodName) jdk_42_method_152_code 1 (some .byte) ({ frames := 0, cells := 0, slots := 0, locals := 0 } : Room) [] [] #[(.ref a)] h0 (fun v h => v = some (.int 0) ∧ h0 = h) := by
  obtain ⟨zz, fm, S1, S2, S3, S4⟩ := hS
  refine Con.enter (plainFor_of_name (by first | (simp [plainName, overriddenIn]; done) | decide +kernel)) O ?_
  intro p e s m below meth c T0 X0
  rw [show entryFrame m #[(.ref a)] 1 = (mkF m 0 #[.val (.ref a)] []) from by first | (simp [entryFrame, mkF, argsToLocals, Value.category]; done) | rfl]
  refine Run.gets X0 (wd hw 19 rfl) Via.refl S1 cdd_0 ?_
  intro T101 X101
  show Run _ _ _ _ _ _ _ _ _ _ _ _ T101 (mkF m 3 #[.val (.ref a)] [(.int zz)])
  refine Run.via (fun _ => XS.ifNo X101.at X101.ex rfl (X101.de cdd_3) rfl ((if0 _ _).trans (feq S2).1)) ?_
  show Run _ _ _ _ _ _ _ _ _ _ _ _ T101 (mkF m 6 #[.val (.ref a)] [])
  refine Run.via (fun _ => XS.aloadN X101.at X101.ex rfl (X101.de cdd_6) rfl rfl) ?_
  show Run _ _ _ _ _ _ _ _ _ _ _ _ T101 (mkF m 7 #[.val (.ref a)] [(.ref a)])
  refine Run.getf X101 (wd hw 31 rfl) Via.refl F cdd_7 ?_
  intro T102 X102
  show Run _ _ _ _ _ _ _ _ _ _ _ _ T102 (mkF m 10 #[.val (.ref a)] [(.int (0 : Int32))])
  refine Run.via (fun _ => XS.goto X102.at X102.ex rfl (pc0 := 10) (pc' := 14) rfl (X102.de cdd_10) (by decide) (by decide)) ?_
  show Run _ _ _ _ _ _ _ _ _ _ _ _ T102 (mkF m 14 #[.val (.ref a)] [(.int (0 : Int32))])
  exact Run.retN X102 (t := .byte) rfl (by simp) cdd_14 (Nat.le_of_ble_eq_true rfl) (Nat.le_of_ble_eq_true rfl) (⟨rfl, rfl⟩)
-- part con_il
theorem ild_0 : decode jdk_42_method_154_code 0 = .ok (.getstatic 38, 3) := by decide +kernel
theorem ild_3 : decode jdk_42_method_154_code 3 = .ok (.ifCond .eq 14, 3) := by decide +kernel
theorem ild_6 : decode jdk_42_method_154_code 6 = .ok (.aload_n 0, 1) := by decide +kernel
theorem ild_7 : decode jdk_42_method_154_code 7 = .ok (.getfield 15, 3) := by decide +kernel
theorem ild_10 : decode jdk_42_method_154_code 10 = .ok (.ifCond .ne 7, 3) := by decide +kernel
theorem ild_13 : decode jdk_42_method_154_code 13 = .ok (.iconst 1, 1) := by decide +kernel
theorem ild_14 : decode jdk_42_method_154_code 14 = .ok (.goto 4, 3) := by decide +kernel
theorem ild_18 : decode jdk_42_method_154_code 18 = .ok (.ireturn, 1) := by decide +kernel
set_option maxRecDepth 65536 in
set_option maxHeartbeats 40000000 in
theorem con_il (l : Launch) {Z : State} {a0 : Array Value} {EL : List (String × Nat)} {h0 : Heap} (hw : ∀ d ∈ tables_1, d.before a0 Z = true) (hS : Sets Z) {a : Addr} (F : Fld Z h0 a "java/lang/String" "coder" "B" (.int 0)) (O : Ext Z.heap h0) : Con l Z a0 EL false (⟨"java/lang/String", "isLatin1", "()Z"⟩ : MethodName) jdk_42_method_154_code 1 (some .boolean) ({ frames := 0, cells := 0, slots := 0, locals := 0 } : Room) [] [] #[(.ref a)] h0 (fun v h => v = some (.int 1) ∧ h0 = h) := by
  obtain ⟨zz, fm, S1, S2, S3, S4⟩ := hS
  refine Con.enter (plainFor_of_name (by first | (simp [plainName, overriddenIn]; done) | decide +kernel)) O ?_
  intro p e s m below meth c T0 X0
  rw [show entryFrame m #[(.ref a)] 1 = (mkF m 0 #[.val (.ref a)] []) from by first | (simp [entryFrame, mkF, argsToLocals, Value.category]; done) | rfl]
  refine Run.gets X0 (wd hw 19 rfl) Via.refl S1 ild_0 ?_
  intro T101 X101
  show Run _ _ _ _ _ _ _ _ _ _ _ _ T101 (mkF m 3 #[.val (.ref a)] [(.int zz)])
  refine Run.via (fun _ => XS.ifNo X101.at X101.ex rfl (X101.de ild_3) rfl ((if0 _ _).trans (feq S2).1)) ?_
  show Run _ _ _ _ _ _ _ _ _ _ _ _ T101 (mkF m 6 #[.val (.ref a)] [])
  refine Run.via (fun _ => XS.aloadN X101.at X101.ex rfl (X101.de ild_6) rfl rfl) ?_
  show Run _ _ _ _ _ _ _ _ _ _ _ _ T101 (mkF m 7 #[.val (.ref a)] [(.ref a)])
  refine Run.getf X101 (wd hw 31 rfl) Via.refl F ild_7 ?_
  intro T102 X102
  show Run _ _ _ _ _ _ _ _ _ _ _ _ T102 (mkF m 10 #[.val (.ref a)] [(.int (0 : Int32))])
  refine Run.via (fun _ => XS.ifNo X102.at X102.ex rfl (X102.de ild_10) rfl ((if0 _ _).trans (teq (by decide : ((0 : Int32) = (0 : Int32)))).2)) ?_
  show Run _ _ _ _ _ _ _ _ _ _ _ _ T102 (mkF m 13 #[.val (.ref a)] [])
  refine Run.via (fun _ => XS.iconst X102.at X102.ex rfl (X102.de ild_13)) ?_
  show Run _ _ _ _ _ _ _ _ _ _ _ _ T102 (mkF m 14 #[.val (.ref a)] [(.int (1 : Int32))])
  refine Run.via (fun _ => XS.goto X102.at X102.ex rfl (pc0 := 14) (pc' := 18) rfl (X102.de ild_14) (by decide) (by decide)) ?_
  show Run _ _ _ _ _ _ _ _ _ _ _ _ T102 (mkF m 18 #[.val (.ref a)] [(.int (1 : Int32))])
  exact Run.retN X102 (t := .boolean) rfl (by simp) ild_18 (Nat.le_of_ble_eq_true rfl) (Nat.le_of_ble_eq_true rfl) (⟨rfl, rfl⟩)
-- part con_ft
theorem ftd_0 : decode jdk_41_method_12_code 0 = .ok (.iload_n 0, 1) := by decide +kernel
theorem ftd_1 : decode jdk_41_method_12_code 1 = .ok (.ifCond .lt 13, 3) := by decide +kernel
theorem ftd_4 : decode jdk_41_method_12_code 4 = .ok (.iload_n 0, 1) := by decide +kernel
theorem ftd_5 : decode jdk_41_method_12_code 5 = .ok (.iload_n 1, 1) := by decide +kernel
theorem ftd_6 : decode jdk_41_method_12_code 6 = .ok (.if_icmp .gt 8, 3) := by decide +kernel
theorem ftd_9 : decode jdk_41_method_12_code 9 = .ok (.iload_n 1, 1) := by decide +kernel
theorem ftd_10 : decode jdk_41_method_12_code 10 = .ok (.iload_n 2, 1) := by decide +kernel
theorem ftd_11 : decode jdk_41_method_12_code 11 = .ok (.if_icmp .le 11, 3) := by decide +kernel
theorem ftd_22 : decode jdk_41_method_12_code 22 = .ok (.iload_n 0, 1) := by decide +kernel
theorem ftd_23 : decode jdk_41_method_12_code 23 = .ok (.ireturn, 1) := by decide +kernel
set_option maxRecDepth 65536 in
set_option maxHeartbeats 40000000 in
theorem con_ft (l : Launch) {Z : State} {a0 : Array Value} {EL : List (String × Nat)} {h0 : Heap} (hw : ∀ d ∈ tables_1, d.before a0 Z = true) {fm : Value} (hf : fm.isRef = true) {b n k : Nat} (h1 : b ≤ n) (h2 : n ≤ k) (h3 : k ≤ 4000) (O : Ext Z.heap h0) : Con l Z a0 EL false (⟨"jdk/internal/util/Preconditions", "checkFromToIndex", "(IIILjava/util/function/BiFunction;)I"⟩ : MethodName) jdk_41_method_12_code 4 (some .int) ({ frames := 0, cells := 0, slots := 0, locals := 0 } : Room) [] [] #[.int (Int32.ofNat b), .int (Int32.ofNat n), .int (Int32.ofNat k), fm] h0 (fun v h => v = some (.int (Int32.ofNat b)) ∧ h0 = h) := by
  rcases ref_cases hf with rfl | ⟨fa, rfl⟩
  ·
    refine Con.enter (plainFor_of_name (by first | (simp [plainName, overriddenIn]; done) | decide +kernel)) O ?_
    intro p e s m below meth c T0 X0
    rw [show entryFrame m #[(.int (Int32.ofNat b)), (.int (Int32.ofNat n)), (.int (Int32.ofNat k)), .null] 4 = (mkF m 0 #[.val (.int (Int32.ofNat b)), .val (.int (Int32.ofNat n)), .val (.int (Int32.ofNat k)), .val .null] []) from by first | (simp [entryFrame, mkF, argsToLocals, Value.category]; done) | rfl]
    refine Run.via (fun _ => XS.iloadN X0.at X0.ex rfl (X0.de ftd_0) rfl) ?_
    show Run _ _ _ _ _ _ _ _ _ _ _ _ T0 (mkF m 1 #[.val (.int (Int32.ofNat b)), .val (.int (Int32.ofNat n)), .val (.int (Int32.ofNat k)), .val .null] [(.int (Int32.ofNat b))])
    refine Run.via (fun _ => XS.ifNo X0.at X0.ex rfl (X0.de ftd_1) rfl ((if0 _ _).trans (flt (n32' (by omega)).1).1)) ?_
    show Run _ _ _ _ _ _ _ _ _ _ _ _ T0 (mkF m 4 #[.val (.int (Int32.ofNat b)), .val (.int (Int32.ofNat n)), .val (.int (Int32.ofNat k)), .val .null] [])
    refine Run.via (fun _ => XS.iloadN X0.at X0.ex rfl (X0.de ftd_4) rfl) ?_
    show Run _ _ _ _ _ _ _ _ _ _ _ _ T0 (mkF m 5 #[.val (.int (Int32.ofNat b)), .val (.int (Int32.ofNat n)), .val (.int (Int32.ofNat k)), .val .null] [(.int (Int32.ofNat b))])
    refine Run.via (fun _ => XS.iloadN X0.at X0.ex rfl (X0.de ftd_5) rfl) ?_
    show Run _ _ _ _ _ _ _ _ _ _ _ _ T0 (mkF m 6 #[.val (.int (Int32.ofNat b)), .val (.int (Int32.ofNat n)), .val (.int (Int32.ofNat k)), .val .null] [(.int (Int32.ofNat n)), (.int (Int32.ofNat b))])
    refine Run.via (fun _ => XS.icmpNo X0.at X0.ex rfl (X0.de ftd_6) rfl (flt (fun q => by have := (i32lt (by omega) (by omega)).mp q; omega)).2.2.1) ?_
    show Run _ _ _ _ _ _ _ _ _ _ _ _ T0 (mkF m 9 #[.val (.int (Int32.ofNat b)), .val (.int (Int32.ofNat n)), .val (.int (Int32.ofNat k)), .val .null] [])
    refine Run.via (fun _ => XS.iloadN X0.at X0.ex rfl (X0.de ftd_9) rfl) ?_
    show Run _ _ _ _ _ _ _ _ _ _ _ _ T0 (mkF m 10 #[.val (.int (Int32.ofNat b)), .val (.int (Int32.ofNat n)), .val (.int (Int32.ofNat k)), .val .null] [(.int (Int32.ofNat n))])
    refine Run.via (fun _ => XS.iloadN X0.at X0.ex rfl (X0.de ftd_10) rfl) ?_
    show Run _ _ _ _ _ _ _ _ _ _ _ _ T0 (mkF m 11 #[.val (.int (Int32.ofNat b)), .val (.int (Int32.ofNat n)), .val (.int (Int32.ofNat k)), .val .null] [(.int (Int32.ofNat k)), (.int (Int32.ofNat n))])
    refine Run.via (fun _ => XS.icmpYes X0.at X0.ex rfl (pc0 := 11) (pc' := 22) rfl (X0.de ftd_11) rfl (flt (fun q => by have := (i32lt (by omega) (by omega)).mp q; omega)).2.2.2 (by decide) (by decide)) ?_
    show Run _ _ _ _ _ _ _ _ _ _ _ _ T0 (mkF m 22 #[.val (.int (Int32.ofNat b)), .val (.int (Int32.ofNat n)), .val (.int (Int32.ofNat k)), .val .null] [])
    refine Run.via (fun _ => XS.iloadN X0.at X0.ex rfl (X0.de ftd_22) rfl) ?_
    show Run _ _ _ _ _ _ _ _ _ _ _ _ T0 (mkF m 23 #[.val (.int (Int32.ofNat b)), .val (.int (Int32.ofNat n)), .val (.int (Int32.ofNat k)), .val .null] [(.int (Int32.ofNat b))])
    exact Run.retI X0 rfl ftd_23 (Nat.le_of_ble_eq_true rfl) (Nat.le_of_ble_eq_true rfl) (⟨rfl, rfl⟩)
  ·
    refine Con.enter (plainFor_of_name (by first | (simp [plainName, overriddenIn]; done) | decide +kernel)) O ?_
    intro p e s m below meth c T0 X0
    rw [show entryFrame m #[(.int (Int32.ofNat b)), (.int (Int32.ofNat n)), (.int (Int32.ofNat k)), (.ref fa)] 4 = (mkF m 0 #[.val (.int (Int32.ofNat b)), .val (.int (Int32.ofNat n)), .val (.int (Int32.ofNat k)), .val (.ref fa)] []) from by first | (simp [entryFrame, mkF, argsToLocals, Value.category]; done) | rfl]
    refine Run.via (fun _ => XS.iloadN X0.at X0.ex rfl (X0.de ftd_0) rfl) ?_
    show Run _ _ _ _ _ _ _ _ _ _ _ _ T0 (mkF m 1 #[.val (.int (Int32.ofNat b)), .val (.int (Int32.ofNat n)), .val (.int (Int32.ofNat k)), .val (.ref fa)] [(.int (Int32.ofNat b))])
    refine Run.via (fun _ => XS.ifNo X0.at X0.ex rfl (X0.de ftd_1) rfl ((if0 _ _).trans (flt (n32' (by omega)).1).1)) ?_
    show Run _ _ _ _ _ _ _ _ _ _ _ _ T0 (mkF m 4 #[.val (.int (Int32.ofNat b)), .val (.int (Int32.ofNat n)), .val (.int (Int32.ofNat k)), .val (.ref fa)] [])
    refine Run.via (fun _ => XS.iloadN X0.at X0.ex rfl (X0.de ftd_4) rfl) ?_
    show Run _ _ _ _ _ _ _ _ _ _ _ _ T0 (mkF m 5 #[.val (.int (Int32.ofNat b)), .val (.int (Int32.ofNat n)), .val (.int (Int32.ofNat k)), .val (.ref fa)] [(.int (Int32.ofNat b))])
    refine Run.via (fun _ => XS.iloadN X0.at X0.ex rfl (X0.de ftd_5) rfl) ?_
    show Run _ _ _ _ _ _ _ _ _ _ _ _ T0 (mkF m 6 #[.val (.int (Int32.ofNat b)), .val (.int (Int32.ofNat n)), .val (.int (Int32.ofNat k)), .val (.ref fa)] [(.int (Int32.ofNat n)), (.int (Int32.ofNat b))])
    refine Run.via (fun _ => XS.icmpNo X0.at X0.ex rfl (X0.de ftd_6) rfl (flt (fun q => by have := (i32lt (by omega) (by omega)).mp q; omega)).2.2.1) ?_
    show Run _ _ _ _ _ _ _ _ _ _ _ _ T0 (mkF m 9 #[.val (.int (Int32.ofNat b)), .val (.int (Int32.ofNat n)), .val (.int (Int32.ofNat k)), .val (.ref fa)] [])
    refine Run.via (fun _ => XS.iloadN X0.at X0.ex rfl (X0.de ftd_9) rfl) ?_
    show Run _ _ _ _ _ _ _ _ _ _ _ _ T0 (mkF m 10 #[.val (.int (Int32.ofNat b)), .val (.int (Int32.ofNat n)), .val (.int (Int32.ofNat k)), .val (.ref fa)] [(.int (Int32.ofNat n))])
    refine Run.via (fun _ => XS.iloadN X0.at X0.ex rfl (X0.de ftd_10) rfl) ?_
    show Run _ _ _ _ _ _ _ _ _ _ _ _ T0 (mkF m 11 #[.val (.int (Int32.ofNat b)), .val (.int (Int32.ofNat n)), .val (.int (Int32.ofNat k)), .val (.ref fa)] [(.int (Int32.ofNat k)), (.int (Int32.ofNat n))])
    refine Run.via (fun _ => XS.icmpYes X0.at X0.ex rfl (pc0 := 11) (pc' := 22) rfl (X0.de ftd_11) rfl (flt (fun q => by have := (i32lt (by omega) (by omega)).mp q; omega)).2.2.2 (by decide) (by decide)) ?_
    show Run _ _ _ _ _ _ _ _ _ _ _ _ T0 (mkF m 22 #[.val (.int (Int32.ofNat b)), .val (.int (Int32.ofNat n)), .val (.int (Int32.ofNat k)), .val (.ref fa)] [])
    refine Run.via (fun _ => XS.iloadN X0.at X0.ex rfl (X0.de ftd_22) rfl) ?_
    show Run _ _ _ _ _ _ _ _ _ _ _ _ T0 (mkF m 23 #[.val (.int (Int32.ofNat b)), .val (.int (Int32.ofNat n)), .val (.int (Int32.ofNat k)), .val (.ref fa)] [(.int (Int32.ofNat b))])
    exact Run.retI X0 rfl ftd_23 (Nat.le_of_ble_eq_true rfl) (Nat.le_of_ble_eq_true rfl) (⟨rfl, rfl⟩)
-- part con_be
theorem bed_0 : decode jdk_42_method_158_code 0 = .ok (.iload_n 0, 1) := by decide +kernel
theorem bed_1 : decode jdk_42_method_158_code 1 = .ok (.iload_n 1, 1) := by decide +kernel
theorem bed_2 : decode jdk_42_method_158_code 2 = .ok (.iload_n 2, 1) := by decide +kernel
theorem bed_3 : decode jdk_42_method_158_code 3 = .ok (.getstatic 1053, 3) := by decide +kernel
theorem bed_6 : decode jdk_42_method_158_code 6 = .ok (.invokestatic 1062, 3) := by decide +kernel
theorem bed_9 : decode jdk_42_method_158_code 9 = .ok (.pop, 1) := by decide +kernel
theorem bed_10 : decode jdk_42_method_158_code 10 = .ok (.return_, 1) := by decide +kernel
set_option maxRecDepth 65536 in
set_option maxHeartbeats 40000000 in
theorem con_be (l : Launch) {Z : State} {a0 : Array Value} {EL : List (String × Nat)} {h0 : Heap} (hw : ∀ d ∈ tables_1, d.before a0 Z = true) (hS : Sets Z) {b n k : Nat} (h1 : b ≤ n) (h2 : n ≤ k) (h3 : k ≤ 4000) (O : Ext Z.heap h0) : Con l Z a0 EL false (⟨"java/lang/String", "checkBoundsBeginEnd", "(III)V"⟩ : MethodName) jdk_42_method_158_code 3 none ({ frames := 1, cells := 0, slots := 0, locals := 16 } : Room) [] [] #[(.int (Int32.ofNat b)), (.int (Int32.ofNat n)), (.int (Int32.ofNat k))] h0 (fun v h => v = none ∧ h0 = h) := by
  obtain ⟨zz, fm, S1, S2, S3, S4⟩ := hS
  refine Con.enter (plainFor_of_name (by first | (simp [plainName, overriddenIn]; done) | decide +kernel)) O ?_
  intro p e s m below meth c T0 X0
  rw [show entryFrame m #[(.int (Int32.ofNat b)), (.int (Int32.ofNat n)), (.int (Int32.ofNat k))] 3 = (mkF m 0 #[.val (.int (Int32.ofNat b)), .val (.int (Int32.ofNat n)), .val (.int (Int32.ofNat k))] []) from by first | (simp [entryFrame, mkF, argsToLocals, Value.category]; done) | rfl]
  refine Run.via (fun _ => XS.iloadN X0.at X0.ex rfl (X0.de bed_0) rfl) ?_
  show Run _ _ _ _ _ _ _ _ _ _ _ _ T0 (mkF m 1 #[.val (.int (Int32.ofNat b)), .val (.int (Int32.ofNat n)), .val (.int (Int32.ofNat k))] [(.int (Int32.ofNat b))])
  refine Run.via (fun _ => XS.iloadN X0.at X0.ex rfl (X0.de bed_1) rfl) ?_
  show Run _ _ _ _ _ _ _ _ _ _ _ _ T0 (mkF m 2 #[.val (.int (Int32.ofNat b)), .val (.int (Int32.ofNat n)), .val (.int (Int32.ofNat k))] [(.int (Int32.ofNat n)), (.int (Int32.ofNat b))])
  refine Run.via (fun _ => XS.iloadN X0.at X0.ex rfl (X0.de bed_2) rfl) ?_
  show Run _ _ _ _ _ _ _ _ _ _ _ _ T0 (mkF m 3 #[.val (.int (Int32.ofNat b)), .val (.int (Int32.ofNat n)), .val (.int (Int32.ofNat k))] [(.int (Int32.ofNat k)), (.int (Int32.ofNat n)), (.int (Int32.ofNat b))])
  refine Run.gets X0 (wd hw 86 rfl) Via.refl S3 bed_3 ?_
  intro T101 X101
  show Run _ _ _ _ _ _ _ _ _ _ _ _ T101 (mkF m 6 #[.val (.int (Int32.ofNat b)), .val (.int (Int32.ofNat n)), .val (.int (Int32.ofNat k))] [fm, (.int (Int32.ofNat k)), (.int (Int32.ofNat n)), (.int (Int32.ofNat b))])
  refine Run.callS X101 (y := (⟨"jdk/internal/util/Preconditions", "checkFromToIndex", "(IIILjava/util/function/BiFunction;)I"⟩ : MethodName)) (W := 0) (con_ft l hw S4 h1 h2 h3 O) (wd hw 88 rfl) (wd hw 89 rfl) (wd hw 87 rfl) (wd hw 90 rfl) (by decide) pd__IIILjava_util_function_BiFunction__I rfl (argsL := [(.int (Int32.ofNat b)), (.int (Int32.ofNat n)), (.int (Int32.ofNat k)), fm]) (rest := []) rfl (Nat.le_of_ble_eq_true rfl) rfl bed_6 (by decide) (by decide) (Nat.le_of_ble_eq_true rfl) (Nat.le_of_ble_eq_true rfl) (nofun) (nofun) ?_
  intro v102 T102 h102 L102 q102 X102 XF102 K102
  obtain ⟨rfl, rfl⟩ := q102
  show Run _ _ _ _ _ _ _ _ _ _ _ _ T102 (mkF m 9 #[.val (.int (Int32.ofNat b)), .val (.int (Int32.ofNat n)), .val (.int (Int32.ofNat k))] [(.int (Int32.ofNat b))])
  refine Run.via (fun _ => XS.pop X102.at X102.ex rfl (X102.de bed_9) rfl rfl) ?_
  show Run _ _ _ _ _ _ _ _ _ _ _ _ T102 (mkF m 10 #[.val (.int (Int32.ofNat b)), .val (.int (Int32.ofNat n)), .val (.int (Int32.ofNat k))] [])
  exact Run.retV X102 rfl bed_10 (Nat.le_of_ble_eq_true rfl) (Nat.le_of_ble_eq_true rfl) (⟨rfl, rfl⟩)
-- part con_mn
theorem mnd_0 : decode jdk_29_method_69_code 0 = .ok (.iload_n 0, 1) := by decide +kernel
theorem mnd_1 : decode jdk_29_method_69_code 1 = .ok (.iload_n 1, 1) := by decide +kernel
theorem mnd_2 : decode jdk_29_method_69_code 2 = .ok (.if_icmp .gt 7, 3) := by decide +kernel
theorem mnd_5 : decode jdk_29_method_69_code 5 = .ok (.iload_n 0, 1) := by decide +kernel
theorem mnd_6 : decode jdk_29_method_69_code 6 = .ok (.goto 4, 3) := by decide +kernel
theorem mnd_9 : decode jdk_29_method_69_code 9 = .ok (.iload_n 1, 1) := by decide +kernel
theorem mnd_10 : decode jdk_29_method_69_code 10 = .ok (.ireturn, 1) := by decide +kernel
set_option maxRecDepth 65536 in
set_option maxHeartbeats 40000000 in
theorem con_mn (l : Launch) {Z : State} {a0 : Array Value} {EL : List (String × Nat)} {h0 : Heap} (hw : ∀ d ∈ tables_1, d.before a0 Z = true) {a b : Nat} (ha : a ≤ 4000) (hb : b ≤ 4000) (O : Ext Z.heap h0) : Con l Z a0 EL false (⟨"java/lang/Math", "min", "(II)I"⟩ : MethodName) jdk_29_method_69_code 2 (some .int) ({ frames := 0, cells := 0, slots := 0, locals := 0 } : Room) [] [] #[(.int (Int32.ofNat a)), (.int (Int32.ofNat b))] h0 (fun v h => v = some (.int (Int32.ofNat (min a b))) ∧ h0 = h) := by
  refine Con.enter (Jvm.Free.JP.mathPlain rfl (by decide +kernel)) O ?_
  intro p e s m below meth c T0 X0
  rw [show entryFrame m #[(.int (Int32.ofNat a)), (.int (Int32.ofNat b))] 2 = (mkF m 0 #[.val (.int (Int32.ofNat a)), .val (.int (Int32.ofNat b))] []) from by first | (simp [entryFrame, mkF, argsToLocals, Value.category]; done) | rfl]
  refine Run.via (fun _ => XS.iloadN X0.at X0.ex rfl (X0.de mnd_0) rfl) ?_
  show Run _ _ _ _ _ _ _ _ _ _ _ _ T0 (mkF m 1 #[.val (.int (Int32.ofNat a)), .val (.int (Int32.ofNat b))] [(.int (Int32.ofNat a))])
  refine Run.via (fun _ => XS.iloadN X0.at X0.ex rfl (X0.de mnd_1) rfl) ?_
  show Run _ _ _ _ _ _ _ _ _ _ _ _ T0 (mkF m 2 #[.val (.int (Int32.ofNat a)), .val (.int (Int32.ofNat b))] [(.int (Int32.ofNat b)), (.int (Int32.ofNat a))])
  by_cases q : (Int32.ofNat b) < (Int32.ofNat a)
  ·
    refine Run.via (fun _ => XS.icmpYes X0.at X0.ex rfl (pc0 := 2) (pc' := 9) rfl (X0.de mnd_2) rfl (tlt q).2.2.1 (by decide) (by decide)) ?_
    show Run _ _ _ _ _ _ _ _ _ _ _ _ T0 (mkF m 9 #[.val (.int (Int32.ofNat a)), .val (.int (Int32.ofNat b))] [])
    refine Run.via (fun _ => XS.iloadN X0.at X0.ex rfl (X0.de mnd_9) rfl) ?_
    show Run _ _ _ _ _ _ _ _ _ _ _ _ T0 (mkF m 10 #[.val (.int (Int32.ofNat a)), .val (.int (Int32.ofNat b))] [(.int (Int32.ofNat b))])
    exact Run.retI X0 rfl mnd_10 (Nat.le_of_ble_eq_true rfl) (Nat.le_of_ble_eq_true rfl) (⟨by rw [Nat.min_eq_right (by have := (i32lt (by omega) (by omega)).mp q; omega)], rfl⟩)
  ·
    refine Run.via (fun _ => XS.icmpNo X0.at X0.ex rfl (X0.de mnd_2) rfl (flt q).2.2.1) ?_
    show Run _ _ _ _ _ _ _ _ _ _ _ _ T0 (mkF m 5 #[.val (.int (Int32.ofNat a)), .val (.int (Int32.ofNat b))] [])
    refine Run.via (fun _ => XS.iloadN X0.at X0.ex rfl (X0.de mnd_5) rfl) ?_
    show Run _ _ _ _ _ _ _ _ _ _ _ _ T0 (mkF m 6 #[.val (.int (Int32.ofNat a)), .val (.int (Int32.ofNat b))] [(.int (Int32.ofNat a))])
    refine Run.via (fun _ => XS.goto X0.at X0.ex rfl (pc0 := 6) (pc' := 10) rfl (X0.de mnd_6) (by decide) (by decide)) ?_
    show Run _ _ _ _ _ _ _ _ _ _ _ _ T0 (mkF m 10 #[.val (.int (Int32.ofNat a)), .val (.int (Int32.ofNat b))] [(.int (Int32.ofNat a))])
    exact Run.retI X0 rfl mnd_10 (Nat.le_of_ble_eq_true rfl) (Nat.le_of_ble_eq_true rfl) (⟨by rw [Nat.min_eq_left (by have := mt (i32lt (a := b) (b := a) (by omega) (by omega)).mpr q; omega)], rfl⟩)
-- part con_cl
theorem cld_0 : decode jdk_65_method_131_code 0 = .ok (.iload_n 1, 1) := by decide +kernel
theorem cld_1 : decode jdk_65_method_131_code 1 = .ok (.iload_n 0, 1) := by decide +kernel
theorem cld_2 : decode jdk_65_method_131_code 2 = .ok (.if_icmp .ge 35, 3) := by decide +kernel
theorem cld_37 : decode jdk_65_method_131_code 37 = .ok (.return_, 1) := by decide +kernel
set_option maxRecDepth 65536 in
set_option maxHeartbeats 40000000 in
theorem con_cl (l : Launch) {Z : State} {a0 : Array Value} {EL : List (String × Nat)} {h0 : Heap} (hw : ∀ d ∈ tables_1, d.before a0 Z = true) {a b : Nat} (h : a ≤ b) (hb : b ≤ 4000) (O : Ext Z.heap h0) : Con l Z a0 EL false (⟨"java/util/Arrays", "checkLength", "(II)V"⟩ : MethodName) jdk_65_method_131_code 2 none ({ frames := 0, cells := 0, slots := 0, locals := 0 } : Room) [] [] #[(.int (Int32.ofNat a)), (.int (Int32.ofNat b))] h0 (fun v h => v = none ∧ h0 = h) := by
  refine Con.enter (plainFor_of_name (by first | (simp [plainName, overriddenIn]; done) | decide +kernel)) O ?_
  intro p e s m below meth c T0 X0
  rw [show entryFrame m #[(.int (Int32.ofNat a)), (.int (Int32.ofNat b))] 2 = (mkF m 0 #[.val (.int (Int32.ofNat a)), .val (.int (Int32.ofNat b))] []) from by first | (simp [entryFrame, mkF, argsToLocals, Value.category]; done) | rfl]
  refine Run.via (fun _ => XS.iloadN X0.at X0.ex rfl (X0.de cld_0) rfl) ?_
  show Run _ _ _ _ _ _ _ _ _ _ _ _ T0 (mkF m 1 #[.val (.int (Int32.ofNat a)), .val (.int (Int32.ofNat b))] [(.int (Int32.ofNat b))])
  refine Run.via (fun _ => XS.iloadN X0.at X0.ex rfl (X0.de cld_1) rfl) ?_
  show Run _ _ _ _ _ _ _ _ _ _ _ _ T0 (mkF m 2 #[.val (.int (Int32.ofNat a)), .val (.int (Int32.ofNat b))] [(.int (Int32.ofNat a)), (.int (Int32.ofNat b))])
  refine Run.via (fun _ => XS.icmpYes X0.at X0.ex rfl (pc0 := 2) (pc' := 37) rfl (X0.de cld_2) rfl (flt (fun q => by have := (i32lt (by omega) (by omega)).mp q; omega)).2.1 (by decide) (by decide)) ?_
  show Run _ _ _ _ _ _ _ _ _ _ _ _ T0 (mkF m 37 #[.val (.int (Int32.ofNat a)), .val (.int (Int32.ofNat b))] [])
  exact Run.retV X0 rfl cld_37 (Nat.le_of_ble_eq_true rfl) (Nat.le_of_ble_eq_true rfl) (⟨rfl, rfl⟩)
-- part con_cb
theorem cbd_0 : decode jdk_65_method_133_code 0 = .ok (.iload_n 1, 1) := by decide +kernel
theorem cbd_1 : decode jdk_65_method_133_code 1 = .ok (.iload_n 2, 1) := by decide +kernel
theorem cbd_2 : decode jdk_65_method_133_code 2 = .ok (.invokestatic 343, 3) := by decide +kernel
theorem cbd_5 : decode jdk_65_method_133_code 5 = .ok (.iload_n 2, 1) := by decide +kernel
theorem cbd_6 : decode jdk_65_method_133_code 6 = .ok (.iload_n 1, 1) := by decide +kernel
theorem cbd_7 : decode jdk_65_method_133_code 7 = .ok (.isub, 1) := by decide +kernel
theorem cbd_8 : decode jdk_65_method_133_code 8 = .ok (.istore_n 3, 1) := by decide +kernel
theorem cbd_9 : decode jdk_65_method_133_code 9 = .ok (.iload_n 3, 1) := by decide +kernel
theorem cbd_10 : decode jdk_65_method_133_code 10 = .ok (.newarray .byte, 2) := by decide +kernel
theorem cbd_12 : decode jdk_65_method_133_code 12 = .ok (.astore 4, 2) := by decide +kernel
theorem cbd_14 : decode jdk_65_method_133_code 14 = .ok (.aload_n 0, 1) := by decide +kernel
theorem cbd_15 : decode jdk_65_method_133_code 15 = .ok (.iload_n 1, 1) := by decide +kernel
theorem cbd_16 : decode jdk_65_method_133_code 16 = .ok (.aload 4, 2) := by decide +kernel
theorem cbd_18 : decode jdk_65_method_133_code 18 = .ok (.iconst 0, 1) := by decide +kernel
theorem cbd_19 : decode jdk_65_method_133_code 19 = .ok (.aload_n 0, 1) := by decide +kernel
theorem cbd_20 : decode jdk_65_method_133_code 20 = .ok (.arraylength, 1) := by decide +kernel
theorem cbd_21 : decode jdk_65_method_133_code 21 = .ok (.iload_n 1, 1) := by decide +kernel
theorem cbd_22 : decode jdk_65_method_133_code 22 = .ok (.isub, 1) := by decide +kernel
theorem cbd_23 : decode jdk_65_method_133_code 23 = .ok (.iload_n 3, 1) := by decide +kernel
theorem cbd_24 : decode jdk_65_method_133_code 24 = .ok (.invokestatic 304, 3) := by decide +kernel
theorem cbd_27 : decode jdk_65_method_133_code 27 = .ok (.invokestatic 150, 3) := by decide +kernel
theorem cbd_30 : decode jdk_65_method_133_code 30 = .ok (.aload 4, 2) := by decide +kernel
theorem cbd_32 : decode jdk_65_method_133_code 32 = .ok (.areturn, 1) := by decide +kernel
set_option maxRecDepth 65536 in
set_option maxHeartbeats 40000000 in
theorem con_cb (l : Launch) {Z : State} {a0 : Array Value} {EL : List (String × Nat)} {h0 : Heap} (hw : ∀ d ∈ tables_1, d.before a0 Z = true) {t : Addr} {bs : List Int32} {b n : Nat} (A : Arc .byte Z h0 t bs) (h1 : b ≤ n) (h2 : n ≤ bs.length) (h3 : n - b ≤ 4) (O : Ext Z.heap h0) : Con l Z a0 EL false (⟨"java/util/Arrays", "copyOfRangeByte", "([BII)[B"⟩ : MethodName) jdk_65_method_133_code 5 (some (.array .byte)) ({ frames := 1, cells := 1, slots := 4, locals := 48 } : Room) [] [] #[(.ref t), (.int (Int32.ofNat b)), (.int (Int32.ofNat n))] h0 (fun v h => ∃ x, v = some (.ref x) ∧ Arc .byte Z h x ((bs.drop b).take (n - b))) := by
  refine Con.enter (plainFor_of_name (by first | (simp [plainName, overriddenIn]; done) | decide +kernel)) O ?_
  intro p e s m below meth c T0 X0
  rw [show entryFrame m #[(.ref t), (.int (Int32.ofNat b)), (.int (Int32.ofNat n))] 5 = (mkF m 0 #[.val (.ref t), .val (.int (Int32.ofNat b)), .val (.int (Int32.ofNat n)), .unset, .unset] []) from by first | (simp [entryFrame, mkF, argsToLocals, Value.category]; done) | rfl]
  have ho := O.1
  have hla := A.lt
  have hl4 : bs.length ≤ 4000 := by obtain ⟨_, _, r⟩ := A; exact r
  refine Run.via (fun _ => XS.iloadN X0.at X0.ex rfl (X0.de cbd_0) rfl) ?_
  show Run _ _ _ _ _ _ _ _ _ _ _ _ T0 (mkF m 1 #[.val (.ref t), .val (.int (Int32.ofNat b)), .val (.int (Int32.ofNat n)), .unset, .unset] [(.int (Int32.ofNat b))])
  refine Run.via (fun _ => XS.iloadN X0.at X0.ex rfl (X0.de cbd_1) rfl) ?_
  show Run _ _ _ _ _ _ _ _ _ _ _ _ T0 (mkF m 2 #[.val (.ref t), .val (.int (Int32.ofNat b)), .val (.int (Int32.ofNat n)), .unset, .unset] [(.int (Int32.ofNat n)), (.int (Int32.ofNat b))])
  refine Run.callS X0 (y := (⟨"java/util/Arrays", "checkLength", "(II)V"⟩ : MethodName)) (W := 0) (con_cl l hw h1 (by omega) O) (wd hw 113 rfl) (wd hw 114 rfl) (wd hw 108 rfl) (wd hw 115 rfl) (by decide) pd__II_V rfl (argsL := [(.int (Int32.ofNat b)), (.int (Int32.ofNat n))]) (rest := []) rfl (Nat.le_of_ble_eq_true rfl) rfl cbd_2 (by decide) (by decide) (Nat.le_of_ble_eq_true rfl) (Nat.le_of_ble_eq_true rfl) (nofun) (nofun) ?_
  intro v101 T101 h101 L101 q101 X101 XF101 K101
  obtain ⟨rfl, rfl⟩ := q101
  show Run _ _ _ _ _ _ _ _ _ _ _ _ T101 (mkF m 5 #[.val (.ref t), .val (.int (Int32.ofNat b)), .val (.int (Int32.ofNat n)), .unset, .unset] [])
  refine Run.via (fun _ => XS.iloadN X101.at X101.ex rfl (X101.de cbd_5) rfl) ?_
  show Run _ _ _ _ _ _ _ _ _ _ _ _ T101 (mkF m 6 #[.val (.ref t), .val (.int (Int32.ofNat b)), .val (.int (Int32.ofNat n)), .unset, .unset] [(.int (Int32.ofNat n))])
  refine Run.via (fun _ => XS.iloadN X101.at X101.ex rfl (X101.de cbd_6) rfl) ?_
  show Run _ _ _ _ _ _ _ _ _ _ _ _ T101 (mkF m 7 #[.val (.ref t), .val (.int (Int32.ofNat b)), .val (.int (Int32.ofNat n)), .unset, .unset] [(.int (Int32.ofNat b)), (.int (Int32.ofNat n))])
  refine Run.via (fun _ => XS.isub X101.at X101.ex rfl (X101.de cbd_7) rfl) ?_
  show Run _ _ _ _ _ _ _ _ _ _ _ _ T101 (mkF m 8 #[.val (.ref t), .val (.int (Int32.ofNat b)), .val (.int (Int32.ofNat n)), .unset, .unset] [(.int ((Int32.ofNat n) - (Int32.ofNat b)))])
  rw [show ((Int32.ofNat n) - (Int32.ofNat b)) = (Int32.ofNat (n - b)) from i32sub h1 (by omega)]
  show Run _ _ _ _ _ _ _ _ _ _ _ _ T101 (mkF m 8 #[.val (.ref t), .val (.int (Int32.ofNat b)), .val (.int (Int32.ofNat n)), .unset, .unset] [(.int (Int32.ofNat (n - b)))])
  refine Run.via (fun _ => XS.istoreN X101.at X101.ex rfl (X101.de cbd_8) rfl (l' := #[.val (.ref t), .val (.int (Int32.ofNat b)), .val (.int (Int32.ofNat n)), .val (.int (Int32.ofNat (n - b))), .unset]) rfl) ?_
  show Run _ _ _ _ _ _ _ _ _ _ _ _ T101 (mkF m 9 #[.val (.ref t), .val (.int (Int32.ofNat b)), .val (.int (Int32.ofNat n)), .val (.int (Int32.ofNat (n - b))), .unset] [])
  refine Run.via (fun _ => XS.iloadN X101.at X101.ex rfl (X101.de cbd_9) rfl) ?_
  show Run _ _ _ _ _ _ _ _ _ _ _ _ T101 (mkF m 10 #[.val (.ref t), .val (.int (Int32.ofNat b)), .val (.int (Int32.ofNat n)), .val (.int (Int32.ofNat (n - b))), .unset] [(.int (Int32.ofNat (n - b)))])
  refine Run.newarr X101 (aty := .byte) (n := (n - b)) (cap := 4) (wd hw 24 rfl) rfl cbd_10 rfl (by omega) (by decide) (Nat.le_of_ble_eq_true rfl) (Nat.le_of_ble_eq_true rfl) ?_
  intro T102 h102 x102 g102 X102 K102 z102 A102
  show Run _ _ _ _ _ _ _ _ _ _ _ _ T102 (mkF m 12 #[.val (.ref t), .val (.int (Int32.ofNat b)), .val (.int (Int32.ofNat n)), .val (.int (Int32.ofNat (n - b))), .unset] [(.ref x102)])
  refine Run.via (fun _ => XS.astore X102.at X102.ex rfl (X102.de cbd_12) rfl rfl (l' := #[.val (.ref t), .val (.int (Int32.ofNat b)), .val (.int (Int32.ofNat n)), .val (.int (Int32.ofNat (n - b))), .val (.ref x102)]) rfl) ?_
  show Run _ _ _ _ _ _ _ _ _ _ _ _ T102 (mkF m 14 #[.val (.ref t), .val (.int (Int32.ofNat b)), .val (.int (Int32.ofNat n)), .val (.int (Int32.ofNat (n - b))), .val (.ref x102)] [])
  refine Run.via (fun _ => XS.aloadN X102.at X102.ex rfl (X102.de cbd_14) rfl rfl) ?_
  show Run _ _ _ _ _ _ _ _ _ _ _ _ T102 (mkF m 15 #[.val (.ref t), .val (.int (Int32.ofNat b)), .val (.int (Int32.ofNat n)), .val (.int (Int32.ofNat (n - b))), .val (.ref x102)] [(.ref t)])
  refine Run.via (fun _ => XS.iloadN X102.at X102.ex rfl (X102.de cbd_15) rfl) ?_
  show Run _ _ _ _ _ _ _ _ _ _ _ _ T102 (mkF m 16 #[.val (.ref t), .val (.int (Int32.ofNat b)), .val (.int (Int32.ofNat n)), .val (.int (Int32.ofNat (n - b))), .val (.ref x102)] [(.int (Int32.ofNat b)), (.ref t)])
  refine Run.via (fun _ => XS.aload X102.at X102.ex rfl (X102.de cbd_16) rfl rfl) ?_
  show Run _ _ _ _ _ _ _ _ _ _ _ _ T102 (mkF m 18 #[.val (.ref t), .val (.int (Int32.ofNat b)), .val (.int (Int32.ofNat n)), .val (.int (Int32.ofNat (n - b))), .val (.ref x102)] [(.ref x102), (.int (Int32.ofNat b)), (.ref t)])
  refine Run.via (fun _ => XS.iconst X102.at X102.ex rfl (X102.de cbd_18)) ?_
  show Run _ _ _ _ _ _ _ _ _ _ _ _ T102 (mkF m 19 #[.val (.ref t), .val (.int (Int32.ofNat b)), .val (.int (Int32.ofNat n)), .val (.int (Int32.ofNat (n - b))), .val (.ref x102)] [(.int (0 : Int32)), (.ref x102), (.int (Int32.ofNat b)), (.ref t)])
  refine Run.via (fun _ => XS.aloadN X102.at X102.ex rfl (X102.de cbd_19) rfl rfl) ?_
  show Run _ _ _ _ _ _ _ _ _ _ _ _ T102 (mkF m 20 #[.val (.ref t), .val (.int (Int32.ofNat b)), .val (.int (Int32.ofNat n)), .val (.int (Int32.ofNat (n - b))), .val (.ref x102)] [(.ref t), (.int (0 : Int32)), (.ref x102), (.int (Int32.ofNat b)), (.ref t)])
  refine Run.alen X102 (A.keep K102 nin0) cbd_20 ?_
  show Run _ _ _ _ _ _ _ _ _ _ _ _ T102 (mkF m 21 #[.val (.ref t), .val (.int (Int32.ofNat b)), .val (.int (Int32.ofNat n)), .val (.int (Int32.ofNat (n - b))), .val (.ref x102)] [(.int (Int32.ofNat bs.length)), (.int (0 : Int32)), (.ref x102), (.int (Int32.ofNat b)), (.ref t)])
  refine Run.via (fun _ => XS.iloadN X102.at X102.ex rfl (X102.de cbd_21) rfl) ?_
  show Run _ _ _ _ _ _ _ _ _ _ _ _ T102 (mkF m 22 #[.val (.ref t), .val (.int (Int32.ofNat b)), .val (.int (Int32.ofNat n)), .val (.int (Int32.ofNat (n - b))), .val (.ref x102)] [(.int (Int32.ofNat b)), (.int (Int32.ofNat bs.length)), (.int (0 : Int32)), (.ref x102), (.int (Int32.ofNat b)), (.ref t)])
  refine Run.via (fun _ => XS.isub X102.at X102.ex rfl (X102.de cbd_22) rfl) ?_
  show Run _ _ _ _ _ _ _ _ _ _ _ _ T102 (mkF m 23 #[.val (.ref t), .val (.int (Int32.ofNat b)), .val (.int (Int32.ofNat n)), .val (.int (Int32.ofNat (n - b))), .val (.ref x102)] [(.int ((Int32.ofNat bs.length) - (Int32.ofNat b))), (.int (0 : Int32)), (.ref x102), (.int (Int32.ofNat b)), (.ref t)])
  rw [show ((Int32.ofNat bs.length) - (Int32.ofNat b)) = (Int32.ofNat (bs.length - b)) from i32sub (by omega) (by omega)]
  show Run _ _ _ _ _ _ _ _ _ _ _ _ T102 (mkF m 23 #[.val (.ref t), .val (.int (Int32.ofNat b)), .val (.int (Int32.ofNat n)), .val (.int (Int32.ofNat (n - b))), .val (.ref x102)] [(.int (Int32.ofNat (bs.length - b))), (.int (0 : Int32)), (.ref x102), (.int (Int32.ofNat b)), (.ref t)])
  refine Run.via (fun _ => XS.iloadN X102.at X102.ex rfl (X102.de cbd_23) rfl) ?_
  show Run _ _ _ _ _ _ _ _ _ _ _ _ T102 (mkF m 24 #[.val (.ref t), .val (.int (Int32.ofNat b)), .val (.int (Int32.ofNat n)), .val (.int (Int32.ofNat (n - b))), .val (.ref x102)] [(.int (Int32.ofNat (n - b))), (.int (Int32.ofNat (bs.length - b))), (.int (0 : Int32)), (.ref x102), (.int (Int32.ofNat b)), (.ref t)])
  refine Run.callS X102 (y := (⟨"java/lang/Math", "min", "(II)I"⟩ : MethodName)) (W := 4) (con_mn l hw (by omega) (by omega) X102.old) (wd hw 116 rfl) (wd hw 117 rfl) (wd hw 118 rfl) (wd hw 119 rfl) (by decide) pd__II_I rfl (argsL := [(.int (Int32.ofNat (bs.length - b))), (.int (Int32.ofNat (n - b)))]) (rest := [(.int (0 : Int32)), (.ref x102), (.int (Int32.ofNat b)), (.ref t)]) rfl (Nat.le_of_ble_eq_true rfl) rfl cbd_24 (by decide) (by decide) (Nat.le_of_ble_eq_true rfl) (Nat.le_of_ble_eq_true rfl) (nofun) (nofun) ?_
  intro v103 T103 h103 L103 q103 X103 XF103 K103
  obtain ⟨rfl, rfl⟩ := q103
  show Run _ _ _ _ _ _ _ _ _ _ _ _ T103 (mkF m 27 #[.val (.ref t), .val (.int (Int32.ofNat b)), .val (.int (Int32.ofNat n)), .val (.int (Int32.ofNat (n - b))), .val (.ref x102)] [(.int (Int32.ofNat (min (bs.length - b) (n - b)))), (.int (0 : Int32)), (.ref x102), (.int (Int32.ofNat b)), (.ref t)])
  rw [show (Int32.ofNat (min (bs.length - b) (n - b))) = (Int32.ofNat (n - b)) from by rw [Nat.min_eq_right (by omega)]]
  show Run _ _ _ _ _ _ _ _ _ _ _ _ T103 (mkF m 27 #[.val (.ref t), .val (.int (Int32.ofNat b)), .val (.int (Int32.ofNat n)), .val (.int (Int32.ofNat (n - b))), .val (.ref x102)] [(.int (Int32.ofNat (n - b))), (.int (0 : Int32)), (.ref x102), (.int (Int32.ofNat b)), (.ref t)])
  refine Run.acopy X103 (sp := b) (dp := 0) (nn := n - b) (W := 0) (A.keep K102 nin0) A102 (by omega) (by simp) (wd hw 120 rfl) (wd hw 123 rfl) (wd hw 121 rfl) (wd hw 122 rfl) (Or.inr (by omega)) (by omega) (by simp) rfl cbd_27 (Nat.le_of_ble_eq_true rfl) (by decide) (by decide) ?_
  intro T104 h104 L104 X104 K104 A104
  show Run _ _ _ _ _ _ _ _ _ _ _ _ T104 (mkF m 30 #[.val (.ref t), .val (.int (Int32.ofNat b)), .val (.int (Int32.ofNat n)), .val (.int (Int32.ofNat (n - b))), .val (.ref x102)] [])
  refine Run.via (fun _ => XS.aload X104.at X104.ex rfl (X104.de cbd_30) rfl rfl) ?_
  show Run _ _ _ _ _ _ _ _ _ _ _ _ T104 (mkF m 32 #[.val (.ref t), .val (.int (Int32.ofNat b)), .val (.int (Int32.ofNat n)), .val (.int (Int32.ofNat (n - b))), .val (.ref x102)] [(.ref x102)])
  exact Run.retA X104 (t := (.array .byte)) rfl rfl rfl cbd_32 (Nat.le_of_ble_eq_true rfl) (Nat.le_of_ble_eq_true rfl) (⟨x102, rfl, by have := A104; simpa using this⟩) (nofun)
-- part con_cr
theorem crd_0 : decode jdk_65_method_132_code 0 = .ok (.iload_n 1, 1) := by decide +kernel
theorem crd_1 : decode jdk_65_method_132_code 1 = .ok (.ifCond .ne 9, 3) := by decide +kernel
theorem crd_4 : decode jdk_65_method_132_code 4 = .ok (.iload_n 2, 1) := by decide +kernel
theorem crd_5 : decode jdk_65_method_132_code 5 = .ok (.aload_n 0, 1) := by decide +kernel
theorem crd_6 : decode jdk_65_method_132_code 6 = .ok (.arraylength, 1) := by decide +kernel
theorem crd_7 : decode jdk_65_method_132_code 7 = .ok (.if_icmp .eq 10, 3) := by decide +kernel
theorem crd_10 : decode jdk_65_method_132_code 10 = .ok (.aload_n 0, 1) := by decide +kernel
theorem crd_11 : decode jdk_65_method_132_code 11 = .ok (.iload_n 1, 1) := by decide +kernel
theorem crd_12 : decode jdk_65_method_132_code 12 = .ok (.iload_n 2, 1) := by decide +kernel
theorem crd_13 : decode jdk_65_method_132_code 13 = .ok (.invokestatic 339, 3) := by decide +kernel
theorem crd_16 : decode jdk_65_method_132_code 16 = .ok (.areturn, 1) := by decide +kernel
set_option maxRecDepth 65536 in
set_option maxHeartbeats 40000000 in
theorem con_cr (l : Launch) {Z : State} {a0 : Array Value} {EL : List (String × Nat)} {h0 : Heap} (hw : ∀ d ∈ tables_1, d.before a0 Z = true) {t : Addr} {bs : List Int32} {b n : Nat} (A : Arc .byte Z h0 t bs) (h1 : b ≤ n) (h2 : n ≤ bs.length) (h3 : n - b ≤ 4) (h4 : ¬ (b = 0 ∧ n = bs.length)) (O : Ext Z.heap h0) : Con l Z a0 EL false (⟨"java/util/Arrays", "copyOfRange", "([BII)[B"⟩ : MethodName) jdk_65_method_132_code 3 (some (.array .byte)) ({ frames := 2, cells := 1, slots := 4, locals := 66 } : Room) [] [] #[(.ref t), (.int (Int32.ofNat b)), (.int (Int32.ofNat n))] h0 (fun v h => ∃ x, v = some (.ref x) ∧ Arc .byte Z h x ((bs.drop b).take (n - b))) := by
  refine Con.enter (plainFor_of_name (by first | (simp [plainName, overriddenIn]; done) | decide +kernel)) O ?_
  intro p e s m below meth c T0 X0
  rw [show entryFrame m #[(.ref t), (.int (Int32.ofNat b)), (.int (Int32.ofNat n))] 3 = (mkF m 0 #[.val (.ref t), .val (.int (Int32.ofNat b)), .val (.int (Int32.ofNat n))] []) from by first | (simp [entryFrame, mkF, argsToLocals, Value.category]; done) | rfl]
  have hl4 : bs.length ≤ 4000 := by obtain ⟨_, _, r⟩ := A; exact r
  refine Run.via (fun _ => XS.iloadN X0.at X0.ex rfl (X0.de crd_0) rfl) ?_
  show Run _ _ _ _ _ _ _ _ _ _ _ _ T0 (mkF m 1 #[.val (.ref t), .val (.int (Int32.ofNat b)), .val (.int (Int32.ofNat n))] [(.int (Int32.ofNat b))])
  by_cases q : (Int32.ofNat b) = (0 : Int32)
  ·
    refine Run.via (fun _ => XS.ifNo X0.at X0.ex rfl (X0.de crd_1) rfl ((if0 _ _).trans (teq q).2)) ?_
    show Run _ _ _ _ _ _ _ _ _ _ _ _ T0 (mkF m 4 #[.val (.ref t), .val (.int (Int32.ofNat b)), .val (.int (Int32.ofNat n))] [])
    refine Run.via (fun _ => XS.iloadN X0.at X0.ex rfl (X0.de crd_4) rfl) ?_
    show Run _ _ _ _ _ _ _ _ _ _ _ _ T0 (mkF m 5 #[.val (.ref t), .val (.int (Int32.ofNat b)), .val (.int (Int32.ofNat n))] [(.int (Int32.ofNat n))])
    refine Run.via (fun _ => XS.aloadN X0.at X0.ex rfl (X0.de crd_5) rfl rfl) ?_
    show Run _ _ _ _ _ _ _ _ _ _ _ _ T0 (mkF m 6 #[.val (.ref t), .val (.int (Int32.ofNat b)), .val (.int (Int32.ofNat n))] [(.ref t), (.int (Int32.ofNat n))])
    refine Run.alen X0 A crd_6 ?_
    show Run _ _ _ _ _ _ _ _ _ _ _ _ T0 (mkF m 7 #[.val (.ref t), .val (.int (Int32.ofNat b)), .val (.int (Int32.ofNat n))] [(.int (Int32.ofNat bs.length)), (.int (Int32.ofNat n))])
    refine Run.via (fun _ => XS.icmpNo X0.at X0.ex rfl (X0.de crd_7) rfl (feq (fun z => h4 ⟨(i32eq (b := 0) (by omega) (by omega)).mp q, (i32eq (by omega) (by omega)).mp z⟩)).1) ?_
    show Run _ _ _ _ _ _ _ _ _ _ _ _ T0 (mkF m 10 #[.val (.ref t), .val (.int (Int32.ofNat b)), .val (.int (Int32.ofNat n))] [])
    refine Run.via (fun _ => XS.aloadN X0.at X0.ex rfl (X0.de crd_10) rfl rfl) ?_
    show Run _ _ _ _ _ _ _ _ _ _ _ _ T0 (mkF m 11 #[.val (.ref t), .val (.int (Int32.ofNat b)), .val (.int (Int32.ofNat n))] [(.ref t)])
    refine Run.via (fun _ => XS.iloadN X0.at X0.ex rfl (X0.de crd_11) rfl) ?_
    show Run _ _ _ _ _ _ _ _ _ _ _ _ T0 (mkF m 12 #[.val (.ref t), .val (.int (Int32.ofNat b)), .val (.int (Int32.ofNat n))] [(.int (Int32.ofNat b)), (.ref t)])
    refine Run.via (fun _ => XS.iloadN X0.at X0.ex rfl (X0.de crd_12) rfl) ?_
    show Run _ _ _ _ _ _ _ _ _ _ _ _ T0 (mkF m 13 #[.val (.ref t), .val (.int (Int32.ofNat b)), .val (.int (Int32.ofNat n))] [(.int (Int32.ofNat n)), (.int (Int32.ofNat b)), (.ref t)])
    refine Run.callS X0 (y := (⟨"java/util/Arrays", "copyOfRangeByte", "([BII)[B"⟩ : MethodName)) (W := 0) (con_cb l hw A h1 h2 h3 O) (wd hw 110 rfl) (wd hw 111 rfl) (wd hw 108 rfl) (wd hw 112 rfl) (by decide) pd___BII__B rfl (argsL := [(.ref t), (.int (Int32.ofNat b)), (.int (Int32.ofNat n))]) (rest := []) rfl (Nat.le_of_ble_eq_true rfl) rfl crd_13 (by decide) (by decide) (Nat.le_of_ble_eq_true rfl) (Nat.le_of_ble_eq_true rfl) (nofun) (nofun) ?_
    intro v101 T101 h101 L101 q101 X101 XF101 K101
    obtain ⟨x, rfl, A1⟩ := q101
    show Run _ _ _ _ _ _ _ _ _ _ _ _ T101 (mkF m 16 #[.val (.ref t), .val (.int (Int32.ofNat b)), .val (.int (Int32.ofNat n))] [(.ref x)])
    exact Run.retA X101 (t := (.array .byte)) rfl rfl rfl crd_16 (Nat.le_of_ble_eq_true rfl) (Nat.le_of_ble_eq_true rfl) (⟨x, rfl, A1⟩) (nofun)
  ·
    refine Run.via (fun _ => XS.ifYes X0.at X0.ex rfl (pc0 := 1) (pc' := 10) rfl (X0.de crd_1) rfl ((if0 _ _).trans (feq q).2) (by decide) (by decide)) ?_
    show Run _ _ _ _ _ _ _ _ _ _ _ _ T0 (mkF m 10 #[.val (.ref t), .val (.int (Int32.ofNat b)), .val (.int (Int32.ofNat n))] [])
    refine Run.via (fun _ => XS.aloadN X0.at X0.ex rfl (X0.de crd_10) rfl rfl) ?_
    show Run _ _ _ _ _ _ _ _ _ _ _ _ T0 (mkF m 11 #[.val (.ref t), .val (.int (Int32.ofNat b)), .val (.int (Int32.ofNat n))] [(.ref t)])
    refine Run.via (fun _ => XS.iloadN X0.at X0.ex rfl (X0.de crd_11) rfl) ?_
    show Run _ _ _ _ _ _ _ _ _ _ _ _ T0 (mkF m 12 #[.val (.ref t), .val (.int (Int32.ofNat b)), .val (.int (Int32.ofNat n))] [(.int (Int32.ofNat b)), (.ref t)])
    refine Run.via (fun _ => XS.iloadN X0.at X0.ex rfl (X0.de crd_12) rfl) ?_
    show Run _ _ _ _ _ _ _ _ _ _ _ _ T0 (mkF m 13 #[.val (.ref t), .val (.int (Int32.ofNat b)), .val (.int (Int32.ofNat n))] [(.int (Int32.ofNat n)), (.int (Int32.ofNat b)), (.ref t)])
    refine Run.callS X0 (y := (⟨"java/util/Arrays", "copyOfRangeByte", "([BII)[B"⟩ : MethodName)) (W := 0) (con_cb l hw A h1 h2 h3 O) (wd hw 110 rfl) (wd hw 111 rfl) (wd hw 108 rfl) (wd hw 112 rfl) (by decide) pd___BII__B rfl (argsL := [(.ref t), (.int (Int32.ofNat b)), (.int (Int32.ofNat n))]) (rest := []) rfl (Nat.le_of_ble_eq_true rfl) rfl crd_13 (by decide) (by decide) (Nat.le_of_ble_eq_true rfl) (Nat.le_of_ble_eq_true rfl) (nofun) (nofun) ?_
    intro v102 T102 h102 L102 q102 X102 XF102 K102
    obtain ⟨x, rfl, A1⟩ := q102
    show Run _ _ _ _ _ _ _ _ _ _ _ _ T102 (mkF m 16 #[.val (.ref t), .val (.int (Int32.ofNat b)), .val (.int (Int32.ofNat n))] [(.ref x)])
    exact Run.retA X102 (t := (.array .byte)) rfl rfl rfl crd_16 (Nat.le_of_ble_eq_true rfl) (Nat.le_of_ble_eq_true rfl) (⟨x, rfl, A1⟩) (nofun)
-- part con_sb
theorem sbd_0 : decode jdk_42_method_151_code 0 = .ok (.aload_n 0, 1) := by decide +kernel
theorem sbd_1 : decode jdk_42_method_151_code 1 = .ok (.invokespecial 1, 3) := by decide +kernel
theorem sbd_4 : decode jdk_42_method_151_code 4 = .ok (.aload_n 0, 1) := by decide +kernel
theorem sbd_5 : decode jdk_42_method_151_code 5 = .ok (.aload_n 1, 1) := by decide +kernel
theorem sbd_6 : decode jdk_42_method_151_code 6 = .ok (.putfield 9, 3) := by decide +kernel
theorem sbd_9 : decode jdk_42_method_151_code 9 = .ok (.aload_n 0, 1) := by decide +kernel
theorem sbd_10 : decode jdk_42_method_151_code 10 = .ok (.iload_n 2, 1) := by decide +kernel
theorem sbd_11 : decode jdk_42_method_151_code 11 = .ok (.putfield 15, 3) := by decide +kernel
theorem sbd_14 : decode jdk_42_method_151_code 14 = .ok (.return_, 1) := by decide +kernel
set_option maxRecDepth 65536 in
set_option maxHeartbeats 40000000 in
theorem con_sb (l : Launch) {Z : State} {a0 : Array Value} {EL : List (String × Nat)} {h0 : Heap} (hw : ∀ d ∈ tables_1, d.before a0 Z = true) {xa t : Addr} {cs : List Int32} (hl : Lat cs) (A : Arc .byte Z h0 t (cs.map StrChars.lo8)) (G : Raw Z h0 xa) (hz : Z.heap.size ≤ xa) (O : Ext Z.heap h0) : Con l Z a0 EL false (⟨"java/lang/String", "<init>", "([BB)V"⟩ : MethodName) jdk_42_method_151_code 3 none ({ frames := 1, cells := 0, slots := 0, locals := 16 } : Room) [xa] [xa] #[(.ref xa), (.ref t), (.int (0 : Int32))] h0 (fun v h => v = none ∧ Str Z h xa cs) := by
  refine Con.enter (plainFor_of_name (by first | (simp [plainName, overriddenIn]; done) | decide +kernel)) O ?_
  intro p e s m below meth c T0 X0
  rw [show entryFrame m #[(.ref xa), (.ref t), (.int (0 : Int32))] 3 = (mkF m 0 #[.val (.ref xa), .val (.ref t), .val (.int (0 : Int32))] []) from by first | (simp [entryFrame, mkF, argsToLocals, Value.category]; done) | rfl]
  refine Run.via (fun _ => XS.aloadN X0.at X0.ex rfl (X0.de sbd_0) rfl rfl) ?_
  show Run _ _ _ _ _ _ _ _ _ _ _ _ T0 (mkF m 1 #[.val (.ref xa), .val (.ref t), .val (.int (0 : Int32))] [(.ref xa)])
  refine Run.initO X0 (wd hw 16 rfl) (wd hw 17 rfl) (wd hw 18 rfl) rfl sbd_1 (by decide) (Nat.le_of_ble_eq_true rfl) ?_
  intro T101 X101
  show Run _ _ _ _ _ _ _ _ _ _ _ _ T101 (mkF m 4 #[.val (.ref xa), .val (.ref t), .val (.int (0 : Int32))] [])
  refine Run.via (fun _ => XS.aloadN X101.at X101.ex rfl (X101.de sbd_4) rfl rfl) ?_
  show Run _ _ _ _ _ _ _ _ _ _ _ _ T101 (mkF m 5 #[.val (.ref xa), .val (.ref t), .val (.int (0 : Int32))] [(.ref xa)])
  refine Run.via (fun _ => XS.aloadN X101.at X101.ex rfl (X101.de sbd_5) rfl rfl) ?_
  show Run _ _ _ _ _ _ _ _ _ _ _ _ T101 (mkF m 6 #[.val (.ref xa), .val (.ref t), .val (.int (0 : Int32))] [(.ref t), (.ref xa)])
  refine Run.putf X101 (wd hw 33 rfl) Via.refl G.2.1 G.1 (Or.inr ⟨(wd hw 34 rfl), rfl, rfl⟩) (wd hw 7 rfl) (ty := (.array .byte)) (v' := (.ref t)) (by decide) rfl rfl (Or.inl (List.mem_singleton.mpr rfl)) hz (Or.inr (by simp)) sbd_6 ?_
  intro T102 h102 L102 X102 K102 W102 F102 E102
  show Run _ _ _ _ _ _ _ _ _ _ _ _ T102 (mkF m 9 #[.val (.ref xa), .val (.ref t), .val (.int (0 : Int32))] [])
  have C0 := (G.2.2.other W102 (Or.inr (slot_ne (Or.inr (wd hw 32 rfl)) (Or.inr (wd hw 34 rfl)) (by decide) (t := .byte) (t' := (.array .byte)) (by decide) (by decide))))
  obtain ⟨kx, Vx, hx4⟩ := A
  have nx : t ≠ xa := Ne.symm (G.1.neArv Vx (wd hw 7 rfl))
  have V1 := Vx.keep K102 (ninS nx nin0)
  refine Run.via (fun _ => XS.aloadN X102.at X102.ex rfl (X102.de sbd_9) rfl rfl) ?_
  show Run _ _ _ _ _ _ _ _ _ _ _ _ T102 (mkF m 10 #[.val (.ref xa), .val (.ref t), .val (.int (0 : Int32))] [(.ref xa)])
  refine Run.via (fun _ => XS.iloadN X102.at X102.ex rfl (X102.de sbd_10) rfl) ?_
  show Run _ _ _ _ _ _ _ _ _ _ _ _ T102 (mkF m 11 #[.val (.ref xa), .val (.ref t), .val (.int (0 : Int32))] [(.int (0 : Int32)), (.ref xa)])
  refine Run.putf X102 (wd hw 31 rfl) Via.refl C0 E102 (Or.inr ⟨(wd hw 32 rfl), rfl, rfl⟩) (wd hw 7 rfl) (ty := .byte) (v' := (.int (0 : Int32))) (by decide) rfl rfl (Or.inl (List.mem_singleton.mpr rfl)) hz (Or.inr (by simp)) sbd_11 ?_
  intro T103 h103 L103 X103 K103 W103 F103 E103
  show Run _ _ _ _ _ _ _ _ _ _ _ _ T103 (mkF m 14 #[.val (.ref xa), .val (.ref t), .val (.int (0 : Int32))] [])
  have F1 := (F102.other W103 (Or.inr (slot_ne (Or.inr (wd hw 34 rfl)) (Or.inr (wd hw 32 rfl)) (by decide) (t := (.array .byte)) (t' := .byte) (by decide) (by decide))))
  have V2 := V1.keep K103 (ninS nx nin0)
  exact Run.retV X103 rfl sbd_14 (Nat.le_of_ble_eq_true rfl) (Nat.le_of_ble_eq_true rfl) (⟨rfl, Str.ofLat E103 F1 F103 ⟨kx, V2, hx4⟩ hl⟩)
-- part con_ns
theorem nsd_0 : decode jdk_43_method_47_code 0 = .ok (.iload_n 2, 1) := by decide +kernel
theorem nsd_1 : decode jdk_43_method_47_code 1 = .ok (.ifCond .ne 6, 3) := by decide +kernel
theorem nsd_4 : decode jdk_43_method_47_code 4 = .ok (.ldc 151, 2) := by decide +kernel
theorem nsd_6 : decode jdk_43_method_47_code 6 = .ok (.areturn, 1) := by decide +kernel
theorem nsd_7 : decode jdk_43_method_47_code 7 = .ok (.new 1, 3) := by decide +kernel
theorem nsd_10 : decode jdk_43_method_47_code 10 = .ok (.dup, 1) := by decide +kernel
theorem nsd_11 : decode jdk_43_method_47_code 11 = .ok (.aload_n 0, 1) := by decide +kernel
theorem nsd_12 : decode jdk_43_method_47_code 12 = .ok (.iload_n 1, 1) := by decide +kernel
theorem nsd_13 : decode jdk_43_method_47_code 13 = .ok (.iload_n 1, 1) := by decide +kernel
theorem nsd_14 : decode jdk_43_method_47_code 14 = .ok (.iload_n 2, 1) := by decide +kernel
theorem nsd_15 : decode jdk_43_method_47_code 15 = .ok (.iadd, 1) := by decide +kernel
theorem nsd_16 : decode jdk_43_method_47_code 16 = .ok (.invokestatic 232, 3) := by decide +kernel
theorem nsd_19 : decode jdk_43_method_47_code 19 = .ok (.iconst 0, 1) := by decide +kernel
theorem nsd_20 : decode jdk_43_method_47_code 20 = .ok (.invokespecial 112, 3) := by decide +kernel
theorem nsd_23 : decode jdk_43_method_47_code 23 = .ok (.areturn, 1) := by decide +kernel
set_option maxRecDepth 65536 in
set_option maxHeartbeats 40000000 in
theorem con_ns (l : Launch) {Z : State} {a0 : Array Value} {EL : List (String × Nat)} {h0 : Heap} (hw : ∀ d ∈ tables_1, d.before a0 Z = true) (hN : NW = false) (hmL : ("java/lang/StringLatin1", 151) ∈ EL) {t : Addr} {cs : List Int32} {b k : Nat} (hl : Lat cs) (A : Arc .byte Z h0 t (cs.map StrChars.lo8)) (h2 : b + k ≤ cs.length) (h3 : k ≤ 4) (h4 : ¬ (b = 0 ∧ b + k = cs.length)) (O : Ext Z.heap h0) : Con l Z a0 EL false (⟨"java/lang/StringLatin1", "newString", "([BII)Ljava/lang/String;"⟩ : MethodName) jdk_43_method_47_code 3 (some (.object "java/lang/String")) ({ frames := 3, cells := 2, slots := 8, locals := 84 } : Room) [] [] #[(.ref t), (.int (Int32.ofNat b)), (.int (Int32.ofNat k))] h0 (fun v h => ∃ x, v = some (.ref x) ∧ Str Z h x ((cs.drop b).take k)) := by
  refine Con.enter (plainFor_of_name (by first | (simp [plainName, overriddenIn]; done) | decide +kernel)) O ?_
  intro p e s m below meth c T0 X0
  rw [show entryFrame m #[(.ref t), (.int (Int32.ofNat b)), (.int (Int32.ofNat k))] 3 = (mkF m 0 #[.val (.ref t), .val (.int (Int32.ofNat b)), .val (.int (Int32.ofNat k))] []) from by first | (simp [entryFrame, mkF, argsToLocals, Value.category]; done) | rfl]
  have ho := O.1
  have hl4 : cs.length ≤ 4000 := by obtain ⟨_, _, r⟩ := A; simpa using r
  refine Run.via (fun _ => XS.iloadN X0.at X0.ex rfl (X0.de nsd_0) rfl) ?_
  show Run _ _ _ _ _ _ _ _ _ _ _ _ T0 (mkF m 1 #[.val (.ref t), .val (.int (Int32.ofNat b)), .val (.int (Int32.ofNat k))] [(.int (Int32.ofNat k))])
  by_cases q : (Int32.ofNat k) = (0 : Int32)
  ·
    refine Run.via (fun _ => XS.ifNo X0.at X0.ex rfl (X0.de nsd_1) rfl ((if0 _ _).trans (teq q).2)) ?_
    show Run _ _ _ _ _ _ _ _ _ _ _ _ T0 (mkF m 4 #[.val (.ref t), .val (.int (Int32.ofNat b)), .val (.int (Int32.ofNat k))] [])
    obtain rfl : k = 0 := (i32eq (b := 0) (by omega) (by omega)).mp q
    refine Run.ldcS hw hN X0 (cs := []) (n := 0) (wd hw 100 rfl) hmL (by decide) (by decide) (by decide) nsd_4 (by decide) (by decide) (Nat.le_of_ble_eq_true rfl) (Nat.le_of_ble_eq_true rfl) ?_
    intro a101 T101 h101 L101 X101 K101 S101
    show Run _ _ _ _ _ _ _ _ _ _ _ _ T101 (mkF m 6 #[.val (.ref t), .val (.int (Int32.ofNat b)), .val (.int (Int32.ofNat 0))] [(.ref a101)])
    exact Run.retA X101 (t := (.object "java/lang/String")) rfl rfl rfl nsd_6 (Nat.le_of_ble_eq_true rfl) (Nat.le_of_ble_eq_true rfl) (⟨a101, rfl, by rw [List.take_zero]; exact S101⟩) (nofun)
  ·
    refine Run.via (fun _ => XS.ifYes X0.at X0.ex rfl (pc0 := 1) (pc' := 7) rfl (X0.de nsd_1) rfl ((if0 _ _).trans (feq q).2) (by decide) (by decide)) ?_
    show Run _ _ _ _ _ _ _ _ _ _ _ _ T0 (mkF m 7 #[.val (.ref t), .val (.int (Int32.ofNat b)), .val (.int (Int32.ofNat k))] [])
    refine Run.new X0 (wd hw 105 rfl) (wd hw 7 rfl) (wd hw 8 rfl) nsd_7 (Nat.le_of_ble_eq_true rfl) (Nat.le_of_ble_eq_true rfl) ?_
    intro T102 h102 x102 g102 X102 K102 z102 E102 D102
    show Run _ _ _ _ _ _ _ _ _ _ _ _ T102 (mkF m 10 #[.val (.ref t), .val (.int (Int32.ofNat b)), .val (.int (Int32.ofNat k))] [(.ref x102)])
    have s102 := K102.1
    have G102 : Raw Z h102 x102 := ⟨E102, D102 (Or.inr (wd hw 34 rfl)) (ty := (.array .byte)) (by decide), D102 (Or.inr (wd hw 32 rfl)) (ty := .byte) (by decide)⟩
    refine Run.via (fun _ => XS.dup X102.at X102.ex rfl (X102.de nsd_10) rfl rfl) ?_
    show Run _ _ _ _ _ _ _ _ _ _ _ _ T102 (mkF m 11 #[.val (.ref t), .val (.int (Int32.ofNat b)), .val (.int (Int32.ofNat k))] [(.ref x102), (.ref x102)])
    refine Run.via (fun _ => XS.aloadN X102.at X102.ex rfl (X102.de nsd_11) rfl rfl) ?_
    show Run _ _ _ _ _ _ _ _ _ _ _ _ T102 (mkF m 12 #[.val (.ref t), .val (.int (Int32.ofNat b)), .val (.int (Int32.ofNat k))] [(.ref t), (.ref x102), (.ref x102)])
    refine Run.via (fun _ => XS.iloadN X102.at X102.ex rfl (X102.de nsd_12) rfl) ?_
    show Run _ _ _ _ _ _ _ _ _ _ _ _ T102 (mkF m 13 #[.val (.ref t), .val (.int (Int32.ofNat b)), .val (.int (Int32.ofNat k))] [(.int (Int32.ofNat b)), (.ref t), (.ref x102), (.ref x102)])
    refine Run.via (fun _ => XS.iloadN X102.at X102.ex rfl (X102.de nsd_13) rfl) ?_
    show Run _ _ _ _ _ _ _ _ _ _ _ _ T102 (mkF m 14 #[.val (.ref t), .val (.int (Int32.ofNat b)), .val (.int (Int32.ofNat k))] [(.int (Int32.ofNat b)), (.int (Int32.ofNat b)), (.ref t), (.ref x102), (.ref x102)])
    refine Run.via (fun _ => XS.iloadN X102.at X102.ex rfl (X102.de nsd_14) rfl) ?_
    show Run _ _ _ _ _ _ _ _ _ _ _ _ T102 (mkF m 15 #[.val (.ref t), .val (.int (Int32.ofNat b)), .val (.int (Int32.ofNat k))] [(.int (Int32.ofNat k)), (.int (Int32.ofNat b)), (.int (Int32.ofNat b)), (.ref t), (.ref x102), (.ref x102)])
    refine Run.via (fun _ => XS.iadd X102.at X102.ex rfl (X102.de nsd_15) rfl) ?_
    show Run _ _ _ _ _ _ _ _ _ _ _ _ T102 (mkF m 16 #[.val (.ref t), .val (.int (Int32.ofNat b)), .val (.int (Int32.ofNat k))] [(.int ((Int32.ofNat b) + (Int32.ofNat k))), (.int (Int32.ofNat b)), (.ref t), (.ref x102), (.ref x102)])
    rw [show ((Int32.ofNat b) + (Int32.ofNat k)) = (Int32.ofNat (b + k)) from i32add (by omega)]
    show Run _ _ _ _ _ _ _ _ _ _ _ _ T102 (mkF m 16 #[.val (.ref t), .val (.int (Int32.ofNat b)), .val (.int (Int32.ofNat k))] [(.int (Int32.ofNat (b + k))), (.int (Int32.ofNat b)), (.ref t), (.ref x102), (.ref x102)])
    refine Run.callS X102 (y := (⟨"java/util/Arrays", "copyOfRange", "([BII)[B"⟩ : MethodName)) (W := 2) (con_cr l hw (A.keep K102 nin0) (by omega) (by simpa using h2) (by omega) (by simpa using h4) X102.old) (wd hw 106 rfl) (wd hw 107 rfl) (wd hw 108 rfl) (wd hw 109 rfl) (by decide) pd___BII__B rfl (argsL := [(.ref t), (.int (Int32.ofNat b)), (.int (Int32.ofNat (b + k)))]) (rest := [(.ref x102), (.ref x102)]) rfl (Nat.le_of_ble_eq_true rfl) rfl nsd_16 (by decide) (by decide) (Nat.le_of_ble_eq_true rfl) (Nat.le_of_ble_eq_true rfl) (nofun) (nofun) ?_
    intro v103 T103 h103 L103 q103 X103 XF103 K103
    obtain ⟨y, rfl, A1⟩ := q103
    show Run _ _ _ _ _ _ _ _ _ _ _ _ T103 (mkF m 19 #[.val (.ref t), .val (.int (Int32.ofNat b)), .val (.int (Int32.ofNat k))] [(.ref y), (.ref x102), (.ref x102)])
    refine Run.via (fun _ => XS.iconst X103.at X103.ex rfl (X103.de nsd_19)) ?_
    show Run _ _ _ _ _ _ _ _ _ _ _ _ T103 (mkF m 20 #[.val (.ref t), .val (.int (Int32.ofNat b)), .val (.int (Int32.ofNat k))] [(.int (0 : Int32)), (.ref y), (.ref x102), (.ref x102)])
    have e1 : ((cs.map StrChars.lo8).drop b).take (b + k - b) = ((cs.drop b).take k).map StrChars.lo8 := by rw [show b + k - b = k from by omega, List.map_take, List.map_drop]
    rw [e1] at A1
    have sc := K103.1
    refine Run.callN X103 (y := (⟨"java/lang/String", "<init>", "([BB)V"⟩ : MethodName)) (W := 1) (con_sb l hw (hl.sub b k) A1 (G102.keep K103 nin0) (by omega) X103.old) rfl (wd hw 124 rfl) (wd hw 125 rfl) (wd hw 8 rfl) (wd hw 126 rfl) (by decide) pd___BB_V rfl (argsL := [(.ref y), (.int (0 : Int32))]) (rest := [(.ref x102)]) rfl (Nat.le_of_ble_eq_true rfl) rfl nsd_20 (by decide) (by decide) (Nat.le_of_ble_eq_true rfl) (Nat.le_of_ble_eq_true rfl) (fun y hy => by cases List.mem_singleton.mp hy; exact ⟨Or.inr (by omega), by omega⟩) (fun y hy => by cases List.mem_singleton.mp hy; simp) ?_
    intro v104 T104 h104 L104 q104 X104 XF104 K104
    obtain ⟨rfl, S1⟩ := q104
    show Run _ _ _ _ _ _ _ _ _ _ _ _ T104 (mkF m 23 #[.val (.ref t), .val (.int (Int32.ofNat b)), .val (.int (Int32.ofNat k))] [(.ref x102)])
    exact Run.retA X104 (t := (.object "java/lang/String")) rfl rfl rfl nsd_23 (Nat.le_of_ble_eq_true rfl) (Nat.le_of_ble_eq_true rfl) (⟨x102, rfl, S1⟩) (nofun)
-- part con_ss
theorem ssd_0 : decode jdk_42_method_92_code 0 = .ok (.aload_n 0, 1) := by decide +kernel
theorem ssd_1 : decode jdk_42_method_92_code 1 = .ok (.invokevirtual 505, 3) := by decide +kernel
theorem ssd_4 : decode jdk_42_method_92_code 4 = .ok (.istore_n 3, 1) := by decide +kernel
theorem ssd_5 : decode jdk_42_method_92_code 5 = .ok (.iload_n 1, 1) := by decide +kernel
theorem ssd_6 : decode jdk_42_method_92_code 6 = .ok (.iload_n 2, 1) := by decide +kernel
theorem ssd_7 : decode jdk_42_method_92_code 7 = .ok (.iload_n 3, 1) := by decide +kernel
theorem ssd_8 : decode jdk_42_method_92_code 8 = .ok (.invokestatic 521, 3) := by decide +kernel
theorem ssd_11 : decode jdk_42_method_92_code 11 = .ok (.iload_n 1, 1) := by decide +kernel
theorem ssd_12 : decode jdk_42_method_92_code 12 = .ok (.ifCond .ne 10, 3) := by decide +kernel
theorem ssd_15 : decode jdk_42_method_92_code 15 = .ok (.iload_n 2, 1) := by decide +kernel
theorem ssd_16 : decode jdk_42_method_92_code 16 = .ok (.iload_n 3, 1) := by decide +kernel
theorem ssd_17 : decode jdk_42_method_92_code 17 = .ok (.if_icmp .ne 5, 3) := by decide +kernel
theorem ssd_20 : decode jdk_42_method_92_code 20 = .ok (.aload_n 0, 1) := by decide +kernel
theorem ssd_21 : decode jdk_42_method_92_code 21 = .ok (.areturn, 1) := by decide +kernel
theorem ssd_22 : decode jdk_42_method_92_code 22 = .ok (.iload_n 2, 1) := by decide +kernel
theorem ssd_23 : decode jdk_42_method_92_code 23 = .ok (.iload_n 1, 1) := by decide +kernel
theorem ssd_24 : decode jdk_42_method_92_code 24 = .ok (.isub, 1) := by decide +kernel
theorem ssd_25 : decode jdk_42_method_92_code 25 = .ok (.istore 4, 2) := by decide +kernel
theorem ssd_27 : decode jdk_42_method_92_code 27 = .ok (.aload_n 0, 1) := by decide +kernel
theorem ssd_28 : decode jdk_42_method_92_code 28 = .ok (.invokevirtual 492, 3) := by decide +kernel
theorem ssd_31 : decode jdk_42_method_92_code 31 = .ok (.ifCond .eq 16, 3) := by decide +kernel
theorem ssd_34 : decode jdk_42_method_92_code 34 = .ok (.aload_n 0, 1) := by decide +kernel
theorem ssd_35 : decode jdk_42_method_92_code 35 = .ok (.getfield 9, 3) := by decide +kernel
theorem ssd_38 : decode jdk_42_method_92_code 38 = .ok (.iload_n 1, 1) := by decide +kernel
theorem ssd_39 : decode jdk_42_method_92_code 39 = .ok (.iload 4, 2) := by decide +kernel
theorem ssd_41 : decode jdk_42_method_92_code 41 = .ok (.invokestatic 685, 3) := by decide +kernel
theorem ssd_44 : decode jdk_42_method_92_code 44 = .ok (.goto 13, 3) := by decide +kernel
theorem ssd_57 : decode jdk_42_method_92_code 57 = .ok (.areturn, 1) := by decide +kernel
set_option maxRecDepth 65536 in
set_option maxHeartbeats 40000000 in
theorem con_ss (l : Launch) {Z : State} {a0 : Array Value} {EL : List (String × Nat)} {h0 : Heap} (hw : ∀ d ∈ tables_1, d.before a0 Z = true) (hS : Sets Z) (hN : NW = false) (hmL : ("java/lang/StringLatin1", 151) ∈ EL) {a : Addr} {cs : List Int32} {b n : Nat} (hl : Lat cs) (S : Str Z h0 a cs) (h1 : b ≤ n) (h2 : n ≤ cs.length) (h3 : n - b ≤ 4) (O : Ext Z.heap h0) : Con l Z a0 EL false (⟨"java/lang/String", "substring", "(II)Ljava/lang/String;"⟩ : MethodName) jdk_42_method_92_code 5 (some (.object "java/lang/String")) ({ frames := 4, cells := 2, slots := 8, locals := 104 } : Room) [] [] #[(.ref a), (.int (Int32.ofNat b)), (.int (Int32.ofNat n))] h0 (fun v h => ∃ x, v = some (.ref x) ∧ Str Z h x ((cs.drop b).take (n - b))) := by
  obtain ⟨E, hl4, t, F1, F2, A⟩ := S.lat hl
  refine Con.enter (plainFor_of_name (by first | (simp [plainName, overriddenIn]; done) | decide +kernel)) O ?_
  intro p e s m below meth c T0 X0
  rw [show entryFrame m #[(.ref a), (.int (Int32.ofNat b)), (.int (Int32.ofNat n))] 5 = (mkF m 0 #[.val (.ref a), .val (.int (Int32.ofNat b)), .val (.int (Int32.ofNat n)), .unset, .unset] []) from by first | (simp [entryFrame, mkF, argsToLocals, Value.category]; done) | rfl]
  refine Run.via (fun _ => XS.aloadN X0.at X0.ex rfl (X0.de ssd_0) rfl rfl) ?_
  show Run _ _ _ _ _ _ _ _ _ _ _ _ T0 (mkF m 1 #[.val (.ref a), .val (.int (Int32.ofNat b)), .val (.int (Int32.ofNat n)), .unset, .unset] [(.ref a)])
  refine Run.slen hw hS X0 (W := 0) S (wd hw 62 rfl) (wd hw 40 rfl) (wd hw 41 rfl) (wd hw 42 rfl) (wd hw 7 rfl) ssd_1 rfl (Nat.le_of_ble_eq_true rfl) (by decide) (by decide) (Nat.le_of_ble_eq_true rfl) (Nat.le_of_ble_eq_true rfl) ?_
  intro T101 X101
  show Run _ _ _ _ _ _ _ _ _ _ _ _ T101 (mkF m 4 #[.val (.ref a), .val (.int (Int32.ofNat b)), .val (.int (Int32.ofNat n)), .unset, .unset] [(.int (Int32.ofNat cs.length))])
  refine Run.via (fun _ => XS.istoreN X101.at X101.ex rfl (X101.de ssd_4) rfl (l' := #[.val (.ref a), .val (.int (Int32.ofNat b)), .val (.int (Int32.ofNat n)), .val (.int (Int32.ofNat cs.length)), .unset]) rfl) ?_
  show Run _ _ _ _ _ _ _ _ _ _ _ _ T101 (mkF m 5 #[.val (.ref a), .val (.int (Int32.ofNat b)), .val (.int (Int32.ofNat n)), .val (.int (Int32.ofNat cs.length)), .unset] [])
  refine Run.via (fun _ => XS.iloadN X101.at X101.ex rfl (X101.de ssd_5) rfl) ?_
  show Run _ _ _ _ _ _ _ _ _ _ _ _ T101 (mkF m 6 #[.val (.ref a), .val (.int (Int32.ofNat b)), .val (.int (Int32.ofNat n)), .val (.int (Int32.ofNat cs.length)), .unset] [(.int (Int32.ofNat b))])
  refine Run.via (fun _ => XS.iloadN X101.at X101.ex rfl (X101.de ssd_6) rfl) ?_
  show Run _ _ _ _ _ _ _ _ _ _ _ _ T101 (mkF m 7 #[.val (.ref a), .val (.int (Int32.ofNat b)), .val (.int (Int32.ofNat n)), .val (.int (Int32.ofNat cs.length)), .unset] [(.int (Int32.ofNat n)), (.int (Int32.ofNat b))])
  refine Run.via (fun _ => XS.iloadN X101.at X101.ex rfl (X101.de ssd_7) rfl) ?_
  show Run _ _ _ _ _ _ _ _ _ _ _ _ T101 (mkF m 8 #[.val (.ref a), .val (.int (Int32.ofNat b)), .val (.int (Int32.ofNat n)), .val (.int (Int32.ofNat cs.length)), .unset] [(.int (Int32.ofNat cs.length)), (.int (Int32.ofNat n)), (.int (Int32.ofNat b))])
  refine Run.callS X101 (y := (⟨"java/lang/String", "checkBoundsBeginEnd", "(III)V"⟩ : MethodName)) (W := 0) (con_be l hw hS h1 h2 hl4 O) (wd hw 83 rfl) (wd hw 84 rfl) (wd hw 8 rfl) (wd hw 85 rfl) (by decide) pd__III_V rfl (argsL := [(.int (Int32.ofNat b)), (.int (Int32.ofNat n)), (.int (Int32.ofNat cs.length))]) (rest := []) rfl (Nat.le_of_ble_eq_true rfl) rfl ssd_8 (by decide) (by decide) (Nat.le_of_ble_eq_true rfl) (Nat.le_of_ble_eq_true rfl) (nofun) (nofun) ?_
  intro v102 T102 h102 L102 q102 X102 XF102 K102
  obtain ⟨rfl, rfl⟩ := q102
  show Run _ _ _ _ _ _ _ _ _ _ _ _ T102 (mkF m 11 #[.val (.ref a), .val (.int (Int32.ofNat b)), .val (.int (Int32.ofNat n)), .val (.int (Int32.ofNat cs.length)), .unset] [])
  refine Run.via (fun _ => XS.iloadN X102.at X102.ex rfl (X102.de ssd_11) rfl) ?_
  show Run _ _ _ _ _ _ _ _ _ _ _ _ T102 (mkF m 12 #[.val (.ref a), .val (.int (Int32.ofNat b)), .val (.int (Int32.ofNat n)), .val (.int (Int32.ofNat cs.length)), .unset] [(.int (Int32.ofNat b))])
  by_cases q0 : (Int32.ofNat b) = (0 : Int32)
  ·
    refine Run.via (fun _ => XS.ifNo X102.at X102.ex rfl (X102.de ssd_12) rfl ((if0 _ _).trans (teq q0).2)) ?_
    show Run _ _ _ _ _ _ _ _ _ _ _ _ T102 (mkF m 15 #[.val (.ref a), .val (.int (Int32.ofNat b)), .val (.int (Int32.ofNat n)), .val (.int (Int32.ofNat cs.length)), .unset] [])
    have hb0 := (i32eq (b := 0) (by omega) (by omega)).mp q0
    refine Run.via (fun _ => XS.iloadN X102.at X102.ex rfl (X102.de ssd_15) rfl) ?_
    show Run _ _ _ _ _ _ _ _ _ _ _ _ T102 (mkF m 16 #[.val (.ref a), .val (.int (Int32.ofNat b)), .val (.int (Int32.ofNat n)), .val (.int (Int32.ofNat cs.length)), .unset] [(.int (Int32.ofNat n))])
    refine Run.via (fun _ => XS.iloadN X102.at X102.ex rfl (X102.de ssd_16) rfl) ?_
    show Run _ _ _ _ _ _ _ _ _ _ _ _ T102 (mkF m 17 #[.val (.ref a), .val (.int (Int32.ofNat b)), .val (.int (Int32.ofNat n)), .val (.int (Int32.ofNat cs.length)), .unset] [(.int (Int32.ofNat cs.length)), (.int (Int32.ofNat n))])
    by_cases q1 : (Int32.ofNat n) = (Int32.ofNat cs.length)
    ·
      refine Run.via (fun _ => XS.icmpNo X102.at X102.ex rfl (X102.de ssd_17) rfl (teq q1).2) ?_
      show Run _ _ _ _ _ _ _ _ _ _ _ _ T102 (mkF m 20 #[.val (.ref a), .val (.int (Int32.ofNat b)), .val (.int (Int32.ofNat n)), .val (.int (Int32.ofNat cs.length)), .unset] [])
      refine Run.via (fun _ => XS.aloadN X102.at X102.ex rfl (X102.de ssd_20) rfl rfl) ?_
      show Run _ _ _ _ _ _ _ _ _ _ _ _ T102 (mkF m 21 #[.val (.ref a), .val (.int (Int32.ofNat b)), .val (.int (Int32.ofNat n)), .val (.int (Int32.ofNat cs.length)), .unset] [(.ref a)])
      have hbn := (i32eq (by omega) (by omega)).mp q1
      exact Run.retA X102 (t := (.object "java/lang/String")) rfl rfl rfl ssd_21 (Nat.le_of_ble_eq_true rfl) (Nat.le_of_ble_eq_true rfl) (⟨a, rfl, by rw [hb0, hbn, List.drop_zero, Nat.sub_zero, List.take_length]; exact S⟩) (nofun)
    ·
      refine Run.via (fun _ => XS.icmpYes X102.at X102.ex rfl (pc0 := 17) (pc' := 22) rfl (X102.de ssd_17) rfl (feq q1).2 (by decide) (by decide)) ?_
      show Run _ _ _ _ _ _ _ _ _ _ _ _ T102 (mkF m 22 #[.val (.ref a), .val (.int (Int32.ofNat b)), .val (.int (Int32.ofNat n)), .val (.int (Int32.ofNat cs.length)), .unset] [])
      refine Run.via (fun _ => XS.iloadN X102.at X102.ex rfl (X102.de ssd_22) rfl) ?_
      show Run _ _ _ _ _ _ _ _ _ _ _ _ T102 (mkF m 23 #[.val (.ref a), .val (.int (Int32.ofNat b)), .val (.int (Int32.ofNat n)), .val (.int (Int32.ofNat cs.length)), .unset] [(.int (Int32.ofNat n))])
      refine Run.via (fun _ => XS.iloadN X102.at X102.ex rfl (X102.de ssd_23) rfl) ?_
      show Run _ _ _ _ _ _ _ _ _ _ _ _ T102 (mkF m 24 #[.val (.ref a), .val (.int (Int32.ofNat b)), .val (.int (Int32.ofNat n)), .val (.int (Int32.ofNat cs.length)), .unset] [(.int (Int32.ofNat b)), (.int (Int32.ofNat n))])
      refine Run.via (fun _ => XS.isub X102.at X102.ex rfl (X102.de ssd_24) rfl) ?_
      show Run _ _ _ _ _ _ _ _ _ _ _ _ T102 (mkF m 25 #[.val (.ref a), .val (.int (Int32.ofNat b)), .val (.int (Int32.ofNat n)), .val (.int (Int32.ofNat cs.length)), .unset] [(.int ((Int32.ofNat n) - (Int32.ofNat b)))])
      rw [show ((Int32.ofNat n) - (Int32.ofNat b)) = (Int32.ofNat (n - b)) from i32sub h1 (by omega)]
      show Run _ _ _ _ _ _ _ _ _ _ _ _ T102 (mkF m 25 #[.val (.ref a), .val (.int (Int32.ofNat b)), .val (.int (Int32.ofNat n)), .val (.int (Int32.ofNat cs.length)), .unset] [(.int (Int32.ofNat (n - b)))])
      refine Run.via (fun _ => XS.istore X102.at X102.ex rfl (X102.de ssd_25) rfl (l' := #[.val (.ref a), .val (.int (Int32.ofNat b)), .val (.int (Int32.ofNat n)), .val (.int (Int32.ofNat cs.length)), .val (.int (Int32.ofNat (n - b)))]) rfl) ?_
      show Run _ _ _ _ _ _ _ _ _ _ _ _ T102 (mkF m 27 #[.val (.ref a), .val (.int (Int32.ofNat b)), .val (.int (Int32.ofNat n)), .val (.int (Int32.ofNat cs.length)), .val (.int (Int32.ofNat (n - b)))] [])
      refine Run.via (fun _ => XS.aloadN X102.at X102.ex rfl (X102.de ssd_27) rfl rfl) ?_
      show Run _ _ _ _ _ _ _ _ _ _ _ _ T102 (mkF m 28 #[.val (.ref a), .val (.int (Int32.ofNat b)), .val (.int (Int32.ofNat n)), .val (.int (Int32.ofNat cs.length)), .val (.int (Int32.ofNat (n - b)))] [(.ref a)])
      refine Run.callV X102 (y := (⟨"java/lang/String", "isLatin1", "()Z"⟩ : MethodName)) (W := 0) (con_il l hw hS F2 O) E (wd hw 91 rfl) (wd hw 92 rfl) (wd hw 93 rfl) (wd hw 94 rfl) (wd hw 8 rfl) (wd hw 95 rfl) (by decide) pd___Z rfl (argsL := []) (rest := []) rfl (Nat.le_of_ble_eq_true rfl) rfl ssd_28 (by decide) (by decide) (Nat.le_of_ble_eq_true rfl) (Nat.le_of_ble_eq_true rfl) (nofun) (nofun) ?_
      intro v103 T103 h103 L103 q103 X103 XF103 K103
      obtain ⟨rfl, rfl⟩ := q103
      show Run _ _ _ _ _ _ _ _ _ _ _ _ T103 (mkF m 31 #[.val (.ref a), .val (.int (Int32.ofNat b)), .val (.int (Int32.ofNat n)), .val (.int (Int32.ofNat cs.length)), .val (.int (Int32.ofNat (n - b)))] [(.int (1 : Int32))])
      refine Run.via (fun _ => XS.ifNo X103.at X103.ex rfl (X103.de ssd_31) rfl ((if0 _ _).trans (feq (by decide : ¬ ((1 : Int32) = (0 : Int32)))).1)) ?_
      show Run _ _ _ _ _ _ _ _ _ _ _ _ T103 (mkF m 34 #[.val (.ref a), .val (.int (Int32.ofNat b)), .val (.int (Int32.ofNat n)), .val (.int (Int32.ofNat cs.length)), .val (.int (Int32.ofNat (n - b)))] [])
      refine Run.via (fun _ => XS.aloadN X103.at X103.ex rfl (X103.de ssd_34) rfl rfl) ?_
      show Run _ _ _ _ _ _ _ _ _ _ _ _ T103 (mkF m 35 #[.val (.ref a), .val (.int (Int32.ofNat b)), .val (.int (Int32.ofNat n)), .val (.int (Int32.ofNat cs.length)), .val (.int (Int32.ofNat (n - b)))] [(.ref a)])
      refine Run.getf X103 (wd hw 33 rfl) Via.refl F1 ssd_35 ?_
      intro T104 X104
      show Run _ _ _ _ _ _ _ _ _ _ _ _ T104 (mkF m 38 #[.val (.ref a), .val (.int (Int32.ofNat b)), .val (.int (Int32.ofNat n)), .val (.int (Int32.ofNat cs.length)), .val (.int (Int32.ofNat (n - b)))] [(.ref t)])
      refine Run.via (fun _ => XS.iloadN X104.at X104.ex rfl (X104.de ssd_38) rfl) ?_
      show Run _ _ _ _ _ _ _ _ _ _ _ _ T104 (mkF m 39 #[.val (.ref a), .val (.int (Int32.ofNat b)), .val (.int (Int32.ofNat n)), .val (.int (Int32.ofNat cs.length)), .val (.int (Int32.ofNat (n - b)))] [(.int (Int32.ofNat b)), (.ref t)])
      refine Run.via (fun _ => XS.iload X104.at X104.ex rfl (X104.de ssd_39) rfl) ?_
      show Run _ _ _ _ _ _ _ _ _ _ _ _ T104 (mkF m 41 #[.val (.ref a), .val (.int (Int32.ofNat b)), .val (.int (Int32.ofNat n)), .val (.int (Int32.ofNat cs.length)), .val (.int (Int32.ofNat (n - b)))] [(.int (Int32.ofNat (n - b))), (.int (Int32.ofNat b)), (.ref t)])
      refine Run.callS X104 (y := (⟨"java/lang/StringLatin1", "newString", "([BII)Ljava/lang/String;"⟩ : MethodName)) (W := 0) (con_ns l hw hN hmL hl A (b := b) (k := n - b) (by omega) h3 (by have hbn : ¬ n = cs.length := fun z => q1 (by rw [z]); omega) O) (wd hw 96 rfl) (wd hw 97 rfl) (wd hw 98 rfl) (wd hw 99 rfl) (by decide) pd___BII_Ljava_lang_String_ rfl (argsL := [(.ref t), (.int (Int32.ofNat b)), (.int (Int32.ofNat (n - b)))]) (rest := []) rfl (Nat.le_of_ble_eq_true rfl) rfl ssd_41 (by decide) (by decide) (Nat.le_of_ble_eq_true rfl) (Nat.le_of_ble_eq_true rfl) (nofun) (nofun) ?_
      intro v105 T105 h105 L105 q105 X105 XF105 K105
      obtain ⟨x, rfl, S1⟩ := q105
      show Run _ _ _ _ _ _ _ _ _ _ _ _ T105 (mkF m 44 #[.val (.ref a), .val (.int (Int32.ofNat b)), .val (.int (Int32.ofNat n)), .val (.int (Int32.ofNat cs.length)), .val (.int (Int32.ofNat (n - b)))] [(.ref x)])
      refine Run.via (fun _ => XS.goto X105.at X105.ex rfl (pc0 := 44) (pc' := 57) rfl (X105.de ssd_44) (by decide) (by decide)) ?_
      show Run _ _ _ _ _ _ _ _ _ _ _ _ T105 (mkF m 57 #[.val (.ref a), .val (.int (Int32.ofNat b)), .val (.int (Int32.ofNat n)), .val (.int (Int32.ofNat cs.length)), .val (.int (Int32.ofNat (n - b)))] [(.ref x)])
      exact Run.retA X105 (t := (.object "java/lang/String")) rfl rfl rfl ssd_57 (Nat.le_of_ble_eq_true rfl) (Nat.le_of_ble_eq_true rfl) (⟨x, rfl, S1⟩) (nofun)
  ·
    refine Run.via (fun _ => XS.ifYes X102.at X102.ex rfl (pc0 := 12) (pc' := 22) rfl (X102.de ssd_12) rfl ((if0 _ _).trans (feq q0).2) (by decide) (by decide)) ?_
    show Run _ _ _ _ _ _ _ _ _ _ _ _ T102 (mkF m 22 #[.val (.ref a), .val (.int (Int32.ofNat b)), .val (.int (Int32.ofNat n)), .val (.int (Int32.ofNat cs.length)), .unset] [])
    refine Run.via (fun _ => XS.iloadN X102.at X102.ex rfl (X102.de ssd_22) rfl) ?_
    show Run _ _ _ _ _ _ _ _ _ _ _ _ T102 (mkF m 23 #[.val (.ref a), .val (.int (Int32.ofNat b)), .val (.int (Int32.ofNat n)), .val (.int (Int32.ofNat cs.length)), .unset] [(.int (Int32.ofNat n))])
    refine Run.via (fun _ => XS.iloadN X102.at X102.ex rfl (X102.de ssd_23) rfl) ?_
    show Run _ _ _ _ _ _ _ _ _ _ _ _ T102 (mkF m 24 #[.val (.ref a), .val (.int (Int32.ofNat b)), .val (.int (Int32.ofNat n)), .val (.int (Int32.ofNat cs.length)), .unset] [(.int (Int32.ofNat b)), (.int (Int32.ofNat n))])
    refine Run.via (fun _ => XS.isub X102.at X102.ex rfl (X102.de ssd_24) rfl) ?_
    show Run _ _ _ _ _ _ _ _ _ _ _ _ T102 (mkF m 25 #[.val (.ref a), .val (.int (Int32.ofNat b)), .val (.int (Int32.ofNat n)), .val (.int (Int32.ofNat cs.length)), .unset] [(.int ((Int32.ofNat n) - (Int32.ofNat b)))])
    rw [show ((Int32.ofNat n) - (Int32.ofNat b)) = (Int32.ofNat (n - b)) from i32sub h1 (by omega)]
    show Run _ _ _ _ _ _ _ _ _ _ _ _ T102 (mkF m 25 #[.val (.ref a), .val (.int (Int32.ofNat b)), .val (.int (Int32.ofNat n)), .val (.int (Int32.ofNat cs.length)), .unset] [(.int (Int32.ofNat (n - b)))])
    refine Run.via (fun _ => XS.istore X102.at X102.ex rfl (X102.de ssd_25) rfl (l' := #[.val (.ref a), .val (.int (Int32.ofNat b)), .val (.int (Int32.ofNat n)), .val (.int (Int32.ofNat cs.length)), .val (.int (Int32.ofNat (n - b)))]) rfl) ?_
    show Run _ _ _ _ _ _ _ _ _ _ _ _ T102 (mkF m 27 #[.val (.ref a), .val (.int (Int32.ofNat b)), .val (.int (Int32.ofNat n)), .val (.int (Int32.ofNat cs.length)), .val (.int (Int32.ofNat (n - b)))] [])
    refine Run.via (fun _ => XS.aloadN X102.at X102.ex rfl (X102.de ssd_27) rfl rfl) ?_
    show Run _ _ _ _ _ _ _ _ _ _ _ _ T102 (mkF m 28 #[.val (.ref a), .val (.int (Int32.ofNat b)), .val (.int (Int32.ofNat n)), .val (.int (Int32.ofNat cs.length)), .val (.int (Int32.ofNat (n - b)))] [(.ref a)])
    refine Run.callV X102 (y := (⟨"java/lang/String", "isLatin1", "()Z"⟩ : MethodName)) (W := 0) (con_il l hw hS F2 O) E (wd hw 91 rfl) (wd hw 92 rfl) (wd hw 93 rfl) (wd hw 94 rfl) (wd hw 8 rfl) (wd hw 95 rfl) (by decide) pd___Z rfl (argsL := []) (rest := []) rfl (Nat.le_of_ble_eq_true rfl) rfl ssd_28 (by decide) (by decide) (Nat.le_of_ble_eq_true rfl) (Nat.le_of_ble_eq_true rfl) (nofun) (nofun) ?_
    intro v106 T106 h106 L106 q106 X106 XF106 K106
    obtain ⟨rfl, rfl⟩ := q106
    show Run _ _ _ _ _ _ _ _ _ _ _ _ T106 (mkF m 31 #[.val (.ref a), .val (.int (Int32.ofNat b)), .val (.int (Int32.ofNat n)), .val (.int (Int32.ofNat cs.length)), .val (.int (Int32.ofNat (n - b)))] [(.int (1 : Int32))])
    refine Run.via (fun _ => XS.ifNo X106.at X106.ex rfl (X106.de ssd_31) rfl ((if0 _ _).trans (feq (by decide : ¬ ((1 : Int32) = (0 : Int32)))).1)) ?_
    show Run _ _ _ _ _ _ _ _ _ _ _ _ T106 (mkF m 34 #[.val (.ref a), .val (.int (Int32.ofNat b)), .val (.int (Int32.ofNat n)), .val (.int (Int32.ofNat cs.length)), .val (.int (Int32.ofNat (n - b)))] [])
    refine Run.via (fun _ => XS.aloadN X106.at X106.ex rfl (X106.de ssd_34) rfl rfl) ?_
    show Run _ _ _ _ _ _ _ _ _ _ _ _ T106 (mkF m 35 #[.val (.ref a), .val (.int (Int32.ofNat b)), .val (.int (Int32.ofNat n)), .val (.int (Int32.ofNat cs.length)), .val (.int (Int32.ofNat (n - b)))] [(.ref a)])
    refine Run.getf X106 (wd hw 33 rfl) Via.refl F1 ssd_35 ?_
    intro T107 X107
    show Run _ _ _ _ _ _ _ _ _ _ _ _ T107 (mkF m 38 #[.val (.ref a), .val (.int (Int32.ofNat b)), .val (.int (Int32.ofNat n)), .val (.int (Int32.ofNat cs.length)), .val (.int (Int32.ofNat (n - b)))] [(.ref t)])
    refine Run.via (fun _ => XS.iloadN X107.at X107.ex rfl (X107.de ssd_38) rfl) ?_
    show Run _ _ _ _ _ _ _ _ _ _ _ _ T107 (mkF m 39 #[.val (.ref a), .val (.int (Int32.ofNat b)), .val (.int (Int32.ofNat n)), .val (.int (Int32.ofNat cs.length)), .val (.int (Int32.ofNat (n - b)))] [(.int (Int32.ofNat b)), (.ref t)])
    refine Run.via (fun _ => XS.iload X107.at X107.ex rfl (X107.de ssd_39) rfl) ?_
    show Run _ _ _ _ _ _ _ _ _ _ _ _ T107 (mkF m 41 #[.val (.ref a), .val (.int (Int32.ofNat b)), .val (.int (Int32.ofNat n)), .val (.int (Int32.ofNat cs.length)), .val (.int (Int32.ofNat (n - b)))] [(.int (Int32.ofNat (n - b))), (.int (Int32.ofNat b)), (.ref t)])
    refine Run.callS X107 (y := (⟨"java/lang/StringLatin1", "newString", "([BII)Ljava/lang/String;"⟩ : MethodName)) (W := 0) (con_ns l hw hN hmL hl A (b := b) (k := n - b) (by omega) h3 (by have hb0 : ¬ b = 0 := fun z => q0 (by rw [z]; rfl); omega) O) (wd hw 96 rfl) (wd hw 97 rfl) (wd hw 98 rfl) (wd hw 99 rfl) (by decide) pd___BII_Ljava_lang_String_ rfl (argsL := [(.ref t), (.int (Int32.ofNat b)), (.int (Int32.ofNat (n - b)))]) (rest := []) rfl (Nat.le_of_ble_eq_true rfl) rfl ssd_41 (by decide) (by decide) (Nat.le_of_ble_eq_true rfl) (Nat.le_of_ble_eq_true rfl) (nofun) (nofun) ?_
    intro v108 T108 h108 L108 q108 X108 XF108 K108
    obtain ⟨x, rfl, S1⟩ := q108
    show Run _ _ _ _ _ _ _ _ _ _ _ _ T108 (mkF m 44 #[.val (.ref a), .val (.int (Int32.ofNat b)), .val (.int (Int32.ofNat n)), .val (.int (Int32.ofNat cs.length)), .val (.int (Int32.ofNat (n - b)))] [(.ref x)])
    refine Run.via (fun _ => XS.goto X108.at X108.ex rfl (pc0 := 44) (pc' := 57) rfl (X108.de ssd_44) (by decide) (by decide)) ?_
    show Run _ _ _ _ _ _ _ _ _ _ _ _ T108 (mkF m 57 #[.val (.ref a), .val (.int (Int32.ofNat b)), .val (.int (Int32.ofNat n)), .val (.int (Int32.ofNat cs.length)), .val (.int (Int32.ofNat (n - b)))] [(.ref x)])
    exact Run.retA X108 (t := (.object "java/lang/String")) rfl rfl rfl ssd_57 (Nat.le_of_ble_eq_true rfl) (Nat.le_of_ble_eq_true rfl) (⟨x, rfl, S1⟩) (nofun)
-- part con_mm
theorem mmd_0 : decode jdk_48_method_14_code 0 = .ok (.iconst 0, 1) := by decide +kernel
theorem mmd_1 : decode jdk_48_method_14_code 1 = .ok (.istore 5, 2) := by decide +kernel
theorem mmd_3 : decode jdk_48_method_14_code 3 = .ok (.iload 4, 2) := by decide +kernel
theorem mmd_5 : decode jdk_48_method_14_code 5 = .ok (.bipush 7, 2) := by decide +kernel
theorem mmd_7 : decode jdk_48_method_14_code 7 = .ok (.if_icmp .le 63, 3) := by decide +kernel
theorem mmd_70 : decode jdk_48_method_14_code 70 = .ok (.iload 5, 2) := by decide +kernel
theorem mmd_72 : decode jdk_48_method_14_code 72 = .ok (.iload 4, 2) := by decide +kernel
theorem mmd_74 : decode jdk_48_method_14_code 74 = .ok (.if_icmp .ge 27, 3) := by decide +kernel
theorem mmd_77 : decode jdk_48_method_14_code 77 = .ok (.aload_n 0, 1) := by decide +kernel
theorem mmd_78 : decode jdk_48_method_14_code 78 = .ok (.iload_n 1, 1) := by decide +kernel
theorem mmd_79 : decode jdk_48_method_14_code 79 = .ok (.iload 5, 2) := by decide +kernel
theorem mmd_81 : decode jdk_48_method_14_code 81 = .ok (.iadd, 1) := by decide +kernel
theorem mmd_82 : decode jdk_48_method_14_code 82 = .ok (.baload, 1) := by decide +kernel
theorem mmd_83 : decode jdk_48_method_14_code 83 = .ok (.aload_n 2, 1) := by decide +kernel
theorem mmd_84 : decode jdk_48_method_14_code 84 = .ok (.iload_n 3, 1) := by decide +kernel
theorem mmd_85 : decode jdk_48_method_14_code 85 = .ok (.iload 5, 2) := by decide +kernel
theorem mmd_87 : decode jdk_48_method_14_code 87 = .ok (.iadd, 1) := by decide +kernel
theorem mmd_88 : decode jdk_48_method_14_code 88 = .ok (.baload, 1) := by decide +kernel
theorem mmd_89 : decode jdk_48_method_14_code 89 = .ok (.if_icmp .eq 6, 3) := by decide +kernel
theorem mmd_92 : decode jdk_48_method_14_code 92 = .ok (.iload 5, 2) := by decide +kernel
theorem mmd_94 : decode jdk_48_method_14_code 94 = .ok (.ireturn, 1) := by decide +kernel
theorem mmd_95 : decode jdk_48_method_14_code 95 = .ok (.iinc 5 1, 3) := by decide +kernel
theorem mmd_98 : decode jdk_48_method_14_code 98 = .ok (.goto (-28), 3) := by decide +kernel
theorem mmd_101 : decode jdk_48_method_14_code 101 = .ok (.iconst (-1), 1) := by decide +kernel
theorem mmd_102 : decode jdk_48_method_14_code 102 = .ok (.ireturn, 1) := by decide +kernel
set_option maxRecDepth 65536 in
set_option maxHeartbeats 40000000 in
theorem con_mm (l : Launch) {Z : State} {a0 : Array Value} {EL : List (String × Nat)} {h0 : Heap} (hw : ∀ d ∈ tables_1, d.before a0 Z = true) {t u : Addr} {bs : List Int32} {c0 : Int32} {o : Nat} (A : Arc .byte Z h0 t bs) (B : Arc .byte Z h0 u [c0]) (ho : o < bs.length) (O : Ext Z.heap h0) : Con l Z a0 EL false (⟨"jdk/internal/util/ArraysSupport", "mismatch", "([BI[BII)I"⟩ : MethodName) jdk_48_method_14_code 8 (some .int) ({ frames := 0, cells := 0, slots := 0, locals := 0 } : Room) [] [] #[(.ref t), (.int (Int32.ofNat o)), (.ref u), (.int (0 : Int32)), (.int (1 : Int32))] h0 (fun v h => v = some (.int (if bs.getD o 0 = c0 then -1 else 0)) ∧ h0 = h) := by
  refine Con.enter (plainFor_of_name (by first | (simp [plainName, overriddenIn]; done) | decide +kernel)) O ?_
  intro p e s m below meth c T0 X0
  rw [show entryFrame m #[(.ref t), (.int (Int32.ofNat o)), (.ref u), (.int (0 : Int32)), (.int (1 : Int32))] 8 = (mkF m 0 #[.val (.ref t), .val (.int (Int32.ofNat o)), .val (.ref u), .val (.int (0 : Int32)), .val (.int (1 : Int32)), .unset, .unset, .unset] []) from by first | (simp [entryFrame, mkF, argsToLocals, Value.category]; done) | rfl]
  refine Run.via (fun _ => XS.iconst X0.at X0.ex rfl (X0.de mmd_0)) ?_
  show Run _ _ _ _ _ _ _ _ _ _ _ _ T0 (mkF m 1 #[.val (.ref t), .val (.int (Int32.ofNat o)), .val (.ref u), .val (.int (0 : Int32)), .val (.int (1 : Int32)), .unset, .unset, .unset] [(.int (0 : Int32))])
  refine Run.via (fun _ => XS.istore X0.at X0.ex rfl (X0.de mmd_1) rfl (l' := #[.val (.ref t), .val (.int (Int32.ofNat o)), .val (.ref u), .val (.int (0 : Int32)), .val (.int (1 : Int32)), .val (.int (0 : Int32)), .unset, .unset]) rfl) ?_
  show Run _ _ _ _ _ _ _ _ _ _ _ _ T0 (mkF m 3 #[.val (.ref t), .val (.int (Int32.ofNat o)), .val (.ref u), .val (.int (0 : Int32)), .val (.int (1 : Int32)), .val (.int (0 : Int32)), .unset, .unset] [])
  refine Run.via (fun _ => XS.iload X0.at X0.ex rfl (X0.de mmd_3) rfl) ?_
  show Run _ _ _ _ _ _ _ _ _ _ _ _ T0 (mkF m 5 #[.val (.ref t), .val (.int (Int32.ofNat o)), .val (.ref u), .val (.int (0 : Int32)), .val (.int (1 : Int32)), .val (.int (0 : Int32)), .unset, .unset] [(.int (1 : Int32))])
  refine Run.via (fun _ => XS.bipush X0.at X0.ex rfl (X0.de mmd_5)) ?_
  show Run _ _ _ _ _ _ _ _ _ _ _ _ T0 (mkF m 7 #[.val (.ref t), .val (.int (Int32.ofNat o)), .val (.ref u), .val (.int (0 : Int32)), .val (.int (1 : Int32)), .val (.int (0 : Int32)), .unset, .unset] [(.int (7 : Int32)), (.int (1 : Int32))])
  refine Run.via (fun _ => XS.icmpYes X0.at X0.ex rfl (pc0 := 7) (pc' := 70) rfl (X0.de mmd_7) rfl (flt (by decide : ¬ ((7 : Int32) < (1 : Int32)))).2.2.2 (by decide) (by decide)) ?_
  show Run _ _ _ _ _ _ _ _ _ _ _ _ T0 (mkF m 70 #[.val (.ref t), .val (.int (Int32.ofNat o)), .val (.ref u), .val (.int (0 : Int32)), .val (.int (1 : Int32)), .val (.int (0 : Int32)), .unset, .unset] [])
  refine Run.via (fun _ => XS.iload X0.at X0.ex rfl (X0.de mmd_70) rfl) ?_
  show Run _ _ _ _ _ _ _ _ _ _ _ _ T0 (mkF m 72 #[.val (.ref t), .val (.int (Int32.ofNat o)), .val (.ref u), .val (.int (0 : Int32)), .val (.int (1 : Int32)), .val (.int (0 : Int32)), .unset, .unset] [(.int (0 : Int32))])
  refine Run.via (fun _ => XS.iload X0.at X0.ex rfl (X0.de mmd_72) rfl) ?_
  show Run _ _ _ _ _ _ _ _ _ _ _ _ T0 (mkF m 74 #[.val (.ref t), .val (.int (Int32.ofNat o)), .val (.ref u), .val (.int (0 : Int32)), .val (.int (1 : Int32)), .val (.int (0 : Int32)), .unset, .unset] [(.int (1 : Int32)), (.int (0 : Int32))])
  refine Run.via (fun _ => XS.icmpNo X0.at X0.ex rfl (X0.de mmd_74) rfl (tlt (by decide : ((0 : Int32) < (1 : Int32)))).2.1) ?_
  show Run _ _ _ _ _ _ _ _ _ _ _ _ T0 (mkF m 77 #[.val (.ref t), .val (.int (Int32.ofNat o)), .val (.ref u), .val (.int (0 : Int32)), .val (.int (1 : Int32)), .val (.int (0 : Int32)), .unset, .unset] [])
  refine Run.via (fun _ => XS.aloadN X0.at X0.ex rfl (X0.de mmd_77) rfl rfl) ?_
  show Run _ _ _ _ _ _ _ _ _ _ _ _ T0 (mkF m 78 #[.val (.ref t), .val (.int (Int32.ofNat o)), .val (.ref u), .val (.int (0 : Int32)), .val (.int (1 : Int32)), .val (.int (0 : Int32)), .unset, .unset] [(.ref t)])
  refine Run.via (fun _ => XS.iloadN X0.at X0.ex rfl (X0.de mmd_78) rfl) ?_
  show Run _ _ _ _ _ _ _ _ _ _ _ _ T0 (mkF m 79 #[.val (.ref t), .val (.int (Int32.ofNat o)), .val (.ref u), .val (.int (0 : Int32)), .val (.int (1 : Int32)), .val (.int (0 : Int32)), .unset, .unset] [(.int (Int32.ofNat o)), (.ref t)])
  refine Run.via (fun _ => XS.iload X0.at X0.ex rfl (X0.de mmd_79) rfl) ?_
  show Run _ _ _ _ _ _ _ _ _ _ _ _ T0 (mkF m 81 #[.val (.ref t), .val (.int (Int32.ofNat o)), .val (.ref u), .val (.int (0 : Int32)), .val (.int (1 : Int32)), .val (.int (0 : Int32)), .unset, .unset] [(.int (0 : Int32)), (.int (Int32.ofNat o)), (.ref t)])
  refine Run.via (fun _ => XS.iadd X0.at X0.ex rfl (X0.de mmd_81) rfl) ?_
  show Run _ _ _ _ _ _ _ _ _ _ _ _ T0 (mkF m 82 #[.val (.ref t), .val (.int (Int32.ofNat o)), .val (.ref u), .val (.int (0 : Int32)), .val (.int (1 : Int32)), .val (.int (0 : Int32)), .unset, .unset] [(.int ((Int32.ofNat o) + (0 : Int32))), (.ref t)])
  rw [show ((Int32.ofNat o) + (0 : Int32)) = (Int32.ofNat o) from i32zero _]
  show Run _ _ _ _ _ _ _ _ _ _ _ _ T0 (mkF m 82 #[.val (.ref t), .val (.int (Int32.ofNat o)), .val (.ref u), .val (.int (0 : Int32)), .val (.int (1 : Int32)), .val (.int (0 : Int32)), .unset, .unset] [(.int (Int32.ofNat o)), (.ref t)])
  refine Run.baload X0 (i := o) A rfl ho mmd_82 ?_
  show Run _ _ _ _ _ _ _ _ _ _ _ _ T0 (mkF m 83 #[.val (.ref t), .val (.int (Int32.ofNat o)), .val (.ref u), .val (.int (0 : Int32)), .val (.int (1 : Int32)), .val (.int (0 : Int32)), .unset, .unset] [(.int (bs.getD o 0))])
  refine Run.via (fun _ => XS.aloadN X0.at X0.ex rfl (X0.de mmd_83) rfl rfl) ?_
  show Run _ _ _ _ _ _ _ _ _ _ _ _ T0 (mkF m 84 #[.val (.ref t), .val (.int (Int32.ofNat o)), .val (.ref u), .val (.int (0 : Int32)), .val (.int (1 : Int32)), .val (.int (0 : Int32)), .unset, .unset] [(.ref u), (.int (bs.getD o 0))])
  refine Run.via (fun _ => XS.iloadN X0.at X0.ex rfl (X0.de mmd_84) rfl) ?_
  show Run _ _ _ _ _ _ _ _ _ _ _ _ T0 (mkF m 85 #[.val (.ref t), .val (.int (Int32.ofNat o)), .val (.ref u), .val (.int (0 : Int32)), .val (.int (1 : Int32)), .val (.int (0 : Int32)), .unset, .unset] [(.int (0 : Int32)), (.ref u), (.int (bs.getD o 0))])
  refine Run.via (fun _ => XS.iload X0.at X0.ex rfl (X0.de mmd_85) rfl) ?_
  show Run _ _ _ _ _ _ _ _ _ _ _ _ T0 (mkF m 87 #[.val (.ref t), .val (.int (Int32.ofNat o)), .val (.ref u), .val (.int (0 : Int32)), .val (.int (1 : Int32)), .val (.int (0 : Int32)), .unset, .unset] [(.int (0 : Int32)), (.int (0 : Int32)), (.ref u), (.int (bs.getD o 0))])
  refine Run.via (fun _ => XS.iadd X0.at X0.ex rfl (X0.de mmd_87) rfl) ?_
  show Run _ _ _ _ _ _ _ _ _ _ _ _ T0 (mkF m 88 #[.val (.ref t), .val (.int (Int32.ofNat o)), .val (.ref u), .val (.int (0 : Int32)), .val (.int (1 : Int32)), .val (.int (0 : Int32)), .unset, .unset] [(.int (0 : Int32)), (.ref u), (.int (bs.getD o 0))])
  refine Run.baload X0 (i := 0) B rfl (Nat.le_of_ble_eq_true rfl) mmd_88 ?_
  show Run _ _ _ _ _ _ _ _ _ _ _ _ T0 (mkF m 89 #[.val (.ref t), .val (.int (Int32.ofNat o)), .val (.ref u), .val (.int (0 : Int32)), .val (.int (1 : Int32)), .val (.int (0 : Int32)), .unset, .unset] [(.int c0), (.int (bs.getD o 0))])
  by_cases q : (bs.getD o 0) = c0
  ·
    refine Run.via (fun _ => XS.icmpYes X0.at X0.ex rfl (pc0 := 89) (pc' := 95) rfl (X0.de mmd_89) rfl (teq q).1 (by decide) (by decide)) ?_
    show Run _ _ _ _ _ _ _ _ _ _ _ _ T0 (mkF m 95 #[.val (.ref t), .val (.int (Int32.ofNat o)), .val (.ref u), .val (.int (0 : Int32)), .val (.int (1 : Int32)), .val (.int (0 : Int32)), .unset, .unset] [])
    refine Run.via (fun _ => XS.iinc X0.at X0.ex rfl (X0.de mmd_95) rfl (l' := #[.val (.ref t), .val (.int (Int32.ofNat o)), .val (.ref u), .val (.int (0 : Int32)), .val (.int (1 : Int32)), .val (.int (1 : Int32)), .unset, .unset]) rfl) ?_
    show Run _ _ _ _ _ _ _ _ _ _ _ _ T0 (mkF m 98 #[.val (.ref t), .val (.int (Int32.ofNat o)), .val (.ref u), .val (.int (0 : Int32)), .val (.int (1 : Int32)), .val (.int (1 : Int32)), .unset, .unset] [])
    refine Run.via (fun _ => XS.goto X0.at X0.ex rfl (pc0 := 98) (pc' := 70) rfl (X0.de mmd_98) (by decide) (by decide)) ?_
    show Run _ _ _ _ _ _ _ _ _ _ _ _ T0 (mkF m 70 #[.val (.ref t), .val (.int (Int32.ofNat o)), .val (.ref u), .val (.int (0 : Int32)), .val (.int (1 : Int32)), .val (.int (1 : Int32)), .unset, .unset] [])
    refine Run.via (fun _ => XS.iload X0.at X0.ex rfl (X0.de mmd_70) rfl) ?_
    show Run _ _ _ _ _ _ _ _ _ _ _ _ T0 (mkF m 72 #[.val (.ref t), .val (.int (Int32.ofNat o)), .val (.ref u), .val (.int (0 : Int32)), .val (.int (1 : Int32)), .val (.int (1 : Int32)), .unset, .unset] [(.int (1 : Int32))])
    refine Run.via (fun _ => XS.iload X0.at X0.ex rfl (X0.de mmd_72) rfl) ?_
    show Run _ _ _ _ _ _ _ _ _ _ _ _ T0 (mkF m 74 #[.val (.ref t), .val (.int (Int32.ofNat o)), .val (.ref u), .val (.int (0 : Int32)), .val (.int (1 : Int32)), .val (.int (1 : Int32)), .unset, .unset] [(.int (1 : Int32)), (.int (1 : Int32))])
    refine Run.via (fun _ => XS.icmpYes X0.at X0.ex rfl (pc0 := 74) (pc' := 101) rfl (X0.de mmd_74) rfl (flt (by decide : ¬ ((1 : Int32) < (1 : Int32)))).2.1 (by decide) (by decide)) ?_
    show Run _ _ _ _ _ _ _ _ _ _ _ _ T0 (mkF m 101 #[.val (.ref t), .val (.int (Int32.ofNat o)), .val (.ref u), .val (.int (0 : Int32)), .val (.int (1 : Int32)), .val (.int (1 : Int32)), .unset, .unset] [])
    refine Run.via (fun _ => XS.iconst X0.at X0.ex rfl (X0.de mmd_101)) ?_
    show Run _ _ _ _ _ _ _ _ _ _ _ _ T0 (mkF m 102 #[.val (.ref t), .val (.int (Int32.ofNat o)), .val (.ref u), .val (.int (0 : Int32)), .val (.int (1 : Int32)), .val (.int (1 : Int32)), .unset, .unset] [(.int (-1 : Int32))])
    exact Run.retI X0 rfl mmd_102 (Nat.le_of_ble_eq_true rfl) (Nat.le_of_ble_eq_true rfl) (⟨by rw [if_pos q], rfl⟩)
  ·
    refine Run.via (fun _ => XS.icmpNo X0.at X0.ex rfl (X0.de mmd_89) rfl (feq q).1) ?_
    show Run _ _ _ _ _ _ _ _ _ _ _ _ T0 (mkF m 92 #[.val (.ref t), .val (.int (Int32.ofNat o)), .val (.ref u), .val (.int (0 : Int32)), .val (.int (1 : Int32)), .val (.int (0 : Int32)), .unset, .unset] [])
    refine Run.via (fun _ => XS.iload X0.at X0.ex rfl (X0.de mmd_92) rfl) ?_
    show Run _ _ _ _ _ _ _ _ _ _ _ _ T0 (mkF m 94 #[.val (.ref t), .val (.int (Int32.ofNat o)), .val (.ref u), .val (.int (0 : Int32)), .val (.int (1 : Int32)), .val (.int (0 : Int32)), .unset, .unset] [(.int (0 : Int32))])
    exact Run.retI X0 rfl mmd_94 (Nat.le_of_ble_eq_true rfl) (Nat.le_of_ble_eq_true rfl) (⟨by rw [if_neg q], rfl⟩)
-- part con_sw
theorem swd_0 : decode jdk_42_method_75_code 0 = .ok (.iload_n 2, 1) := by decide +kernel
theorem swd_1 : decode jdk_42_method_75_code 1 = .ok (.ifCond .lt 16, 3) := by decide +kernel
theorem swd_4 : decode jdk_42_method_75_code 4 = .ok (.iload_n 2, 1) := by decide +kernel
theorem swd_5 : decode jdk_42_method_75_code 5 = .ok (.aload_n 0, 1) := by decide +kernel
theorem swd_6 : decode jdk_42_method_75_code 6 = .ok (.invokevirtual 505, 3) := by decide +kernel
theorem swd_9 : decode jdk_42_method_75_code 9 = .ok (.aload_n 1, 1) := by decide +kernel
theorem swd_10 : decode jdk_42_method_75_code 10 = .ok (.invokevirtual 505, 3) := by decide +kernel
theorem swd_13 : decode jdk_42_method_75_code 13 = .ok (.isub, 1) := by decide +kernel
theorem swd_14 : decode jdk_42_method_75_code 14 = .ok (.if_icmp .le 5, 3) := by decide +kernel
theorem swd_19 : decode jdk_42_method_75_code 19 = .ok (.aload_n 0, 1) := by decide +kernel
theorem swd_20 : decode jdk_42_method_75_code 20 = .ok (.getfield 9, 3) := by decide +kernel
theorem swd_23 : decode jdk_42_method_75_code 23 = .ok (.astore_n 3, 1) := by decide +kernel
theorem swd_24 : decode jdk_42_method_75_code 24 = .ok (.aload_n 1, 1) := by decide +kernel
theorem swd_25 : decode jdk_42_method_75_code 25 = .ok (.getfield 9, 3) := by decide +kernel
theorem swd_28 : decode jdk_42_method_75_code 28 = .ok (.astore 4, 2) := by decide +kernel
theorem swd_30 : decode jdk_42_method_75_code 30 = .ok (.iconst 0, 1) := by decide +kernel
theorem swd_31 : decode jdk_42_method_75_code 31 = .ok (.istore 5, 2) := by decide +kernel
theorem swd_33 : decode jdk_42_method_75_code 33 = .ok (.aload 4, 2) := by decide +kernel
theorem swd_35 : decode jdk_42_method_75_code 35 = .ok (.arraylength, 1) := by decide +kernel
theorem swd_36 : decode jdk_42_method_75_code 36 = .ok (.istore 6, 2) := by decide +kernel
theorem swd_38 : decode jdk_42_method_75_code 38 = .ok (.aload_n 0, 1) := by decide +kernel
theorem swd_39 : decode jdk_42_method_75_code 39 = .ok (.invokevirtual 335, 3) := by decide +kernel
theorem swd_42 : decode jdk_42_method_75_code 42 = .ok (.istore 7, 2) := by decide +kernel
theorem swd_44 : decode jdk_42_method_75_code 44 = .ok (.iload 7, 2) := by decide +kernel
theorem swd_46 : decode jdk_42_method_75_code 46 = .ok (.aload_n 1, 1) := by decide +kernel
theorem swd_47 : decode jdk_42_method_75_code 47 = .ok (.invokevirtual 335, 3) := by decide +kernel
theorem swd_50 : decode jdk_42_method_75_code 50 = .ok (.if_icmp .ne 32, 3) := by decide +kernel
theorem swd_53 : decode jdk_42_method_75_code 53 = .ok (.iload 7, 2) := by decide +kernel
theorem swd_55 : decode jdk_42_method_75_code 55 = .ok (.iconst 1, 1) := by decide +kernel
theorem swd_56 : decode jdk_42_method_75_code 56 = .ok (.if_icmp .ne 7, 3) := by decide +kernel
theorem swd_63 : decode jdk_42_method_75_code 63 = .ok (.aload_n 3, 1) := by decide +kernel
theorem swd_64 : decode jdk_42_method_75_code 64 = .ok (.iload_n 2, 1) := by decide +kernel
theorem swd_65 : decode jdk_42_method_75_code 65 = .ok (.aload 4, 2) := by decide +kernel
theorem swd_67 : decode jdk_42_method_75_code 67 = .ok (.iconst 0, 1) := by decide +kernel
theorem swd_68 : decode jdk_42_method_75_code 68 = .ok (.iload 6, 2) := by decide +kernel
theorem swd_70 : decode jdk_42_method_75_code 70 = .ok (.invokestatic 607, 3) := by decide +kernel
theorem swd_73 : decode jdk_42_method_75_code 73 = .ok (.ifCond .ge 7, 3) := by decide +kernel
theorem swd_76 : decode jdk_42_method_75_code 76 = .ok (.iconst 1, 1) := by decide +kernel
theorem swd_77 : decode jdk_42_method_75_code 77 = .ok (.goto 4, 3) := by decide +kernel
theorem swd_80 : decode jdk_42_method_75_code 80 = .ok (.iconst 0, 1) := by decide +kernel
theorem swd_81 : decode jdk_42_method_75_code 81 = .ok (.ireturn, 1) := by decide +kernel
set_option maxRecDepth 65536 in
set_option maxHeartbeats 40000000 in
theorem con_sw (l : Launch) {Z : State} {a0 : Array Value} {EL : List (String × Nat)} {h0 : Heap} (hw : ∀ d ∈ tables_1, d.before a0 Z = true) (hS : Sets Z) {a b : Addr} {cs : List Int32} {o : Nat} (hl : Lat cs) (S : Str Z h0 a cs) (P : Str Z h0 b [34]) (ho : o < cs.length) (O : Ext Z.heap h0) : Con l Z a0 EL false (⟨"java/lang/String", "startsWith", "(Ljava/lang/String;I)Z"⟩ : MethodName) jdk_42_method_75_code 8 (some .boolean) ({ frames := 2, cells := 0, slots := 0, locals := 27 } : Room) [] [] #[(.ref a), (.ref b), (.int (Int32.ofNat o))] h0 (fun v h => v = some (.int (if cs.getD o 0 = 34 then 1 else 0)) ∧ h0 = h) := by
  have lq : Lat [34] := lsS (by decide) ls0
  obtain ⟨E, hl4, t, F1, F2, A⟩ := S.lat hl
  obtain ⟨E', -, t', F1', F2', A'⟩ := P.lat lq
  refine Con.enter (plainFor_of_name (by first | (simp [plainName, overriddenIn]; done) | decide +kernel)) O ?_
  intro p e s m below meth c T0 X0
  rw [show entryFrame m #[(.ref a), (.ref b), (.int (Int32.ofNat o))] 8 = (mkF m 0 #[.val (.ref a), .val (.ref b), .val (.int (Int32.ofNat o)), .unset, .unset, .unset, .unset, .unset] []) from by first | (simp [entryFrame, mkF, argsToLocals, Value.category]; done) | rfl]
  refine Run.via (fun _ => XS.iloadN X0.at X0.ex rfl (X0.de swd_0) rfl) ?_
  show Run _ _ _ _ _ _ _ _ _ _ _ _ T0 (mkF m 1 #[.val (.ref a), .val (.ref b), .val (.int (Int32.ofNat o)), .unset, .unset, .unset, .unset, .unset] [(.int (Int32.ofNat o))])
  refine Run.via (fun _ => XS.ifNo X0.at X0.ex rfl (X0.de swd_1) rfl ((if0 _ _).trans (flt (n32' (by omega)).1).1)) ?_
  show Run _ _ _ _ _ _ _ _ _ _ _ _ T0 (mkF m 4 #[.val (.ref a), .val (.ref b), .val (.int (Int32.ofNat o)), .unset, .unset, .unset, .unset, .unset] [])
  refine Run.via (fun _ => XS.iloadN X0.at X0.ex rfl (X0.de swd_4) rfl) ?_
  show Run _ _ _ _ _ _ _ _ _ _ _ _ T0 (mkF m 5 #[.val (.ref a), .val (.ref b), .val (.int (Int32.ofNat o)), .unset, .unset, .unset, .unset, .unset] [(.int (Int32.ofNat o))])
  refine Run.via (fun _ => XS.aloadN X0.at X0.ex rfl (X0.de swd_5) rfl rfl) ?_
  show Run _ _ _ _ _ _ _ _ _ _ _ _ T0 (mkF m 6 #[.val (.ref a), .val (.ref b), .val (.int (Int32.ofNat o)), .unset, .unset, .unset, .unset, .unset] [(.ref a), (.int (Int32.ofNat o))])
  refine Run.slen hw hS X0 (W := 1) S (wd hw 62 rfl) (wd hw 40 rfl) (wd hw 41 rfl) (wd hw 42 rfl) (wd hw 7 rfl) swd_6 rfl (Nat.le_of_ble_eq_true rfl) (by decide) (by decide) (Nat.le_of_ble_eq_true rfl) (Nat.le_of_ble_eq_true rfl) ?_
  intro T101 X101
  show Run _ _ _ _ _ _ _ _ _ _ _ _ T101 (mkF m 9 #[.val (.ref a), .val (.ref b), .val (.int (Int32.ofNat o)), .unset, .unset, .unset, .unset, .unset] [(.int (Int32.ofNat cs.length)), (.int (Int32.ofNat o))])
  refine Run.via (fun _ => XS.aloadN X101.at X101.ex rfl (X101.de swd_9) rfl rfl) ?_
  show Run _ _ _ _ _ _ _ _ _ _ _ _ T101 (mkF m 10 #[.val (.ref a), .val (.ref b), .val (.int (Int32.ofNat o)), .unset, .unset, .unset, .unset, .unset] [(.ref b), (.int (Int32.ofNat cs.length)), (.int (Int32.ofNat o))])
  refine Run.slen hw hS X101 (W := 2) P (wd hw 62 rfl) (wd hw 40 rfl) (wd hw 41 rfl) (wd hw 42 rfl) (wd hw 7 rfl) swd_10 rfl (Nat.le_of_ble_eq_true rfl) (by decide) (by decide) (Nat.le_of_ble_eq_true rfl) (Nat.le_of_ble_eq_true rfl) ?_
  intro T102 X102
  show Run _ _ _ _ _ _ _ _ _ _ _ _ T102 (mkF m 13 #[.val (.ref a), .val (.ref b), .val (.int (Int32.ofNat o)), .unset, .unset, .unset, .unset, .unset] [(.int (1 : Int32)), (.int (Int32.ofNat cs.length)), (.int (Int32.ofNat o))])
  refine Run.via (fun _ => XS.isub X102.at X102.ex rfl (X102.de swd_13) rfl) ?_
  show Run _ _ _ _ _ _ _ _ _ _ _ _ T102 (mkF m 14 #[.val (.ref a), .val (.ref b), .val (.int (Int32.ofNat o)), .unset, .unset, .unset, .unset, .unset] [(.int ((Int32.ofNat cs.length) - (1 : Int32))), (.int (Int32.ofNat o))])
  rw [show ((Int32.ofNat cs.length) - (1 : Int32)) = (Int32.ofNat (cs.length - 1)) from i32pred (by omega) (by omega)]
  show Run _ _ _ _ _ _ _ _ _ _ _ _ T102 (mkF m 14 #[.val (.ref a), .val (.ref b), .val (.int (Int32.ofNat o)), .unset, .unset, .unset, .unset, .unset] [(.int (Int32.ofNat (cs.length - 1))), (.int (Int32.ofNat o))])
  refine Run.via (fun _ => XS.icmpYes X102.at X102.ex rfl (pc0 := 14) (pc' := 19) rfl (X102.de swd_14) rfl (flt (fun q => by have := (i32lt (by omega) (by omega)).mp q; omega)).2.2.2 (by decide) (by decide)) ?_
  show Run _ _ _ _ _ _ _ _ _ _ _ _ T102 (mkF m 19 #[.val (.ref a), .val (.ref b), .val (.int (Int32.ofNat o)), .unset, .unset, .unset, .unset, .unset] [])
  refine Run.via (fun _ => XS.aloadN X102.at X102.ex rfl (X102.de swd_19) rfl rfl) ?_
  show Run _ _ _ _ _ _ _ _ _ _ _ _ T102 (mkF m 20 #[.val (.ref a), .val (.ref b), .val (.int (Int32.ofNat o)), .unset, .unset, .unset, .unset, .unset] [(.ref a)])
  refine Run.getf X102 (wd hw 33 rfl) Via.refl F1 swd_20 ?_
  intro T103 X103
  show Run _ _ _ _ _ _ _ _ _ _ _ _ T103 (mkF m 23 #[.val (.ref a), .val (.ref b), .val (.int (Int32.ofNat o)), .unset, .unset, .unset, .unset, .unset] [(.ref t)])
  refine Run.via (fun _ => XS.astoreN X103.at X103.ex rfl (X103.de swd_23) rfl rfl (l' := #[.val (.ref a), .val (.ref b), .val (.int (Int32.ofNat o)), .val (.ref t), .unset, .unset, .unset, .unset]) rfl) ?_
  show Run _ _ _ _ _ _ _ _ _ _ _ _ T103 (mkF m 24 #[.val (.ref a), .val (.ref b), .val (.int (Int32.ofNat o)), .val (.ref t), .unset, .unset, .unset, .unset] [])
  refine Run.via (fun _ => XS.aloadN X103.at X103.ex rfl (X103.de swd_24) rfl rfl) ?_
  show Run _ _ _ _ _ _ _ _ _ _ _ _ T103 (mkF m 25 #[.val (.ref a), .val (.ref b), .val (.int (Int32.ofNat o)), .val (.ref t), .unset, .unset, .unset, .unset] [(.ref b)])
  refine Run.getf X103 (wd hw 33 rfl) Via.refl F1' swd_25 ?_
  intro T104 X104
  show Run _ _ _ _ _ _ _ _ _ _ _ _ T104 (mkF m 28 #[.val (.ref a), .val (.ref b), .val (.int (Int32.ofNat o)), .val (.ref t), .unset, .unset, .unset, .unset] [(.ref t')])
  refine Run.via (fun _ => XS.astore X104.at X104.ex rfl (X104.de swd_28) rfl rfl (l' := #[.val (.ref a), .val (.ref b), .val (.int (Int32.ofNat o)), .val (.ref t), .val (.ref t'), .unset, .unset, .unset]) rfl) ?_
  show Run _ _ _ _ _ _ _ _ _ _ _ _ T104 (mkF m 30 #[.val (.ref a), .val (.ref b), .val (.int (Int32.ofNat o)), .val (.ref t), .val (.ref t'), .unset, .unset, .unset] [])
  refine Run.via (fun _ => XS.iconst X104.at X104.ex rfl (X104.de swd_30)) ?_
  show Run _ _ _ _ _ _ _ _ _ _ _ _ T104 (mkF m 31 #[.val (.ref a), .val (.ref b), .val (.int (Int32.ofNat o)), .val (.ref t), .val (.ref t'), .unset, .unset, .unset] [(.int (0 : Int32))])
  refine Run.via (fun _ => XS.istore X104.at X104.ex rfl (X104.de swd_31) rfl (l' := #[.val (.ref a), .val (.ref b), .val (.int (Int32.ofNat o)), .val (.ref t), .val (.ref t'), .val (.int (0 : Int32)), .unset, .unset]) rfl) ?_
  show Run _ _ _ _ _ _ _ _ _ _ _ _ T104 (mkF m 33 #[.val (.ref a), .val (.ref b), .val (.int (Int32.ofNat o)), .val (.ref t), .val (.ref t'), .val (.int (0 : Int32)), .unset, .unset] [])
  refine Run.via (fun _ => XS.aload X104.at X104.ex rfl (X104.de swd_33) rfl rfl) ?_
  show Run _ _ _ _ _ _ _ _ _ _ _ _ T104 (mkF m 35 #[.val (.ref a), .val (.ref b), .val (.int (Int32.ofNat o)), .val (.ref t), .val (.ref t'), .val (.int (0 : Int32)), .unset, .unset] [(.ref t')])
  refine Run.alen X104 A' swd_35 ?_
  show Run _ _ _ _ _ _ _ _ _ _ _ _ T104 (mkF m 36 #[.val (.ref a), .val (.ref b), .val (.int (Int32.ofNat o)), .val (.ref t), .val (.ref t'), .val (.int (0 : Int32)), .unset, .unset] [(.int (1 : Int32))])
  refine Run.via (fun _ => XS.istore X104.at X104.ex rfl (X104.de swd_36) rfl (l' := #[.val (.ref a), .val (.ref b), .val (.int (Int32.ofNat o)), .val (.ref t), .val (.ref t'), .val (.int (0 : Int32)), .val (.int (1 : Int32)), .unset]) rfl) ?_
  show Run _ _ _ _ _ _ _ _ _ _ _ _ T104 (mkF m 38 #[.val (.ref a), .val (.ref b), .val (.int (Int32.ofNat o)), .val (.ref t), .val (.ref t'), .val (.int (0 : Int32)), .val (.int (1 : Int32)), .unset] [])
  refine Run.via (fun _ => XS.aloadN X104.at X104.ex rfl (X104.de swd_38) rfl rfl) ?_
  show Run _ _ _ _ _ _ _ _ _ _ _ _ T104 (mkF m 39 #[.val (.ref a), .val (.ref b), .val (.int (Int32.ofNat o)), .val (.ref t), .val (.ref t'), .val (.int (0 : Int32)), .val (.int (1 : Int32)), .unset] [(.ref a)])
  refine Run.callV X104 (y := (⟨"java/lang/String", "coder", "()B"⟩ : MethodName)) (W := 0) (con_cd l hw hS F2 O) E (wd hw 44 rfl) (wd hw 45 rfl) (wd hw 46 rfl) (wd hw 47 rfl) (wd hw 8 rfl) (wd hw 48 rfl) (by decide) pd___B rfl (argsL := []) (rest := []) rfl (Nat.le_of_ble_eq_true rfl) rfl swd_39 (by decide) (by decide) (Nat.le_of_ble_eq_true rfl) (Nat.le_of_ble_eq_true rfl) (nofun) (nofun) ?_
  intro v105 T105 h105 L105 q105 X105 XF105 K105
  obtain ⟨rfl, rfl⟩ := q105
  show Run _ _ _ _ _ _ _ _ _ _ _ _ T105 (mkF m 42 #[.val (.ref a), .val (.ref b), .val (.int (Int32.ofNat o)), .val (.ref t), .val (.ref t'), .val (.int (0 : Int32)), .val (.int (1 : Int32)), .unset] [(.int (0 : Int32))])
  refine Run.via (fun _ => XS.istore X105.at X105.ex rfl (X105.de swd_42) rfl (l' := #[.val (.ref a), .val (.ref b), .val (.int (Int32.ofNat o)), .val (.ref t), .val (.ref t'), .val (.int (0 : Int32)), .val (.int (1 : Int32)), .val (.int (0 : Int32))]) rfl) ?_
  show Run _ _ _ _ _ _ _ _ _ _ _ _ T105 (mkF m 44 #[.val (.ref a), .val (.ref b), .val (.int (Int32.ofNat o)), .val (.ref t), .val (.ref t'), .val (.int (0 : Int32)), .val (.int (1 : Int32)), .val (.int (0 : Int32))] [])
  refine Run.via (fun _ => XS.iload X105.at X105.ex rfl (X105.de swd_44) rfl) ?_
  show Run _ _ _ _ _ _ _ _ _ _ _ _ T105 (mkF m 46 #[.val (.ref a), .val (.ref b), .val (.int (Int32.ofNat o)), .val (.ref t), .val (.ref t'), .val (.int (0 : Int32)), .val (.int (1 : Int32)), .val (.int (0 : Int32))] [(.int (0 : Int32))])
  refine Run.via (fun _ => XS.aloadN X105.at X105.ex rfl (X105.de swd_46) rfl rfl) ?_
  show Run _ _ _ _ _ _ _ _ _ _ _ _ T105 (mkF m 47 #[.val (.ref a), .val (.ref b), .val (.int (Int32.ofNat o)), .val (.ref t), .val (.ref t'), .val (.int (0 : Int32)), .val (.int (1 : Int32)), .val (.int (0 : Int32))] [(.ref b), (.int (0 : Int32))])
  refine Run.callV X105 (y := (⟨"java/lang/String", "coder", "()B"⟩ : MethodName)) (W := 1) (con_cd l hw hS F2' O) E' (wd hw 44 rfl) (wd hw 45 rfl) (wd hw 46 rfl) (wd hw 47 rfl) (wd hw 8 rfl) (wd hw 48 rfl) (by decide) pd___B rfl (argsL := []) (rest := [(.int (0 : Int32))]) rfl (Nat.le_of_ble_eq_true rfl) rfl swd_47 (by decide) (by decide) (Nat.le_of_ble_eq_true rfl) (Nat.le_of_ble_eq_true rfl) (nofun) (nofun) ?_
  intro v106 T106 h106 L106 q106 X106 XF106 K106
  obtain ⟨rfl, rfl⟩ := q106
  show Run _ _ _ _ _ _ _ _ _ _ _ _ T106 (mkF m 50 #[.val (.ref a), .val (.ref b), .val (.int (Int32.ofNat o)), .val (.ref t), .val (.ref t'), .val (.int (0 : Int32)), .val (.int (1 : Int32)), .val (.int (0 : Int32))] [(.int (0 : Int32)), (.int (0 : Int32))])
  refine Run.via (fun _ => XS.icmpNo X106.at X106.ex rfl (X106.de swd_50) rfl (teq (by decide : ((0 : Int32) = (0 : Int32)))).2) ?_
  show Run _ _ _ _ _ _ _ _ _ _ _ _ T106 (mkF m 53 #[.val (.ref a), .val (.ref b), .val (.int (Int32.ofNat o)), .val (.ref t), .val (.ref t'), .val (.int (0 : Int32)), .val (.int (1 : Int32)), .val (.int (0 : Int32))] [])
  refine Run.via (fun _ => XS.iload X106.at X106.ex rfl (X106.de swd_53) rfl) ?_
  show Run _ _ _ _ _ _ _ _ _ _ _ _ T106 (mkF m 55 #[.val (.ref a), .val (.ref b), .val (.int (Int32.ofNat o)), .val (.ref t), .val (.ref t'), .val (.int (0 : Int32)), .val (.int (1 : Int32)), .val (.int (0 : Int32))] [(.int (0 : Int32))])
  refine Run.via (fun _ => XS.iconst X106.at X106.ex rfl (X106.de swd_55)) ?_
  show Run _ _ _ _ _ _ _ _ _ _ _ _ T106 (mkF m 56 #[.val (.ref a), .val (.ref b), .val (.int (Int32.ofNat o)), .val (.ref t), .val (.ref t'), .val (.int (0 : Int32)), .val (.int (1 : Int32)), .val (.int (0 : Int32))] [(.int (1 : Int32)), (.int (0 : Int32))])
  refine Run.via (fun _ => XS.icmpYes X106.at X106.ex rfl (pc0 := 56) (pc' := 63) rfl (X106.de swd_56) rfl (feq (by decide : ¬ ((0 : Int32) = (1 : Int32)))).2 (by decide) (by decide)) ?_
  show Run _ _ _ _ _ _ _ _ _ _ _ _ T106 (mkF m 63 #[.val (.ref a), .val (.ref b), .val (.int (Int32.ofNat o)), .val (.ref t), .val (.ref t'), .val (.int (0 : Int32)), .val (.int (1 : Int32)), .val (.int (0 : Int32))] [])
  refine Run.via (fun _ => XS.aloadN X106.at X106.ex rfl (X106.de swd_63) rfl rfl) ?_
  show Run _ _ _ _ _ _ _ _ _ _ _ _ T106 (mkF m 64 #[.val (.ref a), .val (.ref b), .val (.int (Int32.ofNat o)), .val (.ref t), .val (.ref t'), .val (.int (0 : Int32)), .val (.int (1 : Int32)), .val (.int (0 : Int32))] [(.ref t)])
  refine Run.via (fun _ => XS.iloadN X106.at X106.ex rfl (X106.de swd_64) rfl) ?_
  show Run _ _ _ _ _ _ _ _ _ _ _ _ T106 (mkF m 65 #[.val (.ref a), .val (.ref b), .val (.int (Int32.ofNat o)), .val (.ref t), .val (.ref t'), .val (.int (0 : Int32)), .val (.int (1 : Int32)), .val (.int (0 : Int32))] [(.int (Int32.ofNat o)), (.ref t)])
  refine Run.via (fun _ => XS.aload X106.at X106.ex rfl (X106.de swd_65) rfl rfl) ?_
  show Run _ _ _ _ _ _ _ _ _ _ _ _ T106 (mkF m 67 #[.val (.ref a), .val (.ref b), .val (.int (Int32.ofNat o)), .val (.ref t), .val (.ref t'), .val (.int (0 : Int32)), .val (.int (1 : Int32)), .val (.int (0 : Int32))] [(.ref t'), (.int (Int32.ofNat o)), (.ref t)])
  refine Run.via (fun _ => XS.iconst X106.at X106.ex rfl (X106.de swd_67)) ?_
  show Run _ _ _ _ _ _ _ _ _ _ _ _ T106 (mkF m 68 #[.val (.ref a), .val (.ref b), .val (.int (Int32.ofNat o)), .val (.ref t), .val (.ref t'), .val (.int (0 : Int32)), .val (.int (1 : Int32)), .val (.int (0 : Int32))] [(.int (0 : Int32)), (.ref t'), (.int (Int32.ofNat o)), (.ref t)])
  refine Run.via (fun _ => XS.iload X106.at X106.ex rfl (X106.de swd_68) rfl) ?_
  show Run _ _ _ _ _ _ _ _ _ _ _ _ T106 (mkF m 70 #[.val (.ref a), .val (.ref b), .val (.int (Int32.ofNat o)), .val (.ref t), .val (.ref t'), .val (.int (0 : Int32)), .val (.int (1 : Int32)), .val (.int (0 : Int32))] [(.int (1 : Int32)), (.int (0 : Int32)), (.ref t'), (.int (Int32.ofNat o)), (.ref t)])
  have e0 := map_getD cs o ho
  have r0 := hl _ (mem_getD ho)
  refine Run.callS X106 (y := (⟨"jdk/internal/util/ArraysSupport", "mismatch", "([BI[BII)I"⟩ : MethodName)) (W := 0) (con_mm l hw (c0 := StrChars.lo8 34) A A' (o := o) (by simpa using ho) O) (wd hw 63 rfl) (wd hw 64 rfl) (wd hw 65 rfl) (wd hw 66 rfl) (by decide) pd___BI_BII_I rfl (argsL := [(.ref t), (.int (Int32.ofNat o)), (.ref t'), (.int (0 : Int32)), (.int (1 : Int32))]) (rest := []) rfl (Nat.le_of_ble_eq_true rfl) rfl swd_70 (by decide) (by decide) (Nat.le_of_ble_eq_true rfl) (Nat.le_of_ble_eq_true rfl) (nofun) (nofun) ?_
  intro v107 T107 h107 L107 q107 X107 XF107 K107
  obtain ⟨rfl, rfl⟩ := q107
  show Run _ _ _ _ _ _ _ _ _ _ _ _ T107 (mkF m 73 #[.val (.ref a), .val (.ref b), .val (.int (Int32.ofNat o)), .val (.ref t), .val (.ref t'), .val (.int (0 : Int32)), .val (.int (1 : Int32)), .val (.int (0 : Int32))] [(.int (if (cs.map StrChars.lo8).getD o 0 = StrChars.lo8 34 then -1 else 0 : Int32))])
  by_cases q : (if (cs.map StrChars.lo8).getD o 0 = StrChars.lo8 34 then -1 else 0 : Int32) < (0 : Int32)
  ·
    refine Run.via (fun _ => XS.ifNo X107.at X107.ex rfl (X107.de swd_73) rfl ((if0 _ _).trans (tlt q).2.1)) ?_
    show Run _ _ _ _ _ _ _ _ _ _ _ _ T107 (mkF m 76 #[.val (.ref a), .val (.ref b), .val (.int (Int32.ofNat o)), .val (.ref t), .val (.ref t'), .val (.int (0 : Int32)), .val (.int (1 : Int32)), .val (.int (0 : Int32))] [])
    refine Run.via (fun _ => XS.iconst X107.at X107.ex rfl (X107.de swd_76)) ?_
    show Run _ _ _ _ _ _ _ _ _ _ _ _ T107 (mkF m 77 #[.val (.ref a), .val (.ref b), .val (.int (Int32.ofNat o)), .val (.ref t), .val (.ref t'), .val (.int (0 : Int32)), .val (.int (1 : Int32)), .val (.int (0 : Int32))] [(.int (1 : Int32))])
    refine Run.via (fun _ => XS.goto X107.at X107.ex rfl (pc0 := 77) (pc' := 81) rfl (X107.de swd_77) (by decide) (by decide)) ?_
    show Run _ _ _ _ _ _ _ _ _ _ _ _ T107 (mkF m 81 #[.val (.ref a), .val (.ref b), .val (.int (Int32.ofNat o)), .val (.ref t), .val (.ref t'), .val (.int (0 : Int32)), .val (.int (1 : Int32)), .val (.int (0 : Int32))] [(.int (1 : Int32))])
    exact Run.retN X107 (t := .boolean) rfl (by simp) swd_81 (Nat.le_of_ble_eq_true rfl) (Nat.le_of_ble_eq_true rfl) (⟨by rw [if_pos (mm_y r0 (e0 ▸ q))]; rfl, rfl⟩)
  ·
    refine Run.via (fun _ => XS.ifYes X107.at X107.ex rfl (pc0 := 73) (pc' := 80) rfl (X107.de swd_73) rfl ((if0 _ _).trans (flt q).2.1) (by decide) (by decide)) ?_
    show Run _ _ _ _ _ _ _ _ _ _ _ _ T107 (mkF m 80 #[.val (.ref a), .val (.ref b), .val (.int (Int32.ofNat o)), .val (.ref t), .val (.ref t'), .val (.int (0 : Int32)), .val (.int (1 : Int32)), .val (.int (0 : Int32))] [])
    refine Run.via (fun _ => XS.iconst X107.at X107.ex rfl (X107.de swd_80)) ?_
    show Run _ _ _ _ _ _ _ _ _ _ _ _ T107 (mkF m 81 #[.val (.ref a), .val (.ref b), .val (.int (Int32.ofNat o)), .val (.ref t), .val (.ref t'), .val (.int (0 : Int32)), .val (.int (1 : Int32)), .val (.int (0 : Int32))] [(.int (0 : Int32))])
    exact Run.retN X107 (t := .boolean) rfl (by simp) swd_81 (Nat.le_of_ble_eq_true rfl) (Nat.le_of_ble_eq_true rfl) (⟨by rw [if_neg (mm_n (e0 ▸ q))]; rfl, rfl⟩)
-- part con_s1
theorem s1d_0 : decode jdk_42_method_76_code 0 = .ok (.aload_n 0, 1) := by decide +kernel
theorem s1d_1 : decode jdk_42_method_76_code 1 = .ok (.aload_n 1, 1) := by decide +kernel
theorem s1d_2 : decode jdk_42_method_76_code 2 = .ok (.iconst 0, 1) := by decide +kernel
theorem s1d_3 : decode jdk_42_method_76_code 3 = .ok (.invokevirtual 624, 3) := by decide +kernel
theorem s1d_6 : decode jdk_42_method_76_code 6 = .ok (.ireturn, 1) := by decide +kernel
set_option maxRecDepth 65536 in
set_option maxHeartbeats 40000000 in
theorem con_s1 (l : Launch) {Z : State} {a0 : Array Value} {EL : List (String × Nat)} {h0 : Heap} (hw : ∀ d ∈ tables_1, d.before a0 Z = true) (hS : Sets Z) {a b : Addr} {cs : List Int32} (hl : Lat cs) (S : Str Z h0 a cs) (P : Str Z h0 b [34]) (ho : 0 < cs.length) (O : Ext Z.heap h0) : Con l Z a0 EL false (⟨"java/lang/String", "startsWith", "(Ljava/lang/String;)Z"⟩ : MethodName) jdk_42_method_76_code 2 (some .boolean) ({ frames := 3, cells := 0, slots := 0, locals := 46 } : Room) [] [] #[(.ref a), (.ref b)] h0 (fun v h => v = some (.int (if cs.getD 0 0 = 34 then 1 else 0)) ∧ h0 = h) := by
  refine Con.enter (plainFor_of_name (by first | (simp [plainName, overriddenIn]; done) | decide +kernel)) O ?_
  intro p e s m below meth c T0 X0
  rw [show entryFrame m #[(.ref a), (.ref b)] 2 = (mkF m 0 #[.val (.ref a), .val (.ref b)] []) from by first | (simp [entryFrame, mkF, argsToLocals, Value.category]; done) | rfl]
  have E := S.1
  refine Run.via (fun _ => XS.aloadN X0.at X0.ex rfl (X0.de s1d_0) rfl rfl) ?_
  show Run _ _ _ _ _ _ _ _ _ _ _ _ T0 (mkF m 1 #[.val (.ref a), .val (.ref b)] [(.ref a)])
  refine Run.via (fun _ => XS.aloadN X0.at X0.ex rfl (X0.de s1d_1) rfl rfl) ?_
  show Run _ _ _ _ _ _ _ _ _ _ _ _ T0 (mkF m 2 #[.val (.ref a), .val (.ref b)] [(.ref b), (.ref a)])
  refine Run.via (fun _ => XS.iconst X0.at X0.ex rfl (X0.de s1d_2)) ?_
  show Run _ _ _ _ _ _ _ _ _ _ _ _ T0 (mkF m 3 #[.val (.ref a), .val (.ref b)] [(.int (0 : Int32)), (.ref b), (.ref a)])
  refine Run.callV X0 (y := (⟨"java/lang/String", "startsWith", "(Ljava/lang/String;I)Z"⟩ : MethodName)) (W := 0) (con_sw l hw hS hl S P (o := 0) ho O) E (wd hw 57 rfl) (wd hw 58 rfl) (wd hw 59 rfl) (wd hw 60 rfl) (wd hw 8 rfl) (wd hw 61 rfl) (by decide) pd__Ljava_lang_String_I_Z rfl (argsL := [(.ref b), (.int (0 : Int32))]) (rest := []) rfl (Nat.le_of_ble_eq_true rfl) rfl s1d_3 (by decide) (by decide) (Nat.le_of_ble_eq_true rfl) (Nat.le_of_ble_eq_true rfl) (nofun) (nofun) ?_
  intro v101 T101 h101 L101 q101 X101 XF101 K101
  obtain ⟨rfl, rfl⟩ := q101
  show Run _ _ _ _ _ _ _ _ _ _ _ _ T101 (mkF m 6 #[.val (.ref a), .val (.ref b)] [(.int (if cs.getD 0 0 = 34 then 1 else 0 : Int32))])
  exact Run.retN X101 (t := .boolean) rfl (by simp) s1d_6 (Nat.le_of_ble_eq_true rfl) (Nat.le_of_ble_eq_true rfl) (⟨by rw [nar_b], rfl⟩)
-- part con_ew
theorem ewd_0 : decode jdk_42_method_77_code 0 = .ok (.aload_n 0, 1) := by decide +kernel
theorem ewd_1 : decode jdk_42_method_77_code 1 = .ok (.aload_n 1, 1) := by decide +kernel
theorem ewd_2 : decode jdk_42_method_77_code 2 = .ok (.aload_n 0, 1) := by decide +kernel
theorem ewd_3 : decode jdk_42_method_77_code 3 = .ok (.invokevirtual 505, 3) := by decide +kernel
theorem ewd_6 : decode jdk_42_method_77_code 6 = .ok (.aload_n 1, 1) := by decide +kernel
theorem ewd_7 : decode jdk_42_method_77_code 7 = .ok (.invokevirtual 505, 3) := by decide +kernel
theorem ewd_10 : decode jdk_42_method_77_code 10 = .ok (.isub, 1) := by decide +kernel
theorem ewd_11 : decode jdk_42_method_77_code 11 = .ok (.invokevirtual 624, 3) := by decide +kernel
theorem ewd_14 : decode jdk_42_method_77_code 14 = .ok (.ireturn, 1) := by decide +kernel
set_option maxRecDepth 65536 in
set_option maxHeartbeats 40000000 in
theorem con_ew (l : Launch) {Z : State} {a0 : Array Value} {EL : List (String × Nat)} {h0 : Heap} (hw : ∀ d ∈ tables_1, d.before a0 Z = true) (hS : Sets Z) {a b : Addr} {cs : List Int32} (hl : Lat cs) (S : Str Z h0 a cs) (P : Str Z h0 b [34]) (ho : 0 < cs.length) (O : Ext Z.heap h0) : Con l Z a0 EL false (⟨"java/lang/String", "endsWith", "(Ljava/lang/String;)Z"⟩ : MethodName) jdk_42_method_77_code 2 (some .boolean) ({ frames := 3, cells := 0, slots := 0, locals := 46 } : Room) [] [] #[(.ref a), (.ref b)] h0 (fun v h => v = some (.int (if cs.getD (cs.length - 1) 0 = 34 then 1 else 0)) ∧ h0 = h) := by
  refine Con.enter (plainFor_of_name (by first | (simp [plainName, overriddenIn]; done) | decide +kernel)) O ?_
  intro p e s m below meth c T0 X0
  rw [show entryFrame m #[(.ref a), (.ref b)] 2 = (mkF m 0 #[.val (.ref a), .val (.ref b)] []) from by first | (simp [entryFrame, mkF, argsToLocals, Value.category]; done) | rfl]
  have E := S.1
  have hl4 : cs.length ≤ 4000 := (S.lat hl).2.1
  refine Run.via (fun _ => XS.aloadN X0.at X0.ex rfl (X0.de ewd_0) rfl rfl) ?_
  show Run _ _ _ _ _ _ _ _ _ _ _ _ T0 (mkF m 1 #[.val (.ref a), .val (.ref b)] [(.ref a)])
  refine Run.via (fun _ => XS.aloadN X0.at X0.ex rfl (X0.de ewd_1) rfl rfl) ?_
  show Run _ _ _ _ _ _ _ _ _ _ _ _ T0 (mkF m 2 #[.val (.ref a), .val (.ref b)] [(.ref b), (.ref a)])
  refine Run.via (fun _ => XS.aloadN X0.at X0.ex rfl (X0.de ewd_2) rfl rfl) ?_
  show Run _ _ _ _ _ _ _ _ _ _ _ _ T0 (mkF m 3 #[.val (.ref a), .val (.ref b)] [(.ref a), (.ref b), (.ref a)])
  refine Run.slen hw hS X0 (W := 2) S (wd hw 62 rfl) (wd hw 40 rfl) (wd hw 41 rfl) (wd hw 42 rfl) (wd hw 7 rfl) ewd_3 rfl (Nat.le_of_ble_eq_true rfl) (by decide) (by decide) (Nat.le_of_ble_eq_true rfl) (Nat.le_of_ble_eq_true rfl) ?_
  intro T101 X101
  show Run _ _ _ _ _ _ _ _ _ _ _ _ T101 (mkF m 6 #[.val (.ref a), .val (.ref b)] [(.int (Int32.ofNat cs.length)), (.ref b), (.ref a)])
  refine Run.via (fun _ => XS.aloadN X101.at X101.ex rfl (X101.de ewd_6) rfl rfl) ?_
  show Run _ _ _ _ _ _ _ _ _ _ _ _ T101 (mkF m 7 #[.val (.ref a), .val (.ref b)] [(.ref b), (.int (Int32.ofNat cs.length)), (.ref b), (.ref a)])
  refine Run.slen hw hS X101 (W := 3) P (wd hw 62 rfl) (wd hw 40 rfl) (wd hw 41 rfl) (wd hw 42 rfl) (wd hw 7 rfl) ewd_7 rfl (Nat.le_of_ble_eq_true rfl) (by decide) (by decide) (Nat.le_of_ble_eq_true rfl) (Nat.le_of_ble_eq_true rfl) ?_
  intro T102 X102
  show Run _ _ _ _ _ _ _ _ _ _ _ _ T102 (mkF m 10 #[.val (.ref a), .val (.ref b)] [(.int (1 : Int32)), (.int (Int32.ofNat cs.length)), (.ref b), (.ref a)])
  refine Run.via (fun _ => XS.isub X102.at X102.ex rfl (X102.de ewd_10) rfl) ?_
  show Run _ _ _ _ _ _ _ _ _ _ _ _ T102 (mkF m 11 #[.val (.ref a), .val (.ref b)] [(.int ((Int32.ofNat cs.length) - (1 : Int32))), (.ref b), (.ref a)])
  rw [show ((Int32.ofNat cs.length) - (1 : Int32)) = (Int32.ofNat (cs.length - 1)) from i32pred (by omega) (by omega)]
  show Run _ _ _ _ _ _ _ _ _ _ _ _ T102 (mkF m 11 #[.val (.ref a), .val (.ref b)] [(.int (Int32.ofNat (cs.length - 1))), (.ref b), (.ref a)])
  refine Run.callV X102 (y := (⟨"java/lang/String", "startsWith", "(Ljava/lang/String;I)Z"⟩ : MethodName)) (W := 0) (con_sw l hw hS hl S P (o := cs.length - 1) (by omega) O) E (wd hw 57 rfl) (wd hw 58 rfl) (wd hw 59 rfl) (wd hw 60 rfl) (wd hw 8 rfl) (wd hw 61 rfl) (by decide) pd__Ljava_lang_String_I_Z rfl (argsL := [(.ref b), (.int (Int32.ofNat (cs.length - 1)))]) (rest := []) rfl (Nat.le_of_ble_eq_true rfl) rfl ewd_11 (by decide) (by decide) (Nat.le_of_ble_eq_true rfl) (Nat.le_of_ble_eq_true rfl) (nofun) (nofun) ?_
  intro v103 T103 h103 L103 q103 X103 XF103 K103
  obtain ⟨rfl, rfl⟩ := q103
  show Run _ _ _ _ _ _ _ _ _ _ _ _ T103 (mkF m 14 #[.val (.ref a), .val (.ref b)] [(.int (if cs.getD (cs.length - 1) 0 = 34 then 1 else 0 : Int32))])
  exact Run.retN X103 (t := .boolean) rfl (by simp) ewd_14 (Nat.le_of_ble_eq_true rfl) (Nat.le_of_ble_eq_true rfl) (⟨by rw [nar_b], rfl⟩)
-- part con_uq
theorem uqd_0 : decode prog_7_method_11_code 0 = .ok (.aload_n 0, 1) := by decide +kernel
theorem uqd_1 : decode prog_7_method_11_code 1 = .ok (.invokevirtual 112, 3) := by decide +kernel
theorem uqd_4 : decode prog_7_method_11_code 4 = .ok (.iconst 1, 1) := by decide +kernel
theorem uqd_5 : decode prog_7_method_11_code 5 = .ok (.if_icmp .le 35, 3) := by decide +kernel
theorem uqd_8 : decode prog_7_method_11_code 8 = .ok (.aload_n 0, 1) := by decide +kernel
theorem uqd_9 : decode prog_7_method_11_code 9 = .ok (.ldc 115, 2) := by decide +kernel
theorem uqd_11 : decode prog_7_method_11_code 11 = .ok (.invokevirtual 117, 3) := by decide +kernel
theorem uqd_14 : decode prog_7_method_11_code 14 = .ok (.ifCond .eq 26, 3) := by decide +kernel
theorem uqd_17 : decode prog_7_method_11_code 17 = .ok (.aload_n 0, 1) := by decide +kernel
theorem uqd_18 : decode prog_7_method_11_code 18 = .ok (.ldc 115, 2) := by decide +kernel
theorem uqd_20 : decode prog_7_method_11_code 20 = .ok (.invokevirtual 121, 3) := by decide +kernel
theorem uqd_23 : decode prog_7_method_11_code 23 = .ok (.ifCond .eq 17, 3) := by decide +kernel
theorem uqd_26 : decode prog_7_method_11_code 26 = .ok (.aload_n 0, 1) := by decide +kernel
theorem uqd_27 : decode prog_7_method_11_code 27 = .ok (.iconst 1, 1) := by decide +kernel
theorem uqd_28 : decode prog_7_method_11_code 28 = .ok (.aload_n 0, 1) := by decide +kernel
theorem uqd_29 : decode prog_7_method_11_code 29 = .ok (.invokevirtual 112, 3) := by decide +kernel
theorem uqd_32 : decode prog_7_method_11_code 32 = .ok (.iconst 1, 1) := by decide +kernel
theorem uqd_33 : decode prog_7_method_11_code 33 = .ok (.isub, 1) := by decide +kernel
theorem uqd_34 : decode prog_7_method_11_code 34 = .ok (.invokevirtual 124, 3) := by decide +kernel
theorem uqd_37 : decode prog_7_method_11_code 37 = .ok (.goto 4, 3) := by decide +kernel
theorem uqd_40 : decode prog_7_method_11_code 40 = .ok (.aload_n 0, 1) := by decide +kernel
theorem uqd_41 : decode prog_7_method_11_code 41 = .ok (.areturn, 1) := by decide +kernel
set_option maxRecDepth 65536 in
set_option maxHeartbeats 40000000 in
theorem con_uq (l : Launch) {Z : State} {a0 : Array Value} {EL : List (String × Nat)} {h0 : Heap} (hw : ∀ d ∈ tables_1, d.before a0 Z = true) (hS : Sets Z) (hN : NW = false) (hmH : ("com/example/sliceworks/sliceworks/web/Headers", 115) ∈ EL) (hmL : ("java/lang/StringLatin1", 151) ∈ EL) {a : Addr} {cs : List Int32} (hl : Lat cs) (hn : cs.length ≤ 4) (S : Str Z h0 a cs) (O : Ext Z.heap h0) : Con l Z a0 EL false (⟨"com/example/sliceworks/sliceworks/web/Headers", "unquoted", "(Ljava/lang/String;)Ljava/lang/String;"⟩ : MethodName) prog_7_method_11_code 1 (some (.object "java/lang/String")) ({ frames := 6, cells := 6, slots := 24, locals := 130 } : Room) [] [] #[(.ref a)] h0 (fun v h => ∃ x, v = some (.ref x) ∧ Str Z h x (unq cs)) := by
  have hl4 : cs.length ≤ 4000 := (S.lat hl).2.1
  refine Con.enter (plainFor_of_name (by first | (simp [plainName, overriddenIn]; done) | decide +kernel)) O ?_
  intro p e s m below meth c T0 X0
  rw [show entryFrame m #[(.ref a)] 1 = (mkF m 0 #[.val (.ref a)] []) from by first | (simp [entryFrame, mkF, argsToLocals, Value.category]; done) | rfl]
  refine Run.via (fun _ => XS.aloadN X0.at X0.ex rfl (X0.de uqd_0) rfl rfl) ?_
  show Run _ _ _ _ _ _ _ _ _ _ _ _ T0 (mkF m 1 #[.val (.ref a)] [(.ref a)])
  refine Run.slen hw hS X0 (W := 0) S (wd hw 39 rfl) (wd hw 40 rfl) (wd hw 41 rfl) (wd hw 42 rfl) (wd hw 7 rfl) uqd_1 rfl (Nat.le_of_ble_eq_true rfl) (by decide) (by decide) (Nat.le_of_ble_eq_true rfl) (Nat.le_of_ble_eq_true rfl) ?_
  intro T101 X101
  show Run _ _ _ _ _ _ _ _ _ _ _ _ T101 (mkF m 4 #[.val (.ref a)] [(.int (Int32.ofNat cs.length))])
  refine Run.via (fun _ => XS.iconst X101.at X101.ex rfl (X101.de uqd_4)) ?_
  show Run _ _ _ _ _ _ _ _ _ _ _ _ T101 (mkF m 5 #[.val (.ref a)] [(.int (1 : Int32)), (.int (Int32.ofNat cs.length))])
  by_cases q0 : (1 : Int32) < (Int32.ofNat cs.length)
  ·
    refine Run.via (fun _ => XS.icmpNo X101.at X101.ex rfl (X101.de uqd_5) rfl (tlt q0).2.2.2) ?_
    show Run _ _ _ _ _ _ _ _ _ _ _ _ T101 (mkF m 8 #[.val (.ref a)] [])
    have h1 : 1 < cs.length := (i32lt (a := 1) (by omega) (by omega)).mp q0
    refine Run.via (fun _ => XS.aloadN X101.at X101.ex rfl (X101.de uqd_8) rfl rfl) ?_
    show Run _ _ _ _ _ _ _ _ _ _ _ _ T101 (mkF m 9 #[.val (.ref a)] [(.ref a)])
    refine Run.ldcS hw hN X101 (cs := [(34 : Int32)]) (n := 4) (wd hw 49 rfl) hmH (by decide) (by decide) (by decide) uqd_9 (by decide) (by decide) (Nat.le_of_ble_eq_true rfl) (Nat.le_of_ble_eq_true rfl) ?_
    intro a102 T102 h102 L102 X102 K102 S102
    show Run _ _ _ _ _ _ _ _ _ _ _ _ T102 (mkF m 11 #[.val (.ref a)] [(.ref a102), (.ref a)])
    have S1 := S.keep K102
    have E1 := S1.1
    refine Run.callV X102 (y := (⟨"java/lang/String", "startsWith", "(Ljava/lang/String;)Z"⟩ : MethodName)) (W := 0) (con_s1 l hw hS hl S1 S102 (by omega) X102.old) E1 (wd hw 52 rfl) (wd hw 53 rfl) (wd hw 54 rfl) (wd hw 55 rfl) (wd hw 8 rfl) (wd hw 56 rfl) (by decide) pd__Ljava_lang_String__Z rfl (argsL := [(.ref a102)]) (rest := []) rfl (Nat.le_of_ble_eq_true rfl) rfl uqd_11 (by decide) (by decide) (Nat.le_of_ble_eq_true rfl) (Nat.le_of_ble_eq_true rfl) (nofun) (nofun) ?_
    intro v103 T103 h103 L103 q103 X103 XF103 K103
    obtain ⟨rfl, rfl⟩ := q103
    show Run _ _ _ _ _ _ _ _ _ _ _ _ T103 (mkF m 14 #[.val (.ref a)] [(.int (if cs.getD 0 0 = 34 then 1 else 0 : Int32))])
    by_cases q1 : (if cs.getD 0 0 = 34 then 1 else 0 : Int32) = (0 : Int32)
    ·
      refine Run.via (fun _ => XS.ifYes X103.at X103.ex rfl (pc0 := 14) (pc' := 40) rfl (X103.de uqd_14) rfl ((if0 _ _).trans (teq q1).1) (by decide) (by decide)) ?_
      show Run _ _ _ _ _ _ _ _ _ _ _ _ T103 (mkF m 40 #[.val (.ref a)] [])
      refine Run.via (fun _ => XS.aloadN X103.at X103.ex rfl (X103.de uqd_40) rfl rfl) ?_
      show Run _ _ _ _ _ _ _ _ _ _ _ _ T103 (mkF m 41 #[.val (.ref a)] [(.ref a)])
      exact Run.retA X103 (t := (.object "java/lang/String")) rfl rfl rfl uqd_41 (Nat.le_of_ble_eq_true rfl) (Nat.le_of_ble_eq_true rfl) (⟨a, rfl, by unfold unq; rw [if_neg (fun z => b_n q1 z.2.1)]; exact S1⟩) (nofun)
    ·
      refine Run.via (fun _ => XS.ifNo X103.at X103.ex rfl (X103.de uqd_14) rfl ((if0 _ _).trans (feq q1).1)) ?_
      show Run _ _ _ _ _ _ _ _ _ _ _ _ T103 (mkF m 17 #[.val (.ref a)] [])
      refine Run.via (fun _ => XS.aloadN X103.at X103.ex rfl (X103.de uqd_17) rfl rfl) ?_
      show Run _ _ _ _ _ _ _ _ _ _ _ _ T103 (mkF m 18 #[.val (.ref a)] [(.ref a)])
      refine Run.ldcS hw hN X103 (cs := [(34 : Int32)]) (n := 4) (wd hw 49 rfl) hmH (by decide) (by decide) (by decide) uqd_18 (by decide) (by decide) (Nat.le_of_ble_eq_true rfl) (Nat.le_of_ble_eq_true rfl) ?_
      intro a104 T104 h104 L104 X104 K104 S104
      show Run _ _ _ _ _ _ _ _ _ _ _ _ T104 (mkF m 20 #[.val (.ref a)] [(.ref a104), (.ref a)])
      have S2 := S1.keep K104
      have E2 := S2.1
      refine Run.callV X104 (y := (⟨"java/lang/String", "endsWith", "(Ljava/lang/String;)Z"⟩ : MethodName)) (W := 0) (con_ew l hw hS hl S2 S104 (by omega) X104.old) E2 (wd hw 73 rfl) (wd hw 74 rfl) (wd hw 75 rfl) (wd hw 76 rfl) (wd hw 8 rfl) (wd hw 77 rfl) (by decide) pd__Ljava_lang_String__Z rfl (argsL := [(.ref a104)]) (rest := []) rfl (Nat.le_of_ble_eq_true rfl) rfl uqd_20 (by decide) (by decide) (Nat.le_of_ble_eq_true rfl) (Nat.le_of_ble_eq_true rfl) (nofun) (nofun) ?_
      intro v105 T105 h105 L105 q105 X105 XF105 K105
      obtain ⟨rfl, rfl⟩ := q105
      show Run _ _ _ _ _ _ _ _ _ _ _ _ T105 (mkF m 23 #[.val (.ref a)] [(.int (if cs.getD (cs.length - 1) 0 = 34 then 1 else 0 : Int32))])
      by_cases q2 : (if cs.getD (cs.length - 1) 0 = 34 then 1 else 0 : Int32) = (0 : Int32)
      ·
        refine Run.via (fun _ => XS.ifYes X105.at X105.ex rfl (pc0 := 23) (pc' := 40) rfl (X105.de uqd_23) rfl ((if0 _ _).trans (teq q2).1) (by decide) (by decide)) ?_
        show Run _ _ _ _ _ _ _ _ _ _ _ _ T105 (mkF m 40 #[.val (.ref a)] [])
        refine Run.via (fun _ => XS.aloadN X105.at X105.ex rfl (X105.de uqd_40) rfl rfl) ?_
        show Run _ _ _ _ _ _ _ _ _ _ _ _ T105 (mkF m 41 #[.val (.ref a)] [(.ref a)])
        exact Run.retA X105 (t := (.object "java/lang/String")) rfl rfl rfl uqd_41 (Nat.le_of_ble_eq_true rfl) (Nat.le_of_ble_eq_true rfl) (⟨a, rfl, by unfold unq; rw [if_neg (fun z => b_n q2 z.2.2)]; exact S2⟩) (nofun)
      ·
        refine Run.via (fun _ => XS.ifNo X105.at X105.ex rfl (X105.de uqd_23) rfl ((if0 _ _).trans (feq q2).1)) ?_
        show Run _ _ _ _ _ _ _ _ _ _ _ _ T105 (mkF m 26 #[.val (.ref a)] [])
        refine Run.via (fun _ => XS.aloadN X105.at X105.ex rfl (X105.de uqd_26) rfl rfl) ?_
        show Run _ _ _ _ _ _ _ _ _ _ _ _ T105 (mkF m 27 #[.val (.ref a)] [(.ref a)])
        refine Run.via (fun _ => XS.iconst X105.at X105.ex rfl (X105.de uqd_27)) ?_
        show Run _ _ _ _ _ _ _ _ _ _ _ _ T105 (mkF m 28 #[.val (.ref a)] [(.int (1 : Int32)), (.ref a)])
        refine Run.via (fun _ => XS.aloadN X105.at X105.ex rfl (X105.de uqd_28) rfl rfl) ?_
        show Run _ _ _ _ _ _ _ _ _ _ _ _ T105 (mkF m 29 #[.val (.ref a)] [(.ref a), (.int (1 : Int32)), (.ref a)])
        refine Run.slen hw hS X105 (W := 2) S2 (wd hw 39 rfl) (wd hw 40 rfl) (wd hw 41 rfl) (wd hw 42 rfl) (wd hw 7 rfl) uqd_29 rfl (Nat.le_of_ble_eq_true rfl) (by decide) (by decide) (Nat.le_of_ble_eq_true rfl) (Nat.le_of_ble_eq_true rfl) ?_
        intro T106 X106
        show Run _ _ _ _ _ _ _ _ _ _ _ _ T106 (mkF m 32 #[.val (.ref a)] [(.int (Int32.ofNat cs.length)), (.int (1 : Int32)), (.ref a)])
        refine Run.via (fun _ => XS.iconst X106.at X106.ex rfl (X106.de uqd_32)) ?_
        show Run _ _ _ _ _ _ _ _ _ _ _ _ T106 (mkF m 33 #[.val (.ref a)] [(.int (1 : Int32)), (.int (Int32.ofNat cs.length)), (.int (1 : Int32)), (.ref a)])
        refine Run.via (fun _ => XS.isub X106.at X106.ex rfl (X106.de uqd_33) rfl) ?_
        show Run _ _ _ _ _ _ _ _ _ _ _ _ T106 (mkF m 34 #[.val (.ref a)] [(.int ((Int32.ofNat cs.length) - (1 : Int32))), (.int (1 : Int32)), (.ref a)])
        rw [show ((Int32.ofNat cs.length) - (1 : Int32)) = (Int32.ofNat (cs.length - 1)) from i32pred (by omega) (by omega)]
        show Run _ _ _ _ _ _ _ _ _ _ _ _ T106 (mkF m 34 #[.val (.ref a)] [(.int (Int32.ofNat (cs.length - 1))), (.int (1 : Int32)), (.ref a)])
        refine Run.callV X106 (y := (⟨"java/lang/String", "substring", "(II)Ljava/lang/String;"⟩ : MethodName)) (W := 0) (con_ss l hw hS hN hmL hl S2 (b := 1) (n := cs.length - 1) (by omega) (by omega) (by omega) X106.old) E2 (wd hw 78 rfl) (wd hw 79 rfl) (wd hw 80 rfl) (wd hw 81 rfl) (wd hw 8 rfl) (wd hw 82 rfl) (by decide) pd__II_Ljava_lang_String_ rfl (argsL := [(.int (1 : Int32)), (.int (Int32.ofNat (cs.length - 1)))]) (rest := []) rfl (Nat.le_of_ble_eq_true rfl) rfl uqd_34 (by decide) (by decide) (Nat.le_of_ble_eq_true rfl) (Nat.le_of_ble_eq_true rfl) (nofun) (nofun) ?_
        intro v107 T107 h107 L107 q107 X107 XF107 K107
        obtain ⟨x, rfl, S3⟩ := q107
        show Run _ _ _ _ _ _ _ _ _ _ _ _ T107 (mkF m 37 #[.val (.ref a)] [(.ref x)])
        refine Run.via (fun _ => XS.goto X107.at X107.ex rfl (pc0 := 37) (pc' := 41) rfl (X107.de uqd_37) (by decide) (by decide)) ?_
        show Run _ _ _ _ _ _ _ _ _ _ _ _ T107 (mkF m 41 #[.val (.ref a)] [(.ref x)])
        exact Run.retA X107 (t := (.object "java/lang/String")) rfl rfl rfl uqd_41 (Nat.le_of_ble_eq_true rfl) (Nat.le_of_ble_eq_true rfl) (⟨x, rfl, by unfold unq; rw [if_pos ⟨h1, b_y q1, b_y q2⟩]; exact S3⟩) (nofun)
  ·
    refine Run.via (fun _ => XS.icmpYes X101.at X101.ex rfl (pc0 := 5) (pc' := 40) rfl (X101.de uqd_5) rfl (flt q0).2.2.2 (by decide) (by decide)) ?_
    show Run _ _ _ _ _ _ _ _ _ _ _ _ T101 (mkF m 40 #[.val (.ref a)] [])
    refine Run.via (fun _ => XS.aloadN X101.at X101.ex rfl (X101.de uqd_40) rfl rfl) ?_
    show Run _ _ _ _ _ _ _ _ _ _ _ _ T101 (mkF m 41 #[.val (.ref a)] [(.ref a)])
    exact Run.retA X101 (t := (.object "java/lang/String")) rfl rfl rfl uqd_41 (Nat.le_of_ble_eq_true rfl) (Nat.le_of_ble_eq_true rfl) (⟨a, rfl, by unfold unq; rw [if_neg (fun z => q0 ((i32lt (a := 1) (by omega) (by omega)).mpr z.1))]; exact S⟩) (nofun)
-- part con_m00
theorem m00d_0 : decode method_2_code 0 = .ok (.iload_n 2, 1) := by decide +kernel
theorem m00d_1 : decode method_2_code 1 = .ok (.ifCond .gt 14, 3) := by decide +kernel
theorem m00d_4 : decode method_2_code 4 = .ok (.new 7, 3) := by decide +kernel
theorem m00d_7 : decode method_2_code 7 = .ok (.dup, 1) := by decide +kernel
theorem m00d_8 : decode method_2_code 8 = .ok (.iconst 0, 1) := by decide +kernel
theorem m00d_9 : decode method_2_code 9 = .ok (.newarray .char, 2) := by decide +kernel
theorem m00d_11 : decode method_2_code 11 = .ok (.invokespecial 9, 3) := by decide +kernel
theorem m00d_14 : decode method_2_code 14 = .ok (.areturn, 1) := by decide +kernel
set_option maxRecDepth 65536 in
set_option maxHeartbeats 40000000 in
theorem con_m00 (l : Launch) {Z : State} {a0 : Array Value} {EL : List (String × Nat)} {h0 : Heap} (hw : ∀ d ∈ tables_1, d.before a0 Z = true) (hS : Sets Z) (hN : NW = false) (hm : ("java/lang/String", 7) ∈ EL) {t : Addr} {d0 d1 d2 d3 : Int32} (r0 : ¬ d0 < 0 ∧ ¬ (255 : Int32) < d0) (r1 : ¬ d1 < 0 ∧ ¬ (255 : Int32) < d1) (r2 : ¬ d2 < 0 ∧ ¬ (255 : Int32) < d2) (r3 : ¬ d3 < 0 ∧ ¬ (255 : Int32) < d3) (A : Arc .char Z h0 t [d0, d1, d2, d3]) (O : Ext Z.heap h0) : Con l Z a0 EL false (⟨"com/example/sliceworks/sliceworks/web/HeadersUnquotedPinLaw", "make", "([CII)Ljava/lang/String;"⟩ : MethodName) method_2_code 3 (some (.object "java/lang/String")) ({ frames := 5, cells := 6, slots := 12, locals := 75 } : Room) [] [] #[(.ref t), (.int (0 : Int32)), (.int (0 : Int32))] h0 (fun v h => ∃ x, v = some (.ref x) ∧ Str Z h x []) := by
  refine Con.enter (plainFor_of_name (by first | (simp [plainName, overriddenIn]; done) | decide +kernel)) O ?_
  intro p e s m below meth c T0 X0
  rw [show entryFrame m #[(.ref t), (.int (0 : Int32)), (.int (0 : Int32))] 3 = (mkF m 0 #[.val (.ref t), .val (.int (0 : Int32)), .val (.int (0 : Int32))] []) from by first | (simp [entryFrame, mkF, argsToLocals, Value.category]; done) | rfl]
  have ho := O.1
  have hlt := A.lt
  refine Run.via (fun _ => XS.iloadN X0.at X0.ex rfl (X0.de m00d_0) rfl) ?_
  show Run _ _ _ _ _ _ _ _ _ _ _ _ T0 (mkF m 1 #[.val (.ref t), .val (.int (0 : Int32)), .val (.int (0 : Int32))] [(.int (0 : Int32))])
  refine Run.via (fun _ => XS.ifNo X0.at X0.ex rfl (X0.de m00d_1) rfl ((if0 _ _).trans (flt (by decide : ¬ ((0 : Int32) < (0 : Int32)))).2.2.1)) ?_
  show Run _ _ _ _ _ _ _ _ _ _ _ _ T0 (mkF m 4 #[.val (.ref t), .val (.int (0 : Int32)), .val (.int (0 : Int32))] [])
  have u101 := X0.kp.1
  have ho101 := O.1
  refine Run.new X0 (wd hw 6 rfl) (wd hw 7 rfl) (wd hw 8 rfl) m00d_4 (Nat.le_of_ble_eq_true rfl) (Nat.le_of_ble_eq_true rfl) ?_
  intro T102 h102 x102 g102 X102 K102 z102 E102 D102
  show Run _ _ _ _ _ _ _ _ _ _ _ _ T102 (mkF m 7 #[.val (.ref t), .val (.int (0 : Int32)), .val (.int (0 : Int32))] [(.ref x102)])
  have Q102 := A.keep K102 nin0
  have G102 : Raw Z h102 x102 := ⟨E102, D102 (Or.inr (wd hw 34 rfl)) (ty := (.array .byte)) (by decide), D102 (Or.inr (wd hw 32 rfl)) (ty := .byte) (by decide)⟩
  have s102 := K102.1
  refine Run.via (fun _ => XS.dup X102.at X102.ex rfl (X102.de m00d_7) rfl rfl) ?_
  show Run _ _ _ _ _ _ _ _ _ _ _ _ T102 (mkF m 8 #[.val (.ref t), .val (.int (0 : Int32)), .val (.int (0 : Int32))] [(.ref x102), (.ref x102)])
  refine Run.via (fun _ => XS.iconst X102.at X102.ex rfl (X102.de m00d_8)) ?_
  show Run _ _ _ _ _ _ _ _ _ _ _ _ T102 (mkF m 9 #[.val (.ref t), .val (.int (0 : Int32)), .val (.int (0 : Int32))] [(.int (0 : Int32)), (.ref x102), (.ref x102)])
  refine Run.newarr X102 (aty := .char) (n := 0) (cap := 0) (wd hw 1 rfl) rfl m00d_9 rfl (Nat.le_refl _) (by decide) (Nat.le_of_ble_eq_true rfl) (Nat.le_of_ble_eq_true rfl) ?_
  intro T103 h103 x103 g103 X103 K103 z103 A103
  have A103 : Arc .char Z h103 x103 [] := A103
  show Run _ _ _ _ _ _ _ _ _ _ _ _ T103 (mkF m 11 #[.val (.ref t), .val (.int (0 : Int32)), .val (.int (0 : Int32))] [(.ref x103), (.ref x102), (.ref x102)])
  have s103 := K103.1
  have G103 := G102.keep K103 nin0
  have Q103 := Q102.keep K103 nin0
  refine Run.callN X103 (y := (⟨"java/lang/String", "<init>", "([C)V"⟩ : MethodName)) (W := 1) (con_n1e l hw hN hm G103 A103 (by omega) X103.old) rfl (wd hw 9 rfl) (wd hw 10 rfl) (wd hw 8 rfl) (wd hw 11 rfl) (by decide) pd___C_V rfl (argsL := [(.ref x103)]) (rest := [(.ref x102)]) rfl (Nat.le_of_ble_eq_true rfl) rfl m00d_11 (by decide) (by decide) (Nat.le_of_ble_eq_true rfl) (Nat.le_of_ble_eq_true rfl) (fun y hy => by cases List.mem_singleton.mp hy; exact ⟨Or.inr (by omega), by omega⟩) (fun y hy => by cases List.mem_singleton.mp hy; simp) ?_
  intro v104 T104 h104 L104 q104 X104 XF104 K104
  obtain ⟨rfl, S104⟩ := q104
  show Run _ _ _ _ _ _ _ _ _ _ _ _ T104 (mkF m 14 #[.val (.ref t), .val (.int (0 : Int32)), .val (.int (0 : Int32))] [(.ref x102)])
  exact Run.retA X104 (t := (.object "java/lang/String")) rfl rfl rfl m00d_14 (Nat.le_of_ble_eq_true rfl) (Nat.le_of_ble_eq_true rfl) (⟨x102, rfl, S104⟩) (nofun)
-- part con_m01
theorem m01d_0 : decode method_2_code 0 = .ok (.iload_n 2, 1) := by decide +kernel
theorem m01d_1 : decode method_2_code 1 = .ok (.ifCond .gt 14, 3) := by decide +kernel
theorem m01d_15 : decode method_2_code 15 = .ok (.iload_n 2, 1) := by decide +kernel
theorem m01d_16 : decode method_2_code 16 = .ok (.iconst 1, 1) := by decide +kernel
theorem m01d_17 : decode method_2_code 17 = .ok (.if_icmp .ne 20, 3) := by decide +kernel
theorem m01d_20 : decode method_2_code 20 = .ok (.new 7, 3) := by decide +kernel
theorem m01d_23 : decode method_2_code 23 = .ok (.dup, 1) := by decide +kernel
theorem m01d_24 : decode method_2_code 24 = .ok (.iconst 1, 1) := by decide +kernel
theorem m01d_25 : decode method_2_code 25 = .ok (.newarray .char, 2) := by decide +kernel
theorem m01d_27 : decode method_2_code 27 = .ok (.dup, 1) := by decide +kernel
theorem m01d_28 : decode method_2_code 28 = .ok (.iconst 0, 1) := by decide +kernel
theorem m01d_29 : decode method_2_code 29 = .ok (.aload_n 0, 1) := by decide +kernel
theorem m01d_30 : decode method_2_code 30 = .ok (.iload_n 1, 1) := by decide +kernel
theorem m01d_31 : decode method_2_code 31 = .ok (.caload, 1) := by decide +kernel
theorem m01d_32 : decode method_2_code 32 = .ok (.castore, 1) := by decide +kernel
theorem m01d_33 : decode method_2_code 33 = .ok (.invokespecial 9, 3) := by decide +kernel
theorem m01d_36 : decode method_2_code 36 = .ok (.areturn, 1) := by decide +kernel
set_option maxRecDepth 65536 in
set_option maxHeartbeats 40000000 in
theorem con_m01 (l : Launch) {Z : State} {a0 : Array Value} {EL : List (String × Nat)} {h0 : Heap} (hw : ∀ d ∈ tables_1, d.before a0 Z = true) (hS : Sets Z) (hN : NW = false) (hm : ("java/lang/String", 7) ∈ EL) {t : Addr} {d0 d1 d2 d3 : Int32} (r0 : ¬ d0 < 0 ∧ ¬ (255 : Int32) < d0) (r1 : ¬ d1 < 0 ∧ ¬ (255 : Int32) < d1) (r2 : ¬ d2 < 0 ∧ ¬ (255 : Int32) < d2) (r3 : ¬ d3 < 0 ∧ ¬ (255 : Int32) < d3) (A : Arc .char Z h0 t [d0, d1, d2, d3]) (O : Ext Z.heap h0) : Con l Z a0 EL false (⟨"com/example/sliceworks/sliceworks/web/HeadersUnquotedPinLaw", "make", "([CII)Ljava/lang/String;"⟩ : MethodName) method_2_code 3 (some (.object "java/lang/String")) ({ frames := 5, cells := 6, slots := 12, locals := 75 } : Room) [] [] #[(.ref t), (.int (0 : Int32)), (.int (1 : Int32))] h0 (fun v h => ∃ x, v = some (.ref x) ∧ Str Z h x [d0]) := by
  refine Con.enter (plainFor_of_name (by first | (simp [plainName, overriddenIn]; done) | decide +kernel)) O ?_
  intro p e s m below meth c T0 X0
  rw [show entryFrame m #[(.ref t), (.int (0 : Int32)), (.int (1 : Int32))] 3 = (mkF m 0 #[.val (.ref t), .val (.int (0 : Int32)), .val (.int (1 : Int32))] []) from by first | (simp [entryFrame, mkF, argsToLocals, Value.category]; done) | rfl]
  have ho := O.1
  have hlt := A.lt
  refine Run.via (fun _ => XS.iloadN X0.at X0.ex rfl (X0.de m01d_0) rfl) ?_
  show Run _ _ _ _ _ _ _ _ _ _ _ _ T0 (mkF m 1 #[.val (.ref t), .val (.int (0 : Int32)), .val (.int (1 : Int32))] [(.int (1 : Int32))])
  refine Run.via (fun _ => XS.ifYes X0.at X0.ex rfl (pc0 := 1) (pc' := 15) rfl (X0.de m01d_1) rfl ((if0 _ _).trans (tlt (by decide : ((0 : Int32) < (1 : Int32)))).2.2.1) (by decide) (by decide)) ?_
  show Run _ _ _ _ _ _ _ _ _ _ _ _ T0 (mkF m 15 #[.val (.ref t), .val (.int (0 : Int32)), .val (.int (1 : Int32))] [])
  refine Run.via (fun _ => XS.iloadN X0.at X0.ex rfl (X0.de m01d_15) rfl) ?_
  show Run _ _ _ _ _ _ _ _ _ _ _ _ T0 (mkF m 16 #[.val (.ref t), .val (.int (0 : Int32)), .val (.int (1 : Int32))] [(.int (1 : Int32))])
  refine Run.via (fun _ => XS.iconst X0.at X0.ex rfl (X0.de m01d_16)) ?_
  show Run _ _ _ _ _ _ _ _ _ _ _ _ T0 (mkF m 17 #[.val (.ref t), .val (.int (0 : Int32)), .val (.int (1 : Int32))] [(.int (1 : Int32)), (.int (1 : Int32))])
  refine Run.via (fun _ => XS.icmpNo X0.at X0.ex rfl (X0.de m01d_17) rfl (teq (by decide : ((1 : Int32) = (1 : Int32)))).2) ?_
  show Run _ _ _ _ _ _ _ _ _ _ _ _ T0 (mkF m 20 #[.val (.ref t), .val (.int (0 : Int32)), .val (.int (1 : Int32))] [])
  have u101 := X0.kp.1
  have ho101 := O.1
  refine Run.new X0 (wd hw 6 rfl) (wd hw 7 rfl) (wd hw 8 rfl) m01d_20 (Nat.le_of_ble_eq_true rfl) (Nat.le_of_ble_eq_true rfl) ?_
  intro T102 h102 x102 g102 X102 K102 z102 E102 D102
  show Run _ _ _ _ _ _ _ _ _ _ _ _ T102 (mkF m 23 #[.val (.ref t), .val (.int (0 : Int32)), .val (.int (1 : Int32))] [(.ref x102)])
  have Q102 := A.keep K102 nin0
  have G102 : Raw Z h102 x102 := ⟨E102, D102 (Or.inr (wd hw 34 rfl)) (ty := (.array .byte)) (by decide), D102 (Or.inr (wd hw 32 rfl)) (ty := .byte) (by decide)⟩
  have s102 := K102.1
  refine Run.via (fun _ => XS.dup X102.at X102.ex rfl (X102.de m01d_23) rfl rfl) ?_
  show Run _ _ _ _ _ _ _ _ _ _ _ _ T102 (mkF m 24 #[.val (.ref t), .val (.int (0 : Int32)), .val (.int (1 : Int32))] [(.ref x102), (.ref x102)])
  refine Run.via (fun _ => XS.iconst X102.at X102.ex rfl (X102.de m01d_24)) ?_
  show Run _ _ _ _ _ _ _ _ _ _ _ _ T102 (mkF m 25 #[.val (.ref t), .val (.int (0 : Int32)), .val (.int (1 : Int32))] [(.int (1 : Int32)), (.ref x102), (.ref x102)])
  refine Run.newarr X102 (aty := .char) (n := 1) (cap := 1) (wd hw 1 rfl) rfl m01d_25 rfl (Nat.le_refl _) (by decide) (Nat.le_of_ble_eq_true rfl) (Nat.le_of_ble_eq_true rfl) ?_
  intro T103 h103 x103 g103 X103 K103 z103 A103
  have A103 : Arc .char Z h103 x103 [(0 : Int32)] := A103
  show Run _ _ _ _ _ _ _ _ _ _ _ _ T103 (mkF m 27 #[.val (.ref t), .val (.int (0 : Int32)), .val (.int (1 : Int32))] [(.ref x103), (.ref x102), (.ref x102)])
  have s103 := K103.1
  have G103 := G102.keep K103 nin0
  have Q103 := Q102.keep K103 nin0
  refine Run.via (fun _ => XS.dup X103.at X103.ex rfl (X103.de m01d_27) rfl rfl) ?_
  show Run _ _ _ _ _ _ _ _ _ _ _ _ T103 (mkF m 28 #[.val (.ref t), .val (.int (0 : Int32)), .val (.int (1 : Int32))] [(.ref x103), (.ref x103), (.ref x102), (.ref x102)])
  refine Run.via (fun _ => XS.iconst X103.at X103.ex rfl (X103.de m01d_28)) ?_
  show Run _ _ _ _ _ _ _ _ _ _ _ _ T103 (mkF m 29 #[.val (.ref t), .val (.int (0 : Int32)), .val (.int (1 : Int32))] [(.int (0 : Int32)), (.ref x103), (.ref x103), (.ref x102), (.ref x102)])
  refine Run.via (fun _ => XS.aloadN X103.at X103.ex rfl (X103.de m01d_29) rfl rfl) ?_
  show Run _ _ _ _ _ _ _ _ _ _ _ _ T103 (mkF m 30 #[.val (.ref t), .val (.int (0 : Int32)), .val (.int (1 : Int32))] [(.ref t), (.int (0 : Int32)), (.ref x103), (.ref x103), (.ref x102), (.ref x102)])
  refine Run.via (fun _ => XS.iloadN X103.at X103.ex rfl (X103.de m01d_30) rfl) ?_
  show Run _ _ _ _ _ _ _ _ _ _ _ _ T103 (mkF m 31 #[.val (.ref t), .val (.int (0 : Int32)), .val (.int (1 : Int32))] [(.int (0 : Int32)), (.ref t), (.int (0 : Int32)), (.ref x103), (.ref x103), (.ref x102), (.ref x102)])
  refine Run.caload X103 (i := 0) Q103 rfl (Nat.le_of_ble_eq_true rfl) m01d_31 ?_
  show Run _ _ _ _ _ _ _ _ _ _ _ _ T103 (mkF m 32 #[.val (.ref t), .val (.int (0 : Int32)), .val (.int (1 : Int32))] [(.int d0), (.int (0 : Int32)), (.ref x103), (.ref x103), (.ref x102), (.ref x102)])
  refine Run.castore X103 (i := 0) (v' := d0) A103 rfl (Nat.le_of_ble_eq_true rfl) (nar_lat r0) (Or.inr (by omega)) (by omega) m01d_32 ?_
  intro T104 h104 L104 X104 K104 z104 A104
  have A104 : Arc .char Z h104 x103 [d0] := A104
  show Run _ _ _ _ _ _ _ _ _ _ _ _ T104 (mkF m 33 #[.val (.ref t), .val (.int (0 : Int32)), .val (.int (1 : Int32))] [(.ref x103), (.ref x102), (.ref x102)])
  have G104 := G103.keep K104 (ninS (neA (by omega)) nin0)
  have Q104 := Q103.keep K104 (ninS (neA (by omega)) nin0)
  have hcs105 : ∀ c ∈ ([d0] : List Int32), ¬ c < 0 ∧ ¬ (255 : Int32) < c := lsS r0 (ls0)
  refine Run.initStr hw hS X104 (cs := [d0]) (W := 1) G104 A104 hcs105 (Nat.le_of_ble_eq_true rfl) (wd hw 9 rfl) (wd hw 10 rfl) (wd hw 7 rfl) m01d_33 rfl (Or.inr (by omega)) (by omega) (by simp) (Nat.le_of_ble_eq_true rfl) (by decide) (by decide) (Nat.le_of_ble_eq_true rfl) (Nat.le_of_ble_eq_true rfl) ?_
  intro T105 h105 L105 X105 K105 S105
  show Run _ _ _ _ _ _ _ _ _ _ _ _ T105 (mkF m 36 #[.val (.ref t), .val (.int (0 : Int32)), .val (.int (1 : Int32))] [(.ref x102)])
  exact Run.retA X105 (t := (.object "java/lang/String")) rfl rfl rfl m01d_36 (Nat.le_of_ble_eq_true rfl) (Nat.le_of_ble_eq_true rfl) (⟨x102, rfl, S105⟩) (nofun)
-- part con_m02
theorem m02d_0 : decode method_2_code 0 = .ok (.iload_n 2, 1) := by decide +kernel
theorem m02d_1 : decode method_2_code 1 = .ok (.ifCond .gt 14, 3) := by decide +kernel
theorem m02d_15 : decode method_2_code 15 = .ok (.iload_n 2, 1) := by decide +kernel
theorem m02d_16 : decode method_2_code 16 = .ok (.iconst 1, 1) := by decide +kernel
theorem m02d_17 : decode method_2_code 17 = .ok (.if_icmp .ne 20, 3) := by decide +kernel
theorem m02d_37 : decode method_2_code 37 = .ok (.iload_n 2, 1) := by decide +kernel
theorem m02d_38 : decode method_2_code 38 = .ok (.iconst 2, 1) := by decide +kernel
theorem m02d_39 : decode method_2_code 39 = .ok (.if_icmp .ne 28, 3) := by decide +kernel
theorem m02d_42 : decode method_2_code 42 = .ok (.new 7, 3) := by decide +kernel
theorem m02d_45 : decode method_2_code 45 = .ok (.dup, 1) := by decide +kernel
theorem m02d_46 : decode method_2_code 46 = .ok (.iconst 2, 1) := by decide +kernel
theorem m02d_47 : decode method_2_code 47 = .ok (.newarray .char, 2) := by decide +kernel
theorem m02d_49 : decode method_2_code 49 = .ok (.dup, 1) := by decide +kernel
theorem m02d_50 : decode method_2_code 50 = .ok (.iconst 0, 1) := by decide +kernel
theorem m02d_51 : decode method_2_code 51 = .ok (.aload_n 0, 1) := by decide +kernel
theorem m02d_52 : decode method_2_code 52 = .ok (.iload_n 1, 1) := by decide +kernel
theorem m02d_53 : decode method_2_code 53 = .ok (.caload, 1) := by decide +kernel
theorem m02d_54 : decode method_2_code 54 = .ok (.castore, 1) := by decide +kernel
theorem m02d_55 : decode method_2_code 55 = .ok (.dup, 1) := by decide +kernel
theorem m02d_56 : decode method_2_code 56 = .ok (.iconst 1, 1) := by decide +kernel
theorem m02d_57 : decode method_2_code 57 = .ok (.aload_n 0, 1) := by decide +kernel
theorem m02d_58 : decode method_2_code 58 = .ok (.iload_n 1, 1) := by decide +kernel
theorem m02d_59 : decode method_2_code 59 = .ok (.iconst 1, 1) := by decide +kernel
theorem m02d_60 : decode method_2_code 60 = .ok (.iadd, 1) := by decide +kernel
theorem m02d_61 : decode method_2_code 61 = .ok (.caload, 1) := by decide +kernel
theorem m02d_62 : decode method_2_code 62 = .ok (.castore, 1) := by decide +kernel
theorem m02d_63 : decode method_2_code 63 = .ok (.invokespecial 9, 3) := by decide +kernel
theorem m02d_66 : decode method_2_code 66 = .ok (.areturn, 1) := by decide +kernel
set_option maxRecDepth 65536 in
set_option maxHeartbeats 40000000 in
theorem con_m02 (l : Launch) {Z : State} {a0 : Array Value} {EL : List (String × Nat)} {h0 : Heap} (hw : ∀ d ∈ tables_1, d.before a0 Z = true) (hS : Sets Z) (hN : NW = false) (hm : ("java/lang/String", 7) ∈ EL) {t : Addr} {d0 d1 d2 d3 : Int32} (r0 : ¬ d0 < 0 ∧ ¬ (255 : Int32) < d0) (r1 : ¬ d1 < 0 ∧ ¬ (255 : Int32) < d1) (r2 : ¬ d2 < 0 ∧ ¬ (255 : Int32) < d2) (r3 : ¬ d3 < 0 ∧ ¬ (255 : Int32) < d3) (A : Arc .char Z h0 t [d0, d1, d2, d3]) (O : Ext Z.heap h0) : Con l Z a0 EL false (⟨"com/example/sliceworks/sliceworks/web/HeadersUnquotedPinLaw", "make", "([CII)Ljava/lang/String;"⟩ : MethodName) method_2_code 3 (some (.object "java/lang/String")) ({ frames := 5, cells := 6, slots := 12, locals := 75 } : Room) [] [] #[(.ref t), (.int (0 : Int32)), (.int (2 : Int32))] h0 (fun v h => ∃ x, v = some (.ref x) ∧ Str Z h x [d0, d1]) := by
  refine Con.enter (plainFor_of_name (by first | (simp [plainName, overriddenIn]; done) | decide +kernel)) O ?_
  intro p e s m below meth c T0 X0
  rw [show entryFrame m #[(.ref t), (.int (0 : Int32)), (.int (2 : Int32))] 3 = (mkF m 0 #[.val (.ref t), .val (.int (0 : Int32)), .val (.int (2 : Int32))] []) from by first | (simp [entryFrame, mkF, argsToLocals, Value.category]; done) | rfl]
  have ho := O.1
  have hlt := A.lt
  refine Run.via (fun _ => XS.iloadN X0.at X0.ex rfl (X0.de m02d_0) rfl) ?_
  show Run _ _ _ _ _ _ _ _ _ _ _ _ T0 (mkF m 1 #[.val (.ref t), .val (.int (0 : Int32)), .val (.int (2 : Int32))] [(.int (2 : Int32))])
  refine Run.via (fun _ => XS.ifYes X0.at X0.ex rfl (pc0 := 1) (pc' := 15) rfl (X0.de m02d_1) rfl ((if0 _ _).trans (tlt (by decide : ((0 : Int32) < (2 : Int32)))).2.2.1) (by decide) (by decide)) ?_
  show Run _ _ _ _ _ _ _ _ _ _ _ _ T0 (mkF m 15 #[.val (.ref t), .val (.int (0 : Int32)), .val (.int (2 : Int32))] [])
  refine Run.via (fun _ => XS.iloadN X0.at X0.ex rfl (X0.de m02d_15) rfl) ?_
  show Run _ _ _ _ _ _ _ _ _ _ _ _ T0 (mkF m 16 #[.val (.ref t), .val (.int (0 : Int32)), .val (.int (2 : Int32))] [(.int (2 : Int32))])
  refine Run.via (fun _ => XS.iconst X0.at X0.ex rfl (X0.de m02d_16)) ?_
  show Run _ _ _ _ _ _ _ _ _ _ _ _ T0 (mkF m 17 #[.val (.ref t), .val (.int (0 : Int32)), .val (.int (2 : Int32))] [(.int (1 : Int32)), (.int (2 : Int32))])
  refine Run.via (fun _ => XS.icmpYes X0.at X0.ex rfl (pc0 := 17) (pc' := 37) rfl (X0.de m02d_17) rfl (feq (by decide : ¬ ((2 : Int32) = (1 : Int32)))).2 (by decide) (by decide)) ?_
  show Run _ _ _ _ _ _ _ _ _ _ _ _ T0 (mkF m 37 #[.val (.ref t), .val (.int (0 : Int32)), .val (.int (2 : Int32))] [])
  refine Run.via (fun _ => XS.iloadN X0.at X0.ex rfl (X0.de m02d_37) rfl) ?_
  show Run _ _ _ _ _ _ _ _ _ _ _ _ T0 (mkF m 38 #[.val (.ref t), .val (.int (0 : Int32)), .val (.int (2 : Int32))] [(.int (2 : Int32))])
  refine Run.via (fun _ => XS.iconst X0.at X0.ex rfl (X0.de m02d_38)) ?_
  show Run _ _ _ _ _ _ _ _ _ _ _ _ T0 (mkF m 39 #[.val (.ref t), .val (.int (0 : Int32)), .val (.int (2 : Int32))] [(.int (2 : Int32)), (.int (2 : Int32))])
  refine Run.via (fun _ => XS.icmpNo X0.at X0.ex rfl (X0.de m02d_39) rfl (teq (by decide : ((2 : Int32) = (2 : Int32)))).2) ?_
  show Run _ _ _ _ _ _ _ _ _ _ _ _ T0 (mkF m 42 #[.val (.ref t), .val (.int (0 : Int32)), .val (.int (2 : Int32))] [])
  have u101 := X0.kp.1
  have ho101 := O.1
  refine Run.new X0 (wd hw 6 rfl) (wd hw 7 rfl) (wd hw 8 rfl) m02d_42 (Nat.le_of_ble_eq_true rfl) (Nat.le_of_ble_eq_true rfl) ?_
  intro T102 h102 x102 g102 X102 K102 z102 E102 D102
  show Run _ _ _ _ _ _ _ _ _ _ _ _ T102 (mkF m 45 #[.val (.ref t), .val (.int (0 : Int32)), .val (.int (2 : Int32))] [(.ref x102)])
  have Q102 := A.keep K102 nin0
  have G102 : Raw Z h102 x102 := ⟨E102, D102 (Or.inr (wd hw 34 rfl)) (ty := (.array .byte)) (by decide), D102 (Or.inr (wd hw 32 rfl)) (ty := .byte) (by decide)⟩
  have s102 := K102.1
  refine Run.via (fun _ => XS.dup X102.at X102.ex rfl (X102.de m02d_45) rfl rfl) ?_
  show Run _ _ _ _ _ _ _ _ _ _ _ _ T102 (mkF m 46 #[.val (.ref t), .val (.int (0 : Int32)), .val (.int (2 : Int32))] [(.ref x102), (.ref x102)])
  refine Run.via (fun _ => XS.iconst X102.at X102.ex rfl (X102.de m02d_46)) ?_
  show Run _ _ _ _ _ _ _ _ _ _ _ _ T102 (mkF m 47 #[.val (.ref t), .val (.int (0 : Int32)), .val (.int (2 : Int32))] [(.int (2 : Int32)), (.ref x102), (.ref x102)])
  refine Run.newarr X102 (aty := .char) (n := 2) (cap := 2) (wd hw 1 rfl) rfl m02d_47 rfl (Nat.le_refl _) (by decide) (Nat.le_of_ble_eq_true rfl) (Nat.le_of_ble_eq_true rfl) ?_
  intro T103 h103 x103 g103 X103 K103 z103 A103
  have A103 : Arc .char Z h103 x103 [(0 : Int32), (0 : Int32)] := A103
  show Run _ _ _ _ _ _ _ _ _ _ _ _ T103 (mkF m 49 #[.val (.ref t), .val (.int (0 : Int32)), .val (.int (2 : Int32))] [(.ref x103), (.ref x102), (.ref x102)])
  have s103 := K103.1
  have G103 := G102.keep K103 nin0
  have Q103 := Q102.keep K103 nin0
  refine Run.via (fun _ => XS.dup X103.at X103.ex rfl (X103.de m02d_49) rfl rfl) ?_
  show Run _ _ _ _ _ _ _ _ _ _ _ _ T103 (mkF m 50 #[.val (.ref t), .val (.int (0 : Int32)), .val (.int (2 : Int32))] [(.ref x103), (.ref x103), (.ref x102), (.ref x102)])
  refine Run.via (fun _ => XS.iconst X103.at X103.ex rfl (X103.de m02d_50)) ?_
  show Run _ _ _ _ _ _ _ _ _ _ _ _ T103 (mkF m 51 #[.val (.ref t), .val (.int (0 : Int32)), .val (.int (2 : Int32))] [(.int (0 : Int32)), (.ref x103), (.ref x103), (.ref x102), (.ref x102)])
  refine Run.via (fun _ => XS.aloadN X103.at X103.ex rfl (X103.de m02d_51) rfl rfl) ?_
  show Run _ _ _ _ _ _ _ _ _ _ _ _ T103 (mkF m 52 #[.val (.ref t), .val (.int (0 : Int32)), .val (.int (2 : Int32))] [(.ref t), (.int (0 : Int32)), (.ref x103), (.ref x103), (.ref x102), (.ref x102)])
  refine Run.via (fun _ => XS.iloadN X103.at X103.ex rfl (X103.de m02d_52) rfl) ?_
  show Run _ _ _ _ _ _ _ _ _ _ _ _ T103 (mkF m 53 #[.val (.ref t), .val (.int (0 : Int32)), .val (.int (2 : Int32))] [(.int (0 : Int32)), (.ref t), (.int (0 : Int32)), (.ref x103), (.ref x103), (.ref x102), (.ref x102)])
  refine Run.caload X103 (i := 0) Q103 rfl (Nat.le_of_ble_eq_true rfl) m02d_53 ?_
  show Run _ _ _ _ _ _ _ _ _ _ _ _ T103 (mkF m 54 #[.val (.ref t), .val (.int (0 : Int32)), .val (.int (2 : Int32))] [(.int d0), (.int (0 : Int32)), (.ref x103), (.ref x103), (.ref x102), (.ref x102)])
  refine Run.castore X103 (i := 0) (v' := d0) A103 rfl (Nat.le_of_ble_eq_true rfl) (nar_lat r0) (Or.inr (by omega)) (by omega) m02d_54 ?_
  intro T104 h104 L104 X104 K104 z104 A104
  have A104 : Arc .char Z h104 x103 [d0, (0 : Int32)] := A104
  show Run _ _ _ _ _ _ _ _ _ _ _ _ T104 (mkF m 55 #[.val (.ref t), .val (.int (0 : Int32)), .val (.int (2 : Int32))] [(.ref x103), (.ref x102), (.ref x102)])
  have G104 := G103.keep K104 (ninS (neA (by omega)) nin0)
  have Q104 := Q103.keep K104 (ninS (neA (by omega)) nin0)
  refine Run.via (fun _ => XS.dup X104.at X104.ex rfl (X104.de m02d_55) rfl rfl) ?_
  show Run _ _ _ _ _ _ _ _ _ _ _ _ T104 (mkF m 56 #[.val (.ref t), .val (.int (0 : Int32)), .val (.int (2 : Int32))] [(.ref x103), (.ref x103), (.ref x102), (.ref x102)])
  refine Run.via (fun _ => XS.iconst X104.at X104.ex rfl (X104.de m02d_56)) ?_
  show Run _ _ _ _ _ _ _ _ _ _ _ _ T104 (mkF m 57 #[.val (.ref t), .val (.int (0 : Int32)), .val (.int (2 : Int32))] [(.int (1 : Int32)), (.ref x103), (.ref x103), (.ref x102), (.ref x102)])
  refine Run.via (fun _ => XS.aloadN X104.at X104.ex rfl (X104.de m02d_57) rfl rfl) ?_
  show Run _ _ _ _ _ _ _ _ _ _ _ _ T104 (mkF m 58 #[.val (.ref t), .val (.int (0 : Int32)), .val (.int (2 : Int32))] [(.ref t), (.int (1 : Int32)), (.ref x103), (.ref x103), (.ref x102), (.ref x102)])
  refine Run.via (fun _ => XS.iloadN X104.at X104.ex rfl (X104.de m02d_58) rfl) ?_
  show Run _ _ _ _ _ _ _ _ _ _ _ _ T104 (mkF m 59 #[.val (.ref t), .val (.int (0 : Int32)), .val (.int (2 : Int32))] [(.int (0 : Int32)), (.ref t), (.int (1 : Int32)), (.ref x103), (.ref x103), (.ref x102), (.ref x102)])
  refine Run.via (fun _ => XS.iconst X104.at X104.ex rfl (X104.de m02d_59)) ?_
  show Run _ _ _ _ _ _ _ _ _ _ _ _ T104 (mkF m 60 #[.val (.ref t), .val (.int (0 : Int32)), .val (.int (2 : Int32))] [(.int (1 : Int32)), (.int (0 : Int32)), (.ref t), (.int (1 : Int32)), (.ref x103), (.ref x103), (.ref x102), (.ref x102)])
  refine Run.via (fun _ => XS.iadd X104.at X104.ex rfl (X104.de m02d_60) rfl) ?_
  show Run _ _ _ _ _ _ _ _ _ _ _ _ T104 (mkF m 61 #[.val (.ref t), .val (.int (0 : Int32)), .val (.int (2 : Int32))] [(.int (1 : Int32)), (.ref t), (.int (1 : Int32)), (.ref x103), (.ref x103), (.ref x102), (.ref x102)])
  refine Run.caload X104 (i := 1) Q104 rfl (Nat.le_of_ble_eq_true rfl) m02d_61 ?_
  show Run _ _ _ _ _ _ _ _ _ _ _ _ T104 (mkF m 62 #[.val (.ref t), .val (.int (0 : Int32)), .val (.int (2 : Int32))] [(.int d1), (.int (1 : Int32)), (.ref x103), (.ref x103), (.ref x102), (.ref x102)])
  refine Run.castore X104 (i := 1) (v' := d1) A104 rfl (Nat.le_of_ble_eq_true rfl) (nar_lat r1) (Or.inr (by omega)) (by omega) m02d_62 ?_
  intro T105 h105 L105 X105 K105 z105 A105
  have A105 : Arc .char Z h105 x103 [d0, d1] := A105
  show Run _ _ _ _ _ _ _ _ _ _ _ _ T105 (mkF m 63 #[.val (.ref t), .val (.int (0 : Int32)), .val (.int (2 : Int32))] [(.ref x103), (.ref x102), (.ref x102)])
  have G105 := G104.keep K105 (ninS (neA (by omega)) nin0)
  have Q105 := Q104.keep K105 (ninS (neA (by omega)) nin0)
  have hcs106 : ∀ c ∈ ([d0, d1] : List Int32), ¬ c < 0 ∧ ¬ (255 : Int32) < c := lsS r0 (lsS r1 (ls0))
  refine Run.initStr hw hS X105 (cs := [d0, d1]) (W := 1) G105 A105 hcs106 (Nat.le_of_ble_eq_true rfl) (wd hw 9 rfl) (wd hw 10 rfl) (wd hw 7 rfl) m02d_63 rfl (Or.inr (by omega)) (by omega) (by simp) (Nat.le_of_ble_eq_true rfl) (by decide) (by decide) (Nat.le_of_ble_eq_true rfl) (Nat.le_of_ble_eq_true rfl) ?_
  intro T106 h106 L106 X106 K106 S106
  show Run _ _ _ _ _ _ _ _ _ _ _ _ T106 (mkF m 66 #[.val (.ref t), .val (.int (0 : Int32)), .val (.int (2 : Int32))] [(.ref x102)])
  exact Run.retA X106 (t := (.object "java/lang/String")) rfl rfl rfl m02d_66 (Nat.le_of_ble_eq_true rfl) (Nat.le_of_ble_eq_true rfl) (⟨x102, rfl, S106⟩) (nofun)
-- part con_m03
theorem m03d_0 : decode method_2_code 0 = .ok (.iload_n 2, 1) := by decide +kernel
theorem m03d_1 : decode method_2_code 1 = .ok (.ifCond .gt 14, 3) := by decide +kernel
theorem m03d_15 : decode method_2_code 15 = .ok (.iload_n 2, 1) := by decide +kernel
theorem m03d_16 : decode method_2_code 16 = .ok (.iconst 1, 1) := by decide +kernel
theorem m03d_17 : decode method_2_code 17 = .ok (.if_icmp .ne 20, 3) := by decide +kernel
theorem m03d_37 : decode method_2_code 37 = .ok (.iload_n 2, 1) := by decide +kernel
theorem m03d_38 : decode method_2_code 38 = .ok (.iconst 2, 1) := by decide +kernel
theorem m03d_39 : decode method_2_code 39 = .ok (.if_icmp .ne 28, 3) := by decide +kernel
theorem m03d_67 : decode method_2_code 67 = .ok (.iload_n 2, 1) := by decide +kernel
theorem m03d_68 : decode method_2_code 68 = .ok (.iconst 3, 1) := by decide +kernel
theorem m03d_69 : decode method_2_code 69 = .ok (.if_icmp .ne 36, 3) := by decide +kernel
theorem m03d_72 : decode method_2_code 72 = .ok (.new 7, 3) := by decide +kernel
theorem m03d_75 : decode method_2_code 75 = .ok (.dup, 1) := by decide +kernel
theorem m03d_76 : decode method_2_code 76 = .ok (.iconst 3, 1) := by decide +kernel
theorem m03d_77 : decode method_2_code 77 = .ok (.newarray .char, 2) := by decide +kernel
theorem m03d_79 : decode method_2_code 79 = .ok (.dup, 1) := by decide +kernel
theorem m03d_80 : decode method_2_code 80 = .ok (.iconst 0, 1) := by decide +kernel
theorem m03d_81 : decode method_2_code 81 = .ok (.aload_n 0, 1) := by decide +kernel
theorem m03d_82 : decode method_2_code 82 = .ok (.iload_n 1, 1) := by decide +kernel
theorem m03d_83 : decode method_2_code 83 = .ok (.caload, 1) := by decide +kernel
theorem m03d_84 : decode method_2_code 84 = .ok (.castore, 1) := by decide +kernel
theorem m03d_85 : decode method_2_code 85 = .ok (.dup, 1) := by decide +kernel
theorem m03d_86 : decode method_2_code 86 = .ok (.iconst 1, 1) := by decide +kernel
theorem m03d_87 : decode method_2_code 87 = .ok (.aload_n 0, 1) := by decide +kernel
theorem m03d_88 : decode method_2_code 88 = .ok (.iload_n 1, 1) := by decide +kernel
theorem m03d_89 : decode method_2_code 89 = .ok (.iconst 1, 1) := by decide +kernel
theorem m03d_90 : decode method_2_code 90 = .ok (.iadd, 1) := by decide +kernel
theorem m03d_91 : decode method_2_code 91 = .ok (.caload, 1) := by decide +kernel
theorem m03d_92 : decode method_2_code 92 = .ok (.castore, 1) := by decide +kernel
theorem m03d_93 : decode method_2_code 93 = .ok (.dup, 1) := by decide +kernel
theorem m03d_94 : decode method_2_code 94 = .ok (.iconst 2, 1) := by decide +kernel
theorem m03d_95 : decode method_2_code 95 = .ok (.aload_n 0, 1) := by decide +kernel
theorem m03d_96 : decode method_2_code 96 = .ok (.iload_n 1, 1) := by decide +kernel
theorem m03d_97 : decode method_2_code 97 = .ok (.iconst 2, 1) := by decide +kernel
theorem m03d_98 : decode method_2_code 98 = .ok (.iadd, 1) := by decide +kernel
theorem m03d_99 : decode method_2_code 99 = .ok (.caload, 1) := by decide +kernel
theorem m03d_100 : decode method_2_code 100 = .ok (.castore, 1) := by decide +kernel
theorem m03d_101 : decode method_2_code 101 = .ok (.invokespecial 9, 3) := by decide +kernel
theorem m03d_104 : decode method_2_code 104 = .ok (.areturn, 1) := by decide +kernel
set_option maxRecDepth 65536 in
set_option maxHeartbeats 40000000 in
theorem con_m03 (l : Launch) {Z : State} {a0 : Array Value} {EL : List (String × Nat)} {h0 : Heap} (hw : ∀ d ∈ tables_1, d.before a0 Z = true) (hS : Sets Z) (hN : NW = false) (hm : ("java/lang/String", 7) ∈ EL) {t : Addr} {d0 d1 d2 d3 : Int32} (r0 : ¬ d0 < 0 ∧ ¬ (255 : Int32) < d0) (r1 : ¬ d1 < 0 ∧ ¬ (255 : Int32) < d1) (r2 : ¬ d2 < 0 ∧ ¬ (255 : Int32) < d2) (r3 : ¬ d3 < 0 ∧ ¬ (255 : Int32) < d3) (A : Arc .char Z h0 t [d0, d1, d2, d3]) (O : Ext Z.heap h0) : Con l Z a0 EL false (⟨"com/example/sliceworks/sliceworks/web/HeadersUnquotedPinLaw", "make", "([CII)Ljava/lang/String;"⟩ : MethodName) method_2_code 3 (some (.object "java/lang/String")) ({ frames := 5, cells := 6, slots := 12, locals := 75 } : Room) [] [] #[(.ref t), (.int (0 : Int32)), (.int (3 : Int32))] h0 (fun v h => ∃ x, v = some (.ref x) ∧ Str Z h x [d0, d1, d2]) := by
  refine Con.enter (plainFor_of_name (by first | (simp [plainName, overriddenIn]; done) | decide +kernel)) O ?_
  intro p e s m below meth c T0 X0
  rw [show entryFrame m #[(.ref t), (.int (0 : Int32)), (.int (3 : Int32))] 3 = (mkF m 0 #[.val (.ref t), .val (.int (0 : Int32)), .val (.int (3 : Int32))] []) from by first | (simp [entryFrame, mkF, argsToLocals, Value.category]; done) | rfl]
  have ho := O.1
  have hlt := A.lt
  refine Run.via (fun _ => XS.iloadN X0.at X0.ex rfl (X0.de m03d_0) rfl) ?_
  show Run _ _ _ _ _ _ _ _ _ _ _ _ T0 (mkF m 1 #[.val (.ref t), .val (.int (0 : Int32)), .val (.int (3 : Int32))] [(.int (3 : Int32))])
  refine Run.via (fun _ => XS.ifYes X0.at X0.ex rfl (pc0 := 1) (pc' := 15) rfl (X0.de m03d_1) rfl ((if0 _ _).trans (tlt (by decide : ((0 : Int32) < (3 : Int32)))).2.2.1) (by decide) (by decide)) ?_
  show Run _ _ _ _ _ _ _ _ _ _ _ _ T0 (mkF m 15 #[.val (.ref t), .val (.int (0 : Int32)), .val (.int (3 : Int32))] [])
  refine Run.via (fun _ => XS.iloadN X0.at X0.ex rfl (X0.de m03d_15) rfl) ?_
  show Run _ _ _ _ _ _ _ _ _ _ _ _ T0 (mkF m 16 #[.val (.ref t), .val (.int (0 : Int32)), .val (.int (3 : Int32))] [(.int (3 : Int32))])
  refine Run.via (fun _ => XS.iconst X0.at X0.ex rfl (X0.de m03d_16)) ?_
  show Run _ _ _ _ _ _ _ _ _ _ _ _ T0 (mkF m 17 #[.val (.ref t), .val (.int (0 : Int32)), .val (.int (3 : Int32))] [(.int (1 : Int32)), (.int (3 : Int32))])
  refine Run.via (fun _ => XS.icmpYes X0.at X0.ex rfl (pc0 := 17) (pc' := 37) rfl (X0.de m03d_17) rfl (feq (by decide : ¬ ((3 : Int32) = (1 : Int32)))).2 (by decide) (by decide)) ?_
  show Run _ _ _ _ _ _ _ _ _ _ _ _ T0 (mkF m 37 #[.val (.ref t), .val (.int (0 : Int32)), .val (.int (3 : Int32))] [])
  refine Run.via (fun _ => XS.iloadN X0.at X0.ex rfl (X0.de m03d_37) rfl) ?_
  show Run _ _ _ _ _ _ _ _ _ _ _ _ T0 (mkF m 38 #[.val (.ref t), .val (.int (0 : Int32)), .val (.int (3 : Int32))] [(.int (3 : Int32))])
  refine Run.via (fun _ => XS.iconst X0.at X0.ex rfl (X0.de m03d_38)) ?_
  show Run _ _ _ _ _ _ _ _ _ _ _ _ T0 (mkF m 39 #[.val (.ref t), .val (.int (0 : Int32)), .val (.int (3 : Int32))] [(.int (2 : Int32)), (.int (3 : Int32))])
  refine Run.via (fun _ => XS.icmpYes X0.at X0.ex rfl (pc0 := 39) (pc' := 67) rfl (X0.de m03d_39) rfl (feq (by decide : ¬ ((3 : Int32) = (2 : Int32)))).2 (by decide) (by decide)) ?_
  show Run _ _ _ _ _ _ _ _ _ _ _ _ T0 (mkF m 67 #[.val (.ref t), .val (.int (0 : Int32)), .val (.int (3 : Int32))] [])
  refine Run.via (fun _ => XS.iloadN X0.at X0.ex rfl (X0.de m03d_67) rfl) ?_
  show Run _ _ _ _ _ _ _ _ _ _ _ _ T0 (mkF m 68 #[.val (.ref t), .val (.int (0 : Int32)), .val (.int (3 : Int32))] [(.int (3 : Int32))])
  refine Run.via (fun _ => XS.iconst X0.at X0.ex rfl (X0.de m03d_68)) ?_
  show Run _ _ _ _ _ _ _ _ _ _ _ _ T0 (mkF m 69 #[.val (.ref t), .val (.int (0 : Int32)), .val (.int (3 : Int32))] [(.int (3 : Int32)), (.int (3 : Int32))])
  refine Run.via (fun _ => XS.icmpNo X0.at X0.ex rfl (X0.de m03d_69) rfl (teq (by decide : ((3 : Int32) = (3 : Int32)))).2) ?_
  show Run _ _ _ _ _ _ _ _ _ _ _ _ T0 (mkF m 72 #[.val (.ref t), .val (.int (0 : Int32)), .val (.int (3 : Int32))] [])
  have u101 := X0.kp.1
  have ho101 := O.1
  refine Run.new X0 (wd hw 6 rfl) (wd hw 7 rfl) (wd hw 8 rfl) m03d_72 (Nat.le_of_ble_eq_true rfl) (Nat.le_of_ble_eq_true rfl) ?_
  intro T102 h102 x102 g102 X102 K102 z102 E102 D102
  show Run _ _ _ _ _ _ _ _ _ _ _ _ T102 (mkF m 75 #[.val (.ref t), .val (.int (0 : Int32)), .val (.int (3 : Int32))] [(.ref x102)])
  have Q102 := A.keep K102 nin0
  have G102 : Raw Z h102 x102 := ⟨E102, D102 (Or.inr (wd hw 34 rfl)) (ty := (.array .byte)) (by decide), D102 (Or.inr (wd hw 32 rfl)) (ty := .byte) (by decide)⟩
  have s102 := K102.1
  refine Run.via (fun _ => XS.dup X102.at X102.ex rfl (X102.de m03d_75) rfl rfl) ?_
  show Run _ _ _ _ _ _ _ _ _ _ _ _ T102 (mkF m 76 #[.val (.ref t), .val (.int (0 : Int32)), .val (.int (3 : Int32))] [(.ref x102), (.ref x102)])
  refine Run.via (fun _ => XS.iconst X102.at X102.ex rfl (X102.de m03d_76)) ?_
  show Run _ _ _ _ _ _ _ _ _ _ _ _ T102 (mkF m 77 #[.val (.ref t), .val (.int (0 : Int32)), .val (.int (3 : Int32))] [(.int (3 : Int32)), (.ref x102), (.ref x102)])
  refine Run.newarr X102 (aty := .char) (n := 3) (cap := 3) (wd hw 1 rfl) rfl m03d_77 rfl (Nat.le_refl _) (by decide) (Nat.le_of_ble_eq_true rfl) (Nat.le_of_ble_eq_true rfl) ?_
  intro T103 h103 x103 g103 X103 K103 z103 A103
  have A103 : Arc .char Z h103 x103 [(0 : Int32), (0 : Int32), (0 : Int32)] := A103
  show Run _ _ _ _ _ _ _ _ _ _ _ _ T103 (mkF m 79 #[.val (.ref t), .val (.int (0 : Int32)), .val (.int (3 : Int32))] [(.ref x103), (.ref x102), (.ref x102)])
  have s103 := K103.1
  have G103 := G102.keep K103 nin0
  have Q103 := Q102.keep K103 nin0
  refine Run.via (fun _ => XS.dup X103.at X103.ex rfl (X103.de m03d_79) rfl rfl) ?_
  show Run _ _ _ _ _ _ _ _ _ _ _ _ T103 (mkF m 80 #[.val (.ref t), .val (.int (0 : Int32)), .val (.int (3 : Int32))] [(.ref x103), (.ref x103), (.ref x102), (.ref x102)])
  refine Run.via (fun _ => XS.iconst X103.at X103.ex rfl (X103.de m03d_80)) ?_
  show Run _ _ _ _ _ _ _ _ _ _ _ _ T103 (mkF m 81 #[.val (.ref t), .val (.int (0 : Int32)), .val (.int (3 : Int32))] [(.int (0 : Int32)), (.ref x103), (.ref x103), (.ref x102), (.ref x102)])
  refine Run.via (fun _ => XS.aloadN X103.at X103.ex rfl (X103.de m03d_81) rfl rfl) ?_
  show Run _ _ _ _ _ _ _ _ _ _ _ _ T103 (mkF m 82 #[.val (.ref t), .val (.int (0 : Int32)), .val (.int (3 : Int32))] [(.ref t), (.int (0 : Int32)), (.ref x103), (.ref x103), (.ref x102), (.ref x102)])
  refine Run.via (fun _ => XS.iloadN X103.at X103.ex rfl (X103.de m03d_82) rfl) ?_
  show Run _ _ _ _ _ _ _ _ _ _ _ _ T103 (mkF m 83 #[.val (.ref t), .val (.int (0 : Int32)), .val (.int (3 : Int32))] [(.int (0 : Int32)), (.ref t), (.int (0 : Int32)), (.ref x103), (.ref x103), (.ref x102), (.ref x102)])
  refine Run.caload X103 (i := 0) Q103 rfl (Nat.le_of_ble_eq_true rfl) m03d_83 ?_
  show Run _ _ _ _ _ _ _ _ _ _ _ _ T103 (mkF m 84 #[.val (.ref t), .val (.int (0 : Int32)), .val (.int (3 : Int32))] [(.int d0), (.int (0 : Int32)), (.ref x103), (.ref x103), (.ref x102), (.ref x102)])
  refine Run.castore X103 (i := 0) (v' := d0) A103 rfl (Nat.le_of_ble_eq_true rfl) (nar_lat r0) (Or.inr (by omega)) (by omega) m03d_84 ?_
  intro T104 h104 L104 X104 K104 z104 A104
  have A104 : Arc .char Z h104 x103 [d0, (0 : Int32), (0 : Int32)] := A104
  show Run _ _ _ _ _ _ _ _ _ _ _ _ T104 (mkF m 85 #[.val (.ref t), .val (.int (0 : Int32)), .val (.int (3 : Int32))] [(.ref x103), (.ref x102), (.ref x102)])
  have G104 := G103.keep K104 (ninS (neA (by omega)) nin0)
  have Q104 := Q103.keep K104 (ninS (neA (by omega)) nin0)
  refine Run.via (fun _ => XS.dup X104.at X104.ex rfl (X104.de m03d_85) rfl rfl) ?_
  show Run _ _ _ _ _ _ _ _ _ _ _ _ T104 (mkF m 86 #[.val (.ref t), .val (.int (0 : Int32)), .val (.int (3 : Int32))] [(.ref x103), (.ref x103), (.ref x102), (.ref x102)])
  refine Run.via (fun _ => XS.iconst X104.at X104.ex rfl (X104.de m03d_86)) ?_
  show Run _ _ _ _ _ _ _ _ _ _ _ _ T104 (mkF m 87 #[.val (.ref t), .val (.int (0 : Int32)), .val (.int (3 : Int32))] [(.int (1 : Int32)), (.ref x103), (.ref x103), (.ref x102), (.ref x102)])
  refine Run.via (fun _ => XS.aloadN X104.at X104.ex rfl (X104.de m03d_87) rfl rfl) ?_
  show Run _ _ _ _ _ _ _ _ _ _ _ _ T104 (mkF m 88 #[.val (.ref t), .val (.int (0 : Int32)), .val (.int (3 : Int32))] [(.ref t), (.int (1 : Int32)), (.ref x103), (.ref x103), (.ref x102), (.ref x102)])
  refine Run.via (fun _ => XS.iloadN X104.at X104.ex rfl (X104.de m03d_88) rfl) ?_
  show Run _ _ _ _ _ _ _ _ _ _ _ _ T104 (mkF m 89 #[.val (.ref t), .val (.int (0 : Int32)), .val (.int (3 : Int32))] [(.int (0 : Int32)), (.ref t), (.int (1 : Int32)), (.ref x103), (.ref x103), (.ref x102), (.ref x102)])
  refine Run.via (fun _ => XS.iconst X104.at X104.ex rfl (X104.de m03d_89)) ?_
  show Run _ _ _ _ _ _ _ _ _ _ _ _ T104 (mkF m 90 #[.val (.ref t), .val (.int (0 : Int32)), .val (.int (3 : Int32))] [(.int (1 : Int32)), (.int (0 : Int32)), (.ref t), (.int (1 : Int32)), (.ref x103), (.ref x103), (.ref x102), (.ref x102)])
  refine Run.via (fun _ => XS.iadd X104.at X104.ex rfl (X104.de m03d_90) rfl) ?_
  show Run _ _ _ _ _ _ _ _ _ _ _ _ T104 (mkF m 91 #[.val (.ref t), .val (.int (0 : Int32)), .val (.int (3 : Int32))] [(.int (1 : Int32)), (.ref t), (.int (1 : Int32)), (.ref x103), (.ref x103), (.ref x102), (.ref x102)])
  refine Run.caload X104 (i := 1) Q104 rfl (Nat.le_of_ble_eq_true rfl) m03d_91 ?_
  show Run _ _ _ _ _ _ _ _ _ _ _ _ T104 (mkF m 92 #[.val (.ref t), .val (.int (0 : Int32)), .val (.int (3 : Int32))] [(.int d1), (.int (1 : Int32)), (.ref x103), (.ref x103), (.ref x102), (.ref x102)])
  refine Run.castore X104 (i := 1) (v' := d1) A104 rfl (Nat.le_of_ble_eq_true rfl) (nar_lat r1) (Or.inr (by omega)) (by omega) m03d_92 ?_
  intro T105 h105 L105 X105 K105 z105 A105
  have A105 : Arc .char Z h105 x103 [d0, d1, (0 : Int32)] := A105
  show Run _ _ _ _ _ _ _ _ _ _ _ _ T105 (mkF m 93 #[.val (.ref t), .val (.int (0 : Int32)), .val (.int (3 : Int32))] [(.ref x103), (.ref x102), (.ref x102)])
  have G105 := G104.keep K105 (ninS (neA (by omega)) nin0)
  have Q105 := Q104.keep K105 (ninS (neA (by omega)) nin0)
  refine Run.via (fun _ => XS.dup X105.at X105.ex rfl (X105.de m03d_93) rfl rfl) ?_
  show Run _ _ _ _ _ _ _ _ _ _ _ _ T105 (mkF m 94 #[.val (.ref t), .val (.int (0 : Int32)), .val (.int (3 : Int32))] [(.ref x103), (.ref x103), (.ref x102), (.ref x102)])
  refine Run.via (fun _ => XS.iconst X105.at X105.ex rfl (X105.de m03d_94)) ?_
  show Run _ _ _ _ _ _ _ _ _ _ _ _ T105 (mkF m 95 #[.val (.ref t), .val (.int (0 : Int32)), .val (.int (3 : Int32))] [(.int (2 : Int32)), (.ref x103), (.ref x103), (.ref x102), (.ref x102)])
  refine Run.via (fun _ => XS.aloadN X105.at X105.ex rfl (X105.de m03d_95) rfl rfl) ?_
  show Run _ _ _ _ _ _ _ _ _ _ _ _ T105 (mkF m 96 #[.val (.ref t), .val (.int (0 : Int32)), .val (.int (3 : Int32))] [(.ref t), (.int (2 : Int32)), (.ref x103), (.ref x103), (.ref x102), (.ref x102)])
  refine Run.via (fun _ => XS.iloadN X105.at X105.ex rfl (X105.de m03d_96) rfl) ?_
  show Run _ _ _ _ _ _ _ _ _ _ _ _ T105 (mkF m 97 #[.val (.ref t), .val (.int (0 : Int32)), .val (.int (3 : Int32))] [(.int (0 : Int32)), (.ref t), (.int (2 : Int32)), (.ref x103), (.ref x103), (.ref x102), (.ref x102)])
  refine Run.via (fun _ => XS.iconst X105.at X105.ex rfl (X105.de m03d_97)) ?_
  show Run _ _ _ _ _ _ _ _ _ _ _ _ T105 (mkF m 98 #[.val (.ref t), .val (.int (0 : Int32)), .val (.int (3 : Int32))] [(.int (2 : Int32)), (.int (0 : Int32)), (.ref t), (.int (2 : Int32)), (.ref x103), (.ref x103), (.ref x102), (.ref x102)])
  refine Run.via (fun _ => XS.iadd X105.at X105.ex rfl (X105.de m03d_98) rfl) ?_
  show Run _ _ _ _ _ _ _ _ _ _ _ _ T105 (mkF m 99 #[.val (.ref t), .val (.int (0 : Int32)), .val (.int (3 : Int32))] [(.int (2 : Int32)), (.ref t), (.int (2 : Int32)), (.ref x103), (.ref x103), (.ref x102), (.ref x102)])
  refine Run.caload X105 (i := 2) Q105 rfl (Nat.le_of_ble_eq_true rfl) m03d_99 ?_
  show Run _ _ _ _ _ _ _ _ _ _ _ _ T105 (mkF m 100 #[.val (.ref t), .val (.int (0 : Int32)), .val (.int (3 : Int32))] [(.int d2), (.int (2 : Int32)), (.ref x103), (.ref x103), (.ref x102), (.ref x102)])
  refine Run.castore X105 (i := 2) (v' := d2) A105 rfl (Nat.le_of_ble_eq_true rfl) (nar_lat r2) (Or.inr (by omega)) (by omega) m03d_100 ?_
  intro T106 h106 L106 X106 K106 z106 A106
  have A106 : Arc .char Z h106 x103 [d0, d1, d2] := A106
  show Run _ _ _ _ _ _ _ _ _ _ _ _ T106 (mkF m 101 #[.val (.ref t), .val (.int (0 : Int32)), .val (.int (3 : Int32))] [(.ref x103), (.ref x102), (.ref x102)])
  have G106 := G105.keep K106 (ninS (neA (by omega)) nin0)
  have Q106 := Q105.keep K106 (ninS (neA (by omega)) nin0)
  have hcs107 : ∀ c ∈ ([d0, d1, d2] : List Int32), ¬ c < 0 ∧ ¬ (255 : Int32) < c := lsS r0 (lsS r1 (lsS r2 (ls0)))
  refine Run.initStr hw hS X106 (cs := [d0, d1, d2]) (W := 1) G106 A106 hcs107 (Nat.le_of_ble_eq_true rfl) (wd hw 9 rfl) (wd hw 10 rfl) (wd hw 7 rfl) m03d_101 rfl (Or.inr (by omega)) (by omega) (by simp) (Nat.le_of_ble_eq_true rfl) (by decide) (by decide) (Nat.le_of_ble_eq_true rfl) (Nat.le_of_ble_eq_true rfl) ?_
  intro T107 h107 L107 X107 K107 S107
  show Run _ _ _ _ _ _ _ _ _ _ _ _ T107 (mkF m 104 #[.val (.ref t), .val (.int (0 : Int32)), .val (.int (3 : Int32))] [(.ref x102)])
  exact Run.retA X107 (t := (.object "java/lang/String")) rfl rfl rfl m03d_104 (Nat.le_of_ble_eq_true rfl) (Nat.le_of_ble_eq_true rfl) (⟨x102, rfl, S107⟩) (nofun)
-- part con_m04
theorem m04d_0 : decode method_2_code 0 = .ok (.iload_n 2, 1) := by decide +kernel
theorem m04d_1 : decode method_2_code 1 = .ok (.ifCond .gt 14, 3) := by decide +kernel
theorem m04d_15 : decode method_2_code 15 = .ok (.iload_n 2, 1) := by decide +kernel
theorem m04d_16 : decode method_2_code 16 = .ok (.iconst 1, 1) := by decide +kernel
theorem m04d_17 : decode method_2_code 17 = .ok (.if_icmp .ne 20, 3) := by decide +kernel
theorem m04d_37 : decode method_2_code 37 = .ok (.iload_n 2, 1) := by decide +kernel
theorem m04d_38 : decode method_2_code 38 = .ok (.iconst 2, 1) := by decide +kernel
theorem m04d_39 : decode method_2_code 39 = .ok (.if_icmp .ne 28, 3) := by decide +kernel
theorem m04d_67 : decode method_2_code 67 = .ok (.iload_n 2, 1) := by decide +kernel
theorem m04d_68 : decode method_2_code 68 = .ok (.iconst 3, 1) := by decide +kernel
theorem m04d_69 : decode method_2_code 69 = .ok (.if_icmp .ne 36, 3) := by decide +kernel
theorem m04d_105 : decode method_2_code 105 = .ok (.new 7, 3) := by decide +kernel
theorem m04d_108 : decode method_2_code 108 = .ok (.dup, 1) := by decide +kernel
theorem m04d_109 : decode method_2_code 109 = .ok (.iconst 4, 1) := by decide +kernel
theorem m04d_110 : decode method_2_code 110 = .ok (.newarray .char, 2) := by decide +kernel
theorem m04d_112 : decode method_2_code 112 = .ok (.dup, 1) := by decide +kernel
theorem m04d_113 : decode method_2_code 113 = .ok (.iconst 0, 1) := by decide +kernel
theorem m04d_114 : decode method_2_code 114 = .ok (.aload_n 0, 1) := by decide +kernel
theorem m04d_115 : decode method_2_code 115 = .ok (.iload_n 1, 1) := by decide +kernel
theorem m04d_116 : decode method_2_code 116 = .ok (.caload, 1) := by decide +kernel
theorem m04d_117 : decode method_2_code 117 = .ok (.castore, 1) := by decide +kernel
theorem m04d_118 : decode method_2_code 118 = .ok (.dup, 1) := by decide +kernel
theorem m04d_119 : decode method_2_code 119 = .ok (.iconst 1, 1) := by decide +kernel
theorem m04d_120 : decode method_2_code 120 = .ok (.aload_n 0, 1) := by decide +kernel
theorem m04d_121 : decode method_2_code 121 = .ok (.iload_n 1, 1) := by decide +kernel
theorem m04d_122 : decode method_2_code 122 = .ok (.iconst 1, 1) := by decide +kernel
theorem m04d_123 : decode method_2_code 123 = .ok (.iadd, 1) := by decide +kernel
theorem m04d_124 : decode method_2_code 124 = .ok (.caload, 1) := by decide +kernel
theorem m04d_125 : decode method_2_code 125 = .ok (.castore, 1) := by decide +kernel
theorem m04d_126 : decode method_2_code 126 = .ok (.dup, 1) := by decide +kernel
theorem m04d_127 : decode method_2_code 127 = .ok (.iconst 2, 1) := by decide +kernel
theorem m04d_128 : decode method_2_code 128 = .ok (.aload_n 0, 1) := by decide +kernel
theorem m04d_129 : decode method_2_code 129 = .ok (.iload_n 1, 1) := by decide +kernel
theorem m04d_130 : decode method_2_code 130 = .ok (.iconst 2, 1) := by decide +kernel
theorem m04d_131 : decode method_2_code 131 = .ok (.iadd, 1) := by decide +kernel
theorem m04d_132 : decode method_2_code 132 = .ok (.caload, 1) := by decide +kernel
theorem m04d_133 : decode method_2_code 133 = .ok (.castore, 1) := by decide +kernel
theorem m04d_134 : decode method_2_code 134 = .ok (.dup, 1) := by decide +kernel
theorem m04d_135 : decode method_2_code 135 = .ok (.iconst 3, 1) := by decide +kernel
theorem m04d_136 : decode method_2_code 136 = .ok (.aload_n 0, 1) := by decide +kernel
theorem m04d_137 : decode method_2_code 137 = .ok (.iload_n 1, 1) := by decide +kernel
theorem m04d_138 : decode method_2_code 138 = .ok (.iconst 3, 1) := by decide +kernel
theorem m04d_139 : decode method_2_code 139 = .ok (.iadd, 1) := by decide +kernel
theorem m04d_140 : decode method_2_code 140 = .ok (.caload, 1) := by decide +kernel
theorem m04d_141 : decode method_2_code 141 = .ok (.castore, 1) := by decide +kernel
theorem m04d_142 : decode method_2_code 142 = .ok (.invokespecial 9, 3) := by decide +kernel
theorem m04d_145 : decode method_2_code 145 = .ok (.areturn, 1) := by decide +kernel
set_option maxRecDepth 65536 in
set_option maxHeartbeats 40000000 in
theorem con_m04 (l : Launch) {Z : State} {a0 : Array Value} {EL : List (String × Nat)} {h0 : Heap} (hw : ∀ d ∈ tables_1, d.before a0 Z = true) (hS : Sets Z) (hN : NW = false) (hm : ("java/lang/String", 7) ∈ EL) {t : Addr} {d0 d1 d2 d3 : Int32} (r0 : ¬ d0 < 0 ∧ ¬ (255 : Int32) < d0) (r1 : ¬ d1 < 0 ∧ ¬ (255 : Int32) < d1) (r2 : ¬ d2 < 0 ∧ ¬ (255 : Int32) < d2) (r3 : ¬ d3 < 0 ∧ ¬ (255 : Int32) < d3) (A : Arc .char Z h0 t [d0, d1, d2, d3]) (O : Ext Z.heap h0) : Con l Z a0 EL false (⟨"com/example/sliceworks/sliceworks/web/HeadersUnquotedPinLaw", "make", "([CII)Ljava/lang/String;"⟩ : MethodName) method_2_code 3 (some (.object "java/lang/String")) ({ frames := 5, cells := 6, slots := 12, locals := 75 } : Room) [] [] #[(.ref t), (.int (0 : Int32)), (.int (4 : Int32))] h0 (fun v h => ∃ x, v = some (.ref x) ∧ Str Z h x [d0, d1, d2, d3]) := by
  refine Con.enter (plainFor_of_name (by first | (simp [plainName, overriddenIn]; done) | decide +kernel)) O ?_
  intro p e s m below meth c T0 X0
  rw [show entryFrame m #[(.ref t), (.int (0 : Int32)), (.int (4 : Int32))] 3 = (mkF m 0 #[.val (.ref t), .val (.int (0 : Int32)), .val (.int (4 : Int32))] []) from by first | (simp [entryFrame, mkF, argsToLocals, Value.category]; done) | rfl]
  have ho := O.1
  have hlt := A.lt
  refine Run.via (fun _ => XS.iloadN X0.at X0.ex rfl (X0.de m04d_0) rfl) ?_
  show Run _ _ _ _ _ _ _ _ _ _ _ _ T0 (mkF m 1 #[.val (.ref t), .val (.int (0 : Int32)), .val (.int (4 : Int32))] [(.int (4 : Int32))])
  refine Run.via (fun _ => XS.ifYes X0.at X0.ex rfl (pc0 := 1) (pc' := 15) rfl (X0.de m04d_1) rfl ((if0 _ _).trans (tlt (by decide : ((0 : Int32) < (4 : Int32)))).2.2.1) (by decide) (by decide)) ?_
  show Run _ _ _ _ _ _ _ _ _ _ _ _ T0 (mkF m 15 #[.val (.ref t), .val (.int (0 : Int32)), .val (.int (4 : Int32))] [])
  refine Run.via (fun _ => XS.iloadN X0.at X0.ex rfl (X0.de m04d_15) rfl) ?_
  show Run _ _ _ _ _ _ _ _ _ _ _ _ T0 (mkF m 16 #[.val (.ref t), .val (.int (0 : Int32)), .val (.int (4 : Int32))] [(.int (4 : Int32))])
  refine Run.via (fun _ => XS.iconst X0.at X0.ex rfl (X0.de m04d_16)) ?_
  show Run _ _ _ _ _ _ _ _ _ _ _ _ T0 (mkF m 17 #[.val (.ref t), .val (.int (0 : Int32)), .val (.int (4 : Int32))] [(.int (1 : Int32)), (.int (4 : Int32))])
  refine Run.via (fun _ => XS.icmpYes X0.at X0.ex rfl (pc0 := 17) (pc' := 37) rfl (X0.de m04d_17) rfl (feq (by decide : ¬ ((4 : Int32) = (1 : Int32)))).2 (by decide) (by decide)) ?_
  show Run _ _ _ _ _ _ _ _ _ _ _ _ T0 (mkF m 37 #[.val (.ref t), .val (.int (0 : Int32)), .val (.int (4 : Int32))] [])
  refine Run.via (fun _ => XS.iloadN X0.at X0.ex rfl (X0.de m04d_37) rfl) ?_
  show Run _ _ _ _ _ _ _ _ _ _ _ _ T0 (mkF m 38 #[.val (.ref t), .val (.int (0 : Int32)), .val (.int (4 : Int32))] [(.int (4 : Int32))])
  refine Run.via (fun _ => XS.iconst X0.at X0.ex rfl (X0.de m04d_38)) ?_
  show Run _ _ _ _ _ _ _ _ _ _ _ _ T0 (mkF m 39 #[.val (.ref t), .val (.int (0 : Int32)), .val (.int (4 : Int32))] [(.int (2 : Int32)), (.int (4 : Int32))])
  refine Run.via (fun _ => XS.icmpYes X0.at X0.ex rfl (pc0 := 39) (pc' := 67) rfl (X0.de m04d_39) rfl (feq (by decide : ¬ ((4 : Int32) = (2 : Int32)))).2 (by decide) (by decide)) ?_
  show Run _ _ _ _ _ _ _ _ _ _ _ _ T0 (mkF m 67 #[.val (.ref t), .val (.int (0 : Int32)), .val (.int (4 : Int32))] [])
  refine Run.via (fun _ => XS.iloadN X0.at X0.ex rfl (X0.de m04d_67) rfl) ?_
  show Run _ _ _ _ _ _ _ _ _ _ _ _ T0 (mkF m 68 #[.val (.ref t), .val (.int (0 : Int32)), .val (.int (4 : Int32))] [(.int (4 : Int32))])
  refine Run.via (fun _ => XS.iconst X0.at X0.ex rfl (X0.de m04d_68)) ?_
  show Run _ _ _ _ _ _ _ _ _ _ _ _ T0 (mkF m 69 #[.val (.ref t), .val (.int (0 : Int32)), .val (.int (4 : Int32))] [(.int (3 : Int32)), (.int (4 : Int32))])
  refine Run.via (fun _ => XS.icmpYes X0.at X0.ex rfl (pc0 := 69) (pc' := 105) rfl (X0.de m04d_69) rfl (feq (by decide : ¬ ((4 : Int32) = (3 : Int32)))).2 (by decide) (by decide)) ?_
  show Run _ _ _ _ _ _ _ _ _ _ _ _ T0 (mkF m 105 #[.val (.ref t), .val (.int (0 : Int32)), .val (.int (4 : Int32))] [])
  have u101 := X0.kp.1
  have ho101 := O.1
  refine Run.new X0 (wd hw 6 rfl) (wd hw 7 rfl) (wd hw 8 rfl) m04d_105 (Nat.le_of_ble_eq_true rfl) (Nat.le_of_ble_eq_true rfl) ?_
  intro T102 h102 x102 g102 X102 K102 z102 E102 D102
  show Run _ _ _ _ _ _ _ _ _ _ _ _ T102 (mkF m 108 #[.val (.ref t), .val (.int (0 : Int32)), .val (.int (4 : Int32))] [(.ref x102)])
  have Q102 := A.keep K102 nin0
  have G102 : Raw Z h102 x102 := ⟨E102, D102 (Or.inr (wd hw 34 rfl)) (ty := (.array .byte)) (by decide), D102 (Or.inr (wd hw 32 rfl)) (ty := .byte) (by decide)⟩
  have s102 := K102.1
  refine Run.via (fun _ => XS.dup X102.at X102.ex rfl (X102.de m04d_108) rfl rfl) ?_
  show Run _ _ _ _ _ _ _ _ _ _ _ _ T102 (mkF m 109 #[.val (.ref t), .val (.int (0 : Int32)), .val (.int (4 : Int32))] [(.ref x102), (.ref x102)])
  refine Run.via (fun _ => XS.iconst X102.at X102.ex rfl (X102.de m04d_109)) ?_
  show Run _ _ _ _ _ _ _ _ _ _ _ _ T102 (mkF m 110 #[.val (.ref t), .val (.int (0 : Int32)), .val (.int (4 : Int32))] [(.int (4 : Int32)), (.ref x102), (.ref x102)])
  refine Run.newarr X102 (aty := .char) (n := 4) (cap := 4) (wd hw 1 rfl) rfl m04d_110 rfl (Nat.le_refl _) (by decide) (Nat.le_of_ble_eq_true rfl) (Nat.le_of_ble_eq_true rfl) ?_
  intro T103 h103 x103 g103 X103 K103 z103 A103
  have A103 : Arc .char Z h103 x103 [(0 : Int32), (0 : Int32), (0 : Int32), (0 : Int32)] := A103
  show Run _ _ _ _ _ _ _ _ _ _ _ _ T103 (mkF m 112 #[.val (.ref t), .val (.int (0 : Int32)), .val (.int (4 : Int32))] [(.ref x103), (.ref x102), (.ref x102)])
  have s103 := K103.1
  have G103 := G102.keep K103 nin0
  have Q103 := Q102.keep K103 nin0
  refine Run.via (fun _ => XS.dup X103.at X103.ex rfl (X103.de m04d_112) rfl rfl) ?_
  show Run _ _ _ _ _ _ _ _ _ _ _ _ T103 (mkF m 113 #[.val (.ref t), .val (.int (0 : Int32)), .val (.int (4 : Int32))] [(.ref x103), (.ref x103), (.ref x102), (.ref x102)])
  refine Run.via (fun _ => XS.iconst X103.at X103.ex rfl (X103.de m04d_113)) ?_
  show Run _ _ _ _ _ _ _ _ _ _ _ _ T103 (mkF m 114 #[.val (.ref t), .val (.int (0 : Int32)), .val (.int (4 : Int32))] [(.int (0 : Int32)), (.ref x103), (.ref x103), (.ref x102), (.ref x102)])
  refine Run.via (fun _ => XS.aloadN X103.at X103.ex rfl (X103.de m04d_114) rfl rfl) ?_
  show Run _ _ _ _ _ _ _ _ _ _ _ _ T103 (mkF m 115 #[.val (.ref t), .val (.int (0 : Int32)), .val (.int (4 : Int32))] [(.ref t), (.int (0 : Int32)), (.ref x103), (.ref x103), (.ref x102), (.ref x102)])
  refine Run.via (fun _ => XS.iloadN X103.at X103.ex rfl (X103.de m04d_115) rfl) ?_
  show Run _ _ _ _ _ _ _ _ _ _ _ _ T103 (mkF m 116 #[.val (.ref t), .val (.int (0 : Int32)), .val (.int (4 : Int32))] [(.int (0 : Int32)), (.ref t), (.int (0 : Int32)), (.ref x103), (.ref x103), (.ref x102), (.ref x102)])
  refine Run.caload X103 (i := 0) Q103 rfl (Nat.le_of_ble_eq_true rfl) m04d_116 ?_
  show Run _ _ _ _ _ _ _ _ _ _ _ _ T103 (mkF m 117 #[.val (.ref t), .val (.int (0 : Int32)), .val (.int (4 : Int32))] [(.int d0), (.int (0 : Int32)), (.ref x103), (.ref x103), (.ref x102), (.ref x102)])
  refine Run.castore X103 (i := 0) (v' := d0) A103 rfl (Nat.le_of_ble_eq_true rfl) (nar_lat r0) (Or.inr (by omega)) (by omega) m04d_117 ?_
  intro T104 h104 L104 X104 K104 z104 A104
  have A104 : Arc .char Z h104 x103 [d0, (0 : Int32), (0 : Int32), (0 : Int32)] := A104
  show Run _ _ _ _ _ _ _ _ _ _ _ _ T104 (mkF m 118 #[.val (.ref t), .val (.int (0 : Int32)), .val (.int (4 : Int32))] [(.ref x103), (.ref x102), (.ref x102)])
  have G104 := G103.keep K104 (ninS (neA (by omega)) nin0)
  have Q104 := Q103.keep K104 (ninS (neA (by omega)) nin0)
  refine Run.via (fun _ => XS.dup X104.at X104.ex rfl (X104.de m04d_118) rfl rfl) ?_
  show Run _ _ _ _ _ _ _ _ _ _ _ _ T104 (mkF m 119 #[.val (.ref t), .val (.int (0 : Int32)), .val (.int (4 : Int32))] [(.ref x103), (.ref x103), (.ref x102), (.ref x102)])
  refine Run.via (fun _ => XS.iconst X104.at X104.ex rfl (X104.de m04d_119)) ?_
  show Run _ _ _ _ _ _ _ _ _ _ _ _ T104 (mkF m 120 #[.val (.ref t), .val (.int (0 : Int32)), .val (.int (4 : Int32))] [(.int (1 : Int32)), (.ref x103), (.ref x103), (.ref x102), (.ref x102)])
  refine Run.via (fun _ => XS.aloadN X104.at X104.ex rfl (X104.de m04d_120) rfl rfl) ?_
  show Run _ _ _ _ _ _ _ _ _ _ _ _ T104 (mkF m 121 #[.val (.ref t), .val (.int (0 : Int32)), .val (.int (4 : Int32))] [(.ref t), (.int (1 : Int32)), (.ref x103), (.ref x103), (.ref x102), (.ref x102)])
  refine Run.via (fun _ => XS.iloadN X104.at X104.ex rfl (X104.de m04d_121) rfl) ?_
  show Run _ _ _ _ _ _ _ _ _ _ _ _ T104 (mkF m 122 #[.val (.ref t), .val (.int (0 : Int32)), .val (.int (4 : Int32))] [(.int (0 : Int32)), (.ref t), (.int (1 : Int32)), (.ref x103), (.ref x103), (.ref x102), (.ref x102)])
  refine Run.via (fun _ => XS.iconst X104.at X104.ex rfl (X104.de m04d_122)) ?_
  show Run _ _ _ _ _ _ _ _ _ _ _ _ T104 (mkF m 123 #[.val (.ref t), .val (.int (0 : Int32)), .val (.int (4 : Int32))] [(.int (1 : Int32)), (.int (0 : Int32)), (.ref t), (.int (1 : Int32)), (.ref x103), (.ref x103), (.ref x102), (.ref x102)])
  refine Run.via (fun _ => XS.iadd X104.at X104.ex rfl (X104.de m04d_123) rfl) ?_
  show Run _ _ _ _ _ _ _ _ _ _ _ _ T104 (mkF m 124 #[.val (.ref t), .val (.int (0 : Int32)), .val (.int (4 : Int32))] [(.int (1 : Int32)), (.ref t), (.int (1 : Int32)), (.ref x103), (.ref x103), (.ref x102), (.ref x102)])
  refine Run.caload X104 (i := 1) Q104 rfl (Nat.le_of_ble_eq_true rfl) m04d_124 ?_
  show Run _ _ _ _ _ _ _ _ _ _ _ _ T104 (mkF m 125 #[.val (.ref t), .val (.int (0 : Int32)), .val (.int (4 : Int32))] [(.int d1), (.int (1 : Int32)), (.ref x103), (.ref x103), (.ref x102), (.ref x102)])
  refine Run.castore X104 (i := 1) (v' := d1) A104 rfl (Nat.le_of_ble_eq_true rfl) (nar_lat r1) (Or.inr (by omega)) (by omega) m04d_125 ?_
  intro T105 h105 L105 X105 K105 z105 A105
  have A105 : Arc .char Z h105 x103 [d0, d1, (0 : Int32), (0 : Int32)] := A105
  show Run _ _ _ _ _ _ _ _ _ _ _ _ T105 (mkF m 126 #[.val (.ref t), .val (.int (0 : Int32)), .val (.int (4 : Int32))] [(.ref x103), (.ref x102), (.ref x102)])
  have G105 := G104.keep K105 (ninS (neA (by omega)) nin0)
  have Q105 := Q104.keep K105 (ninS (neA (by omega)) nin0)
  refine Run.via (fun _ => XS.dup X105.at X105.ex rfl (X105.de m04d_126) rfl rfl) ?_
  show Run _ _ _ _ _ _ _ _ _ _ _ _ T105 (mkF m 127 #[.val (.ref t), .val (.int (0 : Int32)), .val (.int (4 : Int32))] [(.ref x103), (.ref x103), (.ref x102), (.ref x102)])
  refine Run.via (fun _ => XS.iconst X105.at X105.ex rfl (X105.de m04d_127)) ?_
  show Run _ _ _ _ _ _ _ _ _ _ _ _ T105 (mkF m 128 #[.val (.ref t), .val (.int (0 : Int32)), .val (.int (4 : Int32))] [(.int (2 : Int32)), (.ref x103), (.ref x103), (.ref x102), (.ref x102)])
  refine Run.via (fun _ => XS.aloadN X105.at X105.ex rfl (X105.de m04d_128) rfl rfl) ?_
  show Run _ _ _ _ _ _ _ _ _ _ _ _ T105 (mkF m 129 #[.val (.ref t), .val (.int (0 : Int32)), .val (.int (4 : Int32))] [(.ref t), (.int (2 : Int32)), (.ref x103), (.ref x103), (.ref x102), (.ref x102)])
  refine Run.via (fun _ => XS.iloadN X105.at X105.ex rfl (X105.de m04d_129) rfl) ?_
  show Run _ _ _ _ _ _ _ _ _ _ _ _ T105 (mkF m 130 #[.val (.ref t), .val (.int (0 : Int32)), .val (.int (4 : Int32))] [(.int (0 : Int32)), (.ref t), (.int (2 : Int32)), (.ref x103), (.ref x103), (.ref x102), (.ref x102)])
  refine Run.via (fun _ => XS.iconst X105.at X105.ex rfl (X105.de m04d_130)) ?_
  show Run _ _ _ _ _ _ _ _ _ _ _ _ T105 (mkF m 131 #[.val (.ref t), .val (.int (0 : Int32)), .val (.int (4 : Int32))] [(.int (2 : Int32)), (.int (0 : Int32)), (.ref t), (.int (2 : Int32)), (.ref x103), (.ref x103), (.ref x102), (.ref x102)])
  refine Run.via (fun _ => XS.iadd X105.at X105.ex rfl (X105.de m04d_131) rfl) ?_
  show Run _ _ _ _ _ _ _ _ _ _ _ _ T105 (mkF m 132 #[.val (.ref t), .val (.int (0 : Int32)), .val (.int (4 : Int32))] [(.int (2 : Int32)), (.ref t), (.int (2 : Int32)), (.ref x103), (.ref x103), (.ref x102), (.ref x102)])
  refine Run.caload X105 (i := 2) Q105 rfl (Nat.le_of_ble_eq_true rfl) m04d_132 ?_
  show Run _ _ _ _ _ _ _ _ _ _ _ _ T105 (mkF m 133 #[.val (.ref t), .val (.int (0 : Int32)), .val (.int (4 : Int32))] [(.int d2), (.int (2 : Int32)), (.ref x103), (.ref x103), (.ref x102), (.ref x102)])
  refine Run.castore X105 (i := 2) (v' := d2) A105 rfl (Nat.le_of_ble_eq_true rfl) (nar_lat r2) (Or.inr (by omega)) (by omega) m04d_133 ?_
  intro T106 h106 L106 X106 K106 z106 A106
  have A106 : Arc .char Z h106 x103 [d0, d1, d2, (0 : Int32)] := A106
  show Run _ _ _ _ _ _ _ _ _ _ _ _ T106 (mkF m 134 #[.val (.ref t), .val (.int (0 : Int32)), .val (.int (4 : Int32))] [(.ref x103), (.ref x102), (.ref x102)])
  have G106 := G105.keep K106 (ninS (neA (by omega)) nin0)
  have Q106 := Q105.keep K106 (ninS (neA (by omega)) nin0)
  refine Run.via (fun _ => XS.dup X106.at X106.ex rfl (X106.de m04d_134) rfl rfl) ?_
  show Run _ _ _ _ _ _ _ _ _ _ _ _ T106 (mkF m 135 #[.val (.ref t), .val (.int (0 : Int32)), .val (.int (4 : Int32))] [(.ref x103), (.ref x103), (.ref x102), (.ref x102)])
  refine Run.via (fun _ => XS.iconst X106.at X106.ex rfl (X106.de m04d_135)) ?_
  show Run _ _ _ _ _ _ _ _ _ _ _ _ T106 (mkF m 136 #[.val (.ref t), .val (.int (0 : Int32)), .val (.int (4 : Int32))] [(.int (3 : Int32)), (.ref x103), (.ref x103), (.ref x102), (.ref x102)])
  refine Run.via (fun _ => XS.aloadN X106.at X106.ex rfl (X106.de m04d_136) rfl rfl) ?_
  show Run _ _ _ _ _ _ _ _ _ _ _ _ T106 (mkF m 137 #[.val (.ref t), .val (.int (0 : Int32)), .val (.int (4 : Int32))] [(.ref t), (.int (3 : Int32)), (.ref x103), (.ref x103), (.ref x102), (.ref x102)])
  refine Run.via (fun _ => XS.iloadN X106.at X106.ex rfl (X106.de m04d_137) rfl) ?_
  show Run _ _ _ _ _ _ _ _ _ _ _ _ T106 (mkF m 138 #[.val (.ref t), .val (.int (0 : Int32)), .val (.int (4 : Int32))] [(.int (0 : Int32)), (.ref t), (.int (3 : Int32)), (.ref x103), (.ref x103), (.ref x102), (.ref x102)])
  refine Run.via (fun _ => XS.iconst X106.at X106.ex rfl (X106.de m04d_138)) ?_
  show Run _ _ _ _ _ _ _ _ _ _ _ _ T106 (mkF m 139 #[.val (.ref t), .val (.int (0 : Int32)), .val (.int (4 : Int32))] [(.int (3 : Int32)), (.int (0 : Int32)), (.ref t), (.int (3 : Int32)), (.ref x103), (.ref x103), (.ref x102), (.ref x102)])
  refine Run.via (fun _ => XS.iadd X106.at X106.ex rfl (X106.de m04d_139) rfl) ?_
  show Run _ _ _ _ _ _ _ _ _ _ _ _ T106 (mkF m 140 #[.val (.ref t), .val (.int (0 : Int32)), .val (.int (4 : Int32))] [(.int (3 : Int32)), (.ref t), (.int (3 : Int32)), (.ref x103), (.ref x103), (.ref x102), (.ref x102)])
  refine Run.caload X106 (i := 3) Q106 rfl (Nat.le_of_ble_eq_true rfl) m04d_140 ?_
  show Run _ _ _ _ _ _ _ _ _ _ _ _ T106 (mkF m 141 #[.val (.ref t), .val (.int (0 : Int32)), .val (.int (4 : Int32))] [(.int d3), (.int (3 : Int32)), (.ref x103), (.ref x103), (.ref x102), (.ref x102)])
  refine Run.castore X106 (i := 3) (v' := d3) A106 rfl (Nat.le_of_ble_eq_true rfl) (nar_lat r3) (Or.inr (by omega)) (by omega) m04d_141 ?_
  intro T107 h107 L107 X107 K107 z107 A107
  have A107 : Arc .char Z h107 x103 [d0, d1, d2, d3] := A107
  show Run _ _ _ _ _ _ _ _ _ _ _ _ T107 (mkF m 142 #[.val (.ref t), .val (.int (0 : Int32)), .val (.int (4 : Int32))] [(.ref x103), (.ref x102), (.ref x102)])
  have G107 := G106.keep K107 (ninS (neA (by omega)) nin0)
  have Q107 := Q106.keep K107 (ninS (neA (by omega)) nin0)
  have hcs108 : ∀ c ∈ ([d0, d1, d2, d3] : List Int32), ¬ c < 0 ∧ ¬ (255 : Int32) < c := lsS r0 (lsS r1 (lsS r2 (lsS r3 (ls0))))
  refine Run.initStr hw hS X107 (cs := [d0, d1, d2, d3]) (W := 1) G107 A107 hcs108 (Nat.le_of_ble_eq_true rfl) (wd hw 9 rfl) (wd hw 10 rfl) (wd hw 7 rfl) m04d_142 rfl (Or.inr (by omega)) (by omega) (by simp) (Nat.le_of_ble_eq_true rfl) (by decide) (by decide) (Nat.le_of_ble_eq_true rfl) (Nat.le_of_ble_eq_true rfl) ?_
  intro T108 h108 L108 X108 K108 S108
  show Run _ _ _ _ _ _ _ _ _ _ _ _ T108 (mkF m 145 #[.val (.ref t), .val (.int (0 : Int32)), .val (.int (4 : Int32))] [(.ref x102)])
  exact Run.retA X108 (t := (.object "java/lang/String")) rfl rfl rfl m04d_145 (Nat.le_of_ble_eq_true rfl) (Nat.le_of_ble_eq_true rfl) (⟨x102, rfl, S108⟩) (nofun)
-- part con_m10
theorem m10d_0 : decode method_2_code 0 = .ok (.iload_n 2, 1) := by decide +kernel
theorem m10d_1 : decode method_2_code 1 = .ok (.ifCond .gt 14, 3) := by decide +kernel
theorem m10d_4 : decode method_2_code 4 = .ok (.new 7, 3) := by decide +kernel
theorem m10d_7 : decode method_2_code 7 = .ok (.dup, 1) := by decide +kernel
theorem m10d_8 : decode method_2_code 8 = .ok (.iconst 0, 1) := by decide +kernel
theorem m10d_9 : decode method_2_code 9 = .ok (.newarray .char, 2) := by decide +kernel
theorem m10d_11 : decode method_2_code 11 = .ok (.invokespecial 9, 3) := by decide +kernel
theorem m10d_14 : decode method_2_code 14 = .ok (.areturn, 1) := by decide +kernel
set_option maxRecDepth 65536 in
set_option maxHeartbeats 40000000 in
theorem con_m10 (l : Launch) {Z : State} {a0 : Array Value} {EL : List (String × Nat)} {h0 : Heap} (hw : ∀ d ∈ tables_1, d.before a0 Z = true) (hS : Sets Z) (hN : NW = false) (hm : ("java/lang/String", 7) ∈ EL) {t : Addr} {d0 d1 d2 d3 : Int32} (r0 : ¬ d0 < 0 ∧ ¬ (255 : Int32) < d0) (r1 : ¬ d1 < 0 ∧ ¬ (255 : Int32) < d1) (r2 : ¬ d2 < 0 ∧ ¬ (255 : Int32) < d2) (r3 : ¬ d3 < 0 ∧ ¬ (255 : Int32) < d3) (A : Arc .char Z h0 t [d0, d1, d2, d3]) (O : Ext Z.heap h0) : Con l Z a0 EL false (⟨"com/example/sliceworks/sliceworks/web/HeadersUnquotedPinLaw", "make", "([CII)Ljava/lang/String;"⟩ : MethodName) method_2_code 3 (some (.object "java/lang/String")) ({ frames := 5, cells := 6, slots := 12, locals := 75 } : Room) [] [] #[(.ref t), (.int (1 : Int32)), (.int (0 : Int32))] h0 (fun v h => ∃ x, v = some (.ref x) ∧ Str Z h x []) := by
  refine Con.enter (plainFor_of_name (by first | (simp [plainName, overriddenIn]; done) | decide +kernel)) O ?_
  intro p e s m below meth c T0 X0
  rw [show entryFrame m #[(.ref t), (.int (1 : Int32)), (.int (0 : Int32))] 3 = (mkF m 0 #[.val (.ref t), .val (.int (1 : Int32)), .val (.int (0 : Int32))] []) from by first | (simp [entryFrame, mkF, argsToLocals, Value.category]; done) | rfl]
  have ho := O.1
  have hlt := A.lt
  refine Run.via (fun _ => XS.iloadN X0.at X0.ex rfl (X0.de m10d_0) rfl) ?_
  show Run _ _ _ _ _ _ _ _ _ _ _ _ T0 (mkF m 1 #[.val (.ref t), .val (.int (1 : Int32)), .val (.int (0 : Int32))] [(.int (0 : Int32))])
  refine Run.via (fun _ => XS.ifNo X0.at X0.ex rfl (X0.de m10d_1) rfl ((if0 _ _).trans (flt (by decide : ¬ ((0 : Int32) < (0 : Int32)))).2.2.1)) ?_
  show Run _ _ _ _ _ _ _ _ _ _ _ _ T0 (mkF m 4 #[.val (.ref t), .val (.int (1 : Int32)), .val (.int (0 : Int32))] [])
  have u101 := X0.kp.1
  have ho101 := O.1
  refine Run.new X0 (wd hw 6 rfl) (wd hw 7 rfl) (wd hw 8 rfl) m10d_4 (Nat.le_of_ble_eq_true rfl) (Nat.le_of_ble_eq_true rfl) ?_
  intro T102 h102 x102 g102 X102 K102 z102 E102 D102
  show Run _ _ _ _ _ _ _ _ _ _ _ _ T102 (mkF m 7 #[.val (.ref t), .val (.int (1 : Int32)), .val (.int (0 : Int32))] [(.ref x102)])
  have Q102 := A.keep K102 nin0
  have G102 : Raw Z h102 x102 := ⟨E102, D102 (Or.inr (wd hw 34 rfl)) (ty := (.array .byte)) (by decide), D102 (Or.inr (wd hw 32 rfl)) (ty := .byte) (by decide)⟩
  have s102 := K102.1
  refine Run.via (fun _ => XS.dup X102.at X102.ex rfl (X102.de m10d_7) rfl rfl) ?_
  show Run _ _ _ _ _ _ _ _ _ _ _ _ T102 (mkF m 8 #[.val (.ref t), .val (.int (1 : Int32)), .val (.int (0 : Int32))] [(.ref x102), (.ref x102)])
  refine Run.via (fun _ => XS.iconst X102.at X102.ex rfl (X102.de m10d_8)) ?_
  show Run _ _ _ _ _ _ _ _ _ _ _ _ T102 (mkF m 9 #[.val (.ref t), .val (.int (1 : Int32)), .val (.int (0 : Int32))] [(.int (0 : Int32)), (.ref x102), (.ref x102)])
  refine Run.newarr X102 (aty := .char) (n := 0) (cap := 0) (wd hw 1 rfl) rfl m10d_9 rfl (Nat.le_refl _) (by decide) (Nat.le_of_ble_eq_true rfl) (Nat.le_of_ble_eq_true rfl) ?_
  intro T103 h103 x103 g103 X103 K103 z103 A103
  have A103 : Arc .char Z h103 x103 [] := A103
  show Run _ _ _ _ _ _ _ _ _ _ _ _ T103 (mkF m 11 #[.val (.ref t), .val (.int (1 : Int32)), .val (.int (0 : Int32))] [(.ref x103), (.ref x102), (.ref x102)])
  have s103 := K103.1
  have G103 := G102.keep K103 nin0
  have Q103 := Q102.keep K103 nin0
  refine Run.callN X103 (y := (⟨"java/lang/String", "<init>", "([C)V"⟩ : MethodName)) (W := 1) (con_n1e l hw hN hm G103 A103 (by omega) X103.old) rfl (wd hw 9 rfl) (wd hw 10 rfl) (wd hw 8 rfl) (wd hw 11 rfl) (by decide) pd___C_V rfl (argsL := [(.ref x103)]) (rest := [(.ref x102)]) rfl (Nat.le_of_ble_eq_true rfl) rfl m10d_11 (by decide) (by decide) (Nat.le_of_ble_eq_true rfl) (Nat.le_of_ble_eq_true rfl) (fun y hy => by cases List.mem_singleton.mp hy; exact ⟨Or.inr (by omega), by omega⟩) (fun y hy => by cases List.mem_singleton.mp hy; simp) ?_
  intro v104 T104 h104 L104 q104 X104 XF104 K104
  obtain ⟨rfl, S104⟩ := q104
  show Run _ _ _ _ _ _ _ _ _ _ _ _ T104 (mkF m 14 #[.val (.ref t), .val (.int (1 : Int32)), .val (.int (0 : Int32))] [(.ref x102)])
  exact Run.retA X104 (t := (.object "java/lang/String")) rfl rfl rfl m10d_14 (Nat.le_of_ble_eq_true rfl) (Nat.le_of_ble_eq_true rfl) (⟨x102, rfl, S104⟩) (nofun)
-- part con_m11
theorem m11d_0 : decode method_2_code 0 = .ok (.iload_n 2, 1) := by decide +kernel
theorem m11d_1 : decode method_2_code 1 = .ok (.ifCond .gt 14, 3) := by decide +kernel
theorem m11d_15 : decode method_2_code 15 = .ok (.iload_n 2, 1) := by decide +kernel
theorem m11d_16 : decode method_2_code 16 = .ok (.iconst 1, 1) := by decide +kernel
theorem m11d_17 : decode method_2_code 17 = .ok (.if_icmp .ne 20, 3) := by decide +kernel
theorem m11d_20 : decode method_2_code 20 = .ok (.new 7, 3) := by decide +kernel
theorem m11d_23 : decode method_2_code 23 = .ok (.dup, 1) := by decide +kernel
theorem m11d_24 : decode method_2_code 24 = .ok (.iconst 1, 1) := by decide +kernel
theorem m11d_25 : decode method_2_code 25 = .ok (.newarray .char, 2) := by decide +kernel
theorem m11d_27 : decode method_2_code 27 = .ok (.dup, 1) := by decide +kernel
theorem m11d_28 : decode method_2_code 28 = .ok (.iconst 0, 1) := by decide +kernel
theorem m11d_29 : decode method_2_code 29 = .ok (.aload_n 0, 1) := by decide +kernel
theorem m11d_30 : decode method_2_code 30 = .ok (.iload_n 1, 1) := by decide +kernel
theorem m11d_31 : decode method_2_code 31 = .ok (.caload, 1) := by decide +kernel
theorem m11d_32 : decode method_2_code 32 = .ok (.castore, 1) := by decide +kernel
theorem m11d_33 : decode method_2_code 33 = .ok (.invokespecial 9, 3) := by decide +kernel
theorem m11d_36 : decode method_2_code 36 = .ok (.areturn, 1) := by decide +kernel
set_option maxRecDepth 65536 in
set_option maxHeartbeats 40000000 in
theorem con_m11 (l : Launch) {Z : State} {a0 : Array Value} {EL : List (String × Nat)} {h0 : Heap} (hw : ∀ d ∈ tables_1, d.before a0 Z = true) (hS : Sets Z) (hN : NW = false) (hm : ("java/lang/String", 7) ∈ EL) {t : Addr} {d0 d1 d2 d3 : Int32} (r0 : ¬ d0 < 0 ∧ ¬ (255 : Int32) < d0) (r1 : ¬ d1 < 0 ∧ ¬ (255 : Int32) < d1) (r2 : ¬ d2 < 0 ∧ ¬ (255 : Int32) < d2) (r3 : ¬ d3 < 0 ∧ ¬ (255 : Int32) < d3) (A : Arc .char Z h0 t [d0, d1, d2, d3]) (O : Ext Z.heap h0) : Con l Z a0 EL false (⟨"com/example/sliceworks/sliceworks/web/HeadersUnquotedPinLaw", "make", "([CII)Ljava/lang/String;"⟩ : MethodName) method_2_code 3 (some (.object "java/lang/String")) ({ frames := 5, cells := 6, slots := 12, locals := 75 } : Room) [] [] #[(.ref t), (.int (1 : Int32)), (.int (1 : Int32))] h0 (fun v h => ∃ x, v = some (.ref x) ∧ Str Z h x [d1]) := by
  refine Con.enter (plainFor_of_name (by first | (simp [plainName, overriddenIn]; done) | decide +kernel)) O ?_
  intro p e s m below meth c T0 X0
  rw [show entryFrame m #[(.ref t), (.int (1 : Int32)), (.int (1 : Int32))] 3 = (mkF m 0 #[.val (.ref t), .val (.int (1 : Int32)), .val (.int (1 : Int32))] []) from by first | (simp [entryFrame, mkF, argsToLocals, Value.category]; done) | rfl]
  have ho := O.1
  have hlt := A.lt
  refine Run.via (fun _ => XS.iloadN X0.at X0.ex rfl (X0.de m11d_0) rfl) ?_
  show Run _ _ _ _ _ _ _ _ _ _ _ _ T0 (mkF m 1 #[.val (.ref t), .val (.int (1 : Int32)), .val (.int (1 : Int32))] [(.int (1 : Int32))])
  refine Run.via (fun _ => XS.ifYes X0.at X0.ex rfl (pc0 := 1) (pc' := 15) rfl (X0.de m11d_1) rfl ((if0 _ _).trans (tlt (by decide : ((0 : Int32) < (1 : Int32)))).2.2.1) (by decide) (by decide)) ?_
  show Run _ _ _ _ _ _ _ _ _ _ _ _ T0 (mkF m 15 #[.val (.ref t), .val (.int (1 : Int32)), .val (.int (1 : Int32))] [])
  refine Run.via (fun _ => XS.iloadN X0.at X0.ex rfl (X0.de m11d_15) rfl) ?_
  show Run _ _ _ _ _ _ _ _ _ _ _ _ T0 (mkF m 16 #[.val (.ref t), .val (.int (1 : Int32)), .val (.int (1 : Int32))] [(.int (1 : Int32))])
  refine Run.via (fun _ => XS.iconst X0.at X0.ex rfl (X0.de m11d_16)) ?_
  show Run _ _ _ _ _ _ _ _ _ _ _ _ T0 (mkF m 17 #[.val (.ref t), .val (.int (1 : Int32)), .val (.int (1 : Int32))] [(.int (1 : Int32)), (.int (1 : Int32))])
  refine Run.via (fun _ => XS.icmpNo X0.at X0.ex rfl (X0.de m11d_17) rfl (teq (by decide : ((1 : Int32) = (1 : Int32)))).2) ?_
  show Run _ _ _ _ _ _ _ _ _ _ _ _ T0 (mkF m 20 #[.val (.ref t), .val (.int (1 : Int32)), .val (.int (1 : Int32))] [])
  have u101 := X0.kp.1
  have ho101 := O.1
  refine Run.new X0 (wd hw 6 rfl) (wd hw 7 rfl) (wd hw 8 rfl) m11d_20 (Nat.le_of_ble_eq_true rfl) (Nat.le_of_ble_eq_true rfl) ?_
  intro T102 h102 x102 g102 X102 K102 z102 E102 D102
  show Run _ _ _ _ _ _ _ _ _ _ _ _ T102 (mkF m 23 #[.val (.ref t), .val (.int (1 : Int32)), .val (.int (1 : Int32))] [(.ref x102)])
  have Q102 := A.keep K102 nin0
  have G102 : Raw Z h102 x102 := ⟨E102, D102 (Or.inr (wd hw 34 rfl)) (ty := (.array .byte)) (by decide), D102 (Or.inr (wd hw 32 rfl)) (ty := .byte) (by decide)⟩
  have s102 := K102.1
  refine Run.via (fun _ => XS.dup X102.at X102.ex rfl (X102.de m11d_23) rfl rfl) ?_
  show Run _ _ _ _ _ _ _ _ _ _ _ _ T102 (mkF m 24 #[.val (.ref t), .val (.int (1 : Int32)), .val (.int (1 : Int32))] [(.ref x102), (.ref x102)])
  refine Run.via (fun _ => XS.iconst X102.at X102.ex rfl (X102.de m11d_24)) ?_
  show Run _ _ _ _ _ _ _ _ _ _ _ _ T102 (mkF m 25 #[.val (.ref t), .val (.int (1 : Int32)), .val (.int (1 : Int32))] [(.int (1 : Int32)), (.ref x102), (.ref x102)])
  refine Run.newarr X102 (aty := .char) (n := 1) (cap := 1) (wd hw 1 rfl) rfl m11d_25 rfl (Nat.le_refl _) (by decide) (Nat.le_of_ble_eq_true rfl) (Nat.le_of_ble_eq_true rfl) ?_
  intro T103 h103 x103 g103 X103 K103 z103 A103
  have A103 : Arc .char Z h103 x103 [(0 : Int32)] := A103
  show Run _ _ _ _ _ _ _ _ _ _ _ _ T103 (mkF m 27 #[.val (.ref t), .val (.int (1 : Int32)), .val (.int (1 : Int32))] [(.ref x103), (.ref x102), (.ref x102)])
  have s103 := K103.1
  have G103 := G102.keep K103 nin0
  have Q103 := Q102.keep K103 nin0
  refine Run.via (fun _ => XS.dup X103.at X103.ex rfl (X103.de m11d_27) rfl rfl) ?_
  show Run _ _ _ _ _ _ _ _ _ _ _ _ T103 (mkF m 28 #[.val (.ref t), .val (.int (1 : Int32)), .val (.int (1 : Int32))] [(.ref x103), (.ref x103), (.ref x102), (.ref x102)])
  refine Run.via (fun _ => XS.iconst X103.at X103.ex rfl (X103.de m11d_28)) ?_
  show Run _ _ _ _ _ _ _ _ _ _ _ _ T103 (mkF m 29 #[.val (.ref t), .val (.int (1 : Int32)), .val (.int (1 : Int32))] [(.int (0 : Int32)), (.ref x103), (.ref x103), (.ref x102), (.ref x102)])
  refine Run.via (fun _ => XS.aloadN X103.at X103.ex rfl (X103.de m11d_29) rfl rfl) ?_
  show Run _ _ _ _ _ _ _ _ _ _ _ _ T103 (mkF m 30 #[.val (.ref t), .val (.int (1 : Int32)), .val (.int (1 : Int32))] [(.ref t), (.int (0 : Int32)), (.ref x103), (.ref x103), (.ref x102), (.ref x102)])
  refine Run.via (fun _ => XS.iloadN X103.at X103.ex rfl (X103.de m11d_30) rfl) ?_
  show Run _ _ _ _ _ _ _ _ _ _ _ _ T103 (mkF m 31 #[.val (.ref t), .val (.int (1 : Int32)), .val (.int (1 : Int32))] [(.int (1 : Int32)), (.ref t), (.int (0 : Int32)), (.ref x103), (.ref x103), (.ref x102), (.ref x102)])
  refine Run.caload X103 (i := 1) Q103 rfl (Nat.le_of_ble_eq_true rfl) m11d_31 ?_
  show Run _ _ _ _ _ _ _ _ _ _ _ _ T103 (mkF m 32 #[.val (.ref t), .val (.int (1 : Int32)), .val (.int (1 : Int32))] [(.int d1), (.int (0 : Int32)), (.ref x103), (.ref x103), (.ref x102), (.ref x102)])
  refine Run.castore X103 (i := 0) (v' := d1) A103 rfl (Nat.le_of_ble_eq_true rfl) (nar_lat r1) (Or.inr (by omega)) (by omega) m11d_32 ?_
  intro T104 h104 L104 X104 K104 z104 A104
  have A104 : Arc .char Z h104 x103 [d1] := A104
  show Run _ _ _ _ _ _ _ _ _ _ _ _ T104 (mkF m 33 #[.val (.ref t), .val (.int (1 : Int32)), .val (.int (1 : Int32))] [(.ref x103), (.ref x102), (.ref x102)])
  have G104 := G103.keep K104 (ninS (neA (by omega)) nin0)
  have Q104 := Q103.keep K104 (ninS (neA (by omega)) nin0)
  have hcs105 : ∀ c ∈ ([d1] : List Int32), ¬ c < 0 ∧ ¬ (255 : Int32) < c := lsS r1 (ls0)
  refine Run.initStr hw hS X104 (cs := [d1]) (W := 1) G104 A104 hcs105 (Nat.le_of_ble_eq_true rfl) (wd hw 9 rfl) (wd hw 10 rfl) (wd hw 7 rfl) m11d_33 rfl (Or.inr (by omega)) (by omega) (by simp) (Nat.le_of_ble_eq_true rfl) (by decide) (by decide) (Nat.le_of_ble_eq_true rfl) (Nat.le_of_ble_eq_true rfl) ?_
  intro T105 h105 L105 X105 K105 S105
  show Run _ _ _ _ _ _ _ _ _ _ _ _ T105 (mkF m 36 #[.val (.ref t), .val (.int (1 : Int32)), .val (.int (1 : Int32))] [(.ref x102)])
  exact Run.retA X105 (t := (.object "java/lang/String")) rfl rfl rfl m11d_36 (Nat.le_of_ble_eq_true rfl) (Nat.le_of_ble_eq_true rfl) (⟨x102, rfl, S105⟩) (nofun)
-- part con_m12
theorem m12d_0 : decode method_2_code 0 = .ok (.iload_n 2, 1) := by decide +kernel
theorem m12d_1 : decode method_2_code 1 = .ok (.ifCond .gt 14, 3) := by decide +kernel
theorem m12d_15 : decode method_2_code 15 = .ok (.iload_n 2, 1) := by decide +kernel
theorem m12d_16 : decode method_2_code 16 = .ok (.iconst 1, 1) := by decide +kernel
theorem m12d_17 : decode method_2_code 17 = .ok (.if_icmp .ne 20, 3) := by decide +kernel
theorem m12d_37 : decode method_2_code 37 = .ok (.iload_n 2, 1) := by decide +kernel
theorem m12d_38 : decode method_2_code 38 = .ok (.iconst 2, 1) := by decide +kernel
theorem m12d_39 : decode method_2_code 39 = .ok (.if_icmp .ne 28, 3) := by decide +kernel
theorem m12d_42 : decode method_2_code 42 = .ok (.new 7, 3) := by decide +kernel
theorem m12d_45 : decode method_2_code 45 = .ok (.dup, 1) := by decide +kernel
theorem m12d_46 : decode method_2_code 46 = .ok (.iconst 2, 1) := by decide +kernel
theorem m12d_47 : decode method_2_code 47 = .ok (.newarray .char, 2) := by decide +kernel
theorem m12d_49 : decode method_2_code 49 = .ok (.dup, 1) := by decide +kernel
theorem m12d_50 : decode method_2_code 50 = .ok (.iconst 0, 1) := by decide +kernel
theorem m12d_51 : decode method_2_code 51 = .ok (.aload_n 0, 1) := by decide +kernel
theorem m12d_52 : decode method_2_code 52 = .ok (.iload_n 1, 1) := by decide +kernel
theorem m12d_53 : decode method_2_code 53 = .ok (.caload, 1) := by decide +kernel
theorem m12d_54 : decode method_2_code 54 = .ok (.castore, 1) := by decide +kernel
theorem m12d_55 : decode method_2_code 55 = .ok (.dup, 1) := by decide +kernel
theorem m12d_56 : decode method_2_code 56 = .ok (.iconst 1, 1) := by decide +kernel
theorem m12d_57 : decode method_2_code 57 = .ok (.aload_n 0, 1) := by decide +kernel
theorem m12d_58 : decode method_2_code 58 = .ok (.iload_n 1, 1) := by decide +kernel
theorem m12d_59 : decode method_2_code 59 = .ok (.iconst 1, 1) := by decide +kernel
theorem m12d_60 : decode method_2_code 60 = .ok (.iadd, 1) := by decide +kernel
theorem m12d_61 : decode method_2_code 61 = .ok (.caload, 1) := by decide +kernel
theorem m12d_62 : decode method_2_code 62 = .ok (.castore, 1) := by decide +kernel
theorem m12d_63 : decode method_2_code 63 = .ok (.invokespecial 9, 3) := by decide +kernel
theorem m12d_66 : decode method_2_code 66 = .ok (.areturn, 1) := by decide +kernel
set_option maxRecDepth 65536 in
set_option maxHeartbeats 40000000 in
theorem con_m12 (l : Launch) {Z : State} {a0 : Array Value} {EL : List (String × Nat)} {h0 : Heap} (hw : ∀ d ∈ tables_1, d.before a0 Z = true) (hS : Sets Z) (hN : NW = false) (hm : ("java/lang/String", 7) ∈ EL) {t : Addr} {d0 d1 d2 d3 : Int32} (r0 : ¬ d0 < 0 ∧ ¬ (255 : Int32) < d0) (r1 : ¬ d1 < 0 ∧ ¬ (255 : Int32) < d1) (r2 : ¬ d2 < 0 ∧ ¬ (255 : Int32) < d2) (r3 : ¬ d3 < 0 ∧ ¬ (255 : Int32) < d3) (A : Arc .char Z h0 t [d0, d1, d2, d3]) (O : Ext Z.heap h0) : Con l Z a0 EL false (⟨"com/example/sliceworks/sliceworks/web/HeadersUnquotedPinLaw", "make", "([CII)Ljava/lang/String;"⟩ : MethodName) method_2_code 3 (some (.object "java/lang/String")) ({ frames := 5, cells := 6, slots := 12, locals := 75 } : Room) [] [] #[(.ref t), (.int (1 : Int32)), (.int (2 : Int32))] h0 (fun v h => ∃ x, v = some (.ref x) ∧ Str Z h x [d1, d2]) := by
  refine Con.enter (plainFor_of_name (by first | (simp [plainName, overriddenIn]; done) | decide +kernel)) O ?_
  intro p e s m below meth c T0 X0
  rw [show entryFrame m #[(.ref t), (.int (1 : Int32)), (.int (2 : Int32))] 3 = (mkF m 0 #[.val (.ref t), .val (.int (1 : Int32)), .val (.int (2 : Int32))] []) from by first | (simp [entryFrame, mkF, argsToLocals, Value.category]; done) | rfl]
  have ho := O.1
  have hlt := A.lt
  refine Run.via (fun _ => XS.iloadN X0.at X0.ex rfl (X0.de m12d_0) rfl) ?_
  show Run _ _ _ _ _ _ _ _ _ _ _ _ T0 (mkF m 1 #[.val (.ref t), .val (.int (1 : Int32)), .val (.int (2 : Int32))] [(.int (2 : Int32))])
  refine Run.via (fun _ => XS.ifYes X0.at X0.ex rfl (pc0 := 1) (pc' := 15) rfl (X0.de m12d_1) rfl ((if0 _ _).trans (tlt (by decide : ((0 : Int32) < (2 : Int32)))).2.2.1) (by decide) (by decide)) ?_
  show Run _ _ _ _ _ _ _ _ _ _ _ _ T0 (mkF m 15 #[.val (.ref t), .val (.int (1 : Int32)), .val (.int (2 : Int32))] [])
  refine Run.via (fun _ => XS.iloadN X0.at X0.ex rfl (X0.de m12d_15) rfl) ?_
  show Run _ _ _ _ _ _ _ _ _ _ _ _ T0 (mkF m 16 #[.val (.ref t), .val (.int (1 : Int32)), .val (.int (2 : Int32))] [(.int (2 : Int32))])
  refine Run.via (fun _ => XS.iconst X0.at X0.ex rfl (X0.de m12d_16)) ?_
  show Run _ _ _ _ _ _ _ _ _ _ _ _ T0 (mkF m 17 #[.val (.ref t), .val (.int (1 : Int32)), .val (.int (2 : Int32))] [(.int (1 : Int32)), (.int (2 : Int32))])
  refine Run.via (fun _ => XS.icmpYes X0.at X0.ex rfl (pc0 := 17) (pc' := 37) rfl (X0.de m12d_17) rfl (feq (by decide : ¬ ((2 : Int32) = (1 : Int32)))).2 (by decide) (by decide)) ?_
  show Run _ _ _ _ _ _ _ _ _ _ _ _ T0 (mkF m 37 #[.val (.ref t), .val (.int (1 : Int32)), .val (.int (2 : Int32))] [])
  refine Run.via (fun _ => XS.iloadN X0.at X0.ex rfl (X0.de m12d_37) rfl) ?_
  show Run _ _ _ _ _ _ _ _ _ _ _ _ T0 (mkF m 38 #[.val (.ref t), .val (.int (1 : Int32)), .val (.int (2 : Int32))] [(.int (2 : Int32))])
  refine Run.via (fun _ => XS.iconst X0.at X0.ex rfl (X0.de m12d_38)) ?_
  show Run _ _ _ _ _ _ _ _ _ _ _ _ T0 (mkF m 39 #[.val (.ref t), .val (.int (1 : Int32)), .val (.int (2 : Int32))] [(.int (2 : Int32)), (.int (2 : Int32))])
  refine Run.via (fun _ => XS.icmpNo X0.at X0.ex rfl (X0.de m12d_39) rfl (teq (by decide : ((2 : Int32) = (2 : Int32)))).2) ?_
  show Run _ _ _ _ _ _ _ _ _ _ _ _ T0 (mkF m 42 #[.val (.ref t), .val (.int (1 : Int32)), .val (.int (2 : Int32))] [])
  have u101 := X0.kp.1
  have ho101 := O.1
  refine Run.new X0 (wd hw 6 rfl) (wd hw 7 rfl) (wd hw 8 rfl) m12d_42 (Nat.le_of_ble_eq_true rfl) (Nat.le_of_ble_eq_true rfl) ?_
  intro T102 h102 x102 g102 X102 K102 z102 E102 D102
  show Run _ _ _ _ _ _ _ _ _ _ _ _ T102 (mkF m 45 #[.val (.ref t), .val (.int (1 : Int32)), .val (.int (2 : Int32))] [(.ref x102)])
  have Q102 := A.keep K102 nin0
  have G102 : Raw Z h102 x102 := ⟨E102, D102 (Or.inr (wd hw 34 rfl)) (ty := (.array .byte)) (by decide), D102 (Or.inr (wd hw 32 rfl)) (ty := .byte) (by decide)⟩
  have s102 := K102.1
  refine Run.via (fun _ => XS.dup X102.at X102.ex rfl (X102.de m12d_45) rfl rfl) ?_
  show Run _ _ _ _ _ _ _ _ _ _ _ _ T102 (mkF m 46 #[.val (.ref t), .val (.int (1 : Int32)), .val (.int (2 : Int32))] [(.ref x102), (.ref x102)])
  refine Run.via (fun _ => XS.iconst X102.at X102.ex rfl (X102.de m12d_46)) ?_
  show Run _ _ _ _ _ _ _ _ _ _ _ _ T102 (mkF m 47 #[.val (.ref t), .val (.int (1 : Int32)), .val (.int (2 : Int32))] [(.int (2 : Int32)), (.ref x102), (.ref x102)])
  refine Run.newarr X102 (aty := .char) (n := 2) (cap := 2) (wd hw 1 rfl) rfl m12d_47 rfl (Nat.le_refl _) (by decide) (Nat.le_of_ble_eq_true rfl) (Nat.le_of_ble_eq_true rfl) ?_
  intro T103 h103 x103 g103 X103 K103 z103 A103
  have A103 : Arc .char Z h103 x103 [(0 : Int32), (0 : Int32)] := A103
  show Run _ _ _ _ _ _ _ _ _ _ _ _ T103 (mkF m 49 #[.val (.ref t), .val (.int (1 : Int32)), .val (.int (2 : Int32))] [(.ref x103), (.ref x102), (.ref x102)])
  have s103 := K103.1
  have G103 := G102.keep K103 nin0
  have Q103 := Q102.keep K103 nin0
  refine Run.via (fun _ => XS.dup X103.at X103.ex rfl (X103.de m12d_49) rfl rfl) ?_
  show Run _ _ _ _ _ _ _ _ _ _ _ _ T103 (mkF m 50 #[.val (.ref t), .val (.int (1 : Int32)), .val (.int (2 : Int32))] [(.ref x103), (.ref x103), (.ref x102), (.ref x102)])
  refine Run.via (fun _ => XS.iconst X103.at X103.ex rfl (X103.de m12d_50)) ?_
  show Run _ _ _ _ _ _ _ _ _ _ _ _ T103 (mkF m 51 #[.val (.ref t), .val (.int (1 : Int32)), .val (.int (2 : Int32))] [(.int (0 : Int32)), (.ref x103), (.ref x103), (.ref x102), (.ref x102)])
  refine Run.via (fun _ => XS.aloadN X103.at X103.ex rfl (X103.de m12d_51) rfl rfl) ?_
  show Run _ _ _ _ _ _ _ _ _ _ _ _ T103 (mkF m 52 #[.val (.ref t), .val (.int (1 : Int32)), .val (.int (2 : Int32))] [(.ref t), (.int (0 : Int32)), (.ref x103), (.ref x103), (.ref x102), (.ref x102)])
  refine Run.via (fun _ => XS.iloadN X103.at X103.ex rfl (X103.de m12d_52) rfl) ?_
  show Run _ _ _ _ _ _ _ _ _ _ _ _ T103 (mkF m 53 #[.val (.ref t), .val (.int (1 : Int32)), .val (.int (2 : Int32))] [(.int (1 : Int32)), (.ref t), (.int (0 : Int32)), (.ref x103), (.ref x103), (.ref x102), (.ref x102)])
  refine Run.caload X103 (i := 1) Q103 rfl (Nat.le_of_ble_eq_true rfl) m12d_53 ?_
  show Run _ _ _ _ _ _ _ _ _ _ _ _ T103 (mkF m 54 #[.val (.ref t), .val (.int (1 : Int32)), .val (.int (2 : Int32))] [(.int d1), (.int (0 : Int32)), (.ref x103), (.ref x103), (.ref x102), (.ref x102)])
  refine Run.castore X103 (i := 0) (v' := d1) A103 rfl (Nat.le_of_ble_eq_true rfl) (nar_lat r1) (Or.inr (by omega)) (by omega) m12d_54 ?_
  intro T104 h104 L104 X104 K104 z104 A104
  have A104 : Arc .char Z h104 x103 [d1, (0 : Int32)] := A104
  show Run _ _ _ _ _ _ _ _ _ _ _ _ T104 (mkF m 55 #[.val (.ref t), .val (.int (1 : Int32)), .val (.int (2 : Int32))] [(.ref x103), (.ref x102), (.ref x102)])
  have G104 := G103.keep K104 (ninS (neA (by omega)) nin0)
  have Q104 := Q103.keep K104 (ninS (neA (by omega)) nin0)
  refine Run.via (fun _ => XS.dup X104.at X104.ex rfl (X104.de m12d_55) rfl rfl) ?_
  show Run _ _ _ _ _ _ _ _ _ _ _ _ T104 (mkF m 56 #[.val (.ref t), .val (.int (1 : Int32)), .val (.int (2 : Int32))] [(.ref x103), (.ref x103), (.ref x102), (.ref x102)])
  refine Run.via (fun _ => XS.iconst X104.at X104.ex rfl (X104.de m12d_56)) ?_
  show Run _ _ _ _ _ _ _ _ _ _ _ _ T104 (mkF m 57 #[.val (.ref t), .val (.int (1 : Int32)), .val (.int (2 : Int32))] [(.int (1 : Int32)), (.ref x103), (.ref x103), (.ref x102), (.ref x102)])
  refine Run.via (fun _ => XS.aloadN X104.at X104.ex rfl (X104.de m12d_57) rfl rfl) ?_
  show Run _ _ _ _ _ _ _ _ _ _ _ _ T104 (mkF m 58 #[.val (.ref t), .val (.int (1 : Int32)), .val (.int (2 : Int32))] [(.ref t), (.int (1 : Int32)), (.ref x103), (.ref x103), (.ref x102), (.ref x102)])
  refine Run.via (fun _ => XS.iloadN X104.at X104.ex rfl (X104.de m12d_58) rfl) ?_
  show Run _ _ _ _ _ _ _ _ _ _ _ _ T104 (mkF m 59 #[.val (.ref t), .val (.int (1 : Int32)), .val (.int (2 : Int32))] [(.int (1 : Int32)), (.ref t), (.int (1 : Int32)), (.ref x103), (.ref x103), (.ref x102), (.ref x102)])
  refine Run.via (fun _ => XS.iconst X104.at X104.ex rfl (X104.de m12d_59)) ?_
  show Run _ _ _ _ _ _ _ _ _ _ _ _ T104 (mkF m 60 #[.val (.ref t), .val (.int (1 : Int32)), .val (.int (2 : Int32))] [(.int (1 : Int32)), (.int (1 : Int32)), (.ref t), (.int (1 : Int32)), (.ref x103), (.ref x103), (.ref x102), (.ref x102)])
  refine Run.via (fun _ => XS.iadd X104.at X104.ex rfl (X104.de m12d_60) rfl) ?_
  show Run _ _ _ _ _ _ _ _ _ _ _ _ T104 (mkF m 61 #[.val (.ref t), .val (.int (1 : Int32)), .val (.int (2 : Int32))] [(.int (2 : Int32)), (.ref t), (.int (1 : Int32)), (.ref x103), (.ref x103), (.ref x102), (.ref x102)])
  refine Run.caload X104 (i := 2) Q104 rfl (Nat.le_of_ble_eq_true rfl) m12d_61 ?_
  show Run _ _ _ _ _ _ _ _ _ _ _ _ T104 (mkF m 62 #[.val (.ref t), .val (.int (1 : Int32)), .val (.int (2 : Int32))] [(.int d2), (.int (1 : Int32)), (.ref x103), (.ref x103), (.ref x102), (.ref x102)])
  refine Run.castore X104 (i := 1) (v' := d2) A104 rfl (Nat.le_of_ble_eq_true rfl) (nar_lat r2) (Or.inr (by omega)) (by omega) m12d_62 ?_
  intro T105 h105 L105 X105 K105 z105 A105
  have A105 : Arc .char Z h105 x103 [d1, d2] := A105
  show Run _ _ _ _ _ _ _ _ _ _ _ _ T105 (mkF m 63 #[.val (.ref t), .val (.int (1 : Int32)), .val (.int (2 : Int32))] [(.ref x103), (.ref x102), (.ref x102)])
  have G105 := G104.keep K105 (ninS (neA (by omega)) nin0)
  have Q105 := Q104.keep K105 (ninS (neA (by omega)) nin0)
  have hcs106 : ∀ c ∈ ([d1, d2] : List Int32), ¬ c < 0 ∧ ¬ (255 : Int32) < c := lsS r1 (lsS r2 (ls0))
  refine Run.initStr hw hS X105 (cs := [d1, d2]) (W := 1) G105 A105 hcs106 (Nat.le_of_ble_eq_true rfl) (wd hw 9 rfl) (wd hw 10 rfl) (wd hw 7 rfl) m12d_63 rfl (Or.inr (by omega)) (by omega) (by simp) (Nat.le_of_ble_eq_true rfl) (by decide) (by decide) (Nat.le_of_ble_eq_true rfl) (Nat.le_of_ble_eq_true rfl) ?_
  intro T106 h106 L106 X106 K106 S106
  show Run _ _ _ _ _ _ _ _ _ _ _ _ T106 (mkF m 66 #[.val (.ref t), .val (.int (1 : Int32)), .val (.int (2 : Int32))] [(.ref x102)])
  exact Run.retA X106 (t := (.object "java/lang/String")) rfl rfl rfl m12d_66 (Nat.le_of_ble_eq_true rfl) (Nat.le_of_ble_eq_true rfl) (⟨x102, rfl, S106⟩) (nofun)
-- part con_law
set_option maxRecDepth 65536 in
set_option maxHeartbeats 40000000 in
theorem con_law (l : Launch) {Z : State} {a0 : Array Value} {EL : List (String × Nat)} {h0 : Heap} (hw : ∀ d ∈ tables_1, d.before a0 Z = true) (hS : Sets Z) (hN : NW = false) (hm : ("java/lang/String", 7) ∈ EL) (hmH : ("com/example/sliceworks/sliceworks/web/Headers", 115) ∈ EL) (hmL : ("java/lang/StringLatin1", 151) ∈ EL) {x0 size fl : Int32} (O : Ext Z.heap h0) : Con l Z a0 EL false x code maxLocals ret room_1 [] [] #[(.int x0), (.int size), (.int fl)] h0 (fun v _ => v = some (.int 1)) := by
  refine Con.enter (plainFor_of_name (by first | (simp [plainName, overriddenIn]; done) | decide +kernel)) O ?_
  intro p e s m below meth c T0 X0
  rw [show entryFrame m #[(.int x0), (.int size), (.int fl)] maxLocals = (mkF m 0 #[.val (.int x0), .val (.int size), .val (.int fl), .unset, .unset, .unset, .unset, .unset] []) from by first | (simp [entryFrame, mkF, argsToLocals, Value.category, maxLocals]; done) | rfl]
  have ho := O.1
  refine Run.via (fun _ => XS.iloadN X0.at X0.ex rfl (X0.de at_0) rfl) ?_
  show Run _ _ _ _ _ _ _ _ _ _ _ _ T0 (mkF m 1 #[.val (.int x0), .val (.int size), .val (.int fl), .unset, .unset, .unset, .unset, .unset] [(.int size)])
  refine Run.ldcI X0 (wd hw 0 rfl) at_1 ?_
  show Run _ _ _ _ _ _ _ _ _ _ _ _ T0 (mkF m 3 #[.val (.int x0), .val (.int size), .val (.int fl), .unset, .unset, .unset, .unset, .unset] [(.int (2147483647 : Int32)), (.int size)])
  refine Run.via (fun _ => XS.iand X0.at X0.ex rfl (X0.de at_3) rfl) ?_
  show Run _ _ _ _ _ _ _ _ _ _ _ _ T0 (mkF m 4 #[.val (.int x0), .val (.int size), .val (.int fl), .unset, .unset, .unset, .unset, .unset] [(.int (size &&& (2147483647 : Int32)))])
  refine Run.via (fun _ => XS.iconst X0.at X0.ex rfl (X0.de at_4)) ?_
  show Run _ _ _ _ _ _ _ _ _ _ _ _ T0 (mkF m 5 #[.val (.int x0), .val (.int size), .val (.int fl), .unset, .unset, .unset, .unset, .unset] [(.int (5 : Int32)), (.int (size &&& (2147483647 : Int32)))])
  refine Run.irem X0 at_5 (by decide) ?_
  show Run _ _ _ _ _ _ _ _ _ _ _ _ T0 (mkF m 6 #[.val (.int x0), .val (.int size), .val (.int fl), .unset, .unset, .unset, .unset, .unset] [(.int ((size &&& (2147483647 : Int32)) % (5 : Int32)))])
  generalize hsz : ((size &&& (2147483647 : Int32)) % (5 : Int32)) = n
  show Run _ _ _ _ _ _ _ _ _ _ _ _ T0 (mkF m 6 #[.val (.int x0), .val (.int size), .val (.int fl), .unset, .unset, .unset, .unset, .unset] [(.int n)])
  refine Run.via (fun _ => XS.istoreN X0.at X0.ex rfl (X0.de at_6) rfl (l' := #[.val (.int x0), .val (.int size), .val (.int fl), .val (.int n), .unset, .unset, .unset, .unset]) rfl) ?_
  show Run _ _ _ _ _ _ _ _ _ _ _ _ T0 (mkF m 7 #[.val (.int x0), .val (.int size), .val (.int fl), .val (.int n), .unset, .unset, .unset, .unset] [])
  refine Run.via (fun _ => XS.iconst X0.at X0.ex rfl (X0.de at_7)) ?_
  show Run _ _ _ _ _ _ _ _ _ _ _ _ T0 (mkF m 8 #[.val (.int x0), .val (.int size), .val (.int fl), .val (.int n), .unset, .unset, .unset, .unset] [(.int (4 : Int32))])
  refine Run.newarr X0 (aty := .char) (n := 4) (cap := 4) (wd hw 1 rfl) rfl at_8 rfl (Nat.le_refl _) (by decide) (Nat.le_of_ble_eq_true rfl) (Nat.le_of_ble_eq_true rfl) ?_
  intro T101 h101 x101 g101 X101 K101 z101 A101
  have A101 : Arc .char Z h101 x101 [(0 : Int32), (0 : Int32), (0 : Int32), (0 : Int32)] := A101
  show Run _ _ _ _ _ _ _ _ _ _ _ _ T101 (mkF m 10 #[.val (.int x0), .val (.int size), .val (.int fl), .val (.int n), .unset, .unset, .unset, .unset] [(.ref x101)])
  have s101 := K101.1
  refine Run.via (fun _ => XS.astore X101.at X101.ex rfl (X101.de at_10) rfl rfl (l' := #[.val (.int x0), .val (.int size), .val (.int fl), .val (.int n), .val (.ref x101), .unset, .unset, .unset]) rfl) ?_
  show Run _ _ _ _ _ _ _ _ _ _ _ _ T101 (mkF m 12 #[.val (.int x0), .val (.int size), .val (.int fl), .val (.int n), .val (.ref x101), .unset, .unset, .unset] [])
  refine Run.via (fun _ => XS.aload X101.at X101.ex rfl (X101.de at_12) rfl rfl) ?_
  show Run _ _ _ _ _ _ _ _ _ _ _ _ T101 (mkF m 14 #[.val (.int x0), .val (.int size), .val (.int fl), .val (.int n), .val (.ref x101), .unset, .unset, .unset] [(.ref x101)])
  refine Run.via (fun _ => XS.iconst X101.at X101.ex rfl (X101.de at_14)) ?_
  show Run _ _ _ _ _ _ _ _ _ _ _ _ T101 (mkF m 15 #[.val (.int x0), .val (.int size), .val (.int fl), .val (.int n), .val (.ref x101), .unset, .unset, .unset] [(.int (0 : Int32)), (.ref x101)])
  refine Run.via (fun _ => XS.iloadN X101.at X101.ex rfl (X101.de at_15) rfl) ?_
  show Run _ _ _ _ _ _ _ _ _ _ _ _ T101 (mkF m 16 #[.val (.int x0), .val (.int size), .val (.int fl), .val (.int n), .val (.ref x101), .unset, .unset, .unset] [(.int x0), (.int (0 : Int32)), (.ref x101)])
  refine Run.via (fun _ => XS.sipush X101.at X101.ex rfl (X101.de at_16)) ?_
  show Run _ _ _ _ _ _ _ _ _ _ _ _ T101 (mkF m 19 #[.val (.int x0), .val (.int size), .val (.int fl), .val (.int n), .val (.ref x101), .unset, .unset, .unset] [(.int (255 : Int32)), (.int x0), (.int (0 : Int32)), (.ref x101)])
  refine Run.via (fun _ => XS.iand X101.at X101.ex rfl (X101.de at_19) rfl) ?_
  show Run _ _ _ _ _ _ _ _ _ _ _ _ T101 (mkF m 20 #[.val (.int x0), .val (.int size), .val (.int fl), .val (.int n), .val (.ref x101), .unset, .unset, .unset] [(.int (x0 &&& (255 : Int32))), (.int (0 : Int32)), (.ref x101)])
  refine Run.via (fun _ => XS.i2c X101.at X101.ex rfl (X101.de at_20) rfl) ?_
  show Run _ _ _ _ _ _ _ _ _ _ _ _ T101 (mkF m 21 #[.val (.int x0), .val (.int size), .val (.int fl), .val (.int n), .val (.ref x101), .unset, .unset, .unset] [(.int ((x0 &&& (255 : Int32)).toUInt32.toUInt16.toUInt32.toInt32)), (.int (0 : Int32)), (.ref x101)])
  obtain ⟨c0, hc0, r0⟩ : ∃ c, ((x0 &&& (255 : Int32)).toUInt32.toUInt16.toUInt32.toInt32) = c ∧ ¬ c < 0 ∧ ¬ (255 : Int32) < c := ⟨_, rfl, and255 _⟩
  rw [hc0]
  show Run _ _ _ _ _ _ _ _ _ _ _ _ T101 (mkF m 21 #[.val (.int x0), .val (.int size), .val (.int fl), .val (.int n), .val (.ref x101), .unset, .unset, .unset] [(.int c0), (.int (0 : Int32)), (.ref x101)])
  refine Run.castore X101 (i := 0) (v' := c0) A101 rfl (Nat.le_of_ble_eq_true rfl) (nar_lat r0) (Or.inr (by omega)) (by omega) at_21 ?_
  intro T102 h102 L102 X102 K102 z102 A102
  have A102 : Arc .char Z h102 x101 [c0, (0 : Int32), (0 : Int32), (0 : Int32)] := A102
  show Run _ _ _ _ _ _ _ _ _ _ _ _ T102 (mkF m 22 #[.val (.int x0), .val (.int size), .val (.int fl), .val (.int n), .val (.ref x101), .unset, .unset, .unset] [])
  refine Run.via (fun _ => XS.aload X102.at X102.ex rfl (X102.de at_22) rfl rfl) ?_
  show Run _ _ _ _ _ _ _ _ _ _ _ _ T102 (mkF m 24 #[.val (.int x0), .val (.int size), .val (.int fl), .val (.int n), .val (.ref x101), .unset, .unset, .unset] [(.ref x101)])
  refine Run.via (fun _ => XS.iconst X102.at X102.ex rfl (X102.de at_24)) ?_
  show Run _ _ _ _ _ _ _ _ _ _ _ _ T102 (mkF m 25 #[.val (.int x0), .val (.int size), .val (.int fl), .val (.int n), .val (.ref x101), .unset, .unset, .unset] [(.int (1 : Int32)), (.ref x101)])
  refine Run.via (fun _ => XS.iloadN X102.at X102.ex rfl (X102.de at_25) rfl) ?_
  show Run _ _ _ _ _ _ _ _ _ _ _ _ T102 (mkF m 26 #[.val (.int x0), .val (.int size), .val (.int fl), .val (.int n), .val (.ref x101), .unset, .unset, .unset] [(.int x0), (.int (1 : Int32)), (.ref x101)])
  refine Run.via (fun _ => XS.bipush X102.at X102.ex rfl (X102.de at_26)) ?_
  show Run _ _ _ _ _ _ _ _ _ _ _ _ T102 (mkF m 28 #[.val (.int x0), .val (.int size), .val (.int fl), .val (.int n), .val (.ref x101), .unset, .unset, .unset] [(.int (8 : Int32)), (.int x0), (.int (1 : Int32)), (.ref x101)])
  refine Run.via (fun _ => XS.iushr X102.at X102.ex rfl (X102.de at_28) rfl) ?_
  show Run _ _ _ _ _ _ _ _ _ _ _ _ T102 (mkF m 29 #[.val (.int x0), .val (.int size), .val (.int fl), .val (.int n), .val (.ref x101), .unset, .unset, .unset] [(.int ((x0.toUInt32 >>> ((8 : Int32) &&& 31).toUInt32).toInt32)), (.int (1 : Int32)), (.ref x101)])
  refine Run.via (fun _ => XS.sipush X102.at X102.ex rfl (X102.de at_29)) ?_
  show Run _ _ _ _ _ _ _ _ _ _ _ _ T102 (mkF m 32 #[.val (.int x0), .val (.int size), .val (.int fl), .val (.int n), .val (.ref x101), .unset, .unset, .unset] [(.int (255 : Int32)), (.int ((x0.toUInt32 >>> ((8 : Int32) &&& 31).toUInt32).toInt32)), (.int (1 : Int32)), (.ref x101)])
  refine Run.via (fun _ => XS.iand X102.at X102.ex rfl (X102.de at_32) rfl) ?_
  show Run _ _ _ _ _ _ _ _ _ _ _ _ T102 (mkF m 33 #[.val (.int x0), .val (.int size), .val (.int fl), .val (.int n), .val (.ref x101), .unset, .unset, .unset] [(.int (((x0.toUInt32 >>> ((8 : Int32) &&& 31).toUInt32).toInt32) &&& (255 : Int32))), (.int (1 : Int32)), (.ref x101)])
  refine Run.via (fun _ => XS.i2c X102.at X102.ex rfl (X102.de at_33) rfl) ?_
  show Run _ _ _ _ _ _ _ _ _ _ _ _ T102 (mkF m 34 #[.val (.int x0), .val (.int size), .val (.int fl), .val (.int n), .val (.ref x101), .unset, .unset, .unset] [(.int ((((x0.toUInt32 >>> ((8 : Int32) &&& 31).toUInt32).toInt32) &&& (255 : Int32)).toUInt32.toUInt16.toUInt32.toInt32)), (.int (1 : Int32)), (.ref x101)])
  obtain ⟨c1, hc1, r1⟩ : ∃ c, ((((x0.toUInt32 >>> ((8 : Int32) &&& 31).toUInt32).toInt32) &&& (255 : Int32)).toUInt32.toUInt16.toUInt32.toInt32) = c ∧ ¬ c < 0 ∧ ¬ (255 : Int32) < c := ⟨_, rfl, and255 _⟩
  rw [hc1]
  show Run _ _ _ _ _ _ _ _ _ _ _ _ T102 (mkF m 34 #[.val (.int x0), .val (.int size), .val (.int fl), .val (.int n), .val (.ref x101), .unset, .unset, .unset] [(.int c1), (.int (1 : Int32)), (.ref x101)])
  refine Run.castore X102 (i := 1) (v' := c1) A102 rfl (Nat.le_of_ble_eq_true rfl) (nar_lat r1) (Or.inr (by omega)) (by omega) at_34 ?_
  intro T103 h103 L103 X103 K103 z103 A103
  have A103 : Arc .char Z h103 x101 [c0, c1, (0 : Int32), (0 : Int32)] := A103
  show Run _ _ _ _ _ _ _ _ _ _ _ _ T103 (mkF m 35 #[.val (.int x0), .val (.int size), .val (.int fl), .val (.int n), .val (.ref x101), .unset, .unset, .unset] [])
  refine Run.via (fun _ => XS.aload X103.at X103.ex rfl (X103.de at_35) rfl rfl) ?_
  show Run _ _ _ _ _ _ _ _ _ _ _ _ T103 (mkF m 37 #[.val (.int x0), .val (.int size), .val (.int fl), .val (.int n), .val (.ref x101), .unset, .unset, .unset] [(.ref x101)])
  refine Run.via (fun _ => XS.iconst X103.at X103.ex rfl (X103.de at_37)) ?_
  show Run _ _ _ _ _ _ _ _ _ _ _ _ T103 (mkF m 38 #[.val (.int x0), .val (.int size), .val (.int fl), .val (.int n), .val (.ref x101), .unset, .unset, .unset] [(.int (2 : Int32)), (.ref x101)])
  refine Run.via (fun _ => XS.iloadN X103.at X103.ex rfl (X103.de at_38) rfl) ?_
  show Run _ _ _ _ _ _ _ _ _ _ _ _ T103 (mkF m 39 #[.val (.int x0), .val (.int size), .val (.int fl), .val (.int n), .val (.ref x101), .unset, .unset, .unset] [(.int x0), (.int (2 : Int32)), (.ref x101)])
  refine Run.via (fun _ => XS.bipush X103.at X103.ex rfl (X103.de at_39)) ?_
  show Run _ _ _ _ _ _ _ _ _ _ _ _ T103 (mkF m 41 #[.val (.int x0), .val (.int size), .val (.int fl), .val (.int n), .val (.ref x101), .unset, .unset, .unset] [(.int (16 : Int32)), (.int x0), (.int (2 : Int32)), (.ref x101)])
  refine Run.via (fun _ => XS.iushr X103.at X103.ex rfl (X103.de at_41) rfl) ?_
  show Run _ _ _ _ _ _ _ _ _ _ _ _ T103 (mkF m 42 #[.val (.int x0), .val (.int size), .val (.int fl), .val (.int n), .val (.ref x101), .unset, .unset, .unset] [(.int ((x0.toUInt32 >>> ((16 : Int32) &&& 31).toUInt32).toInt32)), (.int (2 : Int32)), (.ref x101)])
  refine Run.via (fun _ => XS.sipush X103.at X103.ex rfl (X103.de at_42)) ?_
  show Run _ _ _ _ _ _ _ _ _ _ _ _ T103 (mkF m 45 #[.val (.int x0), .val (.int size), .val (.int fl), .val (.int n), .val (.ref x101), .unset, .unset, .unset] [(.int (255 : Int32)), (.int ((x0.toUInt32 >>> ((16 : Int32) &&& 31).toUInt32).toInt32)), (.int (2 : Int32)), (.ref x101)])
  refine Run.via (fun _ => XS.iand X103.at X103.ex rfl (X103.de at_45) rfl) ?_
  show Run _ _ _ _ _ _ _ _ _ _ _ _ T103 (mkF m 46 #[.val (.int x0), .val (.int size), .val (.int fl), .val (.int n), .val (.ref x101), .unset, .unset, .unset] [(.int (((x0.toUInt32 >>> ((16 : Int32) &&& 31).toUInt32).toInt32) &&& (255 : Int32))), (.int (2 : Int32)), (.ref x101)])
  refine Run.via (fun _ => XS.i2c X103.at X103.ex rfl (X103.de at_46) rfl) ?_
  show Run _ _ _ _ _ _ _ _ _ _ _ _ T103 (mkF m 47 #[.val (.int x0), .val (.int size), .val (.int fl), .val (.int n), .val (.ref x101), .unset, .unset, .unset] [(.int ((((x0.toUInt32 >>> ((16 : Int32) &&& 31).toUInt32).toInt32) &&& (255 : Int32)).toUInt32.toUInt16.toUInt32.toInt32)), (.int (2 : Int32)), (.ref x101)])
  obtain ⟨c2, hc2, r2⟩ : ∃ c, ((((x0.toUInt32 >>> ((16 : Int32) &&& 31).toUInt32).toInt32) &&& (255 : Int32)).toUInt32.toUInt16.toUInt32.toInt32) = c ∧ ¬ c < 0 ∧ ¬ (255 : Int32) < c := ⟨_, rfl, and255 _⟩
  rw [hc2]
  show Run _ _ _ _ _ _ _ _ _ _ _ _ T103 (mkF m 47 #[.val (.int x0), .val (.int size), .val (.int fl), .val (.int n), .val (.ref x101), .unset, .unset, .unset] [(.int c2), (.int (2 : Int32)), (.ref x101)])
  refine Run.castore X103 (i := 2) (v' := c2) A103 rfl (Nat.le_of_ble_eq_true rfl) (nar_lat r2) (Or.inr (by omega)) (by omega) at_47 ?_
  intro T104 h104 L104 X104 K104 z104 A104
  have A104 : Arc .char Z h104 x101 [c0, c1, c2, (0 : Int32)] := A104
  show Run _ _ _ _ _ _ _ _ _ _ _ _ T104 (mkF m 48 #[.val (.int x0), .val (.int size), .val (.int fl), .val (.int n), .val (.ref x101), .unset, .unset, .unset] [])
  refine Run.via (fun _ => XS.aload X104.at X104.ex rfl (X104.de at_48) rfl rfl) ?_
  show Run _ _ _ _ _ _ _ _ _ _ _ _ T104 (mkF m 50 #[.val (.int x0), .val (.int size), .val (.int fl), .val (.int n), .val (.ref x101), .unset, .unset, .unset] [(.ref x101)])
  refine Run.via (fun _ => XS.iconst X104.at X104.ex rfl (X104.de at_50)) ?_
  show Run _ _ _ _ _ _ _ _ _ _ _ _ T104 (mkF m 51 #[.val (.int x0), .val (.int size), .val (.int fl), .val (.int n), .val (.ref x101), .unset, .unset, .unset] [(.int (3 : Int32)), (.ref x101)])
  refine Run.via (fun _ => XS.iloadN X104.at X104.ex rfl (X104.de at_51) rfl) ?_
  show Run _ _ _ _ _ _ _ _ _ _ _ _ T104 (mkF m 52 #[.val (.int x0), .val (.int size), .val (.int fl), .val (.int n), .val (.ref x101), .unset, .unset, .unset] [(.int x0), (.int (3 : Int32)), (.ref x101)])
  refine Run.via (fun _ => XS.bipush X104.at X104.ex rfl (X104.de at_52)) ?_
  show Run _ _ _ _ _ _ _ _ _ _ _ _ T104 (mkF m 54 #[.val (.int x0), .val (.int size), .val (.int fl), .val (.int n), .val (.ref x101), .unset, .unset, .unset] [(.int (24 : Int32)), (.int x0), (.int (3 : Int32)), (.ref x101)])
  refine Run.via (fun _ => XS.iushr X104.at X104.ex rfl (X104.de at_54) rfl) ?_
  show Run _ _ _ _ _ _ _ _ _ _ _ _ T104 (mkF m 55 #[.val (.int x0), .val (.int size), .val (.int fl), .val (.int n), .val (.ref x101), .unset, .unset, .unset] [(.int ((x0.toUInt32 >>> ((24 : Int32) &&& 31).toUInt32).toInt32)), (.int (3 : Int32)), (.ref x101)])
  refine Run.via (fun _ => XS.sipush X104.at X104.ex rfl (X104.de at_55)) ?_
  show Run _ _ _ _ _ _ _ _ _ _ _ _ T104 (mkF m 58 #[.val (.int x0), .val (.int size), .val (.int fl), .val (.int n), .val (.ref x101), .unset, .unset, .unset] [(.int (255 : Int32)), (.int ((x0.toUInt32 >>> ((24 : Int32) &&& 31).toUInt32).toInt32)), (.int (3 : Int32)), (.ref x101)])
  refine Run.via (fun _ => XS.iand X104.at X104.ex rfl (X104.de at_58) rfl) ?_
  show Run _ _ _ _ _ _ _ _ _ _ _ _ T104 (mkF m 59 #[.val (.int x0), .val (.int size), .val (.int fl), .val (.int n), .val (.ref x101), .unset, .unset, .unset] [(.int (((x0.toUInt32 >>> ((24 : Int32) &&& 31).toUInt32).toInt32) &&& (255 : Int32))), (.int (3 : Int32)), (.ref x101)])
  refine Run.via (fun _ => XS.i2c X104.at X104.ex rfl (X104.de at_59) rfl) ?_
  show Run _ _ _ _ _ _ _ _ _ _ _ _ T104 (mkF m 60 #[.val (.int x0), .val (.int size), .val (.int fl), .val (.int n), .val (.ref x101), .unset, .unset, .unset] [(.int ((((x0.toUInt32 >>> ((24 : Int32) &&& 31).toUInt32).toInt32) &&& (255 : Int32)).toUInt32.toUInt16.toUInt32.toInt32)), (.int (3 : Int32)), (.ref x101)])
  obtain ⟨c3, hc3, r3⟩ : ∃ c, ((((x0.toUInt32 >>> ((24 : Int32) &&& 31).toUInt32).toInt32) &&& (255 : Int32)).toUInt32.toUInt16.toUInt32.toInt32) = c ∧ ¬ c < 0 ∧ ¬ (255 : Int32) < c := ⟨_, rfl, and255 _⟩
  rw [hc3]
  show Run _ _ _ _ _ _ _ _ _ _ _ _ T104 (mkF m 60 #[.val (.int x0), .val (.int size), .val (.int fl), .val (.int n), .val (.ref x101), .unset, .unset, .unset] [(.int c3), (.int (3 : Int32)), (.ref x101)])
  refine Run.castore X104 (i := 3) (v' := c3) A104 rfl (Nat.le_of_ble_eq_true rfl) (nar_lat r3) (Or.inr (by omega)) (by omega) at_60 ?_
  intro T105 h105 L105 X105 K105 z105 A105
  have A105 : Arc .char Z h105 x101 [c0, c1, c2, c3] := A105
  show Run _ _ _ _ _ _ _ _ _ _ _ _ T105 (mkF m 61 #[.val (.int x0), .val (.int size), .val (.int fl), .val (.int n), .val (.ref x101), .unset, .unset, .unset] [])
  have hn5 : n = 0 ∨ n = 1 ∨ n = 2 ∨ n = 3 ∨ n = 4 := by rw [← hsz]; exact rem_5 size
  rcases hn5 with rfl | rfl | rfl | rfl | rfl
  ·
    show Run _ _ _ _ _ _ _ _ _ _ _ _ T105 (mkF m 61 #[.val (.int x0), .val (.int size), .val (.int fl), .val (.int (0 : Int32)), .val (.ref x101), .unset, .unset, .unset] [])
    have J : ∀ (Tj : State) (hj : Heap) (Lq : List Loc) (d0 d1 d2 d3 : Int32), Sit Z a0 EL p l e room_1 s m #[(.int x0), (.int size), (.int fl)] below meth c "com/example/sliceworks/sliceworks/web/HeadersUnquotedPinLaw" code maxLocals ret "law" h0 [] [x101] Tj hj Lq 1 4 → (¬ d0 < 0 ∧ ¬ (255 : Int32) < d0) → (¬ d1 < 0 ∧ ¬ (255 : Int32) < d1) → (¬ d2 < 0 ∧ ¬ (255 : Int32) < d2) → (¬ d3 < 0 ∧ ¬ (255 : Int32) < d3) → Arc .char Z hj x101 [d0, d1, d2, d3] → Run Z EL false p e below s h0 [] (fun v _ => v = some (.int 1)) room_1.cells room_1.slots Tj (mkF m 97 #[.val (.int x0), .val (.int size), .val (.int fl), .val (.int (0 : Int32)), .val (.ref x101), .unset, .unset, .unset] []) := by
      intro Tj hj Lq d0 d1 d2 d3 Xj r0 r1 r2 r3 A
      have uj := Xj.kp.1
      have hl : Lat ([] : List Int32) := ls0
      refine Run.via (fun _ => XS.aload Xj.at Xj.ex rfl (Xj.de at_97) rfl rfl) ?_
      show Run _ _ _ _ _ _ _ _ _ _ _ _ Tj (mkF m 99 #[.val (.int x0), .val (.int size), .val (.int fl), .val (.int (0 : Int32)), .val (.ref x101), .unset, .unset, .unset] [(.ref x101)])
      refine Run.via (fun _ => XS.iconst Xj.at Xj.ex rfl (Xj.de at_99)) ?_
      show Run _ _ _ _ _ _ _ _ _ _ _ _ Tj (mkF m 100 #[.val (.int x0), .val (.int size), .val (.int fl), .val (.int (0 : Int32)), .val (.ref x101), .unset, .unset, .unset] [(.int (0 : Int32)), (.ref x101)])
      refine Run.via (fun _ => XS.iloadN Xj.at Xj.ex rfl (Xj.de at_100) rfl) ?_
      show Run _ _ _ _ _ _ _ _ _ _ _ _ Tj (mkF m 101 #[.val (.int x0), .val (.int size), .val (.int fl), .val (.int (0 : Int32)), .val (.ref x101), .unset, .unset, .unset] [(.int (0 : Int32)), (.int (0 : Int32)), (.ref x101)])
      refine Run.callS Xj (y := (⟨"com/example/sliceworks/sliceworks/web/HeadersUnquotedPinLaw", "make", "([CII)Ljava/lang/String;"⟩ : MethodName)) (W := 0) (con_m00 l hw hS hN hm r0 r1 r2 r3 A Xj.old) (wd hw 2 rfl) (wd hw 3 rfl) (wd hw 4 rfl) (wd hw 5 rfl) (by decide) pd___CII_Ljava_lang_String_ rfl (argsL := [(.ref x101), (.int (0 : Int32)), (.int (0 : Int32))]) (rest := []) rfl (Nat.le_of_ble_eq_true rfl) rfl at_101 (by decide) (by decide) (Nat.le_of_ble_eq_true rfl) (Nat.le_of_ble_eq_true rfl) (nofun) (nofun) ?_
      intro v106 T106 h106 L106 q106 X106 XF106 K106
      obtain ⟨y, rfl, S⟩ := q106
      show Run _ _ _ _ _ _ _ _ _ _ _ _ T106 (mkF m 104 #[.val (.int x0), .val (.int size), .val (.int fl), .val (.int (0 : Int32)), .val (.ref x101), .unset, .unset, .unset] [(.ref y)])
      have A1 := A.keep K106 nin0
      refine Run.via (fun _ => XS.astore X106.at X106.ex rfl (X106.de at_104) rfl rfl (l' := #[.val (.int x0), .val (.int size), .val (.int fl), .val (.int (0 : Int32)), .val (.ref x101), .val (.ref y), .unset, .unset]) rfl) ?_
      show Run _ _ _ _ _ _ _ _ _ _ _ _ T106 (mkF m 106 #[.val (.int x0), .val (.int size), .val (.int fl), .val (.int (0 : Int32)), .val (.ref x101), .val (.ref y), .unset, .unset] [])
      refine Run.via (fun _ => XS.iloadN X106.at X106.ex rfl (X106.de at_106) rfl) ?_
      show Run _ _ _ _ _ _ _ _ _ _ _ _ T106 (mkF m 107 #[.val (.int x0), .val (.int size), .val (.int fl), .val (.int (0 : Int32)), .val (.ref x101), .val (.ref y), .unset, .unset] [(.int (0 : Int32))])
      refine Run.via (fun _ => XS.iconst X106.at X106.ex rfl (X106.de at_107)) ?_
      show Run _ _ _ _ _ _ _ _ _ _ _ _ T106 (mkF m 108 #[.val (.int x0), .val (.int size), .val (.int fl), .val (.int (0 : Int32)), .val (.ref x101), .val (.ref y), .unset, .unset] [(.int (2 : Int32)), (.int (0 : Int32))])
      refine Run.via (fun _ => XS.icmpYes X106.at X106.ex rfl (pc0 := 108) (pc' := 145) rfl (X106.de at_108) rfl (tlt (by decide : ((0 : Int32) < (2 : Int32)))).1 (by decide) (by decide)) ?_
      show Run _ _ _ _ _ _ _ _ _ _ _ _ T106 (mkF m 145 #[.val (.int x0), .val (.int size), .val (.int fl), .val (.int (0 : Int32)), .val (.ref x101), .val (.ref y), .unset, .unset] [])
      refine Run.via (fun _ => XS.aload X106.at X106.ex rfl (X106.de at_145) rfl rfl) ?_
      show Run _ _ _ _ _ _ _ _ _ _ _ _ T106 (mkF m 147 #[.val (.int x0), .val (.int size), .val (.int fl), .val (.int (0 : Int32)), .val (.ref x101), .val (.ref y), .unset, .unset] [(.ref y)])
      refine Run.via (fun _ => XS.astore X106.at X106.ex rfl (X106.de at_147) rfl rfl (l' := #[.val (.int x0), .val (.int size), .val (.int fl), .val (.int (0 : Int32)), .val (.ref x101), .val (.ref y), .val (.ref y), .unset]) rfl) ?_
      show Run _ _ _ _ _ _ _ _ _ _ _ _ T106 (mkF m 149 #[.val (.int x0), .val (.int size), .val (.int fl), .val (.int (0 : Int32)), .val (.ref x101), .val (.ref y), .val (.ref y), .unset] [])
      refine Run.via (fun _ => XS.aload X106.at X106.ex rfl (X106.de at_149) rfl rfl) ?_
      show Run _ _ _ _ _ _ _ _ _ _ _ _ T106 (mkF m 151 #[.val (.int x0), .val (.int size), .val (.int fl), .val (.int (0 : Int32)), .val (.ref x101), .val (.ref y), .val (.ref y), .unset] [(.ref y)])
      refine Run.callS X106 (y := (⟨"com/example/sliceworks/sliceworks/web/Headers", "unquoted", "(Ljava/lang/String;)Ljava/lang/String;"⟩ : MethodName)) (W := 0) (con_uq l hw hS hN hmH hmL hl (Nat.le_of_ble_eq_true rfl) S X106.old) (wd hw 35 rfl) (wd hw 36 rfl) (wd hw 37 rfl) (wd hw 38 rfl) (by decide) pd__Ljava_lang_String__Ljava_lang_String_ rfl (argsL := [(.ref y)]) (rest := []) rfl (Nat.le_of_ble_eq_true rfl) rfl at_151 (by decide) (by decide) (Nat.le_of_ble_eq_true rfl) (Nat.le_of_ble_eq_true rfl) (nofun) (nofun) ?_
      intro v107 T107 h107 L107 q107 X107 XF107 K107
      obtain ⟨z, rfl, SZ⟩ := q107
      show Run _ _ _ _ _ _ _ _ _ _ _ _ T107 (mkF m 154 #[.val (.int x0), .val (.int size), .val (.int fl), .val (.int (0 : Int32)), .val (.ref x101), .val (.ref y), .val (.ref y), .unset] [(.ref z)])
      have SX := S.keep K107
      have eu : unq ([] : List Int32) = [] := by unfold unq; rfl
      rw [eu] at SZ
      refine Run.via (fun _ => XS.astore X107.at X107.ex rfl (X107.de at_154) rfl rfl (l' := #[.val (.int x0), .val (.int size), .val (.int fl), .val (.int (0 : Int32)), .val (.ref x101), .val (.ref y), .val (.ref y), .val (.ref z)]) rfl) ?_
      show Run _ _ _ _ _ _ _ _ _ _ _ _ T107 (mkF m 156 #[.val (.int x0), .val (.int size), .val (.int fl), .val (.int (0 : Int32)), .val (.ref x101), .val (.ref y), .val (.ref y), .val (.ref z)] [])
      refine Run.via (fun _ => XS.aload X107.at X107.ex rfl (X107.de at_156) rfl rfl) ?_
      show Run _ _ _ _ _ _ _ _ _ _ _ _ T107 (mkF m 158 #[.val (.int x0), .val (.int size), .val (.int fl), .val (.int (0 : Int32)), .val (.ref x101), .val (.ref y), .val (.ref y), .val (.ref z)] [(.ref z)])
      refine Run.via (fun _ => XS.ifnullNo X107.at X107.ex rfl (X107.de at_158) rfl) ?_
      show Run _ _ _ _ _ _ _ _ _ _ _ _ T107 (mkF m 161 #[.val (.int x0), .val (.int size), .val (.int fl), .val (.int (0 : Int32)), .val (.ref x101), .val (.ref y), .val (.ref y), .val (.ref z)] [])
      refine Run.via (fun _ => XS.aload X107.at X107.ex rfl (X107.de at_161) rfl rfl) ?_
      show Run _ _ _ _ _ _ _ _ _ _ _ _ T107 (mkF m 163 #[.val (.int x0), .val (.int size), .val (.int fl), .val (.int (0 : Int32)), .val (.ref x101), .val (.ref y), .val (.ref y), .val (.ref z)] [(.ref z)])
      refine Run.via (fun _ => XS.aload X107.at X107.ex rfl (X107.de at_163) rfl rfl) ?_
      show Run _ _ _ _ _ _ _ _ _ _ _ _ T107 (mkF m 165 #[.val (.int x0), .val (.int size), .val (.int fl), .val (.int (0 : Int32)), .val (.ref x101), .val (.ref y), .val (.ref y), .val (.ref z)] [(.ref y), (.ref z)])
      refine Run.seq hw hS X107 (W := 0) SZ SX (wd hw 67 rfl) (wd hw 68 rfl) (wd hw 69 rfl) (wd hw 70 rfl) (wd hw 7 rfl) at_165 rfl (Nat.le_of_ble_eq_true rfl) (by decide) (by decide) (Nat.le_of_ble_eq_true rfl) (Nat.le_of_ble_eq_true rfl) ?_
      intro T108 X108
      show Run _ _ _ _ _ _ _ _ _ _ _ _ T108 (mkF m 168 #[.val (.int x0), .val (.int size), .val (.int fl), .val (.int (0 : Int32)), .val (.ref x101), .val (.ref y), .val (.ref y), .val (.ref z)] [(.int (if ([] : List Int32) = [] then 1 else 0 : Int32))])
      rw [show (if ([] : List Int32) = [] then 1 else 0 : Int32) = (1 : Int32) from if_pos rfl]
      show Run _ _ _ _ _ _ _ _ _ _ _ _ T108 (mkF m 168 #[.val (.int x0), .val (.int size), .val (.int fl), .val (.int (0 : Int32)), .val (.ref x101), .val (.ref y), .val (.ref y), .val (.ref z)] [(.int (1 : Int32))])
      refine Run.via (fun _ => XS.ifNo X108.at X108.ex rfl (X108.de at_168) rfl ((if0 _ _).trans (feq (by decide : ¬ ((1 : Int32) = (0 : Int32)))).1)) ?_
      show Run _ _ _ _ _ _ _ _ _ _ _ _ T108 (mkF m 171 #[.val (.int x0), .val (.int size), .val (.int fl), .val (.int (0 : Int32)), .val (.ref x101), .val (.ref y), .val (.ref y), .val (.ref z)] [])
      refine Run.via (fun _ => XS.iconst X108.at X108.ex rfl (X108.de at_171)) ?_
      show Run _ _ _ _ _ _ _ _ _ _ _ _ T108 (mkF m 172 #[.val (.int x0), .val (.int size), .val (.int fl), .val (.int (0 : Int32)), .val (.ref x101), .val (.ref y), .val (.ref y), .val (.ref z)] [(.int (1 : Int32))])
      refine Run.via (fun _ => XS.goto X108.at X108.ex rfl (pc0 := 172) (pc' := 176) rfl (X108.de at_172) (by decide) (by decide)) ?_
      show Run _ _ _ _ _ _ _ _ _ _ _ _ T108 (mkF m 176 #[.val (.int x0), .val (.int size), .val (.int fl), .val (.int (0 : Int32)), .val (.ref x101), .val (.ref y), .val (.ref y), .val (.ref z)] [(.int (1 : Int32))])
      exact Run.retN X108 (t := .boolean) rfl (by simp) at_176 (Nat.le_of_ble_eq_true rfl) (Nat.le_of_ble_eq_true rfl) (rfl)
    refine Run.via (fun _ => XS.iloadN X105.at X105.ex rfl (X105.de at_61) rfl) ?_
    show Run _ _ _ _ _ _ _ _ _ _ _ _ T105 (mkF m 62 #[.val (.int x0), .val (.int size), .val (.int fl), .val (.int (0 : Int32)), .val (.ref x101), .unset, .unset, .unset] [(.int (0 : Int32))])
    refine Run.via (fun _ => XS.iconst X105.at X105.ex rfl (X105.de at_62)) ?_
    show Run _ _ _ _ _ _ _ _ _ _ _ _ T105 (mkF m 63 #[.val (.int x0), .val (.int size), .val (.int fl), .val (.int (0 : Int32)), .val (.ref x101), .unset, .unset, .unset] [(.int (1 : Int32)), (.int (0 : Int32))])
    refine Run.via (fun _ => XS.icmpYes X105.at X105.ex rfl (pc0 := 63) (pc' := 78) rfl (X105.de at_63) rfl (tlt (by decide : ((0 : Int32) < (1 : Int32)))).1 (by decide) (by decide)) ?_
    show Run _ _ _ _ _ _ _ _ _ _ _ _ T105 (mkF m 78 #[.val (.int x0), .val (.int size), .val (.int fl), .val (.int (0 : Int32)), .val (.ref x101), .unset, .unset, .unset] [])
    refine Run.via (fun _ => XS.iloadN X105.at X105.ex rfl (X105.de at_78) rfl) ?_
    show Run _ _ _ _ _ _ _ _ _ _ _ _ T105 (mkF m 79 #[.val (.int x0), .val (.int size), .val (.int fl), .val (.int (0 : Int32)), .val (.ref x101), .unset, .unset, .unset] [(.int (0 : Int32))])
    refine Run.via (fun _ => XS.iconst X105.at X105.ex rfl (X105.de at_79)) ?_
    show Run _ _ _ _ _ _ _ _ _ _ _ _ T105 (mkF m 80 #[.val (.int x0), .val (.int size), .val (.int fl), .val (.int (0 : Int32)), .val (.ref x101), .unset, .unset, .unset] [(.int (1 : Int32)), (.int (0 : Int32))])
    refine Run.via (fun _ => XS.icmpYes X105.at X105.ex rfl (pc0 := 80) (pc' := 97) rfl (X105.de at_80) rfl (tlt (by decide : ((0 : Int32) < (1 : Int32)))).1 (by decide) (by decide)) ?_
    show Run _ _ _ _ _ _ _ _ _ _ _ _ T105 (mkF m 97 #[.val (.int x0), .val (.int size), .val (.int fl), .val (.int (0 : Int32)), .val (.ref x101), .unset, .unset, .unset] [])
    exact J _ _ _ c0 c1 c2 c3 X105 r0 r1 r2 r3 A105
  ·
    show Run _ _ _ _ _ _ _ _ _ _ _ _ T105 (mkF m 61 #[.val (.int x0), .val (.int size), .val (.int fl), .val (.int (1 : Int32)), .val (.ref x101), .unset, .unset, .unset] [])
    have J : ∀ (Tj : State) (hj : Heap) (Lq : List Loc) (d0 d1 d2 d3 : Int32), Sit Z a0 EL p l e room_1 s m #[(.int x0), (.int size), (.int fl)] below meth c "com/example/sliceworks/sliceworks/web/HeadersUnquotedPinLaw" code maxLocals ret "law" h0 [] [x101] Tj hj Lq 1 4 → (¬ d0 < 0 ∧ ¬ (255 : Int32) < d0) → (¬ d1 < 0 ∧ ¬ (255 : Int32) < d1) → (¬ d2 < 0 ∧ ¬ (255 : Int32) < d2) → (¬ d3 < 0 ∧ ¬ (255 : Int32) < d3) → Arc .char Z hj x101 [d0, d1, d2, d3] → Run Z EL false p e below s h0 [] (fun v _ => v = some (.int 1)) room_1.cells room_1.slots Tj (mkF m 97 #[.val (.int x0), .val (.int size), .val (.int fl), .val (.int (1 : Int32)), .val (.ref x101), .unset, .unset, .unset] []) := by
      intro Tj hj Lq d0 d1 d2 d3 Xj r0 r1 r2 r3 A
      have uj := Xj.kp.1
      have hl : Lat ([d0] : List Int32) := lsS r0 (ls0)
      refine Run.via (fun _ => XS.aload Xj.at Xj.ex rfl (Xj.de at_97) rfl rfl) ?_
      show Run _ _ _ _ _ _ _ _ _ _ _ _ Tj (mkF m 99 #[.val (.int x0), .val (.int size), .val (.int fl), .val (.int (1 : Int32)), .val (.ref x101), .unset, .unset, .unset] [(.ref x101)])
      refine Run.via (fun _ => XS.iconst Xj.at Xj.ex rfl (Xj.de at_99)) ?_
      show Run _ _ _ _ _ _ _ _ _ _ _ _ Tj (mkF m 100 #[.val (.int x0), .val (.int size), .val (.int fl), .val (.int (1 : Int32)), .val (.ref x101), .unset, .unset, .unset] [(.int (0 : Int32)), (.ref x101)])
      refine Run.via (fun _ => XS.iloadN Xj.at Xj.ex rfl (Xj.de at_100) rfl) ?_
      show Run _ _ _ _ _ _ _ _ _ _ _ _ Tj (mkF m 101 #[.val (.int x0), .val (.int size), .val (.int fl), .val (.int (1 : Int32)), .val (.ref x101), .unset, .unset, .unset] [(.int (1 : Int32)), (.int (0 : Int32)), (.ref x101)])
      refine Run.callS Xj (y := (⟨"com/example/sliceworks/sliceworks/web/HeadersUnquotedPinLaw", "make", "([CII)Ljava/lang/String;"⟩ : MethodName)) (W := 0) (con_m01 l hw hS hN hm r0 r1 r2 r3 A Xj.old) (wd hw 2 rfl) (wd hw 3 rfl) (wd hw 4 rfl) (wd hw 5 rfl) (by decide) pd___CII_Ljava_lang_String_ rfl (argsL := [(.ref x101), (.int (0 : Int32)), (.int (1 : Int32))]) (rest := []) rfl (Nat.le_of_ble_eq_true rfl) rfl at_101 (by decide) (by decide) (Nat.le_of_ble_eq_true rfl) (Nat.le_of_ble_eq_true rfl) (nofun) (nofun) ?_
      intro v109 T109 h109 L109 q109 X109 XF109 K109
      obtain ⟨y, rfl, S⟩ := q109
      show Run _ _ _ _ _ _ _ _ _ _ _ _ T109 (mkF m 104 #[.val (.int x0), .val (.int size), .val (.int fl), .val (.int (1 : Int32)), .val (.ref x101), .unset, .unset, .unset] [(.ref y)])
      have A1 := A.keep K109 nin0
      refine Run.via (fun _ => XS.astore X109.at X109.ex rfl (X109.de at_104) rfl rfl (l' := #[.val (.int x0), .val (.int size), .val (.int fl), .val (.int (1 : Int32)), .val (.ref x101), .val (.ref y), .unset, .unset]) rfl) ?_
      show Run _ _ _ _ _ _ _ _ _ _ _ _ T109 (mkF m 106 #[.val (.int x0), .val (.int size), .val (.int fl), .val (.int (1 : Int32)), .val (.ref x101), .val (.ref y), .unset, .unset] [])
      refine Run.via (fun _ => XS.iloadN X109.at X109.ex rfl (X109.de at_106) rfl) ?_
      show Run _ _ _ _ _ _ _ _ _ _ _ _ T109 (mkF m 107 #[.val (.int x0), .val (.int size), .val (.int fl), .val (.int (1 : Int32)), .val (.ref x101), .val (.ref y), .unset, .unset] [(.int (1 : Int32))])
      refine Run.via (fun _ => XS.iconst X109.at X109.ex rfl (X109.de at_107)) ?_
      show Run _ _ _ _ _ _ _ _ _ _ _ _ T109 (mkF m 108 #[.val (.int x0), .val (.int size), .val (.int fl), .val (.int (1 : Int32)), .val (.ref x101), .val (.ref y), .unset, .unset] [(.int (2 : Int32)), (.int (1 : Int32))])
      refine Run.via (fun _ => XS.icmpYes X109.at X109.ex rfl (pc0 := 108) (pc' := 145) rfl (X109.de at_108) rfl (tlt (by decide : ((1 : Int32) < (2 : Int32)))).1 (by decide) (by decide)) ?_
      show Run _ _ _ _ _ _ _ _ _ _ _ _ T109 (mkF m 145 #[.val (.int x0), .val (.int size), .val (.int fl), .val (.int (1 : Int32)), .val (.ref x101), .val (.ref y), .unset, .unset] [])
      refine Run.via (fun _ => XS.aload X109.at X109.ex rfl (X109.de at_145) rfl rfl) ?_
      show Run _ _ _ _ _ _ _ _ _ _ _ _ T109 (mkF m 147 #[.val (.int x0), .val (.int size), .val (.int fl), .val (.int (1 : Int32)), .val (.ref x101), .val (.ref y), .unset, .unset] [(.ref y)])
      refine Run.via (fun _ => XS.astore X109.at X109.ex rfl (X109.de at_147) rfl rfl (l' := #[.val (.int x0), .val (.int size), .val (.int fl), .val (.int (1 : Int32)), .val (.ref x101), .val (.ref y), .val (.ref y), .unset]) rfl) ?_
      show Run _ _ _ _ _ _ _ _ _ _ _ _ T109 (mkF m 149 #[.val (.int x0), .val (.int size), .val (.int fl), .val (.int (1 : Int32)), .val (.ref x101), .val (.ref y), .val (.ref y), .unset] [])
      refine Run.via (fun _ => XS.aload X109.at X109.ex rfl (X109.de at_149) rfl rfl) ?_
      show Run _ _ _ _ _ _ _ _ _ _ _ _ T109 (mkF m 151 #[.val (.int x0), .val (.int size), .val (.int fl), .val (.int (1 : Int32)), .val (.ref x101), .val (.ref y), .val (.ref y), .unset] [(.ref y)])
      refine Run.callS X109 (y := (⟨"com/example/sliceworks/sliceworks/web/Headers", "unquoted", "(Ljava/lang/String;)Ljava/lang/String;"⟩ : MethodName)) (W := 0) (con_uq l hw hS hN hmH hmL hl (Nat.le_of_ble_eq_true rfl) S X109.old) (wd hw 35 rfl) (wd hw 36 rfl) (wd hw 37 rfl) (wd hw 38 rfl) (by decide) pd__Ljava_lang_String__Ljava_lang_String_ rfl (argsL := [(.ref y)]) (rest := []) rfl (Nat.le_of_ble_eq_true rfl) rfl at_151 (by decide) (by decide) (Nat.le_of_ble_eq_true rfl) (Nat.le_of_ble_eq_true rfl) (nofun) (nofun) ?_
      intro v110 T110 h110 L110 q110 X110 XF110 K110
      obtain ⟨z, rfl, SZ⟩ := q110
      show Run _ _ _ _ _ _ _ _ _ _ _ _ T110 (mkF m 154 #[.val (.int x0), .val (.int size), .val (.int fl), .val (.int (1 : Int32)), .val (.ref x101), .val (.ref y), .val (.ref y), .unset] [(.ref z)])
      have SX := S.keep K110
      have eu : unq ([d0] : List Int32) = [d0] := by unfold unq; exact if_neg (fun z => absurd z.1 (Nat.lt_irrefl 1))
      rw [eu] at SZ
      refine Run.via (fun _ => XS.astore X110.at X110.ex rfl (X110.de at_154) rfl rfl (l' := #[.val (.int x0), .val (.int size), .val (.int fl), .val (.int (1 : Int32)), .val (.ref x101), .val (.ref y), .val (.ref y), .val (.ref z)]) rfl) ?_
      show Run _ _ _ _ _ _ _ _ _ _ _ _ T110 (mkF m 156 #[.val (.int x0), .val (.int size), .val (.int fl), .val (.int (1 : Int32)), .val (.ref x101), .val (.ref y), .val (.ref y), .val (.ref z)] [])
      refine Run.via (fun _ => XS.aload X110.at X110.ex rfl (X110.de at_156) rfl rfl) ?_
      show Run _ _ _ _ _ _ _ _ _ _ _ _ T110 (mkF m 158 #[.val (.int x0), .val (.int size), .val (.int fl), .val (.int (1 : Int32)), .val (.ref x101), .val (.ref y), .val (.ref y), .val (.ref z)] [(.ref z)])
      refine Run.via (fun _ => XS.ifnullNo X110.at X110.ex rfl (X110.de at_158) rfl) ?_
      show Run _ _ _ _ _ _ _ _ _ _ _ _ T110 (mkF m 161 #[.val (.int x0), .val (.int size), .val (.int fl), .val (.int (1 : Int32)), .val (.ref x101), .val (.ref y), .val (.ref y), .val (.ref z)] [])
      refine Run.via (fun _ => XS.aload X110.at X110.ex rfl (X110.de at_161) rfl rfl) ?_
      show Run _ _ _ _ _ _ _ _ _ _ _ _ T110 (mkF m 163 #[.val (.int x0), .val (.int size), .val (.int fl), .val (.int (1 : Int32)), .val (.ref x101), .val (.ref y), .val (.ref y), .val (.ref z)] [(.ref z)])
      refine Run.via (fun _ => XS.aload X110.at X110.ex rfl (X110.de at_163) rfl rfl) ?_
      show Run _ _ _ _ _ _ _ _ _ _ _ _ T110 (mkF m 165 #[.val (.int x0), .val (.int size), .val (.int fl), .val (.int (1 : Int32)), .val (.ref x101), .val (.ref y), .val (.ref y), .val (.ref z)] [(.ref y), (.ref z)])
      refine Run.seq hw hS X110 (W := 0) SZ SX (wd hw 67 rfl) (wd hw 68 rfl) (wd hw 69 rfl) (wd hw 70 rfl) (wd hw 7 rfl) at_165 rfl (Nat.le_of_ble_eq_true rfl) (by decide) (by decide) (Nat.le_of_ble_eq_true rfl) (Nat.le_of_ble_eq_true rfl) ?_
      intro T111 X111
      show Run _ _ _ _ _ _ _ _ _ _ _ _ T111 (mkF m 168 #[.val (.int x0), .val (.int size), .val (.int fl), .val (.int (1 : Int32)), .val (.ref x101), .val (.ref y), .val (.ref y), .val (.ref z)] [(.int (if ([d0] : List Int32) = [d0] then 1 else 0 : Int32))])
      rw [show (if ([d0] : List Int32) = [d0] then 1 else 0 : Int32) = (1 : Int32) from if_pos rfl]
      show Run _ _ _ _ _ _ _ _ _ _ _ _ T111 (mkF m 168 #[.val (.int x0), .val (.int size), .val (.int fl), .val (.int (1 : Int32)), .val (.ref x101), .val (.ref y), .val (.ref y), .val (.ref z)] [(.int (1 : Int32))])
      refine Run.via (fun _ => XS.ifNo X111.at X111.ex rfl (X111.de at_168) rfl ((if0 _ _).trans (feq (by decide : ¬ ((1 : Int32) = (0 : Int32)))).1)) ?_
      show Run _ _ _ _ _ _ _ _ _ _ _ _ T111 (mkF m 171 #[.val (.int x0), .val (.int size), .val (.int fl), .val (.int (1 : Int32)), .val (.ref x101), .val (.ref y), .val (.ref y), .val (.ref z)] [])
      refine Run.via (fun _ => XS.iconst X111.at X111.ex rfl (X111.de at_171)) ?_
      show Run _ _ _ _ _ _ _ _ _ _ _ _ T111 (mkF m 172 #[.val (.int x0), .val (.int size), .val (.int fl), .val (.int (1 : Int32)), .val (.ref x101), .val (.ref y), .val (.ref y), .val (.ref z)] [(.int (1 : Int32))])
      refine Run.via (fun _ => XS.goto X111.at X111.ex rfl (pc0 := 172) (pc' := 176) rfl (X111.de at_172) (by decide) (by decide)) ?_
      show Run _ _ _ _ _ _ _ _ _ _ _ _ T111 (mkF m 176 #[.val (.int x0), .val (.int size), .val (.int fl), .val (.int (1 : Int32)), .val (.ref x101), .val (.ref y), .val (.ref y), .val (.ref z)] [(.int (1 : Int32))])
      exact Run.retN X111 (t := .boolean) rfl (by simp) at_176 (Nat.le_of_ble_eq_true rfl) (Nat.le_of_ble_eq_true rfl) (rfl)
    refine Run.via (fun _ => XS.iloadN X105.at X105.ex rfl (X105.de at_61) rfl) ?_
    show Run _ _ _ _ _ _ _ _ _ _ _ _ T105 (mkF m 62 #[.val (.int x0), .val (.int size), .val (.int fl), .val (.int (1 : Int32)), .val (.ref x101), .unset, .unset, .unset] [(.int (1 : Int32))])
    refine Run.via (fun _ => XS.iconst X105.at X105.ex rfl (X105.de at_62)) ?_
    show Run _ _ _ _ _ _ _ _ _ _ _ _ T105 (mkF m 63 #[.val (.int x0), .val (.int size), .val (.int fl), .val (.int (1 : Int32)), .val (.ref x101), .unset, .unset, .unset] [(.int (1 : Int32)), (.int (1 : Int32))])
    refine Run.via (fun _ => XS.icmpNo X105.at X105.ex rfl (X105.de at_63) rfl (flt (by decide : ¬ ((1 : Int32) < (1 : Int32)))).1) ?_
    show Run _ _ _ _ _ _ _ _ _ _ _ _ T105 (mkF m 66 #[.val (.int x0), .val (.int size), .val (.int fl), .val (.int (1 : Int32)), .val (.ref x101), .unset, .unset, .unset] [])
    refine Run.via (fun _ => XS.iloadN X105.at X105.ex rfl (X105.de at_66) rfl) ?_
    show Run _ _ _ _ _ _ _ _ _ _ _ _ T105 (mkF m 67 #[.val (.int x0), .val (.int size), .val (.int fl), .val (.int (1 : Int32)), .val (.ref x101), .unset, .unset, .unset] [(.int fl)])
    refine Run.via (fun _ => XS.iconst X105.at X105.ex rfl (X105.de at_67)) ?_
    show Run _ _ _ _ _ _ _ _ _ _ _ _ T105 (mkF m 68 #[.val (.int x0), .val (.int size), .val (.int fl), .val (.int (1 : Int32)), .val (.ref x101), .unset, .unset, .unset] [(.int (1 : Int32)), (.int fl)])
    refine Run.via (fun _ => XS.iand X105.at X105.ex rfl (X105.de at_68) rfl) ?_
    show Run _ _ _ _ _ _ _ _ _ _ _ _ T105 (mkF m 69 #[.val (.int x0), .val (.int size), .val (.int fl), .val (.int (1 : Int32)), .val (.ref x101), .unset, .unset, .unset] [(.int (fl &&& (1 : Int32)))])
    by_cases f1 : (fl &&& (1 : Int32)) = (0 : Int32)
    ·
      refine Run.via (fun _ => XS.ifYes X105.at X105.ex rfl (pc0 := 69) (pc' := 78) rfl (X105.de at_69) rfl ((if0 _ _).trans (teq f1).1) (by decide) (by decide)) ?_
      show Run _ _ _ _ _ _ _ _ _ _ _ _ T105 (mkF m 78 #[.val (.int x0), .val (.int size), .val (.int fl), .val (.int (1 : Int32)), .val (.ref x101), .unset, .unset, .unset] [])
      refine Run.via (fun _ => XS.iloadN X105.at X105.ex rfl (X105.de at_78) rfl) ?_
      show Run _ _ _ _ _ _ _ _ _ _ _ _ T105 (mkF m 79 #[.val (.int x0), .val (.int size), .val (.int fl), .val (.int (1 : Int32)), .val (.ref x101), .unset, .unset, .unset] [(.int (1 : Int32))])
      refine Run.via (fun _ => XS.iconst X105.at X105.ex rfl (X105.de at_79)) ?_
      show Run _ _ _ _ _ _ _ _ _ _ _ _ T105 (mkF m 80 #[.val (.int x0), .val (.int size), .val (.int fl), .val (.int (1 : Int32)), .val (.ref x101), .unset, .unset, .unset] [(.int (1 : Int32)), (.int (1 : Int32))])
      refine Run.via (fun _ => XS.icmpNo X105.at X105.ex rfl (X105.de at_80) rfl (flt (by decide : ¬ ((1 : Int32) < (1 : Int32)))).1) ?_
      show Run _ _ _ _ _ _ _ _ _ _ _ _ T105 (mkF m 83 #[.val (.int x0), .val (.int size), .val (.int fl), .val (.int (1 : Int32)), .val (.ref x101), .unset, .unset, .unset] [])
      refine Run.via (fun _ => XS.iloadN X105.at X105.ex rfl (X105.de at_83) rfl) ?_
      show Run _ _ _ _ _ _ _ _ _ _ _ _ T105 (mkF m 84 #[.val (.int x0), .val (.int size), .val (.int fl), .val (.int (1 : Int32)), .val (.ref x101), .unset, .unset, .unset] [(.int fl)])
      refine Run.via (fun _ => XS.iconst X105.at X105.ex rfl (X105.de at_84)) ?_
      show Run _ _ _ _ _ _ _ _ _ _ _ _ T105 (mkF m 85 #[.val (.int x0), .val (.int size), .val (.int fl), .val (.int (1 : Int32)), .val (.ref x101), .unset, .unset, .unset] [(.int (2 : Int32)), (.int fl)])
      refine Run.via (fun _ => XS.iand X105.at X105.ex rfl (X105.de at_85) rfl) ?_
      show Run _ _ _ _ _ _ _ _ _ _ _ _ T105 (mkF m 86 #[.val (.int x0), .val (.int size), .val (.int fl), .val (.int (1 : Int32)), .val (.ref x101), .unset, .unset, .unset] [(.int (fl &&& (2 : Int32)))])
      by_cases f2 : (fl &&& (2 : Int32)) = (0 : Int32)
      ·
        refine Run.via (fun _ => XS.ifYes X105.at X105.ex rfl (pc0 := 86) (pc' := 97) rfl (X105.de at_86) rfl ((if0 _ _).trans (teq f2).1) (by decide) (by decide)) ?_
        show Run _ _ _ _ _ _ _ _ _ _ _ _ T105 (mkF m 97 #[.val (.int x0), .val (.int size), .val (.int fl), .val (.int (1 : Int32)), .val (.ref x101), .unset, .unset, .unset] [])
        exact J _ _ _ c0 c1 c2 c3 X105 r0 r1 r2 r3 A105
      ·
        refine Run.via (fun _ => XS.ifNo X105.at X105.ex rfl (X105.de at_86) rfl ((if0 _ _).trans (feq f2).1)) ?_
        show Run _ _ _ _ _ _ _ _ _ _ _ _ T105 (mkF m 89 #[.val (.int x0), .val (.int size), .val (.int fl), .val (.int (1 : Int32)), .val (.ref x101), .unset, .unset, .unset] [])
        refine Run.via (fun _ => XS.aload X105.at X105.ex rfl (X105.de at_89) rfl rfl) ?_
        show Run _ _ _ _ _ _ _ _ _ _ _ _ T105 (mkF m 91 #[.val (.int x0), .val (.int size), .val (.int fl), .val (.int (1 : Int32)), .val (.ref x101), .unset, .unset, .unset] [(.ref x101)])
        refine Run.via (fun _ => XS.iloadN X105.at X105.ex rfl (X105.de at_91) rfl) ?_
        show Run _ _ _ _ _ _ _ _ _ _ _ _ T105 (mkF m 92 #[.val (.int x0), .val (.int size), .val (.int fl), .val (.int (1 : Int32)), .val (.ref x101), .unset, .unset, .unset] [(.int (1 : Int32)), (.ref x101)])
        refine Run.via (fun _ => XS.iconst X105.at X105.ex rfl (X105.de at_92)) ?_
        show Run _ _ _ _ _ _ _ _ _ _ _ _ T105 (mkF m 93 #[.val (.int x0), .val (.int size), .val (.int fl), .val (.int (1 : Int32)), .val (.ref x101), .unset, .unset, .unset] [(.int (1 : Int32)), (.int (1 : Int32)), (.ref x101)])
        refine Run.via (fun _ => XS.isub X105.at X105.ex rfl (X105.de at_93) rfl) ?_
        show Run _ _ _ _ _ _ _ _ _ _ _ _ T105 (mkF m 94 #[.val (.int x0), .val (.int size), .val (.int fl), .val (.int (1 : Int32)), .val (.ref x101), .unset, .unset, .unset] [(.int (0 : Int32)), (.ref x101)])
        refine Run.via (fun _ => XS.bipush X105.at X105.ex rfl (X105.de at_94)) ?_
        show Run _ _ _ _ _ _ _ _ _ _ _ _ T105 (mkF m 96 #[.val (.int x0), .val (.int size), .val (.int fl), .val (.int (1 : Int32)), .val (.ref x101), .unset, .unset, .unset] [(.int (34 : Int32)), (.int (0 : Int32)), (.ref x101)])
        refine Run.castore X105 (i := 0) (v' := (34 : Int32)) A105 rfl (Nat.le_of_ble_eq_true rfl) (nar_lat (by decide)) (Or.inr (by omega)) (by omega) at_96 ?_
        intro T112 h112 L112 X112 K112 z112 A112
        have A112 : Arc .char Z h112 x101 [(34 : Int32), c1, c2, c3] := A112
        show Run _ _ _ _ _ _ _ _ _ _ _ _ T112 (mkF m 97 #[.val (.int x0), .val (.int size), .val (.int fl), .val (.int (1 : Int32)), .val (.ref x101), .unset, .unset, .unset] [])
        exact J _ _ _ (34 : Int32) c1 c2 c3 X112 (by decide) r1 r2 r3 A112
    ·
      refine Run.via (fun _ => XS.ifNo X105.at X105.ex rfl (X105.de at_69) rfl ((if0 _ _).trans (feq f1).1)) ?_
      show Run _ _ _ _ _ _ _ _ _ _ _ _ T105 (mkF m 72 #[.val (.int x0), .val (.int size), .val (.int fl), .val (.int (1 : Int32)), .val (.ref x101), .unset, .unset, .unset] [])
      refine Run.via (fun _ => XS.aload X105.at X105.ex rfl (X105.de at_72) rfl rfl) ?_
      show Run _ _ _ _ _ _ _ _ _ _ _ _ T105 (mkF m 74 #[.val (.int x0), .val (.int size), .val (.int fl), .val (.int (1 : Int32)), .val (.ref x101), .unset, .unset, .unset] [(.ref x101)])
      refine Run.via (fun _ => XS.iconst X105.at X105.ex rfl (X105.de at_74)) ?_
      show Run _ _ _ _ _ _ _ _ _ _ _ _ T105 (mkF m 75 #[.val (.int x0), .val (.int size), .val (.int fl), .val (.int (1 : Int32)), .val (.ref x101), .unset, .unset, .unset] [(.int (0 : Int32)), (.ref x101)])
      refine Run.via (fun _ => XS.bipush X105.at X105.ex rfl (X105.de at_75)) ?_
      show Run _ _ _ _ _ _ _ _ _ _ _ _ T105 (mkF m 77 #[.val (.int x0), .val (.int size), .val (.int fl), .val (.int (1 : Int32)), .val (.ref x101), .unset, .unset, .unset] [(.int (34 : Int32)), (.int (0 : Int32)), (.ref x101)])
      refine Run.castore X105 (i := 0) (v' := (34 : Int32)) A105 rfl (Nat.le_of_ble_eq_true rfl) (nar_lat (by decide)) (Or.inr (by omega)) (by omega) at_77 ?_
      intro T113 h113 L113 X113 K113 z113 A113
      have A113 : Arc .char Z h113 x101 [(34 : Int32), c1, c2, c3] := A113
      show Run _ _ _ _ _ _ _ _ _ _ _ _ T113 (mkF m 78 #[.val (.int x0), .val (.int size), .val (.int fl), .val (.int (1 : Int32)), .val (.ref x101), .unset, .unset, .unset] [])
      refine Run.via (fun _ => XS.iloadN X113.at X113.ex rfl (X113.de at_78) rfl) ?_
      show Run _ _ _ _ _ _ _ _ _ _ _ _ T113 (mkF m 79 #[.val (.int x0), .val (.int size), .val (.int fl), .val (.int (1 : Int32)), .val (.ref x101), .unset, .unset, .unset] [(.int (1 : Int32))])
      refine Run.via (fun _ => XS.iconst X113.at X113.ex rfl (X113.de at_79)) ?_
      show Run _ _ _ _ _ _ _ _ _ _ _ _ T113 (mkF m 80 #[.val (.int x0), .val (.int size), .val (.int fl), .val (.int (1 : Int32)), .val (.ref x101), .unset, .unset, .unset] [(.int (1 : Int32)), (.int (1 : Int32))])
      refine Run.via (fun _ => XS.icmpNo X113.at X113.ex rfl (X113.de at_80) rfl (flt (by decide : ¬ ((1 : Int32) < (1 : Int32)))).1) ?_
      show Run _ _ _ _ _ _ _ _ _ _ _ _ T113 (mkF m 83 #[.val (.int x0), .val (.int size), .val (.int fl), .val (.int (1 : Int32)), .val (.ref x101), .unset, .unset, .unset] [])
      refine Run.via (fun _ => XS.iloadN X113.at X113.ex rfl (X113.de at_83) rfl) ?_
      show Run _ _ _ _ _ _ _ _ _ _ _ _ T113 (mkF m 84 #[.val (.int x0), .val (.int size), .val (.int fl), .val (.int (1 : Int32)), .val (.ref x101), .unset, .unset, .unset] [(.int fl)])
      refine Run.via (fun _ => XS.iconst X113.at X113.ex rfl (X113.de at_84)) ?_
      show Run _ _ _ _ _ _ _ _ _ _ _ _ T113 (mkF m 85 #[.val (.int x0), .val (.int size), .val (.int fl), .val (.int (1 : Int32)), .val (.ref x101), .unset, .unset, .unset] [(.int (2 : Int32)), (.int fl)])
      refine Run.via (fun _ => XS.iand X113.at X113.ex rfl (X113.de at_85) rfl) ?_
      show Run _ _ _ _ _ _ _ _ _ _ _ _ T113 (mkF m 86 #[.val (.int x0), .val (.int size), .val (.int fl), .val (.int (1 : Int32)), .val (.ref x101), .unset, .unset, .unset] [(.int (fl &&& (2 : Int32)))])
      by_cases f2 : (fl &&& (2 : Int32)) = (0 : Int32)
      ·
        refine Run.via (fun _ => XS.ifYes X113.at X113.ex rfl (pc0 := 86) (pc' := 97) rfl (X113.de at_86) rfl ((if0 _ _).trans (teq f2).1) (by decide) (by decide)) ?_
        show Run _ _ _ _ _ _ _ _ _ _ _ _ T113 (mkF m 97 #[.val (.int x0), .val (.int size), .val (.int fl), .val (.int (1 : Int32)), .val (.ref x101), .unset, .unset, .unset] [])
        exact J _ _ _ (34 : Int32) c1 c2 c3 X113 (by decide) r1 r2 r3 A113
      ·
        refine Run.via (fun _ => XS.ifNo X113.at X113.ex rfl (X113.de at_86) rfl ((if0 _ _).trans (feq f2).1)) ?_
        show Run _ _ _ _ _ _ _ _ _ _ _ _ T113 (mkF m 89 #[.val (.int x0), .val (.int size), .val (.int fl), .val (.int (1 : Int32)), .val (.ref x101), .unset, .unset, .unset] [])
        refine Run.via (fun _ => XS.aload X113.at X113.ex rfl (X113.de at_89) rfl rfl) ?_
        show Run _ _ _ _ _ _ _ _ _ _ _ _ T113 (mkF m 91 #[.val (.int x0), .val (.int size), .val (.int fl), .val (.int (1 : Int32)), .val (.ref x101), .unset, .unset, .unset] [(.ref x101)])
        refine Run.via (fun _ => XS.iloadN X113.at X113.ex rfl (X113.de at_91) rfl) ?_
        show Run _ _ _ _ _ _ _ _ _ _ _ _ T113 (mkF m 92 #[.val (.int x0), .val (.int size), .val (.int fl), .val (.int (1 : Int32)), .val (.ref x101), .unset, .unset, .unset] [(.int (1 : Int32)), (.ref x101)])
        refine Run.via (fun _ => XS.iconst X113.at X113.ex rfl (X113.de at_92)) ?_
        show Run _ _ _ _ _ _ _ _ _ _ _ _ T113 (mkF m 93 #[.val (.int x0), .val (.int size), .val (.int fl), .val (.int (1 : Int32)), .val (.ref x101), .unset, .unset, .unset] [(.int (1 : Int32)), (.int (1 : Int32)), (.ref x101)])
        refine Run.via (fun _ => XS.isub X113.at X113.ex rfl (X113.de at_93) rfl) ?_
        show Run _ _ _ _ _ _ _ _ _ _ _ _ T113 (mkF m 94 #[.val (.int x0), .val (.int size), .val (.int fl), .val (.int (1 : Int32)), .val (.ref x101), .unset, .unset, .unset] [(.int (0 : Int32)), (.ref x101)])
        refine Run.via (fun _ => XS.bipush X113.at X113.ex rfl (X113.de at_94)) ?_
        show Run _ _ _ _ _ _ _ _ _ _ _ _ T113 (mkF m 96 #[.val (.int x0), .val (.int size), .val (.int fl), .val (.int (1 : Int32)), .val (.ref x101), .unset, .unset, .unset] [(.int (34 : Int32)), (.int (0 : Int32)), (.ref x101)])
        refine Run.castore X113 (i := 0) (v' := (34 : Int32)) A113 rfl (Nat.le_of_ble_eq_true rfl) (nar_lat (by decide)) (Or.inr (by omega)) (by omega) at_96 ?_
        intro T114 h114 L114 X114 K114 z114 A114
        have A114 : Arc .char Z h114 x101 [(34 : Int32), c1, c2, c3] := A114
        show Run _ _ _ _ _ _ _ _ _ _ _ _ T114 (mkF m 97 #[.val (.int x0), .val (.int size), .val (.int fl), .val (.int (1 : Int32)), .val (.ref x101), .unset, .unset, .unset] [])
        exact J _ _ _ (34 : Int32) c1 c2 c3 X114 (by decide) r1 r2 r3 A114
  ·
    show Run _ _ _ _ _ _ _ _ _ _ _ _ T105 (mkF m 61 #[.val (.int x0), .val (.int size), .val (.int fl), .val (.int (2 : Int32)), .val (.ref x101), .unset, .unset, .unset] [])
    have J : ∀ (Tj : State) (hj : Heap) (Lq : List Loc) (d0 d1 d2 d3 : Int32), Sit Z a0 EL p l e room_1 s m #[(.int x0), (.int size), (.int fl)] below meth c "com/example/sliceworks/sliceworks/web/HeadersUnquotedPinLaw" code maxLocals ret "law" h0 [] [x101] Tj hj Lq 1 4 → (¬ d0 < 0 ∧ ¬ (255 : Int32) < d0) → (¬ d1 < 0 ∧ ¬ (255 : Int32) < d1) → (¬ d2 < 0 ∧ ¬ (255 : Int32) < d2) → (¬ d3 < 0 ∧ ¬ (255 : Int32) < d3) → Arc .char Z hj x101 [d0, d1, d2, d3] → Run Z EL false p e below s h0 [] (fun v _ => v = some (.int 1)) room_1.cells room_1.slots Tj (mkF m 97 #[.val (.int x0), .val (.int size), .val (.int fl), .val (.int (2 : Int32)), .val (.ref x101), .unset, .unset, .unset] []) := by
      intro Tj hj Lq d0 d1 d2 d3 Xj r0 r1 r2 r3 A
      have uj := Xj.kp.1
      have hl : Lat ([d0, d1] : List Int32) := lsS r0 (lsS r1 (ls0))
      refine Run.via (fun _ => XS.aload Xj.at Xj.ex rfl (Xj.de at_97) rfl rfl) ?_
      show Run _ _ _ _ _ _ _ _ _ _ _ _ Tj (mkF m 99 #[.val (.int x0), .val (.int size), .val (.int fl), .val (.int (2 : Int32)), .val (.ref x101), .unset, .unset, .unset] [(.ref x101)])
      refine Run.via (fun _ => XS.iconst Xj.at Xj.ex rfl (Xj.de at_99)) ?_
      show Run _ _ _ _ _ _ _ _ _ _ _ _ Tj (mkF m 100 #[.val (.int x0), .val (.int size), .val (.int fl), .val (.int (2 : Int32)), .val (.ref x101), .unset, .unset, .unset] [(.int (0 : Int32)), (.ref x101)])
      refine Run.via (fun _ => XS.iloadN Xj.at Xj.ex rfl (Xj.de at_100) rfl) ?_
      show Run _ _ _ _ _ _ _ _ _ _ _ _ Tj (mkF m 101 #[.val (.int x0), .val (.int size), .val (.int fl), .val (.int (2 : Int32)), .val (.ref x101), .unset, .unset, .unset] [(.int (2 : Int32)), (.int (0 : Int32)), (.ref x101)])
      refine Run.callS Xj (y := (⟨"com/example/sliceworks/sliceworks/web/HeadersUnquotedPinLaw", "make", "([CII)Ljava/lang/String;"⟩ : MethodName)) (W := 0) (con_m02 l hw hS hN hm r0 r1 r2 r3 A Xj.old) (wd hw 2 rfl) (wd hw 3 rfl) (wd hw 4 rfl) (wd hw 5 rfl) (by decide) pd___CII_Ljava_lang_String_ rfl (argsL := [(.ref x101), (.int (0 : Int32)), (.int (2 : Int32))]) (rest := []) rfl (Nat.le_of_ble_eq_true rfl) rfl at_101 (by decide) (by decide) (Nat.le_of_ble_eq_true rfl) (Nat.le_of_ble_eq_true rfl) (nofun) (nofun) ?_
      intro v115 T115 h115 L115 q115 X115 XF115 K115
      obtain ⟨y, rfl, S⟩ := q115
      show Run _ _ _ _ _ _ _ _ _ _ _ _ T115 (mkF m 104 #[.val (.int x0), .val (.int size), .val (.int fl), .val (.int (2 : Int32)), .val (.ref x101), .unset, .unset, .unset] [(.ref y)])
      have A1 := A.keep K115 nin0
      refine Run.via (fun _ => XS.astore X115.at X115.ex rfl (X115.de at_104) rfl rfl (l' := #[.val (.int x0), .val (.int size), .val (.int fl), .val (.int (2 : Int32)), .val (.ref x101), .val (.ref y), .unset, .unset]) rfl) ?_
      show Run _ _ _ _ _ _ _ _ _ _ _ _ T115 (mkF m 106 #[.val (.int x0), .val (.int size), .val (.int fl), .val (.int (2 : Int32)), .val (.ref x101), .val (.ref y), .unset, .unset] [])
      refine Run.via (fun _ => XS.iloadN X115.at X115.ex rfl (X115.de at_106) rfl) ?_
      show Run _ _ _ _ _ _ _ _ _ _ _ _ T115 (mkF m 107 #[.val (.int x0), .val (.int size), .val (.int fl), .val (.int (2 : Int32)), .val (.ref x101), .val (.ref y), .unset, .unset] [(.int (2 : Int32))])
      refine Run.via (fun _ => XS.iconst X115.at X115.ex rfl (X115.de at_107)) ?_
      show Run _ _ _ _ _ _ _ _ _ _ _ _ T115 (mkF m 108 #[.val (.int x0), .val (.int size), .val (.int fl), .val (.int (2 : Int32)), .val (.ref x101), .val (.ref y), .unset, .unset] [(.int (2 : Int32)), (.int (2 : Int32))])
      refine Run.via (fun _ => XS.icmpNo X115.at X115.ex rfl (X115.de at_108) rfl (flt (by decide : ¬ ((2 : Int32) < (2 : Int32)))).1) ?_
      show Run _ _ _ _ _ _ _ _ _ _ _ _ T115 (mkF m 111 #[.val (.int x0), .val (.int size), .val (.int fl), .val (.int (2 : Int32)), .val (.ref x101), .val (.ref y), .unset, .unset] [])
      refine Run.via (fun _ => XS.aload X115.at X115.ex rfl (X115.de at_111) rfl rfl) ?_
      show Run _ _ _ _ _ _ _ _ _ _ _ _ T115 (mkF m 113 #[.val (.int x0), .val (.int size), .val (.int fl), .val (.int (2 : Int32)), .val (.ref x101), .val (.ref y), .unset, .unset] [(.ref x101)])
      refine Run.via (fun _ => XS.iconst X115.at X115.ex rfl (X115.de at_113)) ?_
      show Run _ _ _ _ _ _ _ _ _ _ _ _ T115 (mkF m 114 #[.val (.int x0), .val (.int size), .val (.int fl), .val (.int (2 : Int32)), .val (.ref x101), .val (.ref y), .unset, .unset] [(.int (0 : Int32)), (.ref x101)])
      refine Run.caload X115 (i := 0) A1 rfl (Nat.le_of_ble_eq_true rfl) at_114 ?_
      show Run _ _ _ _ _ _ _ _ _ _ _ _ T115 (mkF m 115 #[.val (.int x0), .val (.int size), .val (.int fl), .val (.int (2 : Int32)), .val (.ref x101), .val (.ref y), .unset, .unset] [(.int d0)])
      refine Run.via (fun _ => XS.bipush X115.at X115.ex rfl (X115.de at_115)) ?_
      show Run _ _ _ _ _ _ _ _ _ _ _ _ T115 (mkF m 117 #[.val (.int x0), .val (.int size), .val (.int fl), .val (.int (2 : Int32)), .val (.ref x101), .val (.ref y), .unset, .unset] [(.int (34 : Int32)), (.int d0)])
      by_cases q0 : d0 = (34 : Int32)
      ·
        refine Run.via (fun _ => XS.icmpNo X115.at X115.ex rfl (X115.de at_117) rfl (teq q0).2) ?_
        show Run _ _ _ _ _ _ _ _ _ _ _ _ T115 (mkF m 120 #[.val (.int x0), .val (.int size), .val (.int fl), .val (.int (2 : Int32)), .val (.ref x101), .val (.ref y), .unset, .unset] [])
        refine Run.via (fun _ => XS.aload X115.at X115.ex rfl (X115.de at_120) rfl rfl) ?_
        show Run _ _ _ _ _ _ _ _ _ _ _ _ T115 (mkF m 122 #[.val (.int x0), .val (.int size), .val (.int fl), .val (.int (2 : Int32)), .val (.ref x101), .val (.ref y), .unset, .unset] [(.ref x101)])
        refine Run.via (fun _ => XS.iloadN X115.at X115.ex rfl (X115.de at_122) rfl) ?_
        show Run _ _ _ _ _ _ _ _ _ _ _ _ T115 (mkF m 123 #[.val (.int x0), .val (.int size), .val (.int fl), .val (.int (2 : Int32)), .val (.ref x101), .val (.ref y), .unset, .unset] [(.int (2 : Int32)), (.ref x101)])
        refine Run.via (fun _ => XS.iconst X115.at X115.ex rfl (X115.de at_123)) ?_
        show Run _ _ _ _ _ _ _ _ _ _ _ _ T115 (mkF m 124 #[.val (.int x0), .val (.int size), .val (.int fl), .val (.int (2 : Int32)), .val (.ref x101), .val (.ref y), .unset, .unset] [(.int (1 : Int32)), (.int (2 : Int32)), (.ref x101)])
        refine Run.via (fun _ => XS.isub X115.at X115.ex rfl (X115.de at_124) rfl) ?_
        show Run _ _ _ _ _ _ _ _ _ _ _ _ T115 (mkF m 125 #[.val (.int x0), .val (.int size), .val (.int fl), .val (.int (2 : Int32)), .val (.ref x101), .val (.ref y), .unset, .unset] [(.int (1 : Int32)), (.ref x101)])
        refine Run.caload X115 (i := 1) A1 rfl (Nat.le_of_ble_eq_true rfl) at_125 ?_
        show Run _ _ _ _ _ _ _ _ _ _ _ _ T115 (mkF m 126 #[.val (.int x0), .val (.int size), .val (.int fl), .val (.int (2 : Int32)), .val (.ref x101), .val (.ref y), .unset, .unset] [(.int d1)])
        refine Run.via (fun _ => XS.bipush X115.at X115.ex rfl (X115.de at_126)) ?_
        show Run _ _ _ _ _ _ _ _ _ _ _ _ T115 (mkF m 128 #[.val (.int x0), .val (.int size), .val (.int fl), .val (.int (2 : Int32)), .val (.ref x101), .val (.ref y), .unset, .unset] [(.int (34 : Int32)), (.int d1)])
        by_cases q1 : d1 = (34 : Int32)
        ·
          refine Run.via (fun _ => XS.icmpNo X115.at X115.ex rfl (X115.de at_128) rfl (teq q1).2) ?_
          show Run _ _ _ _ _ _ _ _ _ _ _ _ T115 (mkF m 131 #[.val (.int x0), .val (.int size), .val (.int fl), .val (.int (2 : Int32)), .val (.ref x101), .val (.ref y), .unset, .unset] [])
          refine Run.via (fun _ => XS.aload X115.at X115.ex rfl (X115.de at_131) rfl rfl) ?_
          show Run _ _ _ _ _ _ _ _ _ _ _ _ T115 (mkF m 133 #[.val (.int x0), .val (.int size), .val (.int fl), .val (.int (2 : Int32)), .val (.ref x101), .val (.ref y), .unset, .unset] [(.ref x101)])
          refine Run.via (fun _ => XS.iconst X115.at X115.ex rfl (X115.de at_133)) ?_
          show Run _ _ _ _ _ _ _ _ _ _ _ _ T115 (mkF m 134 #[.val (.int x0), .val (.int size), .val (.int fl), .val (.int (2 : Int32)), .val (.ref x101), .val (.ref y), .unset, .unset] [(.int (1 : Int32)), (.ref x101)])
          refine Run.via (fun _ => XS.iloadN X115.at X115.ex rfl (X115.de at_134) rfl) ?_
          show Run _ _ _ _ _ _ _ _ _ _ _ _ T115 (mkF m 135 #[.val (.int x0), .val (.int size), .val (.int fl), .val (.int (2 : Int32)), .val (.ref x101), .val (.ref y), .unset, .unset] [(.int (2 : Int32)), (.int (1 : Int32)), (.ref x101)])
          refine Run.via (fun _ => XS.iconst X115.at X115.ex rfl (X115.de at_135)) ?_
          show Run _ _ _ _ _ _ _ _ _ _ _ _ T115 (mkF m 136 #[.val (.int x0), .val (.int size), .val (.int fl), .val (.int (2 : Int32)), .val (.ref x101), .val (.ref y), .unset, .unset] [(.int (2 : Int32)), (.int (2 : Int32)), (.int (1 : Int32)), (.ref x101)])
          refine Run.via (fun _ => XS.isub X115.at X115.ex rfl (X115.de at_136) rfl) ?_
          show Run _ _ _ _ _ _ _ _ _ _ _ _ T115 (mkF m 137 #[.val (.int x0), .val (.int size), .val (.int fl), .val (.int (2 : Int32)), .val (.ref x101), .val (.ref y), .unset, .unset] [(.int (0 : Int32)), (.int (1 : Int32)), (.ref x101)])
          refine Run.callS X115 (y := (⟨"com/example/sliceworks/sliceworks/web/HeadersUnquotedPinLaw", "make", "([CII)Ljava/lang/String;"⟩ : MethodName)) (W := 0) (con_m10 l hw hS hN hm r0 r1 r2 r3 A1 X115.old) (wd hw 2 rfl) (wd hw 3 rfl) (wd hw 4 rfl) (wd hw 5 rfl) (by decide) pd___CII_Ljava_lang_String_ rfl (argsL := [(.ref x101), (.int (1 : Int32)), (.int (0 : Int32))]) (rest := []) rfl (Nat.le_of_ble_eq_true rfl) rfl at_137 (by decide) (by decide) (Nat.le_of_ble_eq_true rfl) (Nat.le_of_ble_eq_true rfl) (nofun) (nofun) ?_
          intro v116 T116 h116 L116 q116 X116 XF116 K116
          obtain ⟨y2, rfl, S2⟩ := q116
          show Run _ _ _ _ _ _ _ _ _ _ _ _ T116 (mkF m 140 #[.val (.int x0), .val (.int size), .val (.int fl), .val (.int (2 : Int32)), .val (.ref x101), .val (.ref y), .unset, .unset] [(.ref y2)])
          have S1 := S.keep K116
          refine Run.via (fun _ => XS.astore X116.at X116.ex rfl (X116.de at_140) rfl rfl (l' := #[.val (.int x0), .val (.int size), .val (.int fl), .val (.int (2 : Int32)), .val (.ref x101), .val (.ref y), .val (.ref y2), .unset]) rfl) ?_
          show Run _ _ _ _ _ _ _ _ _ _ _ _ T116 (mkF m 142 #[.val (.int x0), .val (.int size), .val (.int fl), .val (.int (2 : Int32)), .val (.ref x101), .val (.ref y), .val (.ref y2), .unset] [])
          refine Run.via (fun _ => XS.goto X116.at X116.ex rfl (pc0 := 142) (pc' := 149) rfl (X116.de at_142) (by decide) (by decide)) ?_
          show Run _ _ _ _ _ _ _ _ _ _ _ _ T116 (mkF m 149 #[.val (.int x0), .val (.int size), .val (.int fl), .val (.int (2 : Int32)), .val (.ref x101), .val (.ref y), .val (.ref y2), .unset] [])
          refine Run.via (fun _ => XS.aload X116.at X116.ex rfl (X116.de at_149) rfl rfl) ?_
          show Run _ _ _ _ _ _ _ _ _ _ _ _ T116 (mkF m 151 #[.val (.int x0), .val (.int size), .val (.int fl), .val (.int (2 : Int32)), .val (.ref x101), .val (.ref y), .val (.ref y2), .unset] [(.ref y)])
          refine Run.callS X116 (y := (⟨"com/example/sliceworks/sliceworks/web/Headers", "unquoted", "(Ljava/lang/String;)Ljava/lang/String;"⟩ : MethodName)) (W := 0) (con_uq l hw hS hN hmH hmL hl (Nat.le_of_ble_eq_true rfl) S1 X116.old) (wd hw 35 rfl) (wd hw 36 rfl) (wd hw 37 rfl) (wd hw 38 rfl) (by decide) pd__Ljava_lang_String__Ljava_lang_String_ rfl (argsL := [(.ref y)]) (rest := []) rfl (Nat.le_of_ble_eq_true rfl) rfl at_151 (by decide) (by decide) (Nat.le_of_ble_eq_true rfl) (Nat.le_of_ble_eq_true rfl) (nofun) (nofun) ?_
          intro v117 T117 h117 L117 q117 X117 XF117 K117
          obtain ⟨z, rfl, SZ⟩ := q117
          show Run _ _ _ _ _ _ _ _ _ _ _ _ T117 (mkF m 154 #[.val (.int x0), .val (.int size), .val (.int fl), .val (.int (2 : Int32)), .val (.ref x101), .val (.ref y), .val (.ref y2), .unset] [(.ref z)])
          have SX := S2.keep K117
          have eu : unq ([d0, d1] : List Int32) = [] := by unfold unq; exact if_pos ⟨Nat.le_of_ble_eq_true rfl, q0, q1⟩
          rw [eu] at SZ
          refine Run.via (fun _ => XS.astore X117.at X117.ex rfl (X117.de at_154) rfl rfl (l' := #[.val (.int x0), .val (.int size), .val (.int fl), .val (.int (2 : Int32)), .val (.ref x101), .val (.ref y), .val (.ref y2), .val (.ref z)]) rfl) ?_
          show Run _ _ _ _ _ _ _ _ _ _ _ _ T117 (mkF m 156 #[.val (.int x0), .val (.int size), .val (.int fl), .val (.int (2 : Int32)), .val (.ref x101), .val (.ref y), .val (.ref y2), .val (.ref z)] [])
          refine Run.via (fun _ => XS.aload X117.at X117.ex rfl (X117.de at_156) rfl rfl) ?_
          show Run _ _ _ _ _ _ _ _ _ _ _ _ T117 (mkF m 158 #[.val (.int x0), .val (.int size), .val (.int fl), .val (.int (2 : Int32)), .val (.ref x101), .val (.ref y), .val (.ref y2), .val (.ref z)] [(.ref z)])
          refine Run.via (fun _ => XS.ifnullNo X117.at X117.ex rfl (X117.de at_158) rfl) ?_
          show Run _ _ _ _ _ _ _ _ _ _ _ _ T117 (mkF m 161 #[.val (.int x0), .val (.int size), .val (.int fl), .val (.int (2 : Int32)), .val (.ref x101), .val (.ref y), .val (.ref y2), .val (.ref z)] [])
          refine Run.via (fun _ => XS.aload X117.at X117.ex rfl (X117.de at_161) rfl rfl) ?_
          show Run _ _ _ _ _ _ _ _ _ _ _ _ T117 (mkF m 163 #[.val (.int x0), .val (.int size), .val (.int fl), .val (.int (2 : Int32)), .val (.ref x101), .val (.ref y), .val (.ref y2), .val (.ref z)] [(.ref z)])
          refine Run.via (fun _ => XS.aload X117.at X117.ex rfl (X117.de at_163) rfl rfl) ?_
          show Run _ _ _ _ _ _ _ _ _ _ _ _ T117 (mkF m 165 #[.val (.int x0), .val (.int size), .val (.int fl), .val (.int (2 : Int32)), .val (.ref x101), .val (.ref y), .val (.ref y2), .val (.ref z)] [(.ref y2), (.ref z)])
          refine Run.seq hw hS X117 (W := 0) SZ SX (wd hw 67 rfl) (wd hw 68 rfl) (wd hw 69 rfl) (wd hw 70 rfl) (wd hw 7 rfl) at_165 rfl (Nat.le_of_ble_eq_true rfl) (by decide) (by decide) (Nat.le_of_ble_eq_true rfl) (Nat.le_of_ble_eq_true rfl) ?_
          intro T118 X118
          show Run _ _ _ _ _ _ _ _ _ _ _ _ T118 (mkF m 168 #[.val (.int x0), .val (.int size), .val (.int fl), .val (.int (2 : Int32)), .val (.ref x101), .val (.ref y), .val (.ref y2), .val (.ref z)] [(.int (if ([] : List Int32) = [] then 1 else 0 : Int32))])
          rw [show (if ([] : List Int32) = [] then 1 else 0 : Int32) = (1 : Int32) from if_pos rfl]
          show Run _ _ _ _ _ _ _ _ _ _ _ _ T118 (mkF m 168 #[.val (.int x0), .val (.int size), .val (.int fl), .val (.int (2 : Int32)), .val (.ref x101), .val (.ref y), .val (.ref y2), .val (.ref z)] [(.int (1 : Int32))])
          refine Run.via (fun _ => XS.ifNo X118.at X118.ex rfl (X118.de at_168) rfl ((if0 _ _).trans (feq (by decide : ¬ ((1 : Int32) = (0 : Int32)))).1)) ?_
          show Run _ _ _ _ _ _ _ _ _ _ _ _ T118 (mkF m 171 #[.val (.int x0), .val (.int size), .val (.int fl), .val (.int (2 : Int32)), .val (.ref x101), .val (.ref y), .val (.ref y2), .val (.ref z)] [])
          refine Run.via (fun _ => XS.iconst X118.at X118.ex rfl (X118.de at_171)) ?_
          show Run _ _ _ _ _ _ _ _ _ _ _ _ T118 (mkF m 172 #[.val (.int x0), .val (.int size), .val (.int fl), .val (.int (2 : Int32)), .val (.ref x101), .val (.ref y), .val (.ref y2), .val (.ref z)] [(.int (1 : Int32))])
          refine Run.via (fun _ => XS.goto X118.at X118.ex rfl (pc0 := 172) (pc' := 176) rfl (X118.de at_172) (by decide) (by decide)) ?_
          show Run _ _ _ _ _ _ _ _ _ _ _ _ T118 (mkF m 176 #[.val (.int x0), .val (.int size), .val (.int fl), .val (.int (2 : Int32)), .val (.ref x101), .val (.ref y), .val (.ref y2), .val (.ref z)] [(.int (1 : Int32))])
          exact Run.retN X118 (t := .boolean) rfl (by simp) at_176 (Nat.le_of_ble_eq_true rfl) (Nat.le_of_ble_eq_true rfl) (rfl)
        ·
          refine Run.via (fun _ => XS.icmpYes X115.at X115.ex rfl (pc0 := 128) (pc' := 145) rfl (X115.de at_128) rfl (feq q1).2 (by decide) (by decide)) ?_
          show Run _ _ _ _ _ _ _ _ _ _ _ _ T115 (mkF m 145 #[.val (.int x0), .val (.int size), .val (.int fl), .val (.int (2 : Int32)), .val (.ref x101), .val (.ref y), .unset, .unset] [])
          refine Run.via (fun _ => XS.aload X115.at X115.ex rfl (X115.de at_145) rfl rfl) ?_
          show Run _ _ _ _ _ _ _ _ _ _ _ _ T115 (mkF m 147 #[.val (.int x0), .val (.int size), .val (.int fl), .val (.int (2 : Int32)), .val (.ref x101), .val (.ref y), .unset, .unset] [(.ref y)])
          refine Run.via (fun _ => XS.astore X115.at X115.ex rfl (X115.de at_147) rfl rfl (l' := #[.val (.int x0), .val (.int size), .val (.int fl), .val (.int (2 : Int32)), .val (.ref x101), .val (.ref y), .val (.ref y), .unset]) rfl) ?_
          show Run _ _ _ _ _ _ _ _ _ _ _ _ T115 (mkF m 149 #[.val (.int x0), .val (.int size), .val (.int fl), .val (.int (2 : Int32)), .val (.ref x101), .val (.ref y), .val (.ref y), .unset] [])
          refine Run.via (fun _ => XS.aload X115.at X115.ex rfl (X115.de at_149) rfl rfl) ?_
          show Run _ _ _ _ _ _ _ _ _ _ _ _ T115 (mkF m 151 #[.val (.int x0), .val (.int size), .val (.int fl), .val (.int (2 : Int32)), .val (.ref x101), .val (.ref y), .val (.ref y), .unset] [(.ref y)])
          refine Run.callS X115 (y := (⟨"com/example/sliceworks/sliceworks/web/Headers", "unquoted", "(Ljava/lang/String;)Ljava/lang/String;"⟩ : MethodName)) (W := 0) (con_uq l hw hS hN hmH hmL hl (Nat.le_of_ble_eq_true rfl) S X115.old) (wd hw 35 rfl) (wd hw 36 rfl) (wd hw 37 rfl) (wd hw 38 rfl) (by decide) pd__Ljava_lang_String__Ljava_lang_String_ rfl (argsL := [(.ref y)]) (rest := []) rfl (Nat.le_of_ble_eq_true rfl) rfl at_151 (by decide) (by decide) (Nat.le_of_ble_eq_true rfl) (Nat.le_of_ble_eq_true rfl) (nofun) (nofun) ?_
          intro v119 T119 h119 L119 q119 X119 XF119 K119
          obtain ⟨z, rfl, SZ⟩ := q119
          show Run _ _ _ _ _ _ _ _ _ _ _ _ T119 (mkF m 154 #[.val (.int x0), .val (.int size), .val (.int fl), .val (.int (2 : Int32)), .val (.ref x101), .val (.ref y), .val (.ref y), .unset] [(.ref z)])
          have SX := S.keep K119
          have eu : unq ([d0, d1] : List Int32) = [d0, d1] := by unfold unq; exact if_neg (fun z => q1 z.2.2)
          rw [eu] at SZ
          refine Run.via (fun _ => XS.astore X119.at X119.ex rfl (X119.de at_154) rfl rfl (l' := #[.val (.int x0), .val (.int size), .val (.int fl), .val (.int (2 : Int32)), .val (.ref x101), .val (.ref y), .val (.ref y), .val (.ref z)]) rfl) ?_
          show Run _ _ _ _ _ _ _ _ _ _ _ _ T119 (mkF m 156 #[.val (.int x0), .val (.int size), .val (.int fl), .val (.int (2 : Int32)), .val (.ref x101), .val (.ref y), .val (.ref y), .val (.ref z)] [])
          refine Run.via (fun _ => XS.aload X119.at X119.ex rfl (X119.de at_156) rfl rfl) ?_
          show Run _ _ _ _ _ _ _ _ _ _ _ _ T119 (mkF m 158 #[.val (.int x0), .val (.int size), .val (.int fl), .val (.int (2 : Int32)), .val (.ref x101), .val (.ref y), .val (.ref y), .val (.ref z)] [(.ref z)])
          refine Run.via (fun _ => XS.ifnullNo X119.at X119.ex rfl (X119.de at_158) rfl) ?_
          show Run _ _ _ _ _ _ _ _ _ _ _ _ T119 (mkF m 161 #[.val (.int x0), .val (.int size), .val (.int fl), .val (.int (2 : Int32)), .val (.ref x101), .val (.ref y), .val (.ref y), .val (.ref z)] [])
          refine Run.via (fun _ => XS.aload X119.at X119.ex rfl (X119.de at_161) rfl rfl) ?_
          show Run _ _ _ _ _ _ _ _ _ _ _ _ T119 (mkF m 163 #[.val (.int x0), .val (.int size), .val (.int fl), .val (.int (2 : Int32)), .val (.ref x101), .val (.ref y), .val (.ref y), .val (.ref z)] [(.ref z)])
          refine Run.via (fun _ => XS.aload X119.at X119.ex rfl (X119.de at_163) rfl rfl) ?_
          show Run _ _ _ _ _ _ _ _ _ _ _ _ T119 (mkF m 165 #[.val (.int x0), .val (.int size), .val (.int fl), .val (.int (2 : Int32)), .val (.ref x101), .val (.ref y), .val (.ref y), .val (.ref z)] [(.ref y), (.ref z)])
          refine Run.seq hw hS X119 (W := 0) SZ SX (wd hw 67 rfl) (wd hw 68 rfl) (wd hw 69 rfl) (wd hw 70 rfl) (wd hw 7 rfl) at_165 rfl (Nat.le_of_ble_eq_true rfl) (by decide) (by decide) (Nat.le_of_ble_eq_true rfl) (Nat.le_of_ble_eq_true rfl) ?_
          intro T120 X120
          show Run _ _ _ _ _ _ _ _ _ _ _ _ T120 (mkF m 168 #[.val (.int x0), .val (.int size), .val (.int fl), .val (.int (2 : Int32)), .val (.ref x101), .val (.ref y), .val (.ref y), .val (.ref z)] [(.int (if ([d0, d1] : List Int32) = [d0, d1] then 1 else 0 : Int32))])
          rw [show (if ([d0, d1] : List Int32) = [d0, d1] then 1 else 0 : Int32) = (1 : Int32) from if_pos rfl]
          show Run _ _ _ _ _ _ _ _ _ _ _ _ T120 (mkF m 168 #[.val (.int x0), .val (.int size), .val (.int fl), .val (.int (2 : Int32)), .val (.ref x101), .val (.ref y), .val (.ref y), .val (.ref z)] [(.int (1 : Int32))])
          refine Run.via (fun _ => XS.ifNo X120.at X120.ex rfl (X120.de at_168) rfl ((if0 _ _).trans (feq (by decide : ¬ ((1 : Int32) = (0 : Int32)))).1)) ?_
          show Run _ _ _ _ _ _ _ _ _ _ _ _ T120 (mkF m 171 #[.val (.int x0), .val (.int size), .val (.int fl), .val (.int (2 : Int32)), .val (.ref x101), .val (.ref y), .val (.ref y), .val (.ref z)] [])
          refine Run.via (fun _ => XS.iconst X120.at X120.ex rfl (X120.de at_171)) ?_
          show Run _ _ _ _ _ _ _ _ _ _ _ _ T120 (mkF m 172 #[.val (.int x0), .val (.int size), .val (.int fl), .val (.int (2 : Int32)), .val (.ref x101), .val (.ref y), .val (.ref y), .val (.ref z)] [(.int (1 : Int32))])
          refine Run.via (fun _ => XS.goto X120.at X120.ex rfl (pc0 := 172) (pc' := 176) rfl (X120.de at_172) (by decide) (by decide)) ?_
          show Run _ _ _ _ _ _ _ _ _ _ _ _ T120 (mkF m 176 #[.val (.int x0), .val (.int size), .val (.int fl), .val (.int (2 : Int32)), .val (.ref x101), .val (.ref y), .val (.ref y), .val (.ref z)] [(.int (1 : Int32))])
          exact Run.retN X120 (t := .boolean) rfl (by simp) at_176 (Nat.le_of_ble_eq_true rfl) (Nat.le_of_ble_eq_true rfl) (rfl)
      ·
        refine Run.via (fun _ => XS.icmpYes X115.at X115.ex rfl (pc0 := 117) (pc' := 145) rfl (X115.de at_117) rfl (feq q0).2 (by decide) (by decide)) ?_
        show Run _ _ _ _ _ _ _ _ _ _ _ _ T115 (mkF m 145 #[.val (.int x0), .val (.int size), .val (.int fl), .val (.int (2 : Int32)), .val (.ref x101), .val (.ref y), .unset, .unset] [])
        refine Run.via (fun _ => XS.aload X115.at X115.ex rfl (X115.de at_145) rfl rfl) ?_
        show Run _ _ _ _ _ _ _ _ _ _ _ _ T115 (mkF m 147 #[.val (.int x0), .val (.int size), .val (.int fl), .val (.int (2 : Int32)), .val (.ref x101), .val (.ref y), .unset, .unset] [(.ref y)])
        refine Run.via (fun _ => XS.astore X115.at X115.ex rfl (X115.de at_147) rfl rfl (l' := #[.val (.int x0), .val (.int size), .val (.int fl), .val (.int (2 : Int32)), .val (.ref x101), .val (.ref y), .val (.ref y), .unset]) rfl) ?_
        show Run _ _ _ _ _ _ _ _ _ _ _ _ T115 (mkF m 149 #[.val (.int x0), .val (.int size), .val (.int fl), .val (.int (2 : Int32)), .val (.ref x101), .val (.ref y), .val (.ref y), .unset] [])
        refine Run.via (fun _ => XS.aload X115.at X115.ex rfl (X115.de at_149) rfl rfl) ?_
        show Run _ _ _ _ _ _ _ _ _ _ _ _ T115 (mkF m 151 #[.val (.int x0), .val (.int size), .val (.int fl), .val (.int (2 : Int32)), .val (.ref x101), .val (.ref y), .val (.ref y), .unset] [(.ref y)])
        refine Run.callS X115 (y := (⟨"com/example/sliceworks/sliceworks/web/Headers", "unquoted", "(Ljava/lang/String;)Ljava/lang/String;"⟩ : MethodName)) (W := 0) (con_uq l hw hS hN hmH hmL hl (Nat.le_of_ble_eq_true rfl) S X115.old) (wd hw 35 rfl) (wd hw 36 rfl) (wd hw 37 rfl) (wd hw 38 rfl) (by decide) pd__Ljava_lang_String__Ljava_lang_String_ rfl (argsL := [(.ref y)]) (rest := []) rfl (Nat.le_of_ble_eq_true rfl) rfl at_151 (by decide) (by decide) (Nat.le_of_ble_eq_true rfl) (Nat.le_of_ble_eq_true rfl) (nofun) (nofun) ?_
        intro v121 T121 h121 L121 q121 X121 XF121 K121
        obtain ⟨z, rfl, SZ⟩ := q121
        show Run _ _ _ _ _ _ _ _ _ _ _ _ T121 (mkF m 154 #[.val (.int x0), .val (.int size), .val (.int fl), .val (.int (2 : Int32)), .val (.ref x101), .val (.ref y), .val (.ref y), .unset] [(.ref z)])
        have SX := S.keep K121
        have eu : unq ([d0, d1] : List Int32) = [d0, d1] := by unfold unq; exact if_neg (fun z => q0 z.2.1)
        rw [eu] at SZ
        refine Run.via (fun _ => XS.astore X121.at X121.ex rfl (X121.de at_154) rfl rfl (l' := #[.val (.int x0), .val (.int size), .val (.int fl), .val (.int (2 : Int32)), .val (.ref x101), .val (.ref y), .val (.ref y), .val (.ref z)]) rfl) ?_
        show Run _ _ _ _ _ _ _ _ _ _ _ _ T121 (mkF m 156 #[.val (.int x0), .val (.int size), .val (.int fl), .val (.int (2 : Int32)), .val (.ref x101), .val (.ref y), .val (.ref y), .val (.ref z)] [])
        refine Run.via (fun _ => XS.aload X121.at X121.ex rfl (X121.de at_156) rfl rfl) ?_
        show Run _ _ _ _ _ _ _ _ _ _ _ _ T121 (mkF m 158 #[.val (.int x0), .val (.int size), .val (.int fl), .val (.int (2 : Int32)), .val (.ref x101), .val (.ref y), .val (.ref y), .val (.ref z)] [(.ref z)])
        refine Run.via (fun _ => XS.ifnullNo X121.at X121.ex rfl (X121.de at_158) rfl) ?_
        show Run _ _ _ _ _ _ _ _ _ _ _ _ T121 (mkF m 161 #[.val (.int x0), .val (.int size), .val (.int fl), .val (.int (2 : Int32)), .val (.ref x101), .val (.ref y), .val (.ref y), .val (.ref z)] [])
        refine Run.via (fun _ => XS.aload X121.at X121.ex rfl (X121.de at_161) rfl rfl) ?_
        show Run _ _ _ _ _ _ _ _ _ _ _ _ T121 (mkF m 163 #[.val (.int x0), .val (.int size), .val (.int fl), .val (.int (2 : Int32)), .val (.ref x101), .val (.ref y), .val (.ref y), .val (.ref z)] [(.ref z)])
        refine Run.via (fun _ => XS.aload X121.at X121.ex rfl (X121.de at_163) rfl rfl) ?_
        show Run _ _ _ _ _ _ _ _ _ _ _ _ T121 (mkF m 165 #[.val (.int x0), .val (.int size), .val (.int fl), .val (.int (2 : Int32)), .val (.ref x101), .val (.ref y), .val (.ref y), .val (.ref z)] [(.ref y), (.ref z)])
        refine Run.seq hw hS X121 (W := 0) SZ SX (wd hw 67 rfl) (wd hw 68 rfl) (wd hw 69 rfl) (wd hw 70 rfl) (wd hw 7 rfl) at_165 rfl (Nat.le_of_ble_eq_true rfl) (by decide) (by decide) (Nat.le_of_ble_eq_true rfl) (Nat.le_of_ble_eq_true rfl) ?_
        intro T122 X122
        show Run _ _ _ _ _ _ _ _ _ _ _ _ T122 (mkF m 168 #[.val (.int x0), .val (.int size), .val (.int fl), .val (.int (2 : Int32)), .val (.ref x101), .val (.ref y), .val (.ref y), .val (.ref z)] [(.int (if ([d0, d1] : List Int32) = [d0, d1] then 1 else 0 : Int32))])
        rw [show (if ([d0, d1] : List Int32) = [d0, d1] then 1 else 0 : Int32) = (1 : Int32) from if_pos rfl]
        show Run _ _ _ _ _ _ _ _ _ _ _ _ T122 (mkF m 168 #[.val (.int x0), .val (.int size), .val (.int fl), .val (.int (2 : Int32)), .val (.ref x101), .val (.ref y), .val (.ref y), .val (.ref z)] [(.int (1 : Int32))])
        refine Run.via (fun _ => XS.ifNo X122.at X122.ex rfl (X122.de at_168) rfl ((if0 _ _).trans (feq (by decide : ¬ ((1 : Int32) = (0 : Int32)))).1)) ?_
        show Run _ _ _ _ _ _ _ _ _ _ _ _ T122 (mkF m 171 #[.val (.int x0), .val (.int size), .val (.int fl), .val (.int (2 : Int32)), .val (.ref x101), .val (.ref y), .val (.ref y), .val (.ref z)] [])
        refine Run.via (fun _ => XS.iconst X122.at X122.ex rfl (X122.de at_171)) ?_
        show Run _ _ _ _ _ _ _ _ _ _ _ _ T122 (mkF m 172 #[.val (.int x0), .val (.int size), .val (.int fl), .val (.int (2 : Int32)), .val (.ref x101), .val (.ref y), .val (.ref y), .val (.ref z)] [(.int (1 : Int32))])
        refine Run.via (fun _ => XS.goto X122.at X122.ex rfl (pc0 := 172) (pc' := 176) rfl (X122.de at_172) (by decide) (by decide)) ?_
        show Run _ _ _ _ _ _ _ _ _ _ _ _ T122 (mkF m 176 #[.val (.int x0), .val (.int size), .val (.int fl), .val (.int (2 : Int32)), .val (.ref x101), .val (.ref y), .val (.ref y), .val (.ref z)] [(.int (1 : Int32))])
        exact Run.retN X122 (t := .boolean) rfl (by simp) at_176 (Nat.le_of_ble_eq_true rfl) (Nat.le_of_ble_eq_true rfl) (rfl)
    refine Run.via (fun _ => XS.iloadN X105.at X105.ex rfl (X105.de at_61) rfl) ?_
    show Run _ _ _ _ _ _ _ _ _ _ _ _ T105 (mkF m 62 #[.val (.int x0), .val (.int size), .val (.int fl), .val (.int (2 : Int32)), .val (.ref x101), .unset, .unset, .unset] [(.int (2 : Int32))])
    refine Run.via (fun _ => XS.iconst X105.at X105.ex rfl (X105.de at_62)) ?_
    show Run _ _ _ _ _ _ _ _ _ _ _ _ T105 (mkF m 63 #[.val (.int x0), .val (.int size), .val (.int fl), .val (.int (2 : Int32)), .val (.ref x101), .unset, .unset, .unset] [(.int (1 : Int32)), (.int (2 : Int32))])
    refine Run.via (fun _ => XS.icmpNo X105.at X105.ex rfl (X105.de at_63) rfl (flt (by decide : ¬ ((2 : Int32) < (1 : Int32)))).1) ?_
    show Run _ _ _ _ _ _ _ _ _ _ _ _ T105 (mkF m 66 #[.val (.int x0), .val (.int size), .val (.int fl), .val (.int (2 : Int32)), .val (.ref x101), .unset, .unset, .unset] [])
    refine Run.via (fun _ => XS.iloadN X105.at X105.ex rfl (X105.de at_66) rfl) ?_
    show Run _ _ _ _ _ _ _ _ _ _ _ _ T105 (mkF m 67 #[.val (.int x0), .val (.int size), .val (.int fl), .val (.int (2 : Int32)), .val (.ref x101), .unset, .unset, .unset] [(.int fl)])
    refine Run.via (fun _ => XS.iconst X105.at X105.ex rfl (X105.de at_67)) ?_
    show Run _ _ _ _ _ _ _ _ _ _ _ _ T105 (mkF m 68 #[.val (.int x0), .val (.int size), .val (.int fl), .val (.int (2 : Int32)), .val (.ref x101), .unset, .unset, .unset] [(.int (1 : Int32)), (.int fl)])
    refine Run.via (fun _ => XS.iand X105.at X105.ex rfl (X105.de at_68) rfl) ?_
    show Run _ _ _ _ _ _ _ _ _ _ _ _ T105 (mkF m 69 #[.val (.int x0), .val (.int size), .val (.int fl), .val (.int (2 : Int32)), .val (.ref x101), .unset, .unset, .unset] [(.int (fl &&& (1 : Int32)))])
    by_cases f1 : (fl &&& (1 : Int32)) = (0 : Int32)
    ·
      refine Run.via (fun _ => XS.ifYes X105.at X105.ex rfl (pc0 := 69) (pc' := 78) rfl (X105.de at_69) rfl ((if0 _ _).trans (teq f1).1) (by decide) (by decide)) ?_
      show Run _ _ _ _ _ _ _ _ _ _ _ _ T105 (mkF m 78 #[.val (.int x0), .val (.int size), .val (.int fl), .val (.int (2 : Int32)), .val (.ref x101), .unset, .unset, .unset] [])
      refine Run.via (fun _ => XS.iloadN X105.at X105.ex rfl (X105.de at_78) rfl) ?_
      show Run _ _ _ _ _ _ _ _ _ _ _ _ T105 (mkF m 79 #[.val (.int x0), .val (.int size), .val (.int fl), .val (.int (2 : Int32)), .val (.ref x101), .unset, .unset, .unset] [(.int (2 : Int32))])
      refine Run.via (fun _ => XS.iconst X105.at X105.ex rfl (X105.de at_79)) ?_
      show Run _ _ _ _ _ _ _ _ _ _ _ _ T105 (mkF m 80 #[.val (.int x0), .val (.int size), .val (.int fl), .val (.int (2 : Int32)), .val (.ref x101), .unset, .unset, .unset] [(.int (1 : Int32)), (.int (2 : Int32))])
      refine Run.via (fun _ => XS.icmpNo X105.at X105.ex rfl (X105.de at_80) rfl (flt (by decide : ¬ ((2 : Int32) < (1 : Int32)))).1) ?_
      show Run _ _ _ _ _ _ _ _ _ _ _ _ T105 (mkF m 83 #[.val (.int x0), .val (.int size), .val (.int fl), .val (.int (2 : Int32)), .val (.ref x101), .unset, .unset, .unset] [])
      refine Run.via (fun _ => XS.iloadN X105.at X105.ex rfl (X105.de at_83) rfl) ?_
      show Run _ _ _ _ _ _ _ _ _ _ _ _ T105 (mkF m 84 #[.val (.int x0), .val (.int size), .val (.int fl), .val (.int (2 : Int32)), .val (.ref x101), .unset, .unset, .unset] [(.int fl)])
      refine Run.via (fun _ => XS.iconst X105.at X105.ex rfl (X105.de at_84)) ?_
      show Run _ _ _ _ _ _ _ _ _ _ _ _ T105 (mkF m 85 #[.val (.int x0), .val (.int size), .val (.int fl), .val (.int (2 : Int32)), .val (.ref x101), .unset, .unset, .unset] [(.int (2 : Int32)), (.int fl)])
      refine Run.via (fun _ => XS.iand X105.at X105.ex rfl (X105.de at_85) rfl) ?_
      show Run _ _ _ _ _ _ _ _ _ _ _ _ T105 (mkF m 86 #[.val (.int x0), .val (.int size), .val (.int fl), .val (.int (2 : Int32)), .val (.ref x101), .unset, .unset, .unset] [(.int (fl &&& (2 : Int32)))])
      by_cases f2 : (fl &&& (2 : Int32)) = (0 : Int32)
      ·
        refine Run.via (fun _ => XS.ifYes X105.at X105.ex rfl (pc0 := 86) (pc' := 97) rfl (X105.de at_86) rfl ((if0 _ _).trans (teq f2).1) (by decide) (by decide)) ?_
        show Run _ _ _ _ _ _ _ _ _ _ _ _ T105 (mkF m 97 #[.val (.int x0), .val (.int size), .val (.int fl), .val (.int (2 : Int32)), .val (.ref x101), .unset, .unset, .unset] [])
        exact J _ _ _ c0 c1 c2 c3 X105 r0 r1 r2 r3 A105
      ·
        refine Run.via (fun _ => XS.ifNo X105.at X105.ex rfl (X105.de at_86) rfl ((if0 _ _).trans (feq f2).1)) ?_
        show Run _ _ _ _ _ _ _ _ _ _ _ _ T105 (mkF m 89 #[.val (.int x0), .val (.int size), .val (.int fl), .val (.int (2 : Int32)), .val (.ref x101), .unset, .unset, .unset] [])
        refine Run.via (fun _ => XS.aload X105.at X105.ex rfl (X105.de at_89) rfl rfl) ?_
        show Run _ _ _ _ _ _ _ _ _ _ _ _ T105 (mkF m 91 #[.val (.int x0), .val (.int size), .val (.int fl), .val (.int (2 : Int32)), .val (.ref x101), .unset, .unset, .unset] [(.ref x101)])
        refine Run.via (fun _ => XS.iloadN X105.at X105.ex rfl (X105.de at_91) rfl) ?_
        show Run _ _ _ _ _ _ _ _ _ _ _ _ T105 (mkF m 92 #[.val (.int x0), .val (.int size), .val (.int fl), .val (.int (2 : Int32)), .val (.ref x101), .unset, .unset, .unset] [(.int (2 : Int32)), (.ref x101)])
        refine Run.via (fun _ => XS.iconst X105.at X105.ex rfl (X105.de at_92)) ?_
        show Run _ _ _ _ _ _ _ _ _ _ _ _ T105 (mkF m 93 #[.val (.int x0), .val (.int size), .val (.int fl), .val (.int (2 : Int32)), .val (.ref x101), .unset, .unset, .unset] [(.int (1 : Int32)), (.int (2 : Int32)), (.ref x101)])
        refine Run.via (fun _ => XS.isub X105.at X105.ex rfl (X105.de at_93) rfl) ?_
        show Run _ _ _ _ _ _ _ _ _ _ _ _ T105 (mkF m 94 #[.val (.int x0), .val (.int size), .val (.int fl), .val (.int (2 : Int32)), .val (.ref x101), .unset, .unset, .unset] [(.int (1 : Int32)), (.ref x101)])
        refine Run.via (fun _ => XS.bipush X105.at X105.ex rfl (X105.de at_94)) ?_
        show Run _ _ _ _ _ _ _ _ _ _ _ _ T105 (mkF m 96 #[.val (.int x0), .val (.int size), .val (.int fl), .val (.int (2 : Int32)), .val (.ref x101), .unset, .unset, .unset] [(.int (34 : Int32)), (.int (1 : Int32)), (.ref x101)])
        refine Run.castore X105 (i := 1) (v' := (34 : Int32)) A105 rfl (Nat.le_of_ble_eq_true rfl) (nar_lat (by decide)) (Or.inr (by omega)) (by omega) at_96 ?_
        intro T123 h123 L123 X123 K123 z123 A123
        have A123 : Arc .char Z h123 x101 [c0, (34 : Int32), c2, c3] := A123
        show Run _ _ _ _ _ _ _ _ _ _ _ _ T123 (mkF m 97 #[.val (.int x0), .val (.int size), .val (.int fl), .val (.int (2 : Int32)), .val (.ref x101), .unset, .unset, .unset] [])
        exact J _ _ _ c0 (34 : Int32) c2 c3 X123 r0 (by decide) r2 r3 A123
    ·
      refine Run.via (fun _ => XS.ifNo X105.at X105.ex rfl (X105.de at_69) rfl ((if0 _ _).trans (feq f1).1)) ?_
      show Run _ _ _ _ _ _ _ _ _ _ _ _ T105 (mkF m 72 #[.val (.int x0), .val (.int size), .val (.int fl), .val (.int (2 : Int32)), .val (.ref x101), .unset, .unset, .unset] [])
      refine Run.via (fun _ => XS.aload X105.at X105.ex rfl (X105.de at_72) rfl rfl) ?_
      show Run _ _ _ _ _ _ _ _ _ _ _ _ T105 (mkF m 74 #[.val (.int x0), .val (.int size), .val (.int fl), .val (.int (2 : Int32)), .val (.ref x101), .unset, .unset, .unset] [(.ref x101)])
      refine Run.via (fun _ => XS.iconst X105.at X105.ex rfl (X105.de at_74)) ?_
      show Run _ _ _ _ _ _ _ _ _ _ _ _ T105 (mkF m 75 #[.val (.int x0), .val (.int size), .val (.int fl), .val (.int (2 : Int32)), .val (.ref x101), .unset, .unset, .unset] [(.int (0 : Int32)), (.ref x101)])
      refine Run.via (fun _ => XS.bipush X105.at X105.ex rfl (X105.de at_75)) ?_
      show Run _ _ _ _ _ _ _ _ _ _ _ _ T105 (mkF m 77 #[.val (.int x0), .val (.int size), .val (.int fl), .val (.int (2 : Int32)), .val (.ref x101), .unset, .unset, .unset] [(.int (34 : Int32)), (.int (0 : Int32)), (.ref x101)])
      refine Run.castore X105 (i := 0) (v' := (34 : Int32)) A105 rfl (Nat.le_of_ble_eq_true rfl) (nar_lat (by decide)) (Or.inr (by omega)) (by omega) at_77 ?_
      intro T124 h124 L124 X124 K124 z124 A124
      have A124 : Arc .char Z h124 x101 [(34 : Int32), c1, c2, c3] := A124
      show Run _ _ _ _ _ _ _ _ _ _ _ _ T124 (mkF m 78 #[.val (.int x0), .val (.int size), .val (.int fl), .val (.int (2 : Int32)), .val (.ref x101), .unset, .unset, .unset] [])
      refine Run.via (fun _ => XS.iloadN X124.at X124.ex rfl (X124.de at_78) rfl) ?_
      show Run _ _ _ _ _ _ _ _ _ _ _ _ T124 (mkF m 79 #[.val (.int x0), .val (.int size), .val (.int fl), .val (.int (2 : Int32)), .val (.ref x101), .unset, .unset, .unset] [(.int (2 : Int32))])
      refine Run.via (fun _ => XS.iconst X124.at X124.ex rfl (X124.de at_79)) ?_
      show Run _ _ _ _ _ _ _ _ _ _ _ _ T124 (mkF m 80 #[.val (.int x0), .val (.int size), .val (.int fl), .val (.int (2 : Int32)), .val (.ref x101), .unset, .unset, .unset] [(.int (1 : Int32)), (.int (2 : Int32))])
      refine Run.via (fun _ => XS.icmpNo X124.at X124.ex rfl (X124.de at_80) rfl (flt (by decide : ¬ ((2 : Int32) < (1 : Int32)))).1) ?_
      show Run _ _ _ _ _ _ _ _ _ _ _ _ T124 (mkF m 83 #[.val (.int x0), .val (.int size), .val (.int fl), .val (.int (2 : Int32)), .val (.ref x101), .unset, .unset, .unset] [])
      refine Run.via (fun _ => XS.iloadN X124.at X124.ex rfl (X124.de at_83) rfl) ?_
      show Run _ _ _ _ _ _ _ _ _ _ _ _ T124 (mkF m 84 #[.val (.int x0), .val (.int size), .val (.int fl), .val (.int (2 : Int32)), .val (.ref x101), .unset, .unset, .unset] [(.int fl)])
      refine Run.via (fun _ => XS.iconst X124.at X124.ex rfl (X124.de at_84)) ?_
      show Run _ _ _ _ _ _ _ _ _ _ _ _ T124 (mkF m 85 #[.val (.int x0), .val (.int size), .val (.int fl), .val (.int (2 : Int32)), .val (.ref x101), .unset, .unset, .unset] [(.int (2 : Int32)), (.int fl)])
      refine Run.via (fun _ => XS.iand X124.at X124.ex rfl (X124.de at_85) rfl) ?_
      show Run _ _ _ _ _ _ _ _ _ _ _ _ T124 (mkF m 86 #[.val (.int x0), .val (.int size), .val (.int fl), .val (.int (2 : Int32)), .val (.ref x101), .unset, .unset, .unset] [(.int (fl &&& (2 : Int32)))])
      by_cases f2 : (fl &&& (2 : Int32)) = (0 : Int32)
      ·
        refine Run.via (fun _ => XS.ifYes X124.at X124.ex rfl (pc0 := 86) (pc' := 97) rfl (X124.de at_86) rfl ((if0 _ _).trans (teq f2).1) (by decide) (by decide)) ?_
        show Run _ _ _ _ _ _ _ _ _ _ _ _ T124 (mkF m 97 #[.val (.int x0), .val (.int size), .val (.int fl), .val (.int (2 : Int32)), .val (.ref x101), .unset, .unset, .unset] [])
        exact J _ _ _ (34 : Int32) c1 c2 c3 X124 (by decide) r1 r2 r3 A124
      ·
        refine Run.via (fun _ => XS.ifNo X124.at X124.ex rfl (X124.de at_86) rfl ((if0 _ _).trans (feq f2).1)) ?_
        show Run _ _ _ _ _ _ _ _ _ _ _ _ T124 (mkF m 89 #[.val (.int x0), .val (.int size), .val (.int fl), .val (.int (2 : Int32)), .val (.ref x101), .unset, .unset, .unset] [])
        refine Run.via (fun _ => XS.aload X124.at X124.ex rfl (X124.de at_89) rfl rfl) ?_
        show Run _ _ _ _ _ _ _ _ _ _ _ _ T124 (mkF m 91 #[.val (.int x0), .val (.int size), .val (.int fl), .val (.int (2 : Int32)), .val (.ref x101), .unset, .unset, .unset] [(.ref x101)])
        refine Run.via (fun _ => XS.iloadN X124.at X124.ex rfl (X124.de at_91) rfl) ?_
        show Run _ _ _ _ _ _ _ _ _ _ _ _ T124 (mkF m 92 #[.val (.int x0), .val (.int size), .val (.int fl), .val (.int (2 : Int32)), .val (.ref x101), .unset, .unset, .unset] [(.int (2 : Int32)), (.ref x101)])
        refine Run.via (fun _ => XS.iconst X124.at X124.ex rfl (X124.de at_92)) ?_
        show Run _ _ _ _ _ _ _ _ _ _ _ _ T124 (mkF m 93 #[.val (.int x0), .val (.int size), .val (.int fl), .val (.int (2 : Int32)), .val (.ref x101), .unset, .unset, .unset] [(.int (1 : Int32)), (.int (2 : Int32)), (.ref x101)])
        refine Run.via (fun _ => XS.isub X124.at X124.ex rfl (X124.de at_93) rfl) ?_
        show Run _ _ _ _ _ _ _ _ _ _ _ _ T124 (mkF m 94 #[.val (.int x0), .val (.int size), .val (.int fl), .val (.int (2 : Int32)), .val (.ref x101), .unset, .unset, .unset] [(.int (1 : Int32)), (.ref x101)])
        refine Run.via (fun _ => XS.bipush X124.at X124.ex rfl (X124.de at_94)) ?_
        show Run _ _ _ _ _ _ _ _ _ _ _ _ T124 (mkF m 96 #[.val (.int x0), .val (.int size), .val (.int fl), .val (.int (2 : Int32)), .val (.ref x101), .unset, .unset, .unset] [(.int (34 : Int32)), (.int (1 : Int32)), (.ref x101)])
        refine Run.castore X124 (i := 1) (v' := (34 : Int32)) A124 rfl (Nat.le_of_ble_eq_true rfl) (nar_lat (by decide)) (Or.inr (by omega)) (by omega) at_96 ?_
        intro T125 h125 L125 X125 K125 z125 A125
        have A125 : Arc .char Z h125 x101 [(34 : Int32), (34 : Int32), c2, c3] := A125
        show Run _ _ _ _ _ _ _ _ _ _ _ _ T125 (mkF m 97 #[.val (.int x0), .val (.int size), .val (.int fl), .val (.int (2 : Int32)), .val (.ref x101), .unset, .unset, .unset] [])
        exact J _ _ _ (34 : Int32) (34 : Int32) c2 c3 X125 (by decide) (by decide) r2 r3 A125
  ·
    show Run _ _ _ _ _ _ _ _ _ _ _ _ T105 (mkF m 61 #[.val (.int x0), .val (.int size), .val (.int fl), .val (.int (3 : Int32)), .val (.ref x101), .unset, .unset, .unset] [])
    have J : ∀ (Tj : State) (hj : Heap) (Lq : List Loc) (d0 d1 d2 d3 : Int32), Sit Z a0 EL p l e room_1 s m #[(.int x0), (.int size), (.int fl)] below meth c "com/example/sliceworks/sliceworks/web/HeadersUnquotedPinLaw" code maxLocals ret "law" h0 [] [x101] Tj hj Lq 1 4 → (¬ d0 < 0 ∧ ¬ (255 : Int32) < d0) → (¬ d1 < 0 ∧ ¬ (255 : Int32) < d1) → (¬ d2 < 0 ∧ ¬ (255 : Int32) < d2) → (¬ d3 < 0 ∧ ¬ (255 : Int32) < d3) → Arc .char Z hj x101 [d0, d1, d2, d3] → Run Z EL false p e below s h0 [] (fun v _ => v = some (.int 1)) room_1.cells room_1.slots Tj (mkF m 97 #[.val (.int x0), .val (.int size), .val (.int fl), .val (.int (3 : Int32)), .val (.ref x101), .unset, .unset, .unset] []) := by
      intro Tj hj Lq d0 d1 d2 d3 Xj r0 r1 r2 r3 A
      have uj := Xj.kp.1
      have hl : Lat ([d0, d1, d2] : List Int32) := lsS r0 (lsS r1 (lsS r2 (ls0)))
      refine Run.via (fun _ => XS.aload Xj.at Xj.ex rfl (Xj.de at_97) rfl rfl) ?_
      show Run _ _ _ _ _ _ _ _ _ _ _ _ Tj (mkF m 99 #[.val (.int x0), .val (.int size), .val (.int fl), .val (.int (3 : Int32)), .val (.ref x101), .unset, .unset, .unset] [(.ref x101)])
      refine Run.via (fun _ => XS.iconst Xj.at Xj.ex rfl (Xj.de at_99)) ?_
      show Run _ _ _ _ _ _ _ _ _ _ _ _ Tj (mkF m 100 #[.val (.int x0), .val (.int size), .val (.int fl), .val (.int (3 : Int32)), .val (.ref x101), .unset, .unset, .unset] [(.int (0 : Int32)), (.ref x101)])
      refine Run.via (fun _ => XS.iloadN Xj.at Xj.ex rfl (Xj.de at_100) rfl) ?_
      show Run _ _ _ _ _ _ _ _ _ _ _ _ Tj (mkF m 101 #[.val (.int x0), .val (.int size), .val (.int fl), .val (.int (3 : Int32)), .val (.ref x101), .unset, .unset, .unset] [(.int (3 : Int32)), (.int (0 : Int32)), (.ref x101)])
      refine Run.callS Xj (y := (⟨"com/example/sliceworks/sliceworks/web/HeadersUnquotedPinLaw", "make", "([CII)Ljava/lang/String;"⟩ : MethodName)) (W := 0) (con_m03 l hw hS hN hm r0 r1 r2 r3 A Xj.old) (wd hw 2 rfl) (wd hw 3 rfl) (wd hw 4 rfl) (wd hw 5 rfl) (by decide) pd___CII_Ljava_lang_String_ rfl (argsL := [(.ref x101), (.int (0 : Int32)), (.int (3 : Int32))]) (rest := []) rfl (Nat.le_of_ble_eq_true rfl) rfl at_101 (by decide) (by decide) (Nat.le_of_ble_eq_true rfl) (Nat.le_of_ble_eq_true rfl) (nofun) (nofun) ?_
      intro v126 T126 h126 L126 q126 X126 XF126 K126
      obtain ⟨y, rfl, S⟩ := q126
      show Run _ _ _ _ _ _ _ _ _ _ _ _ T126 (mkF m 104 #[.val (.int x0), .val (.int size), .val (.int fl), .val (.int (3 : Int32)), .val (.ref x101), .unset, .unset, .unset] [(.ref y)])
      have A1 := A.keep K126 nin0
      refine Run.via (fun _ => XS.astore X126.at X126.ex rfl (X126.de at_104) rfl rfl (l' := #[.val (.int x0), .val (.int size), .val (.int fl), .val (.int (3 : Int32)), .val (.ref x101), .val (.ref y), .unset, .unset]) rfl) ?_
      show Run _ _ _ _ _ _ _ _ _ _ _ _ T126 (mkF m 106 #[.val (.int x0), .val (.int size), .val (.int fl), .val (.int (3 : Int32)), .val (.ref x101), .val (.ref y), .unset, .unset] [])
      refine Run.via (fun _ => XS.iloadN X126.at X126.ex rfl (X126.de at_106) rfl) ?_
      show Run _ _ _ _ _ _ _ _ _ _ _ _ T126 (mkF m 107 #[.val (.int x0), .val (.int size), .val (.int fl), .val (.int (3 : Int32)), .val (.ref x101), .val (.ref y), .unset, .unset] [(.int (3 : Int32))])
      refine Run.via (fun _ => XS.iconst X126.at X126.ex rfl (X126.de at_107)) ?_
      show Run _ _ _ _ _ _ _ _ _ _ _ _ T126 (mkF m 108 #[.val (.int x0), .val (.int size), .val (.int fl), .val (.int (3 : Int32)), .val (.ref x101), .val (.ref y), .unset, .unset] [(.int (2 : Int32)), (.int (3 : Int32))])
      refine Run.via (fun _ => XS.icmpNo X126.at X126.ex rfl (X126.de at_108) rfl (flt (by decide : ¬ ((3 : Int32) < (2 : Int32)))).1) ?_
      show Run _ _ _ _ _ _ _ _ _ _ _ _ T126 (mkF m 111 #[.val (.int x0), .val (.int size), .val (.int fl), .val (.int (3 : Int32)), .val (.ref x101), .val (.ref y), .unset, .unset] [])
      refine Run.via (fun _ => XS.aload X126.at X126.ex rfl (X126.de at_111) rfl rfl) ?_
      show Run _ _ _ _ _ _ _ _ _ _ _ _ T126 (mkF m 113 #[.val (.int x0), .val (.int size), .val (.int fl), .val (.int (3 : Int32)), .val (.ref x101), .val (.ref y), .unset, .unset] [(.ref x101)])
      refine Run.via (fun _ => XS.iconst X126.at X126.ex rfl (X126.de at_113)) ?_
      show Run _ _ _ _ _ _ _ _ _ _ _ _ T126 (mkF m 114 #[.val (.int x0), .val (.int size), .val (.int fl), .val (.int (3 : Int32)), .val (.ref x101), .val (.ref y), .unset, .unset] [(.int (0 : Int32)), (.ref x101)])
      refine Run.caload X126 (i := 0) A1 rfl (Nat.le_of_ble_eq_true rfl) at_114 ?_
      show Run _ _ _ _ _ _ _ _ _ _ _ _ T126 (mkF m 115 #[.val (.int x0), .val (.int size), .val (.int fl), .val (.int (3 : Int32)), .val (.ref x101), .val (.ref y), .unset, .unset] [(.int d0)])
      refine Run.via (fun _ => XS.bipush X126.at X126.ex rfl (X126.de at_115)) ?_
      show Run _ _ _ _ _ _ _ _ _ _ _ _ T126 (mkF m 117 #[.val (.int x0), .val (.int size), .val (.int fl), .val (.int (3 : Int32)), .val (.ref x101), .val (.ref y), .unset, .unset] [(.int (34 : Int32)), (.int d0)])
      by_cases q0 : d0 = (34 : Int32)
      ·
        refine Run.via (fun _ => XS.icmpNo X126.at X126.ex rfl (X126.de at_117) rfl (teq q0).2) ?_
        show Run _ _ _ _ _ _ _ _ _ _ _ _ T126 (mkF m 120 #[.val (.int x0), .val (.int size), .val (.int fl), .val (.int (3 : Int32)), .val (.ref x101), .val (.ref y), .unset, .unset] [])
        refine Run.via (fun _ => XS.aload X126.at X126.ex rfl (X126.de at_120) rfl rfl) ?_
        show Run _ _ _ _ _ _ _ _ _ _ _ _ T126 (mkF m 122 #[.val (.int x0), .val (.int size), .val (.int fl), .val (.int (3 : Int32)), .val (.ref x101), .val (.ref y), .unset, .unset] [(.ref x101)])
        refine Run.via (fun _ => XS.iloadN X126.at X126.ex rfl (X126.de at_122) rfl) ?_
        show Run _ _ _ _ _ _ _ _ _ _ _ _ T126 (mkF m 123 #[.val (.int x0), .val (.int size), .val (.int fl), .val (.int (3 : Int32)), .val (.ref x101), .val (.ref y), .unset, .unset] [(.int (3 : Int32)), (.ref x101)])
        refine Run.via (fun _ => XS.iconst X126.at X126.ex rfl (X126.de at_123)) ?_
        show Run _ _ _ _ _ _ _ _ _ _ _ _ T126 (mkF m 124 #[.val (.int x0), .val (.int size), .val (.int fl), .val (.int (3 : Int32)), .val (.ref x101), .val (.ref y), .unset, .unset] [(.int (1 : Int32)), (.int (3 : Int32)), (.ref x101)])
        refine Run.via (fun _ => XS.isub X126.at X126.ex rfl (X126.de at_124) rfl) ?_
        show Run _ _ _ _ _ _ _ _ _ _ _ _ T126 (mkF m 125 #[.val (.int x0), .val (.int size), .val (.int fl), .val (.int (3 : Int32)), .val (.ref x101), .val (.ref y), .unset, .unset] [(.int (2 : Int32)), (.ref x101)])
        refine Run.caload X126 (i := 2) A1 rfl (Nat.le_of_ble_eq_true rfl) at_125 ?_
        show Run _ _ _ _ _ _ _ _ _ _ _ _ T126 (mkF m 126 #[.val (.int x0), .val (.int size), .val (.int fl), .val (.int (3 : Int32)), .val (.ref x101), .val (.ref y), .unset, .unset] [(.int d2)])
        refine Run.via (fun _ => XS.bipush X126.at X126.ex rfl (X126.de at_126)) ?_
        show Run _ _ _ _ _ _ _ _ _ _ _ _ T126 (mkF m 128 #[.val (.int x0), .val (.int size), .val (.int fl), .val (.int (3 : Int32)), .val (.ref x101), .val (.ref y), .unset, .unset] [(.int (34 : Int32)), (.int d2)])
        by_cases q1 : d2 = (34 : Int32)
        ·
          refine Run.via (fun _ => XS.icmpNo X126.at X126.ex rfl (X126.de at_128) rfl (teq q1).2) ?_
          show Run _ _ _ _ _ _ _ _ _ _ _ _ T126 (mkF m 131 #[.val (.int x0), .val (.int size), .val (.int fl), .val (.int (3 : Int32)), .val (.ref x101), .val (.ref y), .unset, .unset] [])
          refine Run.via (fun _ => XS.aload X126.at X126.ex rfl (X126.de at_131) rfl rfl) ?_
          show Run _ _ _ _ _ _ _ _ _ _ _ _ T126 (mkF m 133 #[.val (.int x0), .val (.int size), .val (.int fl), .val (.int (3 : Int32)), .val (.ref x101), .val (.ref y), .unset, .unset] [(.ref x101)])
          refine Run.via (fun _ => XS.iconst X126.at X126.ex rfl (X126.de at_133)) ?_
          show Run _ _ _ _ _ _ _ _ _ _ _ _ T126 (mkF m 134 #[.val (.int x0), .val (.int size), .val (.int fl), .val (.int (3 : Int32)), .val (.ref x101), .val (.ref y), .unset, .unset] [(.int (1 : Int32)), (.ref x101)])
          refine Run.via (fun _ => XS.iloadN X126.at X126.ex rfl (X126.de at_134) rfl) ?_
          show Run _ _ _ _ _ _ _ _ _ _ _ _ T126 (mkF m 135 #[.val (.int x0), .val (.int size), .val (.int fl), .val (.int (3 : Int32)), .val (.ref x101), .val (.ref y), .unset, .unset] [(.int (3 : Int32)), (.int (1 : Int32)), (.ref x101)])
          refine Run.via (fun _ => XS.iconst X126.at X126.ex rfl (X126.de at_135)) ?_
          show Run _ _ _ _ _ _ _ _ _ _ _ _ T126 (mkF m 136 #[.val (.int x0), .val (.int size), .val (.int fl), .val (.int (3 : Int32)), .val (.ref x101), .val (.ref y), .unset, .unset] [(.int (2 : Int32)), (.int (3 : Int32)), (.int (1 : Int32)), (.ref x101)])
          refine Run.via (fun _ => XS.isub X126.at X126.ex rfl (X126.de at_136) rfl) ?_
          show Run _ _ _ _ _ _ _ _ _ _ _ _ T126 (mkF m 137 #[.val (.int x0), .val (.int size), .val (.int fl), .val (.int (3 : Int32)), .val (.ref x101), .val (.ref y), .unset, .unset] [(.int (1 : Int32)), (.int (1 : Int32)), (.ref x101)])
          refine Run.callS X126 (y := (⟨"com/example/sliceworks/sliceworks/web/HeadersUnquotedPinLaw", "make", "([CII)Ljava/lang/String;"⟩ : MethodName)) (W := 0) (con_m11 l hw hS hN hm r0 r1 r2 r3 A1 X126.old) (wd hw 2 rfl) (wd hw 3 rfl) (wd hw 4 rfl) (wd hw 5 rfl) (by decide) pd___CII_Ljava_lang_String_ rfl (argsL := [(.ref x101), (.int (1 : Int32)), (.int (1 : Int32))]) (rest := []) rfl (Nat.le_of_ble_eq_true rfl) rfl at_137 (by decide) (by decide) (Nat.le_of_ble_eq_true rfl) (Nat.le_of_ble_eq_true rfl) (nofun) (nofun) ?_
          intro v127 T127 h127 L127 q127 X127 XF127 K127
          obtain ⟨y2, rfl, S2⟩ := q127
          show Run _ _ _ _ _ _ _ _ _ _ _ _ T127 (mkF m 140 #[.val (.int x0), .val (.int size), .val (.int fl), .val (.int (3 : Int32)), .val (.ref x101), .val (.ref y), .unset, .unset] [(.ref y2)])
          have S1 := S.keep K127
          refine Run.via (fun _ => XS.astore X127.at X127.ex rfl (X127.de at_140) rfl rfl (l' := #[.val (.int x0), .val (.int size), .val (.int fl), .val (.int (3 : Int32)), .val (.ref x101), .val (.ref y), .val (.ref y2), .unset]) rfl) ?_
          show Run _ _ _ _ _ _ _ _ _ _ _ _ T127 (mkF m 142 #[.val (.int x0), .val (.int size), .val (.int fl), .val (.int (3 : Int32)), .val (.ref x101), .val (.ref y), .val (.ref y2), .unset] [])
          refine Run.via (fun _ => XS.goto X127.at X127.ex rfl (pc0 := 142) (pc' := 149) rfl (X127.de at_142) (by decide) (by decide)) ?_
          show Run _ _ _ _ _ _ _ _ _ _ _ _ T127 (mkF m 149 #[.val (.int x0), .val (.int size), .val (.int fl), .val (.int (3 : Int32)), .val (.ref x101), .val (.ref y), .val (.ref y2), .unset] [])
          refine Run.via (fun _ => XS.aload X127.at X127.ex rfl (X127.de at_149) rfl rfl) ?_
          show Run _ _ _ _ _ _ _ _ _ _ _ _ T127 (mkF m 151 #[.val (.int x0), .val (.int size), .val (.int fl), .val (.int (3 : Int32)), .val (.ref x101), .val (.ref y), .val (.ref y2), .unset] [(.ref y)])
          refine Run.callS X127 (y := (⟨"com/example/sliceworks/sliceworks/web/Headers", "unquoted", "(Ljava/lang/String;)Ljava/lang/String;"⟩ : MethodName)) (W := 0) (con_uq l hw hS hN hmH hmL hl (Nat.le_of_ble_eq_true rfl) S1 X127.old) (wd hw 35 rfl) (wd hw 36 rfl) (wd hw 37 rfl) (wd hw 38 rfl) (by decide) pd__Ljava_lang_String__Ljava_lang_String_ rfl (argsL := [(.ref y)]) (rest := []) rfl (Nat.le_of_ble_eq_true rfl) rfl at_151 (by decide) (by decide) (Nat.le_of_ble_eq_true rfl) (Nat.le_of_ble_eq_true rfl) (nofun) (nofun) ?_
          intro v128 T128 h128 L128 q128 X128 XF128 K128
          obtain ⟨z, rfl, SZ⟩ := q128
          show Run _ _ _ _ _ _ _ _ _ _ _ _ T128 (mkF m 154 #[.val (.int x0), .val (.int size), .val (.int fl), .val (.int (3 : Int32)), .val (.ref x101), .val (.ref y), .val (.ref y2), .unset] [(.ref z)])
          have SX := S2.keep K128
          have eu : unq ([d0, d1, d2] : List Int32) = [d1] := by unfold unq; exact if_pos ⟨Nat.le_of_ble_eq_true rfl, q0, q1⟩
          rw [eu] at SZ
          refine Run.via (fun _ => XS.astore X128.at X128.ex rfl (X128.de at_154) rfl rfl (l' := #[.val (.int x0), .val (.int size), .val (.int fl), .val (.int (3 : Int32)), .val (.ref x101), .val (.ref y), .val (.ref y2), .val (.ref z)]) rfl) ?_
          show Run _ _ _ _ _ _ _ _ _ _ _ _ T128 (mkF m 156 #[.val (.int x0), .val (.int size), .val (.int fl), .val (.int (3 : Int32)), .val (.ref x101), .val (.ref y), .val (.ref y2), .val (.ref z)] [])
          refine Run.via (fun _ => XS.aload X128.at X128.ex rfl (X128.de at_156) rfl rfl) ?_
          show Run _ _ _ _ _ _ _ _ _ _ _ _ T128 (mkF m 158 #[.val (.int x0), .val (.int size), .val (.int fl), .val (.int (3 : Int32)), .val (.ref x101), .val (.ref y), .val (.ref y2), .val (.ref z)] [(.ref z)])
          refine Run.via (fun _ => XS.ifnullNo X128.at X128.ex rfl (X128.de at_158) rfl) ?_
          show Run _ _ _ _ _ _ _ _ _ _ _ _ T128 (mkF m 161 #[.val (.int x0), .val (.int size), .val (.int fl), .val (.int (3 : Int32)), .val (.ref x101), .val (.ref y), .val (.ref y2), .val (.ref z)] [])
          refine Run.via (fun _ => XS.aload X128.at X128.ex rfl (X128.de at_161) rfl rfl) ?_
          show Run _ _ _ _ _ _ _ _ _ _ _ _ T128 (mkF m 163 #[.val (.int x0), .val (.int size), .val (.int fl), .val (.int (3 : Int32)), .val (.ref x101), .val (.ref y), .val (.ref y2), .val (.ref z)] [(.ref z)])
          refine Run.via (fun _ => XS.aload X128.at X128.ex rfl (X128.de at_163) rfl rfl) ?_
          show Run _ _ _ _ _ _ _ _ _ _ _ _ T128 (mkF m 165 #[.val (.int x0), .val (.int size), .val (.int fl), .val (.int (3 : Int32)), .val (.ref x101), .val (.ref y), .val (.ref y2), .val (.ref z)] [(.ref y2), (.ref z)])
          refine Run.seq hw hS X128 (W := 0) SZ SX (wd hw 67 rfl) (wd hw 68 rfl) (wd hw 69 rfl) (wd hw 70 rfl) (wd hw 7 rfl) at_165 rfl (Nat.le_of_ble_eq_true rfl) (by decide) (by decide) (Nat.le_of_ble_eq_true rfl) (Nat.le_of_ble_eq_true rfl) ?_
          intro T129 X129
          show Run _ _ _ _ _ _ _ _ _ _ _ _ T129 (mkF m 168 #[.val (.int x0), .val (.int size), .val (.int fl), .val (.int (3 : Int32)), .val (.ref x101), .val (.ref y), .val (.ref y2), .val (.ref z)] [(.int (if ([d1] : List Int32) = [d1] then 1 else 0 : Int32))])
          rw [show (if ([d1] : List Int32) = [d1] then 1 else 0 : Int32) = (1 : Int32) from if_pos rfl]
          show Run _ _ _ _ _ _ _ _ _ _ _ _ T129 (mkF m 168 #[.val (.int x0), .val (.int size), .val (.int fl), .val (.int (3 : Int32)), .val (.ref x101), .val (.ref y), .val (.ref y2), .val (.ref z)] [(.int (1 : Int32))])
          refine Run.via (fun _ => XS.ifNo X129.at X129.ex rfl (X129.de at_168) rfl ((if0 _ _).trans (feq (by decide : ¬ ((1 : Int32) = (0 : Int32)))).1)) ?_
          show Run _ _ _ _ _ _ _ _ _ _ _ _ T129 (mkF m 171 #[.val (.int x0), .val (.int size), .val (.int fl), .val (.int (3 : Int32)), .val (.ref x101), .val (.ref y), .val (.ref y2), .val (.ref z)] [])
          refine Run.via (fun _ => XS.iconst X129.at X129.ex rfl (X129.de at_171)) ?_
          show Run _ _ _ _ _ _ _ _ _ _ _ _ T129 (mkF m 172 #[.val (.int x0), .val (.int size), .val (.int fl), .val (.int (3 : Int32)), .val (.ref x101), .val (.ref y), .val (.ref y2), .val (.ref z)] [(.int (1 : Int32))])
          refine Run.via (fun _ => XS.goto X129.at X129.ex rfl (pc0 := 172) (pc' := 176) rfl (X129.de at_172) (by decide) (by decide)) ?_
          show Run _ _ _ _ _ _ _ _ _ _ _ _ T129 (mkF m 176 #[.val (.int x0), .val (.int size), .val (.int fl), .val (.int (3 : Int32)), .val (.ref x101), .val (.ref y), .val (.ref y2), .val (.ref z)] [(.int (1 : Int32))])
          exact Run.retN X129 (t := .boolean) rfl (by simp) at_176 (Nat.le_of_ble_eq_true rfl) (Nat.le_of_ble_eq_true rfl) (rfl)
        ·
          refine Run.via (fun _ => XS.icmpYes X126.at X126.ex rfl (pc0 := 128) (pc' := 145) rfl (X126.de at_128) rfl (feq q1).2 (by decide) (by decide)) ?_
          show Run _ _ _ _ _ _ _ _ _ _ _ _ T126 (mkF m 145 #[.val (.int x0), .val (.int size), .val (.int fl), .val (.int (3 : Int32)), .val (.ref x101), .val (.ref y), .unset, .unset] [])
          refine Run.via (fun _ => XS.aload X126.at X126.ex rfl (X126.de at_145) rfl rfl) ?_
          show Run _ _ _ _ _ _ _ _ _ _ _ _ T126 (mkF m 147 #[.val (.int x0), .val (.int size), .val (.int fl), .val (.int (3 : Int32)), .val (.ref x101), .val (.ref y), .unset, .unset] [(.ref y)])
          refine Run.via (fun _ => XS.astore X126.at X126.ex rfl (X126.de at_147) rfl rfl (l' := #[.val (.int x0), .val (.int size), .val (.int fl), .val (.int (3 : Int32)), .val (.ref x101), .val (.ref y), .val (.ref y), .unset]) rfl) ?_
          show Run _ _ _ _ _ _ _ _ _ _ _ _ T126 (mkF m 149 #[.val (.int x0), .val (.int size), .val (.int fl), .val (.int (3 : Int32)), .val (.ref x101), .val (.ref y), .val (.ref y), .unset] [])
          refine Run.via (fun _ => XS.aload X126.at X126.ex rfl (X126.de at_149) rfl rfl) ?_
          show Run _ _ _ _ _ _ _ _ _ _ _ _ T126 (mkF m 151 #[.val (.int x0), .val (.int size), .val (.int fl), .val (.int (3 : Int32)), .val (.ref x101), .val (.ref y), .val (.ref y), .unset] [(.ref y)])
          refine Run.callS X126 (y := (⟨"com/example/sliceworks/sliceworks/web/Headers", "unquoted", "(Ljava/lang/String;)Ljava/lang/String;"⟩ : MethodName)) (W := 0) (con_uq l hw hS hN hmH hmL hl (Nat.le_of_ble_eq_true rfl) S X126.old) (wd hw 35 rfl) (wd hw 36 rfl) (wd hw 37 rfl) (wd hw 38 rfl) (by decide) pd__Ljava_lang_String__Ljava_lang_String_ rfl (argsL := [(.ref y)]) (rest := []) rfl (Nat.le_of_ble_eq_true rfl) rfl at_151 (by decide) (by decide) (Nat.le_of_ble_eq_true rfl) (Nat.le_of_ble_eq_true rfl) (nofun) (nofun) ?_
          intro v130 T130 h130 L130 q130 X130 XF130 K130
          obtain ⟨z, rfl, SZ⟩ := q130
          show Run _ _ _ _ _ _ _ _ _ _ _ _ T130 (mkF m 154 #[.val (.int x0), .val (.int size), .val (.int fl), .val (.int (3 : Int32)), .val (.ref x101), .val (.ref y), .val (.ref y), .unset] [(.ref z)])
          have SX := S.keep K130
          have eu : unq ([d0, d1, d2] : List Int32) = [d0, d1, d2] := by unfold unq; exact if_neg (fun z => q1 z.2.2)
          rw [eu] at SZ
          refine Run.via (fun _ => XS.astore X130.at X130.ex rfl (X130.de at_154) rfl rfl (l' := #[.val (.int x0), .val (.int size), .val (.int fl), .val (.int (3 : Int32)), .val (.ref x101), .val (.ref y), .val (.ref y), .val (.ref z)]) rfl) ?_
          show Run _ _ _ _ _ _ _ _ _ _ _ _ T130 (mkF m 156 #[.val (.int x0), .val (.int size), .val (.int fl), .val (.int (3 : Int32)), .val (.ref x101), .val (.ref y), .val (.ref y), .val (.ref z)] [])
          refine Run.via (fun _ => XS.aload X130.at X130.ex rfl (X130.de at_156) rfl rfl) ?_
          show Run _ _ _ _ _ _ _ _ _ _ _ _ T130 (mkF m 158 #[.val (.int x0), .val (.int size), .val (.int fl), .val (.int (3 : Int32)), .val (.ref x101), .val (.ref y), .val (.ref y), .val (.ref z)] [(.ref z)])
          refine Run.via (fun _ => XS.ifnullNo X130.at X130.ex rfl (X130.de at_158) rfl) ?_
          show Run _ _ _ _ _ _ _ _ _ _ _ _ T130 (mkF m 161 #[.val (.int x0), .val (.int size), .val (.int fl), .val (.int (3 : Int32)), .val (.ref x101), .val (.ref y), .val (.ref y), .val (.ref z)] [])
          refine Run.via (fun _ => XS.aload X130.at X130.ex rfl (X130.de at_161) rfl rfl) ?_
          show Run _ _ _ _ _ _ _ _ _ _ _ _ T130 (mkF m 163 #[.val (.int x0), .val (.int size), .val (.int fl), .val (.int (3 : Int32)), .val (.ref x101), .val (.ref y), .val (.ref y), .val (.ref z)] [(.ref z)])
          refine Run.via (fun _ => XS.aload X130.at X130.ex rfl (X130.de at_163) rfl rfl) ?_
          show Run _ _ _ _ _ _ _ _ _ _ _ _ T130 (mkF m 165 #[.val (.int x0), .val (.int size), .val (.int fl), .val (.int (3 : Int32)), .val (.ref x101), .val (.ref y), .val (.ref y), .val (.ref z)] [(.ref y), (.ref z)])
          refine Run.seq hw hS X130 (W := 0) SZ SX (wd hw 67 rfl) (wd hw 68 rfl) (wd hw 69 rfl) (wd hw 70 rfl) (wd hw 7 rfl) at_165 rfl (Nat.le_of_ble_eq_true rfl) (by decide) (by decide) (Nat.le_of_ble_eq_true rfl) (Nat.le_of_ble_eq_true rfl) ?_
          intro T131 X131
          show Run _ _ _ _ _ _ _ _ _ _ _ _ T131 (mkF m 168 #[.val (.int x0), .val (.int size), .val (.int fl), .val (.int (3 : Int32)), .val (.ref x101), .val (.ref y), .val (.ref y), .val (.ref z)] [(.int (if ([d0, d1, d2] : List Int32) = [d0, d1, d2] then 1 else 0 : Int32))])
          rw [show (if ([d0, d1, d2] : List Int32) = [d0, d1, d2] then 1 else 0 : Int32) = (1 : Int32) from if_pos rfl]
          show Run _ _ _ _ _ _ _ _ _ _ _ _ T131 (mkF m 168 #[.val (.int x0), .val (.int size), .val (.int fl), .val (.int (3 : Int32)), .val (.ref x101), .val (.ref y), .val (.ref y), .val (.ref z)] [(.int (1 : Int32))])
          refine Run.via (fun _ => XS.ifNo X131.at X131.ex rfl (X131.de at_168) rfl ((if0 _ _).trans (feq (by decide : ¬ ((1 : Int32) = (0 : Int32)))).1)) ?_
          show Run _ _ _ _ _ _ _ _ _ _ _ _ T131 (mkF m 171 #[.val (.int x0), .val (.int size), .val (.int fl), .val (.int (3 : Int32)), .val (.ref x101), .val (.ref y), .val (.ref y), .val (.ref z)] [])
          refine Run.via (fun _ => XS.iconst X131.at X131.ex rfl (X131.de at_171)) ?_
          show Run _ _ _ _ _ _ _ _ _ _ _ _ T131 (mkF m 172 #[.val (.int x0), .val (.int size), .val (.int fl), .val (.int (3 : Int32)), .val (.ref x101), .val (.ref y), .val (.ref y), .val (.ref z)] [(.int (1 : Int32))])
          refine Run.via (fun _ => XS.goto X131.at X131.ex rfl (pc0 := 172) (pc' := 176) rfl (X131.de at_172) (by decide) (by decide)) ?_
          show Run _ _ _ _ _ _ _ _ _ _ _ _ T131 (mkF m 176 #[.val (.int x0), .val (.int size), .val (.int fl), .val (.int (3 : Int32)), .val (.ref x101), .val (.ref y), .val (.ref y), .val (.ref z)] [(.int (1 : Int32))])
          exact Run.retN X131 (t := .boolean) rfl (by simp) at_176 (Nat.le_of_ble_eq_true rfl) (Nat.le_of_ble_eq_true rfl) (rfl)
      ·
        refine Run.via (fun _ => XS.icmpYes X126.at X126.ex rfl (pc0 := 117) (pc' := 145) rfl (X126.de at_117) rfl (feq q0).2 (by decide) (by decide)) ?_
        show Run _ _ _ _ _ _ _ _ _ _ _ _ T126 (mkF m 145 #[.val (.int x0), .val (.int size), .val (.int fl), .val (.int (3 : Int32)), .val (.ref x101), .val (.ref y), .unset, .unset] [])
        refine Run.via (fun _ => XS.aload X126.at X126.ex rfl (X126.de at_145) rfl rfl) ?_
        show Run _ _ _ _ _ _ _ _ _ _ _ _ T126 (mkF m 147 #[.val (.int x0), .val (.int size), .val (.int fl), .val (.int (3 : Int32)), .val (.ref x101), .val (.ref y), .unset, .unset] [(.ref y)])
        refine Run.via (fun _ => XS.astore X126.at X126.ex rfl (X126.de at_147) rfl rfl (l' := #[.val (.int x0), .val (.int size), .val (.int fl), .val (.int (3 : Int32)), .val (.ref x101), .val (.ref y), .val (.ref y), .unset]) rfl) ?_
        show Run _ _ _ _ _ _ _ _ _ _ _ _ T126 (mkF m 149 #[.val (.int x0), .val (.int size), .val (.int fl), .val (.int (3 : Int32)), .val (.ref x101), .val (.ref y), .val (.ref y), .unset] [])
        refine Run.via (fun _ => XS.aload X126.at X126.ex rfl (X126.de at_149) rfl rfl) ?_
        show Run _ _ _ _ _ _ _ _ _ _ _ _ T126 (mkF m 151 #[.val (.int x0), .val (.int size), .val (.int fl), .val (.int (3 : Int32)), .val (.ref x101), .val (.ref y), .val (.ref y), .unset] [(.ref y)])
        refine Run.callS X126 (y := (⟨"com/example/sliceworks/sliceworks/web/Headers", "unquoted", "(Ljava/lang/String;)Ljava/lang/String;"⟩ : MethodName)) (W := 0) (con_uq l hw hS hN hmH hmL hl (Nat.le_of_ble_eq_true rfl) S X126.old) (wd hw 35 rfl) (wd hw 36 rfl) (wd hw 37 rfl) (wd hw 38 rfl) (by decide) pd__Ljava_lang_String__Ljava_lang_String_ rfl (argsL := [(.ref y)]) (rest := []) rfl (Nat.le_of_ble_eq_true rfl) rfl at_151 (by decide) (by decide) (Nat.le_of_ble_eq_true rfl) (Nat.le_of_ble_eq_true rfl) (nofun) (nofun) ?_
        intro v132 T132 h132 L132 q132 X132 XF132 K132
        obtain ⟨z, rfl, SZ⟩ := q132
        show Run _ _ _ _ _ _ _ _ _ _ _ _ T132 (mkF m 154 #[.val (.int x0), .val (.int size), .val (.int fl), .val (.int (3 : Int32)), .val (.ref x101), .val (.ref y), .val (.ref y), .unset] [(.ref z)])
        have SX := S.keep K132
        have eu : unq ([d0, d1, d2] : List Int32) = [d0, d1, d2] := by unfold unq; exact if_neg (fun z => q0 z.2.1)
        rw [eu] at SZ
        refine Run.via (fun _ => XS.astore X132.at X132.ex rfl (X132.de at_154) rfl rfl (l' := #[.val (.int x0), .val (.int size), .val (.int fl), .val (.int (3 : Int32)), .val (.ref x101), .val (.ref y), .val (.ref y), .val (.ref z)]) rfl) ?_
        show Run _ _ _ _ _ _ _ _ _ _ _ _ T132 (mkF m 156 #[.val (.int x0), .val (.int size), .val (.int fl), .val (.int (3 : Int32)), .val (.ref x101), .val (.ref y), .val (.ref y), .val (.ref z)] [])
        refine Run.via (fun _ => XS.aload X132.at X132.ex rfl (X132.de at_156) rfl rfl) ?_
        show Run _ _ _ _ _ _ _ _ _ _ _ _ T132 (mkF m 158 #[.val (.int x0), .val (.int size), .val (.int fl), .val (.int (3 : Int32)), .val (.ref x101), .val (.ref y), .val (.ref y), .val (.ref z)] [(.ref z)])
        refine Run.via (fun _ => XS.ifnullNo X132.at X132.ex rfl (X132.de at_158) rfl) ?_
        show Run _ _ _ _ _ _ _ _ _ _ _ _ T132 (mkF m 161 #[.val (.int x0), .val (.int size), .val (.int fl), .val (.int (3 : Int32)), .val (.ref x101), .val (.ref y), .val (.ref y), .val (.ref z)] [])
        refine Run.via (fun _ => XS.aload X132.at X132.ex rfl (X132.de at_161) rfl rfl) ?_
        show Run _ _ _ _ _ _ _ _ _ _ _ _ T132 (mkF m 163 #[.val (.int x0), .val (.int size), .val (.int fl), .val (.int (3 : Int32)), .val (.ref x101), .val (.ref y), .val (.ref y), .val (.ref z)] [(.ref z)])
        refine Run.via (fun _ => XS.aload X132.at X132.ex rfl (X132.de at_163) rfl rfl) ?_
        show Run _ _ _ _ _ _ _ _ _ _ _ _ T132 (mkF m 165 #[.val (.int x0), .val (.int size), .val (.int fl), .val (.int (3 : Int32)), .val (.ref x101), .val (.ref y), .val (.ref y), .val (.ref z)] [(.ref y), (.ref z)])
        refine Run.seq hw hS X132 (W := 0) SZ SX (wd hw 67 rfl) (wd hw 68 rfl) (wd hw 69 rfl) (wd hw 70 rfl) (wd hw 7 rfl) at_165 rfl (Nat.le_of_ble_eq_true rfl) (by decide) (by decide) (Nat.le_of_ble_eq_true rfl) (Nat.le_of_ble_eq_true rfl) ?_
        intro T133 X133
        show Run _ _ _ _ _ _ _ _ _ _ _ _ T133 (mkF m 168 #[.val (.int x0), .val (.int size), .val (.int fl), .val (.int (3 : Int32)), .val (.ref x101), .val (.ref y), .val (.ref y), .val (.ref z)] [(.int (if ([d0, d1, d2] : List Int32) = [d0, d1, d2] then 1 else 0 : Int32))])
        rw [show (if ([d0, d1, d2] : List Int32) = [d0, d1, d2] then 1 else 0 : Int32) = (1 : Int32) from if_pos rfl]
        show Run _ _ _ _ _ _ _ _ _ _ _ _ T133 (mkF m 168 #[.val (.int x0), .val (.int size), .val (.int fl), .val (.int (3 : Int32)), .val (.ref x101), .val (.ref y), .val (.ref y), .val (.ref z)] [(.int (1 : Int32))])
        refine Run.via (fun _ => XS.ifNo X133.at X133.ex rfl (X133.de at_168) rfl ((if0 _ _).trans (feq (by decide : ¬ ((1 : Int32) = (0 : Int32)))).1)) ?_
        show Run _ _ _ _ _ _ _ _ _ _ _ _ T133 (mkF m 171 #[.val (.int x0), .val (.int size), .val (.int fl), .val (.int (3 : Int32)), .val (.ref x101), .val (.ref y), .val (.ref y), .val (.ref z)] [])
        refine Run.via (fun _ => XS.iconst X133.at X133.ex rfl (X133.de at_171)) ?_
        show Run _ _ _ _ _ _ _ _ _ _ _ _ T133 (mkF m 172 #[.val (.int x0), .val (.int size), .val (.int fl), .val (.int (3 : Int32)), .val (.ref x101), .val (.ref y), .val (.ref y), .val (.ref z)] [(.int (1 : Int32))])
        refine Run.via (fun _ => XS.goto X133.at X133.ex rfl (pc0 := 172) (pc' := 176) rfl (X133.de at_172) (by decide) (by decide)) ?_
        show Run _ _ _ _ _ _ _ _ _ _ _ _ T133 (mkF m 176 #[.val (.int x0), .val (.int size), .val (.int fl), .val (.int (3 : Int32)), .val (.ref x101), .val (.ref y), .val (.ref y), .val (.ref z)] [(.int (1 : Int32))])
        exact Run.retN X133 (t := .boolean) rfl (by simp) at_176 (Nat.le_of_ble_eq_true rfl) (Nat.le_of_ble_eq_true rfl) (rfl)
    refine Run.via (fun _ => XS.iloadN X105.at X105.ex rfl (X105.de at_61) rfl) ?_
    show Run _ _ _ _ _ _ _ _ _ _ _ _ T105 (mkF m 62 #[.val (.int x0), .val (.int size), .val (.int fl), .val (.int (3 : Int32)), .val (.ref x101), .unset, .unset, .unset] [(.int (3 : Int32))])
    refine Run.via (fun _ => XS.iconst X105.at X105.ex rfl (X105.de at_62)) ?_
    show Run _ _ _ _ _ _ _ _ _ _ _ _ T105 (mkF m 63 #[.val (.int x0), .val (.int size), .val (.int fl), .val (.int (3 : Int32)), .val (.ref x101), .unset, .unset, .unset] [(.int (1 : Int32)), (.int (3 : Int32))])
    refine Run.via (fun _ => XS.icmpNo X105.at X105.ex rfl (X105.de at_63) rfl (flt (by decide : ¬ ((3 : Int32) < (1 : Int32)))).1) ?_
    show Run _ _ _ _ _ _ _ _ _ _ _ _ T105 (mkF m 66 #[.val (.int x0), .val (.int size), .val (.int fl), .val (.int (3 : Int32)), .val (.ref x101), .unset, .unset, .unset] [])
    refine Run.via (fun _ => XS.iloadN X105.at X105.ex rfl (X105.de at_66) rfl) ?_
    show Run _ _ _ _ _ _ _ _ _ _ _ _ T105 (mkF m 67 #[.val (.int x0), .val (.int size), .val (.int fl), .val (.int (3 : Int32)), .val (.ref x101), .unset, .unset, .unset] [(.int fl)])
    refine Run.via (fun _ => XS.iconst X105.at X105.ex rfl (X105.de at_67)) ?_
    show Run _ _ _ _ _ _ _ _ _ _ _ _ T105 (mkF m 68 #[.val (.int x0), .val (.int size), .val (.int fl), .val (.int (3 : Int32)), .val (.ref x101), .unset, .unset, .unset] [(.int (1 : Int32)), (.int fl)])
    refine Run.via (fun _ => XS.iand X105.at X105.ex rfl (X105.de at_68) rfl) ?_
    show Run _ _ _ _ _ _ _ _ _ _ _ _ T105 (mkF m 69 #[.val (.int x0), .val (.int size), .val (.int fl), .val (.int (3 : Int32)), .val (.ref x101), .unset, .unset, .unset] [(.int (fl &&& (1 : Int32)))])
    by_cases f1 : (fl &&& (1 : Int32)) = (0 : Int32)
    ·
      refine Run.via (fun _ => XS.ifYes X105.at X105.ex rfl (pc0 := 69) (pc' := 78) rfl (X105.de at_69) rfl ((if0 _ _).trans (teq f1).1) (by decide) (by decide)) ?_
      show Run _ _ _ _ _ _ _ _ _ _ _ _ T105 (mkF m 78 #[.val (.int x0), .val (.int size), .val (.int fl), .val (.int (3 : Int32)), .val (.ref x101), .unset, .unset, .unset] [])
      refine Run.via (fun _ => XS.iloadN X105.at X105.ex rfl (X105.de at_78) rfl) ?_
      show Run _ _ _ _ _ _ _ _ _ _ _ _ T105 (mkF m 79 #[.val (.int x0), .val (.int size), .val (.int fl), .val (.int (3 : Int32)), .val (.ref x101), .unset, .unset, .unset] [(.int (3 : Int32))])
      refine Run.via (fun _ => XS.iconst X105.at X105.ex rfl (X105.de at_79)) ?_
      show Run _ _ _ _ _ _ _ _ _ _ _ _ T105 (mkF m 80 #[.val (.int x0), .val (.int size), .val (.int fl), .val (.int (3 : Int32)), .val (.ref x101), .unset, .unset, .unset] [(.int (1 : Int32)), (.int (3 : Int32))])
      refine Run.via (fun _ => XS.icmpNo X105.at X105.ex rfl (X105.de at_80) rfl (flt (by decide : ¬ ((3 : Int32) < (1 : Int32)))).1) ?_
      show Run _ _ _ _ _ _ _ _ _ _ _ _ T105 (mkF m 83 #[.val (.int x0), .val (.int size), .val (.int fl), .val (.int (3 : Int32)), .val (.ref x101), .unset, .unset, .unset] [])
      refine Run.via (fun _ => XS.iloadN X105.at X105.ex rfl (X105.de at_83) rfl) ?_
      show Run _ _ _ _ _ _ _ _ _ _ _ _ T105 (mkF m 84 #[.val (.int x0), .val (.int size), .val (.int fl), .val (.int (3 : Int32)), .val (.ref x101), .unset, .unset, .unset] [(.int fl)])
      refine Run.via (fun _ => XS.iconst X105.at X105.ex rfl (X105.de at_84)) ?_
      show Run _ _ _ _ _ _ _ _ _ _ _ _ T105 (mkF m 85 #[.val (.int x0), .val (.int size), .val (.int fl), .val (.int (3 : Int32)), .val (.ref x101), .unset, .unset, .unset] [(.int (2 : Int32)), (.int fl)])
      refine Run.via (fun _ => XS.iand X105.at X105.ex rfl (X105.de at_85) rfl) ?_
      show Run _ _ _ _ _ _ _ _ _ _ _ _ T105 (mkF m 86 #[.val (.int x0), .val (.int size), .val (.int fl), .val (.int (3 : Int32)), .val (.ref x101), .unset, .unset, .unset] [(.int (fl &&& (2 : Int32)))])
      by_cases f2 : (fl &&& (2 : Int32)) = (0 : Int32)
      ·
        refine Run.via (fun _ => XS.ifYes X105.at X105.ex rfl (pc0 := 86) (pc' := 97) rfl (X105.de at_86) rfl ((if0 _ _).trans (teq f2).1) (by decide) (by decide)) ?_
        show Run _ _ _ _ _ _ _ _ _ _ _ _ T105 (mkF m 97 #[.val (.int x0), .val (.int size), .val (.int fl), .val (.int (3 : Int32)), .val (.ref x101), .unset, .unset, .unset] [])
        exact J _ _ _ c0 c1 c2 c3 X105 r0 r1 r2 r3 A105
      ·
        refine Run.via (fun _ => XS.ifNo X105.at X105.ex rfl (X105.de at_86) rfl ((if0 _ _).trans (feq f2).1)) ?_
        show Run _ _ _ _ _ _ _ _ _ _ _ _ T105 (mkF m 89 #[.val (.int x0), .val (.int size), .val (.int fl), .val (.int (3 : Int32)), .val (.ref x101), .unset, .unset, .unset] [])
        refine Run.via (fun _ => XS.aload X105.at X105.ex rfl (X105.de at_89) rfl rfl) ?_
        show Run _ _ _ _ _ _ _ _ _ _ _ _ T105 (mkF m 91 #[.val (.int x0), .val (.int size), .val (.int fl), .val (.int (3 : Int32)), .val (.ref x101), .unset, .unset, .unset] [(.ref x101)])
        refine Run.via (fun _ => XS.iloadN X105.at X105.ex rfl (X105.de at_91) rfl) ?_
        show Run _ _ _ _ _ _ _ _ _ _ _ _ T105 (mkF m 92 #[.val (.int x0), .val (.int size), .val (.int fl), .val (.int (3 : Int32)), .val (.ref x101), .unset, .unset, .unset] [(.int (3 : Int32)), (.ref x101)])
        refine Run.via (fun _ => XS.iconst X105.at X105.ex rfl (X105.de at_92)) ?_
        show Run _ _ _ _ _ _ _ _ _ _ _ _ T105 (mkF m 93 #[.val (.int x0), .val (.int size), .val (.int fl), .val (.int (3 : Int32)), .val (.ref x101), .unset, .unset, .unset] [(.int (1 : Int32)), (.int (3 : Int32)), (.ref x101)])
        refine Run.via (fun _ => XS.isub X105.at X105.ex rfl (X105.de at_93) rfl) ?_
        show Run _ _ _ _ _ _ _ _ _ _ _ _ T105 (mkF m 94 #[.val (.int x0), .val (.int size), .val (.int fl), .val (.int (3 : Int32)), .val (.ref x101), .unset, .unset, .unset] [(.int (2 : Int32)), (.ref x101)])
        refine Run.via (fun _ => XS.bipush X105.at X105.ex rfl (X105.de at_94)) ?_
        show Run _ _ _ _ _ _ _ _ _ _ _ _ T105 (mkF m 96 #[.val (.int x0), .val (.int size), .val (.int fl), .val (.int (3 : Int32)), .val (.ref x101), .unset, .unset, .unset] [(.int (34 : Int32)), (.int (2 : Int32)), (.ref x101)])
        refine Run.castore X105 (i := 2) (v' := (34 : Int32)) A105 rfl (Nat.le_of_ble_eq_true rfl) (nar_lat (by decide)) (Or.inr (by omega)) (by omega) at_96 ?_
        intro T134 h134 L134 X134 K134 z134 A134
        have A134 : Arc .char Z h134 x101 [c0, c1, (34 : Int32), c3] := A134
        show Run _ _ _ _ _ _ _ _ _ _ _ _ T134 (mkF m 97 #[.val (.int x0), .val (.int size), .val (.int fl), .val (.int (3 : Int32)), .val (.ref x101), .unset, .unset, .unset] [])
        exact J _ _ _ c0 c1 (34 : Int32) c3 X134 r0 r1 (by decide) r3 A134
    ·
      refine Run.via (fun _ => XS.ifNo X105.at X105.ex rfl (X105.de at_69) rfl ((if0 _ _).trans (feq f1).1)) ?_
      show Run _ _ _ _ _ _ _ _ _ _ _ _ T105 (mkF m 72 #[.val (.int x0), .val (.int size), .val (.int fl), .val (.int (3 : Int32)), .val (.ref x101), .unset, .unset, .unset] [])
      refine Run.via (fun _ => XS.aload X105.at X105.ex rfl (X105.de at_72) rfl rfl) ?_
      show Run _ _ _ _ _ _ _ _ _ _ _ _ T105 (mkF m 74 #[.val (.int x0), .val (.int size), .val (.int fl), .val (.int (3 : Int32)), .val (.ref x101), .unset, .unset, .unset] [(.ref x101)])
      refine Run.via (fun _ => XS.iconst X105.at X105.ex rfl (X105.de at_74)) ?_
      show Run _ _ _ _ _ _ _ _ _ _ _ _ T105 (mkF m 75 #[.val (.int x0), .val (.int size), .val (.int fl), .val (.int (3 : Int32)), .val (.ref x101), .unset, .unset, .unset] [(.int (0 : Int32)), (.ref x101)])
      refine Run.via (fun _ => XS.bipush X105.at X105.ex rfl (X105.de at_75)) ?_
      show Run _ _ _ _ _ _ _ _ _ _ _ _ T105 (mkF m 77 #[.val (.int x0), .val (.int size), .val (.int fl), .val (.int (3 : Int32)), .val (.ref x101), .unset, .unset, .unset] [(.int (34 : Int32)), (.int (0 : Int32)), (.ref x101)])
      refine Run.castore X105 (i := 0) (v' := (34 : Int32)) A105 rfl (Nat.le_of_ble_eq_true rfl) (nar_lat (by decide)) (Or.inr (by omega)) (by omega) at_77 ?_
      intro T135 h135 L135 X135 K135 z135 A135
      have A135 : Arc .char Z h135 x101 [(34 : Int32), c1, c2, c3] := A135
      show Run _ _ _ _ _ _ _ _ _ _ _ _ T135 (mkF m 78 #[.val (.int x0), .val (.int size), .val (.int fl), .val (.int (3 : Int32)), .val (.ref x101), .unset, .unset, .unset] [])
      refine Run.via (fun _ => XS.iloadN X135.at X135.ex rfl (X135.de at_78) rfl) ?_
      show Run _ _ _ _ _ _ _ _ _ _ _ _ T135 (mkF m 79 #[.val (.int x0), .val (.int size), .val (.int fl), .val (.int (3 : Int32)), .val (.ref x101), .unset, .unset, .unset] [(.int (3 : Int32))])
      refine Run.via (fun _ => XS.iconst X135.at X135.ex rfl (X135.de at_79)) ?_
      show Run _ _ _ _ _ _ _ _ _ _ _ _ T135 (mkF m 80 #[.val (.int x0), .val (.int size), .val (.int fl), .val (.int (3 : Int32)), .val (.ref x101), .unset, .unset, .unset] [(.int (1 : Int32)), (.int (3 : Int32))])
      refine Run.via (fun _ => XS.icmpNo X135.at X135.ex rfl (X135.de at_80) rfl (flt (by decide : ¬ ((3 : Int32) < (1 : Int32)))).1) ?_
      show Run _ _ _ _ _ _ _ _ _ _ _ _ T135 (mkF m 83 #[.val (.int x0), .val (.int size), .val (.int fl), .val (.int (3 : Int32)), .val (.ref x101), .unset, .unset, .unset] [])
      refine Run.via (fun _ => XS.iloadN X135.at X135.ex rfl (X135.de at_83) rfl) ?_
      show Run _ _ _ _ _ _ _ _ _ _ _ _ T135 (mkF m 84 #[.val (.int x0), .val (.int size), .val (.int fl), .val (.int (3 : Int32)), .val (.ref x101), .unset, .unset, .unset] [(.int fl)])
      refine Run.via (fun _ => XS.iconst X135.at X135.ex rfl (X135.de at_84)) ?_
      show Run _ _ _ _ _ _ _ _ _ _ _ _ T135 (mkF m 85 #[.val (.int x0), .val (.int size), .val (.int fl), .val (.int (3 : Int32)), .val (.ref x101), .unset, .unset, .unset] [(.int (2 : Int32)), (.int fl)])
      refine Run.via (fun _ => XS.iand X135.at X135.ex rfl (X135.de at_85) rfl) ?_
      show Run _ _ _ _ _ _ _ _ _ _ _ _ T135 (mkF m 86 #[.val (.int x0), .val (.int size), .val (.int fl), .val (.int (3 : Int32)), .val (.ref x101), .unset, .unset, .unset] [(.int (fl &&& (2 : Int32)))])
      by_cases f2 : (fl &&& (2 : Int32)) = (0 : Int32)
      ·
        refine Run.via (fun _ => XS.ifYes X135.at X135.ex rfl (pc0 := 86) (pc' := 97) rfl (X135.de at_86) rfl ((if0 _ _).trans (teq f2).1) (by decide) (by decide)) ?_
        show Run _ _ _ _ _ _ _ _ _ _ _ _ T135 (mkF m 97 #[.val (.int x0), .val (.int size), .val (.int fl), .val (.int (3 : Int32)), .val (.ref x101), .unset, .unset, .unset] [])
        exact J _ _ _ (34 : Int32) c1 c2 c3 X135 (by decide) r1 r2 r3 A135
      ·
        refine Run.via (fun _ => XS.ifNo X135.at X135.ex rfl (X135.de at_86) rfl ((if0 _ _).trans (feq f2).1)) ?_
        show Run _ _ _ _ _ _ _ _ _ _ _ _ T135 (mkF m 89 #[.val (.int x0), .val (.int size), .val (.int fl), .val (.int (3 : Int32)), .val (.ref x101), .unset, .unset, .unset] [])
        refine Run.via (fun _ => XS.aload X135.at X135.ex rfl (X135.de at_89) rfl rfl) ?_
        show Run _ _ _ _ _ _ _ _ _ _ _ _ T135 (mkF m 91 #[.val (.int x0), .val (.int size), .val (.int fl), .val (.int (3 : Int32)), .val (.ref x101), .unset, .unset, .unset] [(.ref x101)])
        refine Run.via (fun _ => XS.iloadN X135.at X135.ex rfl (X135.de at_91) rfl) ?_
        show Run _ _ _ _ _ _ _ _ _ _ _ _ T135 (mkF m 92 #[.val (.int x0), .val (.int size), .val (.int fl), .val (.int (3 : Int32)), .val (.ref x101), .unset, .unset, .unset] [(.int (3 : Int32)), (.ref x101)])
        refine Run.via (fun _ => XS.iconst X135.at X135.ex rfl (X135.de at_92)) ?_
        show Run _ _ _ _ _ _ _ _ _ _ _ _ T135 (mkF m 93 #[.val (.int x0), .val (.int size), .val (.int fl), .val (.int (3 : Int32)), .val (.ref x101), .unset, .unset, .unset] [(.int (1 : Int32)), (.int (3 : Int32)), (.ref x101)])
        refine Run.via (fun _ => XS.isub X135.at X135.ex rfl (X135.de at_93) rfl) ?_
        show Run _ _ _ _ _ _ _ _ _ _ _ _ T135 (mkF m 94 #[.val (.int x0), .val (.int size), .val (.int fl), .val (.int (3 : Int32)), .val (.ref x101), .unset, .unset, .unset] [(.int (2 : Int32)), (.ref x101)])
        refine Run.via (fun _ => XS.bipush X135.at X135.ex rfl (X135.de at_94)) ?_
        show Run _ _ _ _ _ _ _ _ _ _ _ _ T135 (mkF m 96 #[.val (.int x0), .val (.int size), .val (.int fl), .val (.int (3 : Int32)), .val (.ref x101), .unset, .unset, .unset] [(.int (34 : Int32)), (.int (2 : Int32)), (.ref x101)])
        refine Run.castore X135 (i := 2) (v' := (34 : Int32)) A135 rfl (Nat.le_of_ble_eq_true rfl) (nar_lat (by decide)) (Or.inr (by omega)) (by omega) at_96 ?_
        intro T136 h136 L136 X136 K136 z136 A136
        have A136 : Arc .char Z h136 x101 [(34 : Int32), c1, (34 : Int32), c3] := A136
        show Run _ _ _ _ _ _ _ _ _ _ _ _ T136 (mkF m 97 #[.val (.int x0), .val (.int size), .val (.int fl), .val (.int (3 : Int32)), .val (.ref x101), .unset, .unset, .unset] [])
        exact J _ _ _ (34 : Int32) c1 (34 : Int32) c3 X136 (by decide) r1 (by decide) r3 A136
  ·
    show Run _ _ _ _ _ _ _ _ _ _ _ _ T105 (mkF m 61 #[.val (.int x0), .val (.int size), .val (.int fl), .val (.int (4 : Int32)), .val (.ref x101), .unset, .unset, .unset] [])
    have J : ∀ (Tj : State) (hj : Heap) (Lq : List Loc) (d0 d1 d2 d3 : Int32), Sit Z a0 EL p l e room_1 s m #[(.int x0), (.int size), (.int fl)] below meth c "com/example/sliceworks/sliceworks/web/HeadersUnquotedPinLaw" code maxLocals ret "law" h0 [] [x101] Tj hj Lq 1 4 → (¬ d0 < 0 ∧ ¬ (255 : Int32) < d0) → (¬ d1 < 0 ∧ ¬ (255 : Int32) < d1) → (¬ d2 < 0 ∧ ¬ (255 : Int32) < d2) → (¬ d3 < 0 ∧ ¬ (255 : Int32) < d3) → Arc .char Z hj x101 [d0, d1, d2, d3] → Run Z EL false p e below s h0 [] (fun v _ => v = some (.int 1)) room_1.cells room_1.slots Tj (mkF m 97 #[.val (.int x0), .val (.int size), .val (.int fl), .val (.int (4 : Int32)), .val (.ref x101), .unset, .unset, .unset] []) := by
      intro Tj hj Lq d0 d1 d2 d3 Xj r0 r1 r2 r3 A
      have uj := Xj.kp.1
      have hl : Lat ([d0, d1, d2, d3] : List Int32) := lsS r0 (lsS r1 (lsS r2 (lsS r3 (ls0))))
      refine Run.via (fun _ => XS.aload Xj.at Xj.ex rfl (Xj.de at_97) rfl rfl) ?_
      show Run _ _ _ _ _ _ _ _ _ _ _ _ Tj (mkF m 99 #[.val (.int x0), .val (.int size), .val (.int fl), .val (.int (4 : Int32)), .val (.ref x101), .unset, .unset, .unset] [(.ref x101)])
      refine Run.via (fun _ => XS.iconst Xj.at Xj.ex rfl (Xj.de at_99)) ?_
      show Run _ _ _ _ _ _ _ _ _ _ _ _ Tj (mkF m 100 #[.val (.int x0), .val (.int size), .val (.int fl), .val (.int (4 : Int32)), .val (.ref x101), .unset, .unset, .unset] [(.int (0 : Int32)), (.ref x101)])
      refine Run.via (fun _ => XS.iloadN Xj.at Xj.ex rfl (Xj.de at_100) rfl) ?_
      show Run _ _ _ _ _ _ _ _ _ _ _ _ Tj (mkF m 101 #[.val (.int x0), .val (.int size), .val (.int fl), .val (.int (4 : Int32)), .val (.ref x101), .unset, .unset, .unset] [(.int (4 : Int32)), (.int (0 : Int32)), (.ref x101)])
      refine Run.callS Xj (y := (⟨"com/example/sliceworks/sliceworks/web/HeadersUnquotedPinLaw", "make", "([CII)Ljava/lang/String;"⟩ : MethodName)) (W := 0) (con_m04 l hw hS hN hm r0 r1 r2 r3 A Xj.old) (wd hw 2 rfl) (wd hw 3 rfl) (wd hw 4 rfl) (wd hw 5 rfl) (by decide) pd___CII_Ljava_lang_String_ rfl (argsL := [(.ref x101), (.int (0 : Int32)), (.int (4 : Int32))]) (rest := []) rfl (Nat.le_of_ble_eq_true rfl) rfl at_101 (by decide) (by decide) (Nat.le_of_ble_eq_true rfl) (Nat.le_of_ble_eq_true rfl) (nofun) (nofun) ?_
      intro v137 T137 h137 L137 q137 X137 XF137 K137
      obtain ⟨y, rfl, S⟩ := q137
      show Run _ _ _ _ _ _ _ _ _ _ _ _ T137 (mkF m 104 #[.val (.int x0), .val (.int size), .val (.int fl), .val (.int (4 : Int32)), .val (.ref x101), .unset, .unset, .unset] [(.ref y)])
      have A1 := A.keep K137 nin0
      refine Run.via (fun _ => XS.astore X137.at X137.ex rfl (X137.de at_104) rfl rfl (l' := #[.val (.int x0), .val (.int size), .val (.int fl), .val (.int (4 : Int32)), .val (.ref x101), .val (.ref y), .unset, .unset]) rfl) ?_
      show Run _ _ _ _ _ _ _ _ _ _ _ _ T137 (mkF m 106 #[.val (.int x0), .val (.int size), .val (.int fl), .val (.int (4 : Int32)), .val (.ref x101), .val (.ref y), .unset, .unset] [])
      refine Run.via (fun _ => XS.iloadN X137.at X137.ex rfl (X137.de at_106) rfl) ?_
      show Run _ _ _ _ _ _ _ _ _ _ _ _ T137 (mkF m 107 #[.val (.int x0), .val (.int size), .val (.int fl), .val (.int (4 : Int32)), .val (.ref x101), .val (.ref y), .unset, .unset] [(.int (4 : Int32))])
      refine Run.via (fun _ => XS.iconst X137.at X137.ex rfl (X137.de at_107)) ?_
      show Run _ _ _ _ _ _ _ _ _ _ _ _ T137 (mkF m 108 #[.val (.int x0), .val (.int size), .val (.int fl), .val (.int (4 : Int32)), .val (.ref x101), .val (.ref y), .unset, .unset] [(.int (2 : Int32)), (.int (4 : Int32))])
      refine Run.via (fun _ => XS.icmpNo X137.at X137.ex rfl (X137.de at_108) rfl (flt (by decide : ¬ ((4 : Int32) < (2 : Int32)))).1) ?_
      show Run _ _ _ _ _ _ _ _ _ _ _ _ T137 (mkF m 111 #[.val (.int x0), .val (.int size), .val (.int fl), .val (.int (4 : Int32)), .val (.ref x101), .val (.ref y), .unset, .unset] [])
      refine Run.via (fun _ => XS.aload X137.at X137.ex rfl (X137.de at_111) rfl rfl) ?_
      show Run _ _ _ _ _ _ _ _ _ _ _ _ T137 (mkF m 113 #[.val (.int x0), .val (.int size), .val (.int fl), .val (.int (4 : Int32)), .val (.ref x101), .val (.ref y), .unset, .unset] [(.ref x101)])
      refine Run.via (fun _ => XS.iconst X137.at X137.ex rfl (X137.de at_113)) ?_
      show Run _ _ _ _ _ _ _ _ _ _ _ _ T137 (mkF m 114 #[.val (.int x0), .val (.int size), .val (.int fl), .val (.int (4 : Int32)), .val (.ref x101), .val (.ref y), .unset, .unset] [(.int (0 : Int32)), (.ref x101)])
      refine Run.caload X137 (i := 0) A1 rfl (Nat.le_of_ble_eq_true rfl) at_114 ?_
      show Run _ _ _ _ _ _ _ _ _ _ _ _ T137 (mkF m 115 #[.val (.int x0), .val (.int size), .val (.int fl), .val (.int (4 : Int32)), .val (.ref x101), .val (.ref y), .unset, .unset] [(.int d0)])
      refine Run.via (fun _ => XS.bipush X137.at X137.ex rfl (X137.de at_115)) ?_
      show Run _ _ _ _ _ _ _ _ _ _ _ _ T137 (mkF m 117 #[.val (.int x0), .val (.int size), .val (.int fl), .val (.int (4 : Int32)), .val (.ref x101), .val (.ref y), .unset, .unset] [(.int (34 : Int32)), (.int d0)])
      by_cases q0 : d0 = (34 : Int32)
      ·
        refine Run.via (fun _ => XS.icmpNo X137.at X137.ex rfl (X137.de at_117) rfl (teq q0).2) ?_
        show Run _ _ _ _ _ _ _ _ _ _ _ _ T137 (mkF m 120 #[.val (.int x0), .val (.int size), .val (.int fl), .val (.int (4 : Int32)), .val (.ref x101), .val (.ref y), .unset, .unset] [])
        refine Run.via (fun _ => XS.aload X137.at X137.ex rfl (X137.de at_120) rfl rfl) ?_
        show Run _ _ _ _ _ _ _ _ _ _ _ _ T137 (mkF m 122 #[.val (.int x0), .val (.int size), .val (.int fl), .val (.int (4 : Int32)), .val (.ref x101), .val (.ref y), .unset, .unset] [(.ref x101)])
        refine Run.via (fun _ => XS.iloadN X137.at X137.ex rfl (X137.de at_122) rfl) ?_
        show Run _ _ _ _ _ _ _ _ _ _ _ _ T137 (mkF m 123 #[.val (.int x0), .val (.int size), .val (.int fl), .val (.int (4 : Int32)), .val (.ref x101), .val (.ref y), .unset, .unset] [(.int (4 : Int32)), (.ref x101)])
        refine Run.via (fun _ => XS.iconst X137.at X137.ex rfl (X137.de at_123)) ?_
        show Run _ _ _ _ _ _ _ _ _ _ _ _ T137 (mkF m 124 #[.val (.int x0), .val (.int size), .val (.int fl), .val (.int (4 : Int32)), .val (.ref x101), .val (.ref y), .unset, .unset] [(.int (1 : Int32)), (.int (4 : Int32)), (.ref x101)])
        refine Run.via (fun _ => XS.isub X137.at X137.ex rfl (X137.de at_124) rfl) ?_
        show Run _ _ _ _ _ _ _ _ _ _ _ _ T137 (mkF m 125 #[.val (.int x0), .val (.int size), .val (.int fl), .val (.int (4 : Int32)), .val (.ref x101), .val (.ref y), .unset, .unset] [(.int (3 : Int32)), (.ref x101)])
        refine Run.caload X137 (i := 3) A1 rfl (Nat.le_of_ble_eq_true rfl) at_125 ?_
        show Run _ _ _ _ _ _ _ _ _ _ _ _ T137 (mkF m 126 #[.val (.int x0), .val (.int size), .val (.int fl), .val (.int (4 : Int32)), .val (.ref x101), .val (.ref y), .unset, .unset] [(.int d3)])
        refine Run.via (fun _ => XS.bipush X137.at X137.ex rfl (X137.de at_126)) ?_
        show Run _ _ _ _ _ _ _ _ _ _ _ _ T137 (mkF m 128 #[.val (.int x0), .val (.int size), .val (.int fl), .val (.int (4 : Int32)), .val (.ref x101), .val (.ref y), .unset, .unset] [(.int (34 : Int32)), (.int d3)])
        by_cases q1 : d3 = (34 : Int32)
        ·
          refine Run.via (fun _ => XS.icmpNo X137.at X137.ex rfl (X137.de at_128) rfl (teq q1).2) ?_
          show Run _ _ _ _ _ _ _ _ _ _ _ _ T137 (mkF m 131 #[.val (.int x0), .val (.int size), .val (.int fl), .val (.int (4 : Int32)), .val (.ref x101), .val (.ref y), .unset, .unset] [])
          refine Run.via (fun _ => XS.aload X137.at X137.ex rfl (X137.de at_131) rfl rfl) ?_
          show Run _ _ _ _ _ _ _ _ _ _ _ _ T137 (mkF m 133 #[.val (.int x0), .val (.int size), .val (.int fl), .val (.int (4 : Int32)), .val (.ref x101), .val (.ref y), .unset, .unset] [(.ref x101)])
          refine Run.via (fun _ => XS.iconst X137.at X137.ex rfl (X137.de at_133)) ?_
          show Run _ _ _ _ _ _ _ _ _ _ _ _ T137 (mkF m 134 #[.val (.int x0), .val (.int size), .val (.int fl), .val (.int (4 : Int32)), .val (.ref x101), .val (.ref y), .unset, .unset] [(.int (1 : Int32)), (.ref x101)])
          refine Run.via (fun _ => XS.iloadN X137.at X137.ex rfl (X137.de at_134) rfl) ?_
          show Run _ _ _ _ _ _ _ _ _ _ _ _ T137 (mkF m 135 #[.val (.int x0), .val (.int size), .val (.int fl), .val (.int (4 : Int32)), .val (.ref x101), .val (.ref y), .unset, .unset] [(.int (4 : Int32)), (.int (1 : Int32)), (.ref x101)])
          refine Run.via (fun _ => XS.iconst X137.at X137.ex rfl (X137.de at_135)) ?_
          show Run _ _ _ _ _ _ _ _ _ _ _ _ T137 (mkF m 136 #[.val (.int x0), .val (.int size), .val (.int fl), .val (.int (4 : Int32)), .val (.ref x101), .val (.ref y), .unset, .unset] [(.int (2 : Int32)), (.int (4 : Int32)), (.int (1 : Int32)), (.ref x101)])
          refine Run.via (fun _ => XS.isub X137.at X137.ex rfl (X137.de at_136) rfl) ?_
          show Run _ _ _ _ _ _ _ _ _ _ _ _ T137 (mkF m 137 #[.val (.int x0), .val (.int size), .val (.int fl), .val (.int (4 : Int32)), .val (.ref x101), .val (.ref y), .unset, .unset] [(.int (2 : Int32)), (.int (1 : Int32)), (.ref x101)])
          refine Run.callS X137 (y := (⟨"com/example/sliceworks/sliceworks/web/HeadersUnquotedPinLaw", "make", "([CII)Ljava/lang/String;"⟩ : MethodName)) (W := 0) (con_m12 l hw hS hN hm r0 r1 r2 r3 A1 X137.old) (wd hw 2 rfl) (wd hw 3 rfl) (wd hw 4 rfl) (wd hw 5 rfl) (by decide) pd___CII_Ljava_lang_String_ rfl (argsL := [(.ref x101), (.int (1 : Int32)), (.int (2 : Int32))]) (rest := []) rfl (Nat.le_of_ble_eq_true rfl) rfl at_137 (by decide) (by decide) (Nat.le_of_ble_eq_true rfl) (Nat.le_of_ble_eq_true rfl) (nofun) (nofun) ?_
          intro v138 T138 h138 L138 q138 X138 XF138 K138
          obtain ⟨y2, rfl, S2⟩ := q138
          show Run _ _ _ _ _ _ _ _ _ _ _ _ T138 (mkF m 140 #[.val (.int x0), .val (.int size), .val (.int fl), .val (.int (4 : Int32)), .val (.ref x101), .val (.ref y), .unset, .unset] [(.ref y2)])
          have S1 := S.keep K138
          refine Run.via (fun _ => XS.astore X138.at X138.ex rfl (X138.de at_140) rfl rfl (l' := #[.val (.int x0), .val (.int size), .val (.int fl), .val (.int (4 : Int32)), .val (.ref x101), .val (.ref y), .val (.ref y2), .unset]) rfl) ?_
          show Run _ _ _ _ _ _ _ _ _ _ _ _ T138 (mkF m 142 #[.val (.int x0), .val (.int size), .val (.int fl), .val (.int (4 : Int32)), .val (.ref x101), .val (.ref y), .val (.ref y2), .unset] [])
          refine Run.via (fun _ => XS.goto X138.at X138.ex rfl (pc0 := 142) (pc' := 149) rfl (X138.de at_142) (by decide) (by decide)) ?_
          show Run _ _ _ _ _ _ _ _ _ _ _ _ T138 (mkF m 149 #[.val (.int x0), .val (.int size), .val (.int fl), .val (.int (4 : Int32)), .val (.ref x101), .val (.ref y), .val (.ref y2), .unset] [])
          refine Run.via (fun _ => XS.aload X138.at X138.ex rfl (X138.de at_149) rfl rfl) ?_
          show Run _ _ _ _ _ _ _ _ _ _ _ _ T138 (mkF m 151 #[.val (.int x0), .val (.int size), .val (.int fl), .val (.int (4 : Int32)), .val (.ref x101), .val (.ref y), .val (.ref y2), .unset] [(.ref y)])
          refine Run.callS X138 (y := (⟨"com/example/sliceworks/sliceworks/web/Headers", "unquoted", "(Ljava/lang/String;)Ljava/lang/String;"⟩ : MethodName)) (W := 0) (con_uq l hw hS hN hmH hmL hl (Nat.le_of_ble_eq_true rfl) S1 X138.old) (wd hw 35 rfl) (wd hw 36 rfl) (wd hw 37 rfl) (wd hw 38 rfl) (by decide) pd__Ljava_lang_String__Ljava_lang_String_ rfl (argsL := [(.ref y)]) (rest := []) rfl (Nat.le_of_ble_eq_true rfl) rfl at_151 (by decide) (by decide) (Nat.le_of_ble_eq_true rfl) (Nat.le_of_ble_eq_true rfl) (nofun) (nofun) ?_
          intro v139 T139 h139 L139 q139 X139 XF139 K139
          obtain ⟨z, rfl, SZ⟩ := q139
          show Run _ _ _ _ _ _ _ _ _ _ _ _ T139 (mkF m 154 #[.val (.int x0), .val (.int size), .val (.int fl), .val (.int (4 : Int32)), .val (.ref x101), .val (.ref y), .val (.ref y2), .unset] [(.ref z)])
          have SX := S2.keep K139
          have eu : unq ([d0, d1, d2, d3] : List Int32) = [d1, d2] := by unfold unq; exact if_pos ⟨Nat.le_of_ble_eq_true rfl, q0, q1⟩
          rw [eu] at SZ
          refine Run.via (fun _ => XS.astore X139.at X139.ex rfl (X139.de at_154) rfl rfl (l' := #[.val (.int x0), .val (.int size), .val (.int fl), .val (.int (4 : Int32)), .val (.ref x101), .val (.ref y), .val (.ref y2), .val (.ref z)]) rfl) ?_
          show Run _ _ _ _ _ _ _ _ _ _ _ _ T139 (mkF m 156 #[.val (.int x0), .val (.int size), .val (.int fl), .val (.int (4 : Int32)), .val (.ref x101), .val (.ref y), .val (.ref y2), .val (.ref z)] [])
          refine Run.via (fun _ => XS.aload X139.at X139.ex rfl (X139.de at_156) rfl rfl) ?_
          show Run _ _ _ _ _ _ _ _ _ _ _ _ T139 (mkF m 158 #[.val (.int x0), .val (.int size), .val (.int fl), .val (.int (4 : Int32)), .val (.ref x101), .val (.ref y), .val (.ref y2), .val (.ref z)] [(.ref z)])
          refine Run.via (fun _ => XS.ifnullNo X139.at X139.ex rfl (X139.de at_158) rfl) ?_
          show Run _ _ _ _ _ _ _ _ _ _ _ _ T139 (mkF m 161 #[.val (.int x0), .val (.int size), .val (.int fl), .val (.int (4 : Int32)), .val (.ref x101), .val (.ref y), .val (.ref y2), .val (.ref z)] [])
          refine Run.via (fun _ => XS.aload X139.at X139.ex rfl (X139.de at_161) rfl rfl) ?_
          show Run _ _ _ _ _ _ _ _ _ _ _ _ T139 (mkF m 163 #[.val (.int x0), .val (.int size), .val (.int fl), .val (.int (4 : Int32)), .val (.ref x101), .val (.ref y), .val (.ref y2), .val (.ref z)] [(.ref z)])
          refine Run.via (fun _ => XS.aload X139.at X139.ex rfl (X139.de at_163) rfl rfl) ?_
          show Run _ _ _ _ _ _ _ _ _ _ _ _ T139 (mkF m 165 #[.val (.int x0), .val (.int size), .val (.int fl), .val (.int (4 : Int32)), .val (.ref x101), .val (.ref y), .val (.ref y2), .val (.ref z)] [(.ref y2), (.ref z)])
          refine Run.seq hw hS X139 (W := 0) SZ SX (wd hw 67 rfl) (wd hw 68 rfl) (wd hw 69 rfl) (wd hw 70 rfl) (wd hw 7 rfl) at_165 rfl (Nat.le_of_ble_eq_true rfl) (by decide) (by decide) (Nat.le_of_ble_eq_true rfl) (Nat.le_of_ble_eq_true rfl) ?_
          intro T140 X140
          show Run _ _ _ _ _ _ _ _ _ _ _ _ T140 (mkF m 168 #[.val (.int x0), .val (.int size), .val (.int fl), .val (.int (4 : Int32)), .val (.ref x101), .val (.ref y), .val (.ref y2), .val (.ref z)] [(.int (if ([d1, d2] : List Int32) = [d1, d2] then 1 else 0 : Int32))])
          rw [show (if ([d1, d2] : List Int32) = [d1, d2] then 1 else 0 : Int32) = (1 : Int32) from if_pos rfl]
          show Run _ _ _ _ _ _ _ _ _ _ _ _ T140 (mkF m 168 #[.val (.int x0), .val (.int size), .val (.int fl), .val (.int (4 : Int32)), .val (.ref x101), .val (.ref y), .val (.ref y2), .val (.ref z)] [(.int (1 : Int32))])
          refine Run.via (fun _ => XS.ifNo X140.at X140.ex rfl (X140.de at_168) rfl ((if0 _ _).trans (feq (by decide : ¬ ((1 : Int32) = (0 : Int32)))).1)) ?_
          show Run _ _ _ _ _ _ _ _ _ _ _ _ T140 (mkF m 171 #[.val (.int x0), .val (.int size), .val (.int fl), .val (.int (4 : Int32)), .val (.ref x101), .val (.ref y), .val (.ref y2), .val (.ref z)] [])
          refine Run.via (fun _ => XS.iconst X140.at X140.ex rfl (X140.de at_171)) ?_
          show Run _ _ _ _ _ _ _ _ _ _ _ _ T140 (mkF m 172 #[.val (.int x0), .val (.int size), .val (.int fl), .val (.int (4 : Int32)), .val (.ref x101), .val (.ref y), .val (.ref y2), .val (.ref z)] [(.int (1 : Int32))])
          refine Run.via (fun _ => XS.goto X140.at X140.ex rfl (pc0 := 172) (pc' := 176) rfl (X140.de at_172) (by decide) (by decide)) ?_
          show Run _ _ _ _ _ _ _ _ _ _ _ _ T140 (mkF m 176 #[.val (.int x0), .val (.int size), .val (.int fl), .val (.int (4 : Int32)), .val (.ref x101), .val (.ref y), .val (.ref y2), .val (.ref z)] [(.int (1 : Int32))])
          exact Run.retN X140 (t := .boolean) rfl (by simp) at_176 (Nat.le_of_ble_eq_true rfl) (Nat.le_of_ble_eq_true rfl) (rfl)
        ·
          refine Run.via (fun _ => XS.icmpYes X137.at X137.ex rfl (pc0 := 128) (pc' := 145) rfl (X137.de at_128) rfl (feq q1).2 (by decide) (by decide)) ?_
          show Run _ _ _ _ _ _ _ _ _ _ _ _ T137 (mkF m 145 #[.val (.int x0), .val (.int size), .val (.int fl), .val (.int (4 : Int32)), .val (.ref x101), .val (.ref y), .unset, .unset] [])
          refine Run.via (fun _ => XS.aload X137.at X137.ex rfl (X137.de at_145) rfl rfl) ?_
          show Run _ _ _ _ _ _ _ _ _ _ _ _ T137 (mkF m 147 #[.val (.int x0), .val (.int size), .val (.int fl), .val (.int (4 : Int32)), .val (.ref x101), .val (.ref y), .unset, .unset] [(.ref y)])
          refine Run.via (fun _ => XS.astore X137.at X137.ex rfl (X137.de at_147) rfl rfl (l' := #[.val (.int x0), .val (.int size), .val (.int fl), .val (.int (4 : Int32)), .val (.ref x101), .val (.ref y), .val (.ref y), .unset]) rfl) ?_
          show Run _ _ _ _ _ _ _ _ _ _ _ _ T137 (mkF m 149 #[.val (.int x0), .val (.int size), .val (.int fl), .val (.int (4 : Int32)), .val (.ref x101), .val (.ref y), .val (.ref y), .unset] [])
          refine Run.via (fun _ => XS.aload X137.at X137.ex rfl (X137.de at_149) rfl rfl) ?_
          show Run _ _ _ _ _ _ _ _ _ _ _ _ T137 (mkF m 151 #[.val (.int x0), .val (.int size), .val (.int fl), .val (.int (4 : Int32)), .val (.ref x101), .val (.ref y), .val (.ref y), .unset] [(.ref y)])
          refine Run.callS X137 (y := (⟨"com/example/sliceworks/sliceworks/web/Headers", "unquoted", "(Ljava/lang/String;)Ljava/lang/String;"⟩ : MethodName)) (W := 0) (con_uq l hw hS hN hmH hmL hl (Nat.le_of_ble_eq_true rfl) S X137.old) (wd hw 35 rfl) (wd hw 36 rfl) (wd hw 37 rfl) (wd hw 38 rfl) (by decide) pd__Ljava_lang_String__Ljava_lang_String_ rfl (argsL := [(.ref y)]) (rest := []) rfl (Nat.le_of_ble_eq_true rfl) rfl at_151 (by decide) (by decide) (Nat.le_of_ble_eq_true rfl) (Nat.le_of_ble_eq_true rfl) (nofun) (nofun) ?_
          intro v141 T141 h141 L141 q141 X141 XF141 K141
          obtain ⟨z, rfl, SZ⟩ := q141
          show Run _ _ _ _ _ _ _ _ _ _ _ _ T141 (mkF m 154 #[.val (.int x0), .val (.int size), .val (.int fl), .val (.int (4 : Int32)), .val (.ref x101), .val (.ref y), .val (.ref y), .unset] [(.ref z)])
          have SX := S.keep K141
          have eu : unq ([d0, d1, d2, d3] : List Int32) = [d0, d1, d2, d3] := by unfold unq; exact if_neg (fun z => q1 z.2.2)
          rw [eu] at SZ
          refine Run.via (fun _ => XS.astore X141.at X141.ex rfl (X141.de at_154) rfl rfl (l' := #[.val (.int x0), .val (.int size), .val (.int fl), .val (.int (4 : Int32)), .val (.ref x101), .val (.ref y), .val (.ref y), .val (.ref z)]) rfl) ?_
          show Run _ _ _ _ _ _ _ _ _ _ _ _ T141 (mkF m 156 #[.val (.int x0), .val (.int size), .val (.int fl), .val (.int (4 : Int32)), .val (.ref x101), .val (.ref y), .val (.ref y), .val (.ref z)] [])
          refine Run.via (fun _ => XS.aload X141.at X141.ex rfl (X141.de at_156) rfl rfl) ?_
          show Run _ _ _ _ _ _ _ _ _ _ _ _ T141 (mkF m 158 #[.val (.int x0), .val (.int size), .val (.int fl), .val (.int (4 : Int32)), .val (.ref x101), .val (.ref y), .val (.ref y), .val (.ref z)] [(.ref z)])
          refine Run.via (fun _ => XS.ifnullNo X141.at X141.ex rfl (X141.de at_158) rfl) ?_
          show Run _ _ _ _ _ _ _ _ _ _ _ _ T141 (mkF m 161 #[.val (.int x0), .val (.int size), .val (.int fl), .val (.int (4 : Int32)), .val (.ref x101), .val (.ref y), .val (.ref y), .val (.ref z)] [])
          refine Run.via (fun _ => XS.aload X141.at X141.ex rfl (X141.de at_161) rfl rfl) ?_
          show Run _ _ _ _ _ _ _ _ _ _ _ _ T141 (mkF m 163 #[.val (.int x0), .val (.int size), .val (.int fl), .val (.int (4 : Int32)), .val (.ref x101), .val (.ref y), .val (.ref y), .val (.ref z)] [(.ref z)])
          refine Run.via (fun _ => XS.aload X141.at X141.ex rfl (X141.de at_163) rfl rfl) ?_
          show Run _ _ _ _ _ _ _ _ _ _ _ _ T141 (mkF m 165 #[.val (.int x0), .val (.int size), .val (.int fl), .val (.int (4 : Int32)), .val (.ref x101), .val (.ref y), .val (.ref y), .val (.ref z)] [(.ref y), (.ref z)])
          refine Run.seq hw hS X141 (W := 0) SZ SX (wd hw 67 rfl) (wd hw 68 rfl) (wd hw 69 rfl) (wd hw 70 rfl) (wd hw 7 rfl) at_165 rfl (Nat.le_of_ble_eq_true rfl) (by decide) (by decide) (Nat.le_of_ble_eq_true rfl) (Nat.le_of_ble_eq_true rfl) ?_
          intro T142 X142
          show Run _ _ _ _ _ _ _ _ _ _ _ _ T142 (mkF m 168 #[.val (.int x0), .val (.int size), .val (.int fl), .val (.int (4 : Int32)), .val (.ref x101), .val (.ref y), .val (.ref y), .val (.ref z)] [(.int (if ([d0, d1, d2, d3] : List Int32) = [d0, d1, d2, d3] then 1 else 0 : Int32))])
          rw [show (if ([d0, d1, d2, d3] : List Int32) = [d0, d1, d2, d3] then 1 else 0 : Int32) = (1 : Int32) from if_pos rfl]
          show Run _ _ _ _ _ _ _ _ _ _ _ _ T142 (mkF m 168 #[.val (.int x0), .val (.int size), .val (.int fl), .val (.int (4 : Int32)), .val (.ref x101), .val (.ref y), .val (.ref y), .val (.ref z)] [(.int (1 : Int32))])
          refine Run.via (fun _ => XS.ifNo X142.at X142.ex rfl (X142.de at_168) rfl ((if0 _ _).trans (feq (by decide : ¬ ((1 : Int32) = (0 : Int32)))).1)) ?_
          show Run _ _ _ _ _ _ _ _ _ _ _ _ T142 (mkF m 171 #[.val (.int x0), .val (.int size), .val (.int fl), .val (.int (4 : Int32)), .val (.ref x101), .val (.ref y), .val (.ref y), .val (.ref z)] [])
          refine Run.via (fun _ => XS.iconst X142.at X142.ex rfl (X142.de at_171)) ?_
          show Run _ _ _ _ _ _ _ _ _ _ _ _ T142 (mkF m 172 #[.val (.int x0), .val (.int size), .val (.int fl), .val (.int (4 : Int32)), .val (.ref x101), .val (.ref y), .val (.ref y), .val (.ref z)] [(.int (1 : Int32))])
          refine Run.via (fun _ => XS.goto X142.at X142.ex rfl (pc0 := 172) (pc' := 176) rfl (X142.de at_172) (by decide) (by decide)) ?_
          show Run _ _ _ _ _ _ _ _ _ _ _ _ T142 (mkF m 176 #[.val (.int x0), .val (.int size), .val (.int fl), .val (.int (4 : Int32)), .val (.ref x101), .val (.ref y), .val (.ref y), .val (.ref z)] [(.int (1 : Int32))])
          exact Run.retN X142 (t := .boolean) rfl (by simp) at_176 (Nat.le_of_ble_eq_true rfl) (Nat.le_of_ble_eq_true rfl) (rfl)
      ·
        refine Run.via (fun _ => XS.icmpYes X137.at X137.ex rfl (pc0 := 117) (pc' := 145) rfl (X137.de at_117) rfl (feq q0).2 (by decide) (by decide)) ?_
        show Run _ _ _ _ _ _ _ _ _ _ _ _ T137 (mkF m 145 #[.val (.int x0), .val (.int size), .val (.int fl), .val (.int (4 : Int32)), .val (.ref x101), .val (.ref y), .unset, .unset] [])
        refine Run.via (fun _ => XS.aload X137.at X137.ex rfl (X137.de at_145) rfl rfl) ?_
        show Run _ _ _ _ _ _ _ _ _ _ _ _ T137 (mkF m 147 #[.val (.int x0), .val (.int size), .val (.int fl), .val (.int (4 : Int32)), .val (.ref x101), .val (.ref y), .unset, .unset] [(.ref y)])
        refine Run.via (fun _ => XS.astore X137.at X137.ex rfl (X137.de at_147) rfl rfl (l' := #[.val (.int x0), .val (.int size), .val (.int fl), .val (.int (4 : Int32)), .val (.ref x101), .val (.ref y), .val (.ref y), .unset]) rfl) ?_
        show Run _ _ _ _ _ _ _ _ _ _ _ _ T137 (mkF m 149 #[.val (.int x0), .val (.int size), .val (.int fl), .val (.int (4 : Int32)), .val (.ref x101), .val (.ref y), .val (.ref y), .unset] [])
        refine Run.via (fun _ => XS.aload X137.at X137.ex rfl (X137.de at_149) rfl rfl) ?_
        show Run _ _ _ _ _ _ _ _ _ _ _ _ T137 (mkF m 151 #[.val (.int x0), .val (.int size), .val (.int fl), .val (.int (4 : Int32)), .val (.ref x101), .val (.ref y), .val (.ref y), .unset] [(.ref y)])
        refine Run.callS X137 (y := (⟨"com/example/sliceworks/sliceworks/web/Headers", "unquoted", "(Ljava/lang/String;)Ljava/lang/String;"⟩ : MethodName)) (W := 0) (con_uq l hw hS hN hmH hmL hl (Nat.le_of_ble_eq_true rfl) S X137.old) (wd hw 35 rfl) (wd hw 36 rfl) (wd hw 37 rfl) (wd hw 38 rfl) (by decide) pd__Ljava_lang_String__Ljava_lang_String_ rfl (argsL := [(.ref y)]) (rest := []) rfl (Nat.le_of_ble_eq_true rfl) rfl at_151 (by decide) (by decide) (Nat.le_of_ble_eq_true rfl) (Nat.le_of_ble_eq_true rfl) (nofun) (nofun) ?_
        intro v143 T143 h143 L143 q143 X143 XF143 K143
        obtain ⟨z, rfl, SZ⟩ := q143
        show Run _ _ _ _ _ _ _ _ _ _ _ _ T143 (mkF m 154 #[.val (.int x0), .val (.int size), .val (.int fl), .val (.int (4 : Int32)), .val (.ref x101), .val (.ref y), .val (.ref y), .unset] [(.ref z)])
        have SX := S.keep K143
        have eu : unq ([d0, d1, d2, d3] : List Int32) = [d0, d1, d2, d3] := by unfold unq; exact if_neg (fun z => q0 z.2.1)
        rw [eu] at SZ
        refine Run.via (fun _ => XS.astore X143.at X143.ex rfl (X143.de at_154) rfl rfl (l' := #[.val (.int x0), .val (.int size), .val (.int fl), .val (.int (4 : Int32)), .val (.ref x101), .val (.ref y), .val (.ref y), .val (.ref z)]) rfl) ?_
        show Run _ _ _ _ _ _ _ _ _ _ _ _ T143 (mkF m 156 #[.val (.int x0), .val (.int size), .val (.int fl), .val (.int (4 : Int32)), .val (.ref x101), .val (.ref y), .val (.ref y), .val (.ref z)] [])
        refine Run.via (fun _ => XS.aload X143.at X143.ex rfl (X143.de at_156) rfl rfl) ?_
        show Run _ _ _ _ _ _ _ _ _ _ _ _ T143 (mkF m 158 #[.val (.int x0), .val (.int size), .val (.int fl), .val (.int (4 : Int32)), .val (.ref x101), .val (.ref y), .val (.ref y), .val (.ref z)] [(.ref z)])
        refine Run.via (fun _ => XS.ifnullNo X143.at X143.ex rfl (X143.de at_158) rfl) ?_
        show Run _ _ _ _ _ _ _ _ _ _ _ _ T143 (mkF m 161 #[.val (.int x0), .val (.int size), .val (.int fl), .val (.int (4 : Int32)), .val (.ref x101), .val (.ref y), .val (.ref y), .val (.ref z)] [])
        refine Run.via (fun _ => XS.aload X143.at X143.ex rfl (X143.de at_161) rfl rfl) ?_
        show Run _ _ _ _ _ _ _ _ _ _ _ _ T143 (mkF m 163 #[.val (.int x0), .val (.int size), .val (.int fl), .val (.int (4 : Int32)), .val (.ref x101), .val (.ref y), .val (.ref y), .val (.ref z)] [(.ref z)])
        refine Run.via (fun _ => XS.aload X143.at X143.ex rfl (X143.de at_163) rfl rfl) ?_
        show Run _ _ _ _ _ _ _ _ _ _ _ _ T143 (mkF m 165 #[.val (.int x0), .val (.int size), .val (.int fl), .val (.int (4 : Int32)), .val (.ref x101), .val (.ref y), .val (.ref y), .val (.ref z)] [(.ref y), (.ref z)])
        refine Run.seq hw hS X143 (W := 0) SZ SX (wd hw 67 rfl) (wd hw 68 rfl) (wd hw 69 rfl) (wd hw 70 rfl) (wd hw 7 rfl) at_165 rfl (Nat.le_of_ble_eq_true rfl) (by decide) (by decide) (Nat.le_of_ble_eq_true rfl) (Nat.le_of_ble_eq_true rfl) ?_
        intro T144 X144
        show Run _ _ _ _ _ _ _ _ _ _ _ _ T144 (mkF m 168 #[.val (.int x0), .val (.int size), .val (.int fl), .val (.int (4 : Int32)), .val (.ref x101), .val (.ref y), .val (.ref y), .val (.ref z)] [(.int (if ([d0, d1, d2, d3] : List Int32) = [d0, d1, d2, d3] then 1 else 0 : Int32))])
        rw [show (if ([d0, d1, d2, d3] : List Int32) = [d0, d1, d2, d3] then 1 else 0 : Int32) = (1 : Int32) from if_pos rfl]
        show Run _ _ _ _ _ _ _ _ _ _ _ _ T144 (mkF m 168 #[.val (.int x0), .val (.int size), .val (.int fl), .val (.int (4 : Int32)), .val (.ref x101), .val (.ref y), .val (.ref y), .val (.ref z)] [(.int (1 : Int32))])
        refine Run.via (fun _ => XS.ifNo X144.at X144.ex rfl (X144.de at_168) rfl ((if0 _ _).trans (feq (by decide : ¬ ((1 : Int32) = (0 : Int32)))).1)) ?_
        show Run _ _ _ _ _ _ _ _ _ _ _ _ T144 (mkF m 171 #[.val (.int x0), .val (.int size), .val (.int fl), .val (.int (4 : Int32)), .val (.ref x101), .val (.ref y), .val (.ref y), .val (.ref z)] [])
        refine Run.via (fun _ => XS.iconst X144.at X144.ex rfl (X144.de at_171)) ?_
        show Run _ _ _ _ _ _ _ _ _ _ _ _ T144 (mkF m 172 #[.val (.int x0), .val (.int size), .val (.int fl), .val (.int (4 : Int32)), .val (.ref x101), .val (.ref y), .val (.ref y), .val (.ref z)] [(.int (1 : Int32))])
        refine Run.via (fun _ => XS.goto X144.at X144.ex rfl (pc0 := 172) (pc' := 176) rfl (X144.de at_172) (by decide) (by decide)) ?_
        show Run _ _ _ _ _ _ _ _ _ _ _ _ T144 (mkF m 176 #[.val (.int x0), .val (.int size), .val (.int fl), .val (.int (4 : Int32)), .val (.ref x101), .val (.ref y), .val (.ref y), .val (.ref z)] [(.int (1 : Int32))])
        exact Run.retN X144 (t := .boolean) rfl (by simp) at_176 (Nat.le_of_ble_eq_true rfl) (Nat.le_of_ble_eq_true rfl) (rfl)
    refine Run.via (fun _ => XS.iloadN X105.at X105.ex rfl (X105.de at_61) rfl) ?_
    show Run _ _ _ _ _ _ _ _ _ _ _ _ T105 (mkF m 62 #[.val (.int x0), .val (.int size), .val (.int fl), .val (.int (4 : Int32)), .val (.ref x101), .unset, .unset, .unset] [(.int (4 : Int32))])
    refine Run.via (fun _ => XS.iconst X105.at X105.ex rfl (X105.de at_62)) ?_
    show Run _ _ _ _ _ _ _ _ _ _ _ _ T105 (mkF m 63 #[.val (.int x0), .val (.int size), .val (.int fl), .val (.int (4 : Int32)), .val (.ref x101), .unset, .unset, .unset] [(.int (1 : Int32)), (.int (4 : Int32))])
    refine Run.via (fun _ => XS.icmpNo X105.at X105.ex rfl (X105.de at_63) rfl (flt (by decide : ¬ ((4 : Int32) < (1 : Int32)))).1) ?_
    show Run _ _ _ _ _ _ _ _ _ _ _ _ T105 (mkF m 66 #[.val (.int x0), .val (.int size), .val (.int fl), .val (.int (4 : Int32)), .val (.ref x101), .unset, .unset, .unset] [])
    refine Run.via (fun _ => XS.iloadN X105.at X105.ex rfl (X105.de at_66) rfl) ?_
    show Run _ _ _ _ _ _ _ _ _ _ _ _ T105 (mkF m 67 #[.val (.int x0), .val (.int size), .val (.int fl), .val (.int (4 : Int32)), .val (.ref x101), .unset, .unset, .unset] [(.int fl)])
    refine Run.via (fun _ => XS.iconst X105.at X105.ex rfl (X105.de at_67)) ?_
    show Run _ _ _ _ _ _ _ _ _ _ _ _ T105 (mkF m 68 #[.val (.int x0), .val (.int size), .val (.int fl), .val (.int (4 : Int32)), .val (.ref x101), .unset, .unset, .unset] [(.int (1 : Int32)), (.int fl)])
    refine Run.via (fun _ => XS.iand X105.at X105.ex rfl (X105.de at_68) rfl) ?_
    show Run _ _ _ _ _ _ _ _ _ _ _ _ T105 (mkF m 69 #[.val (.int x0), .val (.int size), .val (.int fl), .val (.int (4 : Int32)), .val (.ref x101), .unset, .unset, .unset] [(.int (fl &&& (1 : Int32)))])
    by_cases f1 : (fl &&& (1 : Int32)) = (0 : Int32)
    ·
      refine Run.via (fun _ => XS.ifYes X105.at X105.ex rfl (pc0 := 69) (pc' := 78) rfl (X105.de at_69) rfl ((if0 _ _).trans (teq f1).1) (by decide) (by decide)) ?_
      show Run _ _ _ _ _ _ _ _ _ _ _ _ T105 (mkF m 78 #[.val (.int x0), .val (.int size), .val (.int fl), .val (.int (4 : Int32)), .val (.ref x101), .unset, .unset, .unset] [])
      refine Run.via (fun _ => XS.iloadN X105.at X105.ex rfl (X105.de at_78) rfl) ?_
      show Run _ _ _ _ _ _ _ _ _ _ _ _ T105 (mkF m 79 #[.val (.int x0), .val (.int size), .val (.int fl), .val (.int (4 : Int32)), .val (.ref x101), .unset, .unset, .unset] [(.int (4 : Int32))])
      refine Run.via (fun _ => XS.iconst X105.at X105.ex rfl (X105.de at_79)) ?_
      show Run _ _ _ _ _ _ _ _ _ _ _ _ T105 (mkF m 80 #[.val (.int x0), .val (.int size), .val (.int fl), .val (.int (4 : Int32)), .val (.ref x101), .unset, .unset, .unset] [(.int (1 : Int32)), (.int (4 : Int32))])
      refine Run.via (fun _ => XS.icmpNo X105.at X105.ex rfl (X105.de at_80) rfl (flt (by decide : ¬ ((4 : Int32) < (1 : Int32)))).1) ?_
      show Run _ _ _ _ _ _ _ _ _ _ _ _ T105 (mkF m 83 #[.val (.int x0), .val (.int size), .val (.int fl), .val (.int (4 : Int32)), .val (.ref x101), .unset, .unset, .unset] [])
      refine Run.via (fun _ => XS.iloadN X105.at X105.ex rfl (X105.de at_83) rfl) ?_
      show Run _ _ _ _ _ _ _ _ _ _ _ _ T105 (mkF m 84 #[.val (.int x0), .val (.int size), .val (.int fl), .val (.int (4 : Int32)), .val (.ref x101), .unset, .unset, .unset] [(.int fl)])
      refine Run.via (fun _ => XS.iconst X105.at X105.ex rfl (X105.de at_84)) ?_
      show Run _ _ _ _ _ _ _ _ _ _ _ _ T105 (mkF m 85 #[.val (.int x0), .val (.int size), .val (.int fl), .val (.int (4 : Int32)), .val (.ref x101), .unset, .unset, .unset] [(.int (2 : Int32)), (.int fl)])
      refine Run.via (fun _ => XS.iand X105.at X105.ex rfl (X105.de at_85) rfl) ?_
      show Run _ _ _ _ _ _ _ _ _ _ _ _ T105 (mkF m 86 #[.val (.int x0), .val (.int size), .val (.int fl), .val (.int (4 : Int32)), .val (.ref x101), .unset, .unset, .unset] [(.int (fl &&& (2 : Int32)))])
      by_cases f2 : (fl &&& (2 : Int32)) = (0 : Int32)
      ·
        refine Run.via (fun _ => XS.ifYes X105.at X105.ex rfl (pc0 := 86) (pc' := 97) rfl (X105.de at_86) rfl ((if0 _ _).trans (teq f2).1) (by decide) (by decide)) ?_
        show Run _ _ _ _ _ _ _ _ _ _ _ _ T105 (mkF m 97 #[.val (.int x0), .val (.int size), .val (.int fl), .val (.int (4 : Int32)), .val (.ref x101), .unset, .unset, .unset] [])
        exact J _ _ _ c0 c1 c2 c3 X105 r0 r1 r2 r3 A105
      ·
        refine Run.via (fun _ => XS.ifNo X105.at X105.ex rfl (X105.de at_86) rfl ((if0 _ _).trans (feq f2).1)) ?_
        show Run _ _ _ _ _ _ _ _ _ _ _ _ T105 (mkF m 89 #[.val (.int x0), .val (.int size), .val (.int fl), .val (.int (4 : Int32)), .val (.ref x101), .unset, .unset, .unset] [])
        refine Run.via (fun _ => XS.aload X105.at X105.ex rfl (X105.de at_89) rfl rfl) ?_
        show Run _ _ _ _ _ _ _ _ _ _ _ _ T105 (mkF m 91 #[.val (.int x0), .val (.int size), .val (.int fl), .val (.int (4 : Int32)), .val (.ref x101), .unset, .unset, .unset] [(.ref x101)])
        refine Run.via (fun _ => XS.iloadN X105.at X105.ex rfl (X105.de at_91) rfl) ?_
        show Run _ _ _ _ _ _ _ _ _ _ _ _ T105 (mkF m 92 #[.val (.int x0), .val (.int size), .val (.int fl), .val (.int (4 : Int32)), .val (.ref x101), .unset, .unset, .unset] [(.int (4 : Int32)), (.ref x101)])
        refine Run.via (fun _ => XS.iconst X105.at X105.ex rfl (X105.de at_92)) ?_
        show Run _ _ _ _ _ _ _ _ _ _ _ _ T105 (mkF m 93 #[.val (.int x0), .val (.int size), .val (.int fl), .val (.int (4 : Int32)), .val (.ref x101), .unset, .unset, .unset] [(.int (1 : Int32)), (.int (4 : Int32)), (.ref x101)])
        refine Run.via (fun _ => XS.isub X105.at X105.ex rfl (X105.de at_93) rfl) ?_
        show Run _ _ _ _ _ _ _ _ _ _ _ _ T105 (mkF m 94 #[.val (.int x0), .val (.int size), .val (.int fl), .val (.int (4 : Int32)), .val (.ref x101), .unset, .unset, .unset] [(.int (3 : Int32)), (.ref x101)])
        refine Run.via (fun _ => XS.bipush X105.at X105.ex rfl (X105.de at_94)) ?_
        show Run _ _ _ _ _ _ _ _ _ _ _ _ T105 (mkF m 96 #[.val (.int x0), .val (.int size), .val (.int fl), .val (.int (4 : Int32)), .val (.ref x101), .unset, .unset, .unset] [(.int (34 : Int32)), (.int (3 : Int32)), (.ref x101)])
        refine Run.castore X105 (i := 3) (v' := (34 : Int32)) A105 rfl (Nat.le_of_ble_eq_true rfl) (nar_lat (by decide)) (Or.inr (by omega)) (by omega) at_96 ?_
        intro T145 h145 L145 X145 K145 z145 A145
        have A145 : Arc .char Z h145 x101 [c0, c1, c2, (34 : Int32)] := A145
        show Run _ _ _ _ _ _ _ _ _ _ _ _ T145 (mkF m 97 #[.val (.int x0), .val (.int size), .val (.int fl), .val (.int (4 : Int32)), .val (.ref x101), .unset, .unset, .unset] [])
        exact J _ _ _ c0 c1 c2 (34 : Int32) X145 r0 r1 r2 (by decide) A145
    ·
      refine Run.via (fun _ => XS.ifNo X105.at X105.ex rfl (X105.de at_69) rfl ((if0 _ _).trans (feq f1).1)) ?_
      show Run _ _ _ _ _ _ _ _ _ _ _ _ T105 (mkF m 72 #[.val (.int x0), .val (.int size), .val (.int fl), .val (.int (4 : Int32)), .val (.ref x101), .unset, .unset, .unset] [])
      refine Run.via (fun _ => XS.aload X105.at X105.ex rfl (X105.de at_72) rfl rfl) ?_
      show Run _ _ _ _ _ _ _ _ _ _ _ _ T105 (mkF m 74 #[.val (.int x0), .val (.int size), .val (.int fl), .val (.int (4 : Int32)), .val (.ref x101), .unset, .unset, .unset] [(.ref x101)])
      refine Run.via (fun _ => XS.iconst X105.at X105.ex rfl (X105.de at_74)) ?_
      show Run _ _ _ _ _ _ _ _ _ _ _ _ T105 (mkF m 75 #[.val (.int x0), .val (.int size), .val (.int fl), .val (.int (4 : Int32)), .val (.ref x101), .unset, .unset, .unset] [(.int (0 : Int32)), (.ref x101)])
      refine Run.via (fun _ => XS.bipush X105.at X105.ex rfl (X105.de at_75)) ?_
      show Run _ _ _ _ _ _ _ _ _ _ _ _ T105 (mkF m 77 #[.val (.int x0), .val (.int size), .val (.int fl), .val (.int (4 : Int32)), .val (.ref x101), .unset, .unset, .unset] [(.int (34 : Int32)), (.int (0 : Int32)), (.ref x101)])
      refine Run.castore X105 (i := 0) (v' := (34 : Int32)) A105 rfl (Nat.le_of_ble_eq_true rfl) (nar_lat (by decide)) (Or.inr (by omega)) (by omega) at_77 ?_
      intro T146 h146 L146 X146 K146 z146 A146
      have A146 : Arc .char Z h146 x101 [(34 : Int32), c1, c2, c3] := A146
      show Run _ _ _ _ _ _ _ _ _ _ _ _ T146 (mkF m 78 #[.val (.int x0), .val (.int size), .val (.int fl), .val (.int (4 : Int32)), .val (.ref x101), .unset, .unset, .unset] [])
      refine Run.via (fun _ => XS.iloadN X146.at X146.ex rfl (X146.de at_78) rfl) ?_
      show Run _ _ _ _ _ _ _ _ _ _ _ _ T146 (mkF m 79 #[.val (.int x0), .val (.int size), .val (.int fl), .val (.int (4 : Int32)), .val (.ref x101), .unset, .unset, .unset] [(.int (4 : Int32))])
      refine Run.via (fun _ => XS.iconst X146.at X146.ex rfl (X146.de at_79)) ?_
      show Run _ _ _ _ _ _ _ _ _ _ _ _ T146 (mkF m 80 #[.val (.int x0), .val (.int size), .val (.int fl), .val (.int (4 : Int32)), .val (.ref x101), .unset, .unset, .unset] [(.int (1 : Int32)), (.int (4 : Int32))])
      refine Run.via (fun _ => XS.icmpNo X146.at X146.ex rfl (X146.de at_80) rfl (flt (by decide : ¬ ((4 : Int32) < (1 : Int32)))).1) ?_
      show Run _ _ _ _ _ _ _ _ _ _ _ _ T146 (mkF m 83 #[.val (.int x0), .val (.int size), .val (.int fl), .val (.int (4 : Int32)), .val (.ref x101), .unset, .unset, .unset] [])
      refine Run.via (fun _ => XS.iloadN X146.at X146.ex rfl (X146.de at_83) rfl) ?_
      show Run _ _ _ _ _ _ _ _ _ _ _ _ T146 (mkF m 84 #[.val (.int x0), .val (.int size), .val (.int fl), .val (.int (4 : Int32)), .val (.ref x101), .unset, .unset, .unset] [(.int fl)])
      refine Run.via (fun _ => XS.iconst X146.at X146.ex rfl (X146.de at_84)) ?_
      show Run _ _ _ _ _ _ _ _ _ _ _ _ T146 (mkF m 85 #[.val (.int x0), .val (.int size), .val (.int fl), .val (.int (4 : Int32)), .val (.ref x101), .unset, .unset, .unset] [(.int (2 : Int32)), (.int fl)])
      refine Run.via (fun _ => XS.iand X146.at X146.ex rfl (X146.de at_85) rfl) ?_
      show Run _ _ _ _ _ _ _ _ _ _ _ _ T146 (mkF m 86 #[.val (.int x0), .val (.int size), .val (.int fl), .val (.int (4 : Int32)), .val (.ref x101), .unset, .unset, .unset] [(.int (fl &&& (2 : Int32)))])
      by_cases f2 : (fl &&& (2 : Int32)) = (0 : Int32)
      ·
        refine Run.via (fun _ => XS.ifYes X146.at X146.ex rfl (pc0 := 86) (pc' := 97) rfl (X146.de at_86) rfl ((if0 _ _).trans (teq f2).1) (by decide) (by decide)) ?_
        show Run _ _ _ _ _ _ _ _ _ _ _ _ T146 (mkF m 97 #[.val (.int x0), .val (.int size), .val (.int fl), .val (.int (4 : Int32)), .val (.ref x101), .unset, .unset, .unset] [])
        exact J _ _ _ (34 : Int32) c1 c2 c3 X146 (by decide) r1 r2 r3 A146
      ·
        refine Run.via (fun _ => XS.ifNo X146.at X146.ex rfl (X146.de at_86) rfl ((if0 _ _).trans (feq f2).1)) ?_
        show Run _ _ _ _ _ _ _ _ _ _ _ _ T146 (mkF m 89 #[.val (.int x0), .val (.int size), .val (.int fl), .val (.int (4 : Int32)), .val (.ref x101), .unset, .unset, .unset] [])
        refine Run.via (fun _ => XS.aload X146.at X146.ex rfl (X146.de at_89) rfl rfl) ?_
        show Run _ _ _ _ _ _ _ _ _ _ _ _ T146 (mkF m 91 #[.val (.int x0), .val (.int size), .val (.int fl), .val (.int (4 : Int32)), .val (.ref x101), .unset, .unset, .unset] [(.ref x101)])
        refine Run.via (fun _ => XS.iloadN X146.at X146.ex rfl (X146.de at_91) rfl) ?_
        show Run _ _ _ _ _ _ _ _ _ _ _ _ T146 (mkF m 92 #[.val (.int x0), .val (.int size), .val (.int fl), .val (.int (4 : Int32)), .val (.ref x101), .unset, .unset, .unset] [(.int (4 : Int32)), (.ref x101)])
        refine Run.via (fun _ => XS.iconst X146.at X146.ex rfl (X146.de at_92)) ?_
        show Run _ _ _ _ _ _ _ _ _ _ _ _ T146 (mkF m 93 #[.val (.int x0), .val (.int size), .val (.int fl), .val (.int (4 : Int32)), .val (.ref x101), .unset, .unset, .unset] [(.int (1 : Int32)), (.int (4 : Int32)), (.ref x101)])
        refine Run.via (fun _ => XS.isub X146.at X146.ex rfl (X146.de at_93) rfl) ?_
        show Run _ _ _ _ _ _ _ _ _ _ _ _ T146 (mkF m 94 #[.val (.int x0), .val (.int size), .val (.int fl), .val (.int (4 : Int32)), .val (.ref x101), .unset, .unset, .unset] [(.int (3 : Int32)), (.ref x101)])
        refine Run.via (fun _ => XS.bipush X146.at X146.ex rfl (X146.de at_94)) ?_
        show Run _ _ _ _ _ _ _ _ _ _ _ _ T146 (mkF m 96 #[.val (.int x0), .val (.int size), .val (.int fl), .val (.int (4 : Int32)), .val (.ref x101), .unset, .unset, .unset] [(.int (34 : Int32)), (.int (3 : Int32)), (.ref x101)])
        refine Run.castore X146 (i := 3) (v' := (34 : Int32)) A146 rfl (Nat.le_of_ble_eq_true rfl) (nar_lat (by decide)) (Or.inr (by omega)) (by omega) at_96 ?_
        intro T147 h147 L147 X147 K147 z147 A147
        have A147 : Arc .char Z h147 x101 [(34 : Int32), c1, c2, (34 : Int32)] := A147
        show Run _ _ _ _ _ _ _ _ _ _ _ _ T147 (mkF m 97 #[.val (.int x0), .val (.int size), .val (.int fl), .val (.int (4 : Int32)), .val (.ref x101), .unset, .unset, .unset] [])
        exact J _ _ _ (34 : Int32) c1 c2 (34 : Int32) X147 (by decide) r1 r2 (by decide) A147
-- part comes
set_option maxRecDepth 65536 in
set_option maxHeartbeats 40000000 in
theorem comes_1 {Post : Tables → Env → Array Value → State → Outcome → State → Prop} (hpost : ∀ tb e args s v u, (limb_1_1.after args s (.returned v) u = true ∧ limb_1_2.after args s (.returned v) u = true ∧ True) → ReturnedEndW s (.returned v) u (Jvm.fieldLocs frame_1_writes args s ++ Jvm.arrayLocs frame_1_arrays args s ++ Jvm.staticLocs frame_1_statics s) 32 3264 → Post tb e args s (.returned v) u) :
    ArmFor flags0 classFile x code maxLocals ret World_1 tables_1 room_1 Calls_1 rest_1 Pre_1 Post := by
  intro l hfl _ _ p e ha hc hk s m args below hf hA hF happ hP
  obtain ⟨hcalls, hrest, hpre⟩ := hP
  obtain ⟨-, -, -, hnamed, -, -, -, hat⟩ := (Spec.applies_iff hf).mp happ
  obtain ⟨hg, hn⟩ := and_e (Cond.before_iff.mp (show (Jvm.Cond.and given_1 narrow_1).before args s = true from hpre))
  obtain ⟨hcount, hg0⟩ := and_e hg
  obtain ⟨ga0, hg1⟩ := and_e hg0
  obtain ⟨ga1, hg2⟩ := and_e hg1
  have ga2 := hg2
  obtain ⟨w0, w1, w2, rfl⟩ : ∃ w0 w1 w2 : Value, args = #[w0, w1, w2] := by
    have hs : args.size = 3 := by simpa [Cond.value, given_1] using hcount
    obtain ⟨L⟩ := args
    match L, hs with
    | [w0, w1, w2], _ => exact ⟨w0, w1, w2, rfl⟩
  have hw := fun d (hd : d ∈ tables_1) => atoms_spec (ws := Jvm.Cond.code x code maxLocals ret :: tables_1) hat d (List.mem_cons_of_mem _ hd)
  obtain ⟨i0, ei0⟩ := is_v ga0
  obtain rfl : w0 = (.int i0) := Option.some.inj ei0
  obtain ⟨i1, ei1⟩ := is_v ga1
  obtain rfl : w1 = (.int i1) := Option.some.inj ei1
  obtain ⟨i2, ei2⟩ := is_v ga2
  obtain rfl : w2 = (.int i2) := Option.some.inj ei2
  obtain ⟨hsets, hown0⟩ := atoms_of _ (rest_1_c_eq ▸ (show rest_1_c.before _ s = true from hrest))
  have hS : Sets s := setsOf hsets
  have hEW : EW s _ consts_1 := (EW.cons (wd hw 49 rfl) (by decide) (EW.cons (wd hw 72 rfl) (by decide) (EW.cons (wd hw 100 rfl) (by decide) EW.nil)))
  have hCH : CHv s consts_1 s.vm s.heap := CHv.start hEW (fun p hp => hcalls.1 p hp) (hsets _ (List.mem_of_getElem? (i := 2) rfl)) (wd hw 24 rfl) (wd hw 7 rfl)
  obtain ⟨n, o, h1, h2, h3, _, L, rfl, ⟨N, -, rfl⟩, -, hq, hnw, -⟩ := con_law l hw hS rfl (by decide) (by decide) (by decide) (x0 := i0) (size := i1) (fl := i2) (h0 := s.heap) ⟨Nat.le_refl _, fun _ _ q => q⟩ hEW tables_1 p e ha hc hk s m _ below hf ((Spec.applies_iff_loose hf).mp happ).1 ⟨rfl, State.Warmed39.refl s, rfl, hCH, nofun⟩ trivial
  refine ⟨n, _, h1, h2, h3, hpost _ _ _ _ _ _ ⟨Cond.after_iff.mpr rfl, Cond.after_iff.mpr (eq_i res_at (Term.int_eval (1)) rfl), trivial⟩ ⟨hq.1, hq.2.1, hq.2.2.1, (hq.2.2.2.sift fun y hy => Or.inr (N y hy)).mono (by decide) (by decide)⟩⟩
theorem main_1_1 : Claimed_1_1 := comes_1 fun _ _ _ _ _ _ h hF => ⟨h.1, hF⟩
theorem main_1_2 : Claimed_1_2 := comes_1 fun _ _ _ _ _ _ h hF => ⟨h.2.1, hF⟩
end Jvm.Pilot.@@N@@
-- part witness
namespace Jvm.Pilot.@@N@@
open Jvm Jvm.ClassFile Sem Op Lib Jvm.Free Jvm.Stand Jvm.Pilot.@@N@@.Jvm.D
/-! MADE BY PROGRAM (witnessworld.py) out of the Statement's table words and the real class files: 23 classes; the members and pool entries that the words name. The judged class is class 1, her method 2. -/
namespace start1
open Jvm.ClassFile
def u (s : String) : CpInfo := .utf8 (stringToUtf16 s)
/-- a pool by its gaps: so many unusable entries, then the entry; so many at the end -/
def gap : Nat → List CpInfo → List CpInfo
  | 0, r => r
  | n + 1, r => .unusable :: gap n r
def poolList (es : List (Nat × CpInfo)) (last : Nat) : List CpInfo := es.foldr (fun e r => gap e.1 (e.2 :: r)) (gap last [])
def pool (es : List (Nat × CpInfo)) (last : Nat) : Array CpInfo := ⟨poolList es last⟩
def fileOf (pool : Array CpInfo) (this : Nat) (attrs : Array Attribute := #[]) (ms : Array MethodInfo := #[]) (fl : Nat := 33) (sup : Nat := 0) (ifs : Array Nat := #[]) (fds : Array FieldInfo := #[]) : ClassFile where
  minorVersion := 0
  majorVersion := 65
  constantPool := pool
  accessFlags := fl
  thisClass := this
  superClass := sup
  interfaces := ifs
  fields := fds
  methods := ms
  attributes := attrs
def plain (name : String) (sup : Option ClassId) : Class where
  name := name
  kind := .ordinary
  loader := none
  accessFlags := 33
  super := sup
  interfaces := #[]
  cf := none
  fields := #[]
  methods := #[]
  instanceTypes := #[]
  staticTypes := #[]
  resolved := #[]
  callSites := []
  init := .initialized
  statics := none
  mirror := none

def pool0 : Array CpInfo := pool [(5, u "<init>"), (0, u "()V"), (1, .class_ 10), (1, u "java/lang/Object")] 113

def k0c0 : Code := { maxStack := 0, maxLocals := 1, code := object_method_1_code, exceptionTable := #[], attributes := #[] }
def k0m0 : Method := { name := "<init>", desc := "()V", sig := { parameters := [], returnType := none }, accessFlags := 1, code := some k0c0 }
/-- java/lang/Object -/
def k0 : Class := { plain "java/lang/Object" none with
  accessFlags := 33
  interfaces := #[]
  cf := some (fileOf pool0 8 #[] #[{ accessFlags := 1, nameIndex := 5, descriptorIndex := 6, attributes := #[] }] 33 0 #[] #[])
  fields := #[]
  methods := #[k0m0]
  instanceTypes := #[]
  staticTypes := #[]
  resolved := Array.replicate 124 none
  statics := none }

def pool1 : Array CpInfo := pool [(2, .class_ 4), (1, u "java/lang/Object"), (0, u "<init>"), (0, u "()V"), (0, .class_ 8), (0, u "java/lang/String"), (0, .methodref 7 10), (0, .nameAndType 5 11), (0, u "([C)V"), (0, .integer 2147483647), (0, .methodref 14 15), (0, .class_ 16), (0, .nameAndType 17 18), (0, u "com/example/sliceworks/sliceworks/web/HeadersUnquotedPinLaw"), (0, u "make"), (0, u "([CII)Ljava/lang/String;"), (0, .methodref 20 21), (0, .class_ 22), (0, .nameAndType 23 24), (0, u "com/example/sliceworks/sliceworks/web/Headers"), (0, u "unquoted"), (0, u "(Ljava/lang/String;)Ljava/lang/String;"), (0, .methodref 7 26), (0, .nameAndType 27 28), (0, u "equals"), (0, u "(Ljava/lang/Object;)Z"), (3, u "law"), (0, u "(III)Z")] 4

def k1m0 : Method := { name := "<init>", desc := "()V", sig := { parameters := [], returnType := none }, accessFlags := 1, code := none }
def k1c1 : Code := { maxStack := 8, maxLocals := 3, code := method_2_code, exceptionTable := #[], attributes := #[] }
def k1m1 : Method := { name := "make", desc := "([CII)Ljava/lang/String;", sig := { parameters := [(.array .char), .int, .int], returnType := some (.object "java/lang/String") }, accessFlags := 10, code := some k1c1 }
def k1c2 : Code := { maxStack := 4, maxLocals := 8, code := code, exceptionTable := #[], attributes := #[] }
def k1m2 : Method := { name := "law", desc := "(III)Z", sig := { parameters := [.int, .int, .int], returnType := some .boolean }, accessFlags := 9, code := some k1c2 }
/-- com/example/sliceworks/sliceworks/web/HeadersUnquotedPinLaw -/
def k1 : Class := { plain "com/example/sliceworks/sliceworks/web/HeadersUnquotedPinLaw" (some 0) with
  accessFlags := 49
  interfaces := #[]
  cf := some (fileOf pool1 14 #[] #[{ accessFlags := 1, nameIndex := 5, descriptorIndex := 6, attributes := #[] }, { accessFlags := 10, nameIndex := 17, descriptorIndex := 18, attributes := #[] }, { accessFlags := 9, nameIndex := 32, descriptorIndex := 33, attributes := #[] }] 49 2 #[] #[])
  fields := #[]
  methods := #[k1m0, k1m1, k1m2]
  instanceTypes := #[]
  staticTypes := #[]
  resolved := Array.replicate 38 none
  statics := none }

def pool2 : Array CpInfo := pool [(1, .class_ 2), (0, u "java/io/Serializable"), (0, .class_ 4), (0, u "java/lang/Object")] 2

/-- java/io/Serializable -/
def k2 : Class := { plain "java/io/Serializable" (some 0) with
  accessFlags := 1537
  interfaces := #[]
  cf := some (fileOf pool2 1 #[] #[] 1537 3 #[] #[])
  fields := #[]
  methods := #[]
  instanceTypes := #[]
  staticTypes := #[]
  resolved := Array.replicate 7 none
  statics := none }

def pool3 : Array CpInfo := pool [(1, .class_ 2), (0, u "java/lang/Comparable"), (0, .class_ 4), (0, u "java/lang/Object")] 7

/-- java/lang/Comparable -/
def k3 : Class := { plain "java/lang/Comparable" (some 0) with
  accessFlags := 1537
  interfaces := #[]
  cf := some (fileOf pool3 1 #[] #[] 1537 3 #[] #[])
  fields := #[]
  methods := #[]
  instanceTypes := #[]
  staticTypes := #[]
  resolved := Array.replicate 12 none
  statics := none }

def pool4 : Array CpInfo := pool [(2, .class_ 4), (1, u "java/lang/CharSequence"), (42, .class_ 48), (0, u "java/lang/CharSequence$1CodePointIterator"), (10, .class_ 60), (0, u "java/lang/CharSequence$1CharIterator"), (5, .class_ 67), (0, u "java/lang/Object")] 63

/-- java/lang/CharSequence -/
def k4 : Class := { plain "java/lang/CharSequence" (some 0) with
  accessFlags := 1537
  interfaces := #[]
  cf := some (fileOf pool4 2 #[.nestMembers #[47, 59]] #[] 1537 66 #[] #[])
  fields := #[]
  methods := #[]
  instanceTypes := #[]
  staticTypes := #[]
  resolved := Array.replicate 131 none
  statics := none }

def pool5 : Array CpInfo := pool [(1, .class_ 2), (0, u "java/lang/constant/Constable"), (0, .class_ 4), (0, u "java/lang/Object")] 6

/-- java/lang/constant/Constable -/
def k5 : Class := { plain "java/lang/constant/Constable" (some 0) with
  accessFlags := 1537
  interfaces := #[]
  cf := some (fileOf pool5 1 #[] #[] 1537 3 #[] #[])
  fields := #[]
  methods := #[]
  instanceTypes := #[]
  staticTypes := #[]
  resolved := Array.replicate 11 none
  statics := none }

def pool6 : Array CpInfo := pool [(1, .class_ 2), (0, u "java/lang/constant/ConstantDesc"), (0, .class_ 4), (0, u "java/lang/Object")] 32

/-- java/lang/constant/ConstantDesc -/
def k6 : Class := { plain "java/lang/constant/ConstantDesc" (some 0) with
  accessFlags := 1537
  interfaces := #[]
  cf := some (fileOf pool6 1 #[] #[] 1537 3 #[] #[])
  fields := #[]
  methods := #[]
  instanceTypes := #[]
  staticTypes := #[]
  resolved := Array.replicate 37 none
  statics := none }

def pool7 : Array CpInfo := pool [(1, .methodref 2 3), (0, .class_ 4), (0, .nameAndType 5 6), (0, u "java/lang/Object"), (0, u "<init>"), (0, u "()V"), (0, .string 8), (0, u ""), (0, .fieldref 10 11), (0, .class_ 12), (0, .nameAndType 13 14), (0, u "java/lang/String"), (0, u "value"), (0, u "[B"), (0, .fieldref 10 16), (0, .nameAndType 17 18), (0, u "coder"), (0, u "B"), (2, u "hash"), (0, u "I"), (2, u "hashIsZero"), (0, u "Z"), (0, .methodref 10 28), (0, .nameAndType 5 29), (0, u "([CIILjava/lang/Void;)V"), (8, .fieldref 10 39), (0, .nameAndType 40 26), (0, u "COMPACT_STRINGS"), (1, .class_ 44), (1, u "java/lang/StringUTF16"), (0, u "compress"), (1, .methodref 42 48), (0, .nameAndType 49 50), (0, u "coderFromArrayLen"), (0, u "([BI)B"), (56, .class_ 109), (1, u "java/lang/StringLatin1"), (32, u "()Z"), (34, .methodref 42 178), (0, .nameAndType 45 179), (0, u "([CII)[B"), (31, u "([BB)V"), (122, u "()I"), (0, .methodref 10 336), (0, .nameAndType 17 337), (0, u "()B"), (38, u "([BI[BII)I"), (115, .methodref 10 493), (0, .nameAndType 494 142), (0, u "isLatin1"), (10, .methodref 10 506), (0, .nameAndType 507 334), (0, u "length"), (5, u "checkFromToIndex"), (7, .methodref 10 522), (0, .nameAndType 523 524), (0, u "checkBoundsBeginEnd"), (0, u "(III)V"), (16, .methodref 107 542), (0, .nameAndType 543 544), (0, u "equals"), (0, u "([B[B)Z"), (14, .class_ 561), (1, u "jdk/internal/util/ArraysSupport"), (0, u "mismatch"), (10, u "(Ljava/lang/Object;)Z"), (1, .class_ 576), (0, u "java/lang/CharSequence"), (22, u "CASE_INSENSITIVE_ORDER"), (0, u "Ljava/util/Comparator;"), (6, .methodref 559 608), (0, .nameAndType 562 376), (15, .methodref 10 625), (0, .nameAndType 626 627), (0, u "startsWith"), (0, u "(Ljava/lang/String;I)Z"), (55, u "substring"), (0, u "(II)Ljava/lang/String;"), (0, .methodref 107 686), (0, .nameAndType 687 688), (0, u "newString"), (0, u "([BII)Ljava/lang/String;"), (321, u "([C)V"), (42, .fieldref 1054 1055), (0, .class_ 1056), (0, .nameAndType 1057 1058), (0, u "jdk/internal/util/Preconditions"), (0, u "SIOOBE_FORMATTER"), (0, u "Ljava/util/function/BiFunction;"), (3, .methodref 1054 1063), (0, .nameAndType 513 1064), (0, u "(IIILjava/util/function/BiFunction;)I"), (36, u "serialPersistentFields"), (0, u "[Ljava/io/ObjectStreamField;"), (0, .class_ 1104), (0, u "java/lang/String$CaseInsensitiveComparator"), (1, .class_ 1107), (0, u "java/io/Serializable"), (0, .class_ 1109), (0, u "java/lang/Comparable"), (0, .class_ 1111), (0, u "java/lang/constant/Constable"), (0, .class_ 1113), (0, u "java/lang/constant/ConstantDesc"), (2, u "serialVersionUID"), (0, u "J"), (3, u "REPL"), (0, u "C"), (2, u "LATIN1"), (1, u "UTF16"), (129, u "(Ljava/lang/String;)Z"), (14, u "endsWith")] 178

def k7m0 : Method := { name := "<init>", desc := "()V", sig := { parameters := [], returnType := none }, accessFlags := 1, code := none }
def k7c1 : Code := { maxStack := 5, maxLocals := 2, code := jdk_42_method_3_code, exceptionTable := #[], attributes := #[] }
def k7m1 : Method := { name := "<init>", desc := "([C)V", sig := { parameters := [(.array .char)], returnType := none }, accessFlags := 1, code := some k7c1 }
def k7c2 : Code := { maxStack := 2, maxLocals := 1, code := jdk_42_method_54_code, exceptionTable := #[], attributes := #[] }
def k7m2 : Method := { name := "length", desc := "()I", sig := { parameters := [], returnType := some .int }, accessFlags := 1, code := some k7c2 }
def k7c3 : Code := { maxStack := 2, maxLocals := 3, code := jdk_42_method_66_code, exceptionTable := #[], attributes := #[] }
def k7m3 : Method := { name := "equals", desc := "(Ljava/lang/Object;)Z", sig := { parameters := [(.object "java/lang/Object")], returnType := some .boolean }, accessFlags := 1, code := some k7c3 }
def k7c4 : Code := { maxStack := 5, maxLocals := 8, code := jdk_42_method_75_code, exceptionTable := #[], attributes := #[] }
def k7m4 : Method := { name := "startsWith", desc := "(Ljava/lang/String;I)Z", sig := { parameters := [(.object "java/lang/String"), .int], returnType := some .boolean }, accessFlags := 1, code := some k7c4 }
def k7c5 : Code := { maxStack := 3, maxLocals := 2, code := jdk_42_method_76_code, exceptionTable := #[], attributes := #[] }
def k7m5 : Method := { name := "startsWith", desc := "(Ljava/lang/String;)Z", sig := { parameters := [(.object "java/lang/String")], returnType := some .boolean }, accessFlags := 1, code := some k7c5 }
def k7c6 : Code := { maxStack := 4, maxLocals := 2, code := jdk_42_method_77_code, exceptionTable := #[], attributes := #[] }
def k7m6 : Method := { name := "endsWith", desc := "(Ljava/lang/String;)Z", sig := { parameters := [(.object "java/lang/String")], returnType := some .boolean }, accessFlags := 1, code := some k7c6 }
def k7c7 : Code := { maxStack := 3, maxLocals := 5, code := jdk_42_method_92_code, exceptionTable := #[], attributes := #[] }
def k7m7 : Method := { name := "substring", desc := "(II)Ljava/lang/String;", sig := { parameters := [.int, .int], returnType := some (.object "java/lang/String") }, accessFlags := 1, code := some k7c7 }
def k7c8 : Code := { maxStack := 4, maxLocals := 6, code := jdk_42_method_149_code, exceptionTable := #[], attributes := #[] }
def k7m8 : Method := { name := "<init>", desc := "([CIILjava/lang/Void;)V", sig := { parameters := [(.array .char), .int, .int, (.object "java/lang/Void")], returnType := none }, accessFlags := 2, code := some k7c8 }
def k7c9 : Code := { maxStack := 2, maxLocals := 3, code := jdk_42_method_151_code, exceptionTable := #[], attributes := #[] }
def k7m9 : Method := { name := "<init>", desc := "([BB)V", sig := { parameters := [(.array .byte), .byte], returnType := none }, accessFlags := 0, code := some k7c9 }
def k7c10 : Code := { maxStack := 1, maxLocals := 1, code := jdk_42_method_152_code, exceptionTable := #[], attributes := #[] }
def k7m10 : Method := { name := "coder", desc := "()B", sig := { parameters := [], returnType := some .byte }, accessFlags := 0, code := some k7c10 }
def k7c11 : Code := { maxStack := 1, maxLocals := 1, code := jdk_42_method_154_code, exceptionTable := #[], attributes := #[] }
def k7m11 : Method := { name := "isLatin1", desc := "()Z", sig := { parameters := [], returnType := some .boolean }, accessFlags := 0, code := some k7c11 }
def k7c12 : Code := { maxStack := 4, maxLocals := 3, code := jdk_42_method_158_code, exceptionTable := #[], attributes := #[] }
def k7m12 : Method := { name := "checkBoundsBeginEnd", desc := "(III)V", sig := { parameters := [.int, .int, .int], returnType := none }, accessFlags := 8, code := some k7c12 }
/-- java/lang/String -/
def k7 : Class := { plain "java/lang/String" (some 0) with
  accessFlags := 49
  interfaces := #[2, 3, 4, 5, 6]
  cf := some (fileOf pool7 10 #[.nestMembers #[1103]] #[{ accessFlags := 1, nameIndex := 5, descriptorIndex := 6, attributes := #[] }, { accessFlags := 1, nameIndex := 5, descriptorIndex := 1010, attributes := #[] }, { accessFlags := 1, nameIndex := 507, descriptorIndex := 334, attributes := #[] }, { accessFlags := 1, nameIndex := 543, descriptorIndex := 573, attributes := #[] }, { accessFlags := 1, nameIndex := 626, descriptorIndex := 627, attributes := #[] }, { accessFlags := 1, nameIndex := 626, descriptorIndex := 1257, attributes := #[] }, { accessFlags := 1, nameIndex := 1272, descriptorIndex := 1257, attributes := #[] }, { accessFlags := 1, nameIndex := 683, descriptorIndex := 684, attributes := #[] }, { accessFlags := 2, nameIndex := 5, descriptorIndex := 29, attributes := #[] }, { accessFlags := 0, nameIndex := 5, descriptorIndex := 211, attributes := #[] }, { accessFlags := 0, nameIndex := 17, descriptorIndex := 337, attributes := #[] }, { accessFlags := 0, nameIndex := 494, descriptorIndex := 142, attributes := #[] }, { accessFlags := 8, nameIndex := 523, descriptorIndex := 524, attributes := #[] }] 49 2 #[1106, 1108, 575, 1110, 1112] #[{ accessFlags := 18, nameIndex := 13, descriptorIndex := 14, attributes := #[] }, { accessFlags := 18, nameIndex := 17, descriptorIndex := 18, attributes := #[] }, { accessFlags := 2, nameIndex := 21, descriptorIndex := 22, attributes := #[] }, { accessFlags := 2, nameIndex := 25, descriptorIndex := 26, attributes := #[] }, { accessFlags := 26, nameIndex := 1116, descriptorIndex := 1117, attributes := #[] }, { accessFlags := 24, nameIndex := 40, descriptorIndex := 26, attributes := #[] }, { accessFlags := 26, nameIndex := 1101, descriptorIndex := 1102, attributes := #[] }, { accessFlags := 26, nameIndex := 1121, descriptorIndex := 1122, attributes := #[] }, { accessFlags := 25, nameIndex := 599, descriptorIndex := 600, attributes := #[] }, { accessFlags := 24, nameIndex := 1125, descriptorIndex := 18, attributes := #[] }, { accessFlags := 24, nameIndex := 1127, descriptorIndex := 18, attributes := #[] }])
  fields := #[{ name := "value", type := (.array .byte), accessFlags := 18, slot := 0, constantValue := 0 }, { name := "coder", type := .byte, accessFlags := 18, slot := 1, constantValue := 0 }, { name := "hash", type := .int, accessFlags := 2, slot := 2, constantValue := 0 }, { name := "hashIsZero", type := .boolean, accessFlags := 2, slot := 3, constantValue := 0 }, { name := "serialVersionUID", type := .long, accessFlags := 26, slot := 0, constantValue := 0 }, { name := "COMPACT_STRINGS", type := .boolean, accessFlags := 24, slot := 1, constantValue := 0 }, { name := "serialPersistentFields", type := (.array (.object "java/io/ObjectStreamField")), accessFlags := 26, slot := 2, constantValue := 0 }, { name := "REPL", type := .char, accessFlags := 26, slot := 3, constantValue := 0 }, { name := "CASE_INSENSITIVE_ORDER", type := (.object "java/util/Comparator"), accessFlags := 25, slot := 4, constantValue := 0 }, { name := "LATIN1", type := .byte, accessFlags := 24, slot := 5, constantValue := 0 }, { name := "UTF16", type := .byte, accessFlags := 24, slot := 6, constantValue := 0 }]
  methods := #[k7m0, k7m1, k7m2, k7m3, k7m4, k7m5, k7m6, k7m7, k7m8, k7m9, k7m10, k7m11, k7m12]
  instanceTypes := #[(.array .byte), .byte, .int, .boolean]
  staticTypes := #[.long, .boolean, (.array (.object "java/io/ObjectStreamField")), .char, (.object "java/util/Comparator"), .byte, .byte]
  resolved := Array.replicate 1451 none
  statics := some 0 }

def pool8 : Array CpInfo := pool [(6, .class_ 8), (1, u "java/lang/Object"), (0, u "<init>"), (0, u "()V"), (1, .class_ 14), (1, u "java/lang/StringUTF16"), (31, u "$assertionsDisabled"), (0, u "Z"), (13, u "HI_BYTE_SHIFT"), (0, u "I"), (2, u "LO_BYTE_SHIFT"), (49, .methodref 12 116), (0, .nameAndType 117 118), (0, u "compress"), (0, u "([CI[BII)I"), (3, u "([CII)[B"), (138, u "coderFromArrayLen"), (0, u "([BI)B"), (106, .class_ 371), (1, u "java/lang/StringUTF16$LinesSpliterator"), (58, u "MAX_LENGTH"), (196, .class_ 628), (0, u "java/lang/StringUTF16$CodePointsSpliterator"), (0, .class_ 630), (0, u "java/lang/StringUTF16$CharsSpliterator")] 4

def k8m0 : Method := { name := "<init>", desc := "()V", sig := { parameters := [], returnType := none }, accessFlags := 0, code := none }
def k8c1 : Code := { maxStack := 2, maxLocals := 2, code := jdk_52_method_15_code, exceptionTable := #[], attributes := #[] }
def k8m1 : Method := { name := "coderFromArrayLen", desc := "([BI)B", sig := { parameters := [(.array .byte), .int], returnType := some .byte }, accessFlags := 8, code := some k8c1 }
def k8c2 : Code := { maxStack := 5, maxLocals := 6, code := jdk_52_method_16_code, exceptionTable := #[], attributes := #[] }
def k8m2 : Method := { name := "compress", desc := "([CII)[B", sig := { parameters := [(.array .char), .int, .int], returnType := some (.array .byte) }, accessFlags := 9, code := some k8c2 }
def k8c3 : Code := { maxStack := 3, maxLocals := 7, code := jdk_52_method_21_code, exceptionTable := #[], attributes := #[] }
def k8m3 : Method := { name := "compress", desc := "([CI[BII)I", sig := { parameters := [(.array .char), .int, (.array .byte), .int, .int], returnType := some .int }, accessFlags := 9, code := some k8c3 }
/-- java/lang/StringUTF16 -/
def k8 : Class := { plain "java/lang/StringUTF16" (some 0) with
  accessFlags := 48
  interfaces := #[]
  cf := some (fileOf pool8 12 #[.nestMembers #[627, 629, 369]] #[{ accessFlags := 0, nameIndex := 9, descriptorIndex := 10, attributes := #[] }, { accessFlags := 8, nameIndex := 261, descriptorIndex := 262, attributes := #[] }, { accessFlags := 9, nameIndex := 117, descriptorIndex := 122, attributes := #[] }, { accessFlags := 9, nameIndex := 117, descriptorIndex := 118, attributes := #[] }] 48 6 #[] #[{ accessFlags := 26, nameIndex := 61, descriptorIndex := 62, attributes := #[] }, { accessFlags := 26, nameIndex := 65, descriptorIndex := 62, attributes := #[] }, { accessFlags := 24, nameIndex := 430, descriptorIndex := 62, attributes := #[] }, { accessFlags := 4120, nameIndex := 46, descriptorIndex := 47, attributes := #[] }])
  fields := #[{ name := "HI_BYTE_SHIFT", type := .int, accessFlags := 26, slot := 0, constantValue := 0 }, { name := "LO_BYTE_SHIFT", type := .int, accessFlags := 26, slot := 1, constantValue := 0 }, { name := "MAX_LENGTH", type := .int, accessFlags := 24, slot := 2, constantValue := 0 }, { name := "$assertionsDisabled", type := .boolean, accessFlags := 4120, slot := 3, constantValue := 0 }]
  methods := #[k8m0, k8m1, k8m2, k8m3]
  instanceTypes := #[]
  staticTypes := #[.int, .int, .int, .boolean]
  resolved := Array.replicate 635 none
  statics := none }

def pool9 : Array CpInfo := pool [(2, .class_ 4), (1, u "java/lang/Object"), (0, u "<init>"), (0, u "()V"), (4, .class_ 13), (1, u "com/example/sliceworks/sliceworks/web/Headers"), (0, u "fields"), (0, u "Ljava/util/Map;"), (3, u "(Ljava/lang/String;)Ljava/lang/String;"), (10, .class_ 31), (0, u "com/example/sliceworks/sliceworks/web/Headers$Field"), (32, .class_ 65), (0, u "java/lang/String"), (17, u "()I"), (28, .methodref 64 113), (0, .nameAndType 114 83), (0, u "length"), (0, .string 116), (0, u "\""), (0, .methodref 64 118), (0, .nameAndType 119 120), (0, u "startsWith"), (0, u "(Ljava/lang/String;)Z"), (0, .methodref 64 122), (0, .nameAndType 123 120), (0, u "endsWith"), (0, .methodref 64 125), (0, .nameAndType 126 127), (0, u "substring"), (0, u "(II)Ljava/lang/String;"), (14, u "CONTENT_TYPE"), (0, u "Ljava/lang/String;"), (3, u "CONTENT_LENGTH"), (17, u "unquoted")] 26

def k9m0 : Method := { name := "<init>", desc := "()V", sig := { parameters := [], returnType := none }, accessFlags := 0, code := none }
def k9c1 : Code := { maxStack := 4, maxLocals := 1, code := prog_7_method_11_code, exceptionTable := #[], attributes := #[] }
def k9m1 : Method := { name := "unquoted", desc := "(Ljava/lang/String;)Ljava/lang/String;", sig := { parameters := [(.object "java/lang/String")], returnType := some (.object "java/lang/String") }, accessFlags := 8, code := some k9c1 }
/-- com/example/sliceworks/sliceworks/web/Headers -/
def k9 : Class := { plain "com/example/sliceworks/sliceworks/web/Headers" (some 0) with
  accessFlags := 48
  interfaces := #[]
  cf := some (fileOf pool9 11 #[.nestMembers #[30]] #[{ accessFlags := 0, nameIndex := 5, descriptorIndex := 6, attributes := #[] }, { accessFlags := 8, nameIndex := 165, descriptorIndex := 19, attributes := #[] }] 48 2 #[] #[{ accessFlags := 24, nameIndex := 142, descriptorIndex := 143, attributes := #[] }, { accessFlags := 24, nameIndex := 147, descriptorIndex := 143, attributes := #[] }, { accessFlags := 18, nameIndex := 14, descriptorIndex := 15, attributes := #[] }])
  fields := #[{ name := "CONTENT_TYPE", type := (.object "java/lang/String"), accessFlags := 24, slot := 0, constantValue := 0 }, { name := "CONTENT_LENGTH", type := (.object "java/lang/String"), accessFlags := 24, slot := 1, constantValue := 0 }, { name := "fields", type := (.object "java/util/Map"), accessFlags := 18, slot := 0, constantValue := 0 }]
  methods := #[k9m0, k9m1]
  instanceTypes := #[(.object "java/util/Map")]
  staticTypes := #[(.object "java/lang/String"), (.object "java/lang/String")]
  resolved := Array.replicate 192 none
  statics := none }

def pool10 : Array CpInfo := pool [(9, u "<init>"), (6, .class_ 18), (1, u "java/lang/Object"), (0, u "()V"), (1, .class_ 23), (1, u "jdk/internal/util/ArraysSupport"), (0, u "LOG2_ARRAY_LONG_INDEX_SCALE"), (0, u "I"), (2, u "U"), (0, u "Ljdk/internal/misc/Unsafe;"), (8, u "BIG_ENDIAN"), (0, u "Z"), (8, u "LOG2_BYTE_BIT_SIZE"), (4, u "LOG2_ARRAY_INT_INDEX_SCALE"), (54, u "JLA"), (0, u "Ljdk/internal/access/JavaLangAccess;"), (11, u "LOG2_ARRAY_BOOLEAN_INDEX_SCALE"), (9, u "LOG2_ARRAY_BYTE_INDEX_SCALE"), (5, u "LOG2_ARRAY_CHAR_INDEX_SCALE"), (5, u "LOG2_ARRAY_SHORT_INDEX_SCALE"), (5, u "mismatch"), (12, u "LOG2_ARRAY_FLOAT_INDEX_SCALE"), (24, u "LOG2_ARRAY_DOUBLE_INDEX_SCALE"), (89, u "T_BOOLEAN"), (2, u "T_CHAR"), (1, u "T_FLOAT"), (1, u "T_DOUBLE"), (1, u "T_BYTE"), (1, u "T_SHORT"), (1, u "T_INT"), (1, u "T_LONG"), (1, u "SOFT_MAX_ARRAY_LENGTH"), (42, u "([BI[BII)I")] 40

def k10m0 : Method := { name := "<init>", desc := "()V", sig := { parameters := [], returnType := none }, accessFlags := 2, code := none }
def k10c1 : Code := { maxStack := 8, maxLocals := 8, code := jdk_48_method_14_code, exceptionTable := #[], attributes := #[] }
def k10m1 : Method := { name := "mismatch", desc := "([BI[BII)I", sig := { parameters := [(.array .byte), .int, (.array .byte), .int, .int], returnType := some .int }, accessFlags := 9, code := some k10c1 }
/-- jdk/internal/util/ArraysSupport -/
def k10 : Class := { plain "jdk/internal/util/ArraysSupport" (some 0) with
  accessFlags := 33
  interfaces := #[]
  cf := some (fileOf pool10 21 #[] #[{ accessFlags := 2, nameIndex := 9, descriptorIndex := 19, attributes := #[] }, { accessFlags := 9, nameIndex := 149, descriptorIndex := 337, attributes := #[] }] 33 16 #[] #[{ accessFlags := 24, nameIndex := 28, descriptorIndex := 29, attributes := #[] }, { accessFlags := 26, nameIndex := 38, descriptorIndex := 39, attributes := #[] }, { accessFlags := 25, nameIndex := 121, descriptorIndex := 25, attributes := #[] }, { accessFlags := 25, nameIndex := 131, descriptorIndex := 25, attributes := #[] }, { accessFlags := 25, nameIndex := 137, descriptorIndex := 25, attributes := #[] }, { accessFlags := 25, nameIndex := 143, descriptorIndex := 25, attributes := #[] }, { accessFlags := 25, nameIndex := 53, descriptorIndex := 25, attributes := #[] }, { accessFlags := 25, nameIndex := 24, descriptorIndex := 25, attributes := #[] }, { accessFlags := 25, nameIndex := 162, descriptorIndex := 25, attributes := #[] }, { accessFlags := 25, nameIndex := 187, descriptorIndex := 25, attributes := #[] }, { accessFlags := 26, nameIndex := 48, descriptorIndex := 25, attributes := #[] }, { accessFlags := 25, nameIndex := 277, descriptorIndex := 25, attributes := #[] }, { accessFlags := 25, nameIndex := 280, descriptorIndex := 25, attributes := #[] }, { accessFlags := 25, nameIndex := 282, descriptorIndex := 25, attributes := #[] }, { accessFlags := 25, nameIndex := 284, descriptorIndex := 25, attributes := #[] }, { accessFlags := 25, nameIndex := 286, descriptorIndex := 25, attributes := #[] }, { accessFlags := 25, nameIndex := 288, descriptorIndex := 25, attributes := #[] }, { accessFlags := 25, nameIndex := 290, descriptorIndex := 25, attributes := #[] }, { accessFlags := 25, nameIndex := 292, descriptorIndex := 25, attributes := #[] }, { accessFlags := 26, nameIndex := 108, descriptorIndex := 109, attributes := #[] }, { accessFlags := 25, nameIndex := 294, descriptorIndex := 25, attributes := #[] }])
  fields := #[{ name := "U", type := (.object "jdk/internal/misc/Unsafe"), accessFlags := 24, slot := 0, constantValue := 0 }, { name := "BIG_ENDIAN", type := .boolean, accessFlags := 26, slot := 1, constantValue := 0 }, { name := "LOG2_ARRAY_BOOLEAN_INDEX_SCALE", type := .int, accessFlags := 25, slot := 2, constantValue := 0 }, { name := "LOG2_ARRAY_BYTE_INDEX_SCALE", type := .int, accessFlags := 25, slot := 3, constantValue := 0 }, { name := "LOG2_ARRAY_CHAR_INDEX_SCALE", type := .int, accessFlags := 25, slot := 4, constantValue := 0 }, { name := "LOG2_ARRAY_SHORT_INDEX_SCALE", type := .int, accessFlags := 25, slot := 5, constantValue := 0 }, { name := "LOG2_ARRAY_INT_INDEX_SCALE", type := .int, accessFlags := 25, slot := 6, constantValue := 0 }, { name := "LOG2_ARRAY_LONG_INDEX_SCALE", type := .int, accessFlags := 25, slot := 7, constantValue := 0 }, { name := "LOG2_ARRAY_FLOAT_INDEX_SCALE", type := .int, accessFlags := 25, slot := 8, constantValue := 0 }, { name := "LOG2_ARRAY_DOUBLE_INDEX_SCALE", type := .int, accessFlags := 25, slot := 9, constantValue := 0 }, { name := "LOG2_BYTE_BIT_SIZE", type := .int, accessFlags := 26, slot := 10, constantValue := 0 }, { name := "T_BOOLEAN", type := .int, accessFlags := 25, slot := 11, constantValue := 0 }, { name := "T_CHAR", type := .int, accessFlags := 25, slot := 12, constantValue := 0 }, { name := "T_FLOAT", type := .int, accessFlags := 25, slot := 13, constantValue := 0 }, { name := "T_DOUBLE", type := .int, accessFlags := 25, slot := 14, constantValue := 0 }, { name := "T_BYTE", type := .int, accessFlags := 25, slot := 15, constantValue := 0 }, { name := "T_SHORT", type := .int, accessFlags := 25, slot := 16, constantValue := 0 }, { name := "T_INT", type := .int, accessFlags := 25, slot := 17, constantValue := 0 }, { name := "T_LONG", type := .int, accessFlags := 25, slot := 18, constantValue := 0 }, { name := "JLA", type := (.object "jdk/internal/access/JavaLangAccess"), accessFlags := 26, slot := 19, constantValue := 0 }, { name := "SOFT_MAX_ARRAY_LENGTH", type := .int, accessFlags := 25, slot := 20, constantValue := 0 }]
  methods := #[k10m0, k10m1]
  instanceTypes := #[]
  staticTypes := #[(.object "jdk/internal/misc/Unsafe"), .boolean, .int, .int, .int, .int, .int, .int, .int, .int, .int, .int, .int, .int, .int, .int, .int, .int, .int, (.object "jdk/internal/access/JavaLangAccess"), .int]
  resolved := Array.replicate 378 none
  statics := none }

def pool11 : Array CpInfo := pool [(2, .class_ 4), (1, u "java/lang/Object"), (0, u "<init>"), (0, u "()V"), (17, .class_ 26), (1, u "jdk/internal/util/Preconditions"), (20, u "checkFromToIndex"), (7, .class_ 56), (0, u "jdk/internal/util/Preconditions$4"), (57, .class_ 115), (0, u "jdk/internal/util/Preconditions$1"), (7, u "SIOOBE_FORMATTER"), (0, u "Ljava/util/function/BiFunction;"), (0, .class_ 126), (0, u "jdk/internal/util/Preconditions$2"), (3, u "AIOOBE_FORMATTER"), (0, .class_ 132), (0, u "jdk/internal/util/Preconditions$3"), (3, u "IOOBE_FORMATTER"), (46, u "(IIILjava/util/function/BiFunction;)I")] 10

def k11m0 : Method := { name := "<init>", desc := "()V", sig := { parameters := [], returnType := none }, accessFlags := 1, code := none }
def k11c1 : Code := { maxStack := 4, maxLocals := 4, code := jdk_41_method_12_code, exceptionTable := #[], attributes := #[] }
def k11m1 : Method := { name := "checkFromToIndex", desc := "(IIILjava/util/function/BiFunction;)I", sig := { parameters := [.int, .int, .int, (.object "java/util/function/BiFunction")], returnType := some .int }, accessFlags := 9, code := some k11c1 }
/-- jdk/internal/util/Preconditions -/
def k11 : Class := { plain "jdk/internal/util/Preconditions" (some 0) with
  accessFlags := 33
  interfaces := #[]
  cf := some (fileOf pool11 24 #[.nestMembers #[55, 131, 125, 114]] #[{ accessFlags := 1, nameIndex := 5, descriptorIndex := 6, attributes := #[] }, { accessFlags := 9, nameIndex := 47, descriptorIndex := 183, attributes := #[] }] 33 2 #[] #[{ accessFlags := 25, nameIndex := 123, descriptorIndex := 124, attributes := #[] }, { accessFlags := 25, nameIndex := 130, descriptorIndex := 124, attributes := #[] }, { accessFlags := 25, nameIndex := 136, descriptorIndex := 124, attributes := #[] }])
  fields := #[{ name := "SIOOBE_FORMATTER", type := (.object "java/util/function/BiFunction"), accessFlags := 25, slot := 0, constantValue := 0 }, { name := "AIOOBE_FORMATTER", type := (.object "java/util/function/BiFunction"), accessFlags := 25, slot := 1, constantValue := 0 }, { name := "IOOBE_FORMATTER", type := (.object "java/util/function/BiFunction"), accessFlags := 25, slot := 2, constantValue := 0 }]
  methods := #[k11m0, k11m1]
  instanceTypes := #[]
  staticTypes := #[(.object "java/util/function/BiFunction"), (.object "java/util/function/BiFunction"), (.object "java/util/function/BiFunction")]
  resolved := Array.replicate 194 none
  statics := some 1 }

def pool12 : Array CpInfo := pool [(1, .class_ 2), (0, u "java/lang/String"), (1, .class_ 6), (1, u "java/lang/Object"), (0, u "<init>"), (0, u "()V"), (5, .class_ 16), (1, u "java/lang/StringLatin1"), (95, .methodref 1 113), (0, .nameAndType 7 114), (0, u "([BB)V"), (6, u "$assertionsDisabled"), (0, u "Z"), (8, .class_ 133), (1, u "java/util/Arrays"), (17, .string 152), (0, u ""), (43, u "newString"), (0, u "([BII)Ljava/lang/String;"), (23, .class_ 223), (1, u "java/lang/StringLatin1$LinesSpliterator"), (8, .methodref 131 233), (0, .nameAndType 234 235), (0, u "copyOfRange"), (0, u "([BII)[B"), (45, u "equals"), (0, u "([B[B)Z"), (107, .class_ 391), (0, u "java/lang/StringLatin1$CharsSpliterator")] 3

def k12m0 : Method := { name := "<init>", desc := "()V", sig := { parameters := [], returnType := none }, accessFlags := 0, code := none }
def k12c1 : Code := { maxStack := 3, maxLocals := 3, code := jdk_43_method_13_code, exceptionTable := #[], attributes := #[] }
def k12m1 : Method := { name := "equals", desc := "([B[B)Z", sig := { parameters := [(.array .byte), (.array .byte)], returnType := some .boolean }, accessFlags := 9, code := some k12c1 }
def k12c2 : Code := { maxStack := 6, maxLocals := 3, code := jdk_43_method_47_code, exceptionTable := #[], attributes := #[] }
def k12m2 : Method := { name := "newString", desc := "([BII)Ljava/lang/String;", sig := { parameters := [(.array .byte), .int, .int], returnType := some (.object "java/lang/String") }, accessFlags := 9, code := some k12c2 }
/-- java/lang/StringLatin1 -/
def k12 : Class := { plain "java/lang/StringLatin1" (some 0) with
  accessFlags := 48
  interfaces := #[]
  cf := some (fileOf pool12 14 #[.nestMembers #[390, 221]] #[{ accessFlags := 0, nameIndex := 7, descriptorIndex := 8, attributes := #[] }, { accessFlags := 9, nameIndex := 281, descriptorIndex := 282, attributes := #[] }, { accessFlags := 9, nameIndex := 196, descriptorIndex := 197, attributes := #[] }] 48 4 #[] #[{ accessFlags := 4120, nameIndex := 121, descriptorIndex := 122, attributes := #[] }])
  fields := #[{ name := "$assertionsDisabled", type := .boolean, accessFlags := 4120, slot := 0, constantValue := 0 }]
  methods := #[k12m0, k12m1, k12m2]
  instanceTypes := #[]
  staticTypes := #[.boolean]
  resolved := Array.replicate 395 none
  statics := none }

def pool13 : Array CpInfo := pool [(2, .class_ 4), (1, u "java/lang/Object"), (0, u "<init>"), (0, u "()V"), (7, .class_ 16), (1, u "java/util/Arrays"), (57, .class_ 76), (1, u "java/util/Arrays$NaturalOrder"), (36, .class_ 115), (1, u "java/util/Arrays$LegacyMergeSort"), (1, u "Z"), (21, u "copyOfRange"), (10, .methodref 151 152), (0, .class_ 153), (0, .nameAndType 154 155), (0, u "java/lang/System"), (0, u "arraycopy"), (0, u "(Ljava/lang/Object;ILjava/lang/Object;II)V"), (148, .methodref 305 306), (0, .class_ 307), (0, .nameAndType 308 309), (0, u "java/lang/Math"), (0, u "min"), (0, u "(II)I"), (29, .methodref 14 340), (0, .nameAndType 341 342), (0, u "copyOfRangeByte"), (0, u "([BII)[B"), (0, .methodref 14 344), (0, .nameAndType 345 346), (0, u "checkLength"), (0, u "(II)V"), (28, .class_ 376), (0, u "java/util/Arrays$ArrayList"), (68, u "$assertionsDisabled"), (269, u "MIN_ARRAY_SORT_GRAN"), (0, u "I"), (2, u "INSERTIONSORT_THRESHOLD"), (255, .class_ 976), (0, u "java/util/Arrays$ArrayItr")] 52

def k13m0 : Method := { name := "<init>", desc := "()V", sig := { parameters := [], returnType := none }, accessFlags := 2, code := none }
def k13c1 : Code := { maxStack := 4, maxLocals := 2, code := jdk_65_method_131_code, exceptionTable := #[], attributes := #[] }
def k13m1 : Method := { name := "checkLength", desc := "(II)V", sig := { parameters := [.int, .int], returnType := none }, accessFlags := 10, code := some k13c1 }
def k13c2 : Code := { maxStack := 3, maxLocals := 3, code := jdk_65_method_132_code, exceptionTable := #[], attributes := #[] }
def k13m2 : Method := { name := "copyOfRange", desc := "([BII)[B", sig := { parameters := [(.array .byte), .int, .int], returnType := some (.array .byte) }, accessFlags := 9, code := some k13c2 }
def k13c3 : Code := { maxStack := 6, maxLocals := 5, code := jdk_65_method_133_code, exceptionTable := #[], attributes := #[] }
def k13m3 : Method := { name := "copyOfRangeByte", desc := "([BII)[B", sig := { parameters := [(.array .byte), .int, .int], returnType := some (.array .byte) }, accessFlags := 10, code := some k13c3 }
/-- java/util/Arrays -/
def k13 : Class := { plain "java/util/Arrays" (some 0) with
  accessFlags := 49
  interfaces := #[]
  cf := some (fileOf pool13 14 #[.nestMembers #[975, 375, 113, 74]] #[{ accessFlags := 2, nameIndex := 5, descriptorIndex := 6, attributes := #[] }, { accessFlags := 10, nameIndex := 345, descriptorIndex := 346, attributes := #[] }, { accessFlags := 9, nameIndex := 139, descriptorIndex := 342, attributes := #[] }, { accessFlags := 10, nameIndex := 341, descriptorIndex := 342, attributes := #[] }] 49 2 #[] #[{ accessFlags := 26, nameIndex := 715, descriptorIndex := 716, attributes := #[] }, { accessFlags := 26, nameIndex := 719, descriptorIndex := 716, attributes := #[] }, { accessFlags := 4120, nameIndex := 445, descriptorIndex := 117, attributes := #[] }])
  fields := #[{ name := "MIN_ARRAY_SORT_GRAN", type := .int, accessFlags := 26, slot := 0, constantValue := 0 }, { name := "INSERTIONSORT_THRESHOLD", type := .int, accessFlags := 26, slot := 1, constantValue := 0 }, { name := "$assertionsDisabled", type := .boolean, accessFlags := 4120, slot := 2, constantValue := 0 }]
  methods := #[k13m0, k13m1, k13m2, k13m3]
  instanceTypes := #[]
  staticTypes := #[.int, .int, .boolean]
  resolved := Array.replicate 1029 none
  statics := none }

def pool14 : Array CpInfo := pool [(1, .class_ 2), (0, u "java/lang/Math"), (1, .class_ 6), (1, u "java/lang/Object"), (0, u "<init>"), (0, u "()V"), (89, .class_ 100), (1, u "java/lang/Math$RandomNumberGeneratorHolder"), (71, u "negativeZeroFloatBits"), (0, u "J"), (2, u "negativeZeroDoubleBits"), (24, u "min"), (43, u "$assertionsDisabled"), (0, u "Z"), (88, u "(II)I"), (2, u "twoToTheDoubleScaleDown"), (0, u "D"), (4, u "twoToTheDoubleScaleUp"), (9, u "E"), (3, u "PI"), (2, u "TAU"), (2, u "DEGREES_TO_RADIANS"), (0, u "RADIANS_TO_DEGREES")] 94

def k14m0 : Method := { name := "<init>", desc := "()V", sig := { parameters := [], returnType := none }, accessFlags := 2, code := none }
def k14c1 : Code := { maxStack := 2, maxLocals := 2, code := jdk_29_method_69_code, exceptionTable := #[], attributes := #[] }
def k14m1 : Method := { name := "min", desc := "(II)I", sig := { parameters := [.int, .int], returnType := some .int }, accessFlags := 9, code := some k14c1 }
/-- java/lang/Math -/
def k14 : Class := { plain "java/lang/Math" (some 0) with
  accessFlags := 49
  interfaces := #[]
  cf := some (fileOf pool14 1 #[.nestMembers #[98]] #[{ accessFlags := 2, nameIndex := 7, descriptorIndex := 8, attributes := #[] }, { accessFlags := 9, nameIndex := 201, descriptorIndex := 335, attributes := #[] }] 49 4 #[] #[{ accessFlags := 25, nameIndex := 354, descriptorIndex := 339, attributes := #[] }, { accessFlags := 25, nameIndex := 358, descriptorIndex := 339, attributes := #[] }, { accessFlags := 25, nameIndex := 361, descriptorIndex := 339, attributes := #[] }, { accessFlags := 26, nameIndex := 364, descriptorIndex := 339, attributes := #[] }, { accessFlags := 26, nameIndex := 365, descriptorIndex := 339, attributes := #[] }, { accessFlags := 26, nameIndex := 172, descriptorIndex := 173, attributes := #[] }, { accessFlags := 26, nameIndex := 176, descriptorIndex := 173, attributes := #[] }, { accessFlags := 8, nameIndex := 344, descriptorIndex := 339, attributes := #[] }, { accessFlags := 8, nameIndex := 338, descriptorIndex := 339, attributes := #[] }, { accessFlags := 4120, nameIndex := 245, descriptorIndex := 246, attributes := #[] }])
  fields := #[{ name := "E", type := .double, accessFlags := 25, slot := 0, constantValue := 0 }, { name := "PI", type := .double, accessFlags := 25, slot := 1, constantValue := 0 }, { name := "TAU", type := .double, accessFlags := 25, slot := 2, constantValue := 0 }, { name := "DEGREES_TO_RADIANS", type := .double, accessFlags := 26, slot := 3, constantValue := 0 }, { name := "RADIANS_TO_DEGREES", type := .double, accessFlags := 26, slot := 4, constantValue := 0 }, { name := "negativeZeroFloatBits", type := .long, accessFlags := 26, slot := 5, constantValue := 0 }, { name := "negativeZeroDoubleBits", type := .long, accessFlags := 26, slot := 6, constantValue := 0 }, { name := "twoToTheDoubleScaleUp", type := .double, accessFlags := 8, slot := 7, constantValue := 0 }, { name := "twoToTheDoubleScaleDown", type := .double, accessFlags := 8, slot := 8, constantValue := 0 }, { name := "$assertionsDisabled", type := .boolean, accessFlags := 4120, slot := 9, constantValue := 0 }]
  methods := #[k14m0, k14m1]
  instanceTypes := #[]
  staticTypes := #[.double, .double, .double, .double, .double, .long, .long, .double, .double, .boolean]
  resolved := Array.replicate 460 none
  statics := none }

def pool15 : Array CpInfo := pool [(2, .class_ 4), (1, u "java/lang/Object"), (0, u "<init>"), (0, u "()V"), (1, .class_ 10), (1, u "java/lang/System"), (0, u "allowSecurityManager"), (0, u "I"), (16, u "cons"), (0, u "Ljava/io/Console;"), (77, .class_ 110), (1, u "java/lang/System$CallersHolder"), (43, u "initialErrStream"), (0, u "Ljava/io/PrintStream;"), (19, u "security"), (0, u "Ljava/lang/SecurityManager;"), (31, .class_ 209), (0, u "java/lang/System$1"), (7, u "props"), (0, u "Ljava/util/Properties;"), (2, u "lineSeparator"), (0, u "Ljava/lang/String;"), (96, .class_ 321), (1, u "java/lang/System$LoggerFinder"), (5, .class_ 328), (0, u "java/lang/System$Logger"), (67, u "err"), (2, u "out"), (91, u "notSupportedJnuEncoding"), (15, u "in"), (17, u "initialIn"), (0, u "Ljava/io/InputStream;"), (35, u "bootLayer"), (0, u "Ljava/lang/ModuleLayer;"), (99, .class_ 664), (0, u "java/lang/System$2"), (9, u "NEVER"), (2, u "MAYBE"), (49, u "arraycopy"), (0, u "(Ljava/lang/Object;ILjava/lang/Object;II)V"), (72, .class_ 802), (0, u "java/lang/System$Logger$Level")] 31

def k15m0 : Method := { name := "<init>", desc := "()V", sig := { parameters := [], returnType := none }, accessFlags := 2, code := none }
def k15m1 : Method := { name := "arraycopy", desc := "(Ljava/lang/Object;ILjava/lang/Object;II)V", sig := { parameters := [(.object "java/lang/Object"), .int, (.object "java/lang/Object"), .int, .int], returnType := none }, accessFlags := 265, code := none }
/-- java/lang/System -/
def k15 : Class := { plain "java/lang/System" (some 0) with
  accessFlags := 49
  interfaces := #[]
  cf := some (fileOf pool15 8 #[.nestMembers #[319, 327, 801, 108, 663, 208]] #[{ accessFlags := 2, nameIndex := 5, descriptorIndex := 6, attributes := #[] }, { accessFlags := 265, nameIndex := 727, descriptorIndex := 728, attributes := #[] }] 49 2 #[] #[{ accessFlags := 25, nameIndex := 507, descriptorIndex := 526, attributes := #[] }, { accessFlags := 25, nameIndex := 399, descriptorIndex := 155, attributes := #[] }, { accessFlags := 25, nameIndex := 396, descriptorIndex := 155, attributes := #[] }, { accessFlags := 10, nameIndex := 525, descriptorIndex := 526, attributes := #[] }, { accessFlags := 26, nameIndex := 674, descriptorIndex := 12, attributes := #[] }, { accessFlags := 26, nameIndex := 677, descriptorIndex := 12, attributes := #[] }, { accessFlags := 10, nameIndex := 11, descriptorIndex := 12, attributes := #[] }, { accessFlags := 74, nameIndex := 175, descriptorIndex := 176, attributes := #[] }, { accessFlags := 10, nameIndex := 491, descriptorIndex := 222, attributes := #[] }, { accessFlags := 74, nameIndex := 29, descriptorIndex := 30, attributes := #[] }, { accessFlags := 74, nameIndex := 154, descriptorIndex := 155, attributes := #[] }, { accessFlags := 10, nameIndex := 217, descriptorIndex := 218, attributes := #[] }, { accessFlags := 10, nameIndex := 221, descriptorIndex := 222, attributes := #[] }, { accessFlags := 8, nameIndex := 562, descriptorIndex := 563, attributes := #[] }])
  fields := #[{ name := "in", type := (.object "java/io/InputStream"), accessFlags := 25, slot := 0, constantValue := 0 }, { name := "out", type := (.object "java/io/PrintStream"), accessFlags := 25, slot := 1, constantValue := 0 }, { name := "err", type := (.object "java/io/PrintStream"), accessFlags := 25, slot := 2, constantValue := 0 }, { name := "initialIn", type := (.object "java/io/InputStream"), accessFlags := 10, slot := 3, constantValue := 0 }, { name := "NEVER", type := .int, accessFlags := 26, slot := 4, constantValue := 0 }, { name := "MAYBE", type := .int, accessFlags := 26, slot := 5, constantValue := 0 }, { name := "allowSecurityManager", type := .int, accessFlags := 10, slot := 6, constantValue := 0 }, { name := "security", type := (.object "java/lang/SecurityManager"), accessFlags := 74, slot := 7, constantValue := 0 }, { name := "notSupportedJnuEncoding", type := (.object "java/lang/String"), accessFlags := 10, slot := 8, constantValue := 0 }, { name := "cons", type := (.object "java/io/Console"), accessFlags := 74, slot := 9, constantValue := 0 }, { name := "initialErrStream", type := (.object "java/io/PrintStream"), accessFlags := 74, slot := 10, constantValue := 0 }, { name := "props", type := (.object "java/util/Properties"), accessFlags := 10, slot := 11, constantValue := 0 }, { name := "lineSeparator", type := (.object "java/lang/String"), accessFlags := 10, slot := 12, constantValue := 0 }, { name := "bootLayer", type := (.object "java/lang/ModuleLayer"), accessFlags := 8, slot := 13, constantValue := 0 }]
  methods := #[k15m0, k15m1]
  instanceTypes := #[]
  staticTypes := #[(.object "java/io/InputStream"), (.object "java/io/PrintStream"), (.object "java/io/PrintStream"), (.object "java/io/InputStream"), .int, .int, .int, (.object "java/lang/SecurityManager"), (.object "java/lang/String"), (.object "java/io/Console"), (.object "java/io/PrintStream"), (.object "java/util/Properties"), (.object "java/lang/String"), (.object "java/lang/ModuleLayer")]
  resolved := Array.replicate 834 none
  statics := none }

def pool16 : Array CpInfo := pool [(1, u "java/lang/Cloneable"), (0, .class_ 1), (0, u "java/lang/Object"), (0, .class_ 3)] 3

/-- java/lang/Cloneable -/
def k16 : Class := { plain "java/lang/Cloneable" (some 0) with
  accessFlags := 1537
  interfaces := #[]
  cf := some (fileOf pool16 2 #[] #[] 1537 4 #[] #[])
  fields := #[]
  methods := #[]
  instanceTypes := #[]
  staticTypes := #[]
  resolved := Array.replicate 8 none
  statics := none }

/-- the primitive byte -/
def k17 : Class := { plain "byte" none with kind := .primitive 'B', accessFlags := 0x411 }
/-- [B -/
def k18 : Class := { plain "[B" (some 0) with kind := .array 17 .byte, interfaces := #[16, 2], accessFlags := 1041 }

/-- the primitive char -/
def k19 : Class := { plain "char" none with kind := .primitive 'C', accessFlags := 0x411 }
/-- [C -/
def k20 : Class := { plain "[C" (some 0) with kind := .array 19 .char, interfaces := #[16, 2], accessFlags := 1041 }

/-- the primitive int -/
def k21 : Class := { plain "int" none with kind := .primitive 'I', accessFlags := 0x411 }
/-- [I -/
def k22 : Class := { plain "[I" (some 0) with kind := .array 21 .int, interfaces := #[16, 2], accessFlags := 1041 }

def heap : Heap := #[{ cls := 7, slots := #[.long 0, .int 1, .null, .int 0, .null, .int 0, .int 0], vm := .statics 7 },
  { cls := 11, slots := #[.null, .null, .null], vm := .statics 11 }]
def classes : Array Class := #[k0, k1, k2, k3, k4, k5, k6, k7, k8, k9, k10, k11, k12, k13, k14, k15, k16, k17, k18, k19, k20, k21, k22]
def interned : List (Array UInt16 × Addr) := []
def slotsUsed : Nat := 10
def theMethod : MethodId := ⟨1, 2⟩
def args0 : Array Value := #[.int 5, .int 3, .int 3]
def aboutOver (below : List Frame) : State where
  vm := { classes := classes, interned := interned.toArray }
  heap := heap
  slotsUsed := slotsUsed
  threads := #[{ frames := .invoking theMethod args0 :: below }]
def below0 : List Frame := [.native { method := ⟨0, 0⟩, args := #[] }]
def about1 : State := aboutOver below0
def p0 : Program := .bare "" "" ""
def e0 : Env := launch0.env 0 0 0
theorem w_frames : about1.frames = Frame.invoking theMethod args0 :: below0 := rfl
set_option maxRecDepth 65536 in
theorem w_args : argsFit about1.vm theMethod args0 = true := by decide +kernel
set_option maxRecDepth 65536 in
theorem w_heap : heapFits about1 = true := by decide +kernel
set_option maxRecDepth 65536 in
theorem w_runnable : about1.curStatus? = some .runnable := by decide +kernel
set_option maxRecDepth 65536 in
theorem w_alone : about1.alone = true := by decide +kernel
set_option maxRecDepth 65536 in
theorem w_named : about1.methodNamed? x = some theMethod := by decide +kernel
set_option maxRecDepth 65536 in
theorem w_hears : about1.hears theMethod below0 = true := by decide +kernel
set_option maxRecDepth 65536 in
theorem w_ripe : about1.ripe theMethod args0 below0 = true := by decide +kernel
theorem w_running : about1.status = .running := rfl
set_option maxRecDepth 65536 in
theorem w_room : about1.hasRoom e0.platform room_1 = true :=
  launch0.hasRoom_least _ room_1 (by decide +kernel) (by decide +kernel) (by decide +kernel) (by decide +kernel) (by decide +kernel) (by decide +kernel)
theorem allAtoms_all (ts : List Jvm.Cond) (a : Array Jvm.Value) (st : Jvm.State) : (allAtoms ts).before a st = ts.all (fun c => c.before a st) := by
  induction ts with
  | nil => rfl
  | cons c t ih =>
    show (Jvm.Cond.and c (allAtoms t)).before a st = _
    rw [Jvm.Cond.before_and, ih, List.all_cons]
def words1 : List Jvm.Cond := Jvm.Cond.code x code maxLocals ret :: tables_1
/-- a 'code' word, met by the world's own term for the bytes: nothing is compared byte by byte -/
theorem code_word {y : MethodName} {bytes : ByteArray} {mx : Nat} {rt : Option FieldType} {a : Array Value} {s : State} {m : MethodId} {meth : Method} {c : Code} (h1 : s.methodNamed? y = some m) (h2 : s.vm.method? m = some meth) (h3 : meth.code = some c) (h4 : c.code = bytes)
    (h5 : (c.maxLocals == mx && c.exceptionTable.isEmpty && decide (c.maxStack ≤ mostOperands) && decide (meth.sig.returnType = rt) && !meth.locks && decide (parseMethodDescriptor y.desc = some meth.sig)) = true) : (Jvm.Cond.code y bytes mx rt).before a s = true := by
  simp only [Bool.and_eq_true, beq_iff_eq, Bool.not_eq_true', decide_eq_true_eq] at h5
  obtain ⟨⟨⟨⟨⟨g1, g2⟩, g3⟩, g4⟩, g5⟩, g6⟩ := h5
  simp [Cond.before, Cond.holds, Cond.value, h1, h2, h3, h4, g1, g2, g3, g4, g5, g6]
def isCode : Jvm.Cond → Bool
  | .code _ _ _ _ => true
  | _ => false
theorem all_split {L : List Jvm.Cond} {P : Jvm.Cond → Bool} (h1 : L.all (fun c => isCode c || P c) = true) (h2 : ∀ c ∈ L.filter isCode, P c = true) : L.all P = true := by
  refine List.all_eq_true.mpr fun c hc => ?_
  have h := List.all_eq_true.mp h1 c hc
  rcases Bool.eq_false_or_eq_true (isCode c) with hi | hi
  · exact h2 c (List.mem_filter.mpr ⟨hc, hi⟩)
  · simpa [hi] using h
set_option maxRecDepth 65536 in
theorem w_c0 : (Jvm.Cond.code x code maxLocals ret).before args0 about1 = true := code_word (m := ⟨1, 2⟩) (meth := k1m2) (c := k1c2) (by decide +kernel) rfl rfl rfl (by decide +kernel)
set_option maxRecDepth 65536 in
theorem w_c1 : (Jvm.Cond.code ({ cls := "com/example/sliceworks/sliceworks/web/HeadersUnquotedPinLaw", name := "make", desc := "([CII)Ljava/lang/String;" } : Jvm.MethodName) method_2_code (3 : Nat) (Option.some (Jvm.ClassFile.FieldType.object "java/lang/String"))).before args0 about1 = true := code_word (m := ⟨1, 1⟩) (meth := k1m1) (c := k1c1) (by decide +kernel) rfl rfl rfl (by decide +kernel)
set_option maxRecDepth 65536 in
theorem w_c2 : (Jvm.Cond.code ({ cls := "java/lang/String", name := "<init>", desc := "([C)V" } : Jvm.MethodName) jdk_42_method_3_code (2 : Nat) (Option.none : Option Jvm.ClassFile.FieldType)).before args0 about1 = true := code_word (m := ⟨7, 1⟩) (meth := k7m1) (c := k7c1) (by decide +kernel) rfl rfl rfl (by decide +kernel)
set_option maxRecDepth 65536 in
theorem w_c3 : (Jvm.Cond.code ({ cls := "java/lang/String", name := "<init>", desc := "([CIILjava/lang/Void;)V" } : Jvm.MethodName) jdk_42_method_149_code (6 : Nat) (Option.none : Option Jvm.ClassFile.FieldType)).before args0 about1 = true := code_word (m := ⟨7, 8⟩) (meth := k7m8) (c := k7c8) (by decide +kernel) rfl rfl rfl (by decide +kernel)
set_option maxRecDepth 65536 in
theorem w_c4 : (Jvm.Cond.code ({ cls := "java/lang/Object", name := "<init>", desc := "()V" } : Jvm.MethodName) object_method_1_code (1 : Nat) (Option.none : Option Jvm.ClassFile.FieldType)).before args0 about1 = true := code_word (m := ⟨0, 0⟩) (meth := k0m0) (c := k0c0) (by decide +kernel) rfl rfl rfl (by decide +kernel)
set_option maxRecDepth 65536 in
theorem w_c5 : (Jvm.Cond.code ({ cls := "java/lang/StringUTF16", name := "compress", desc := "([CII)[B" } : Jvm.MethodName) jdk_52_method_16_code (6 : Nat) (Option.some (Jvm.ClassFile.FieldType.array Jvm.ClassFile.FieldType.byte))).before args0 about1 = true := code_word (m := ⟨8, 2⟩) (meth := k8m2) (c := k8c2) (by decide +kernel) rfl rfl rfl (by decide +kernel)
set_option maxRecDepth 65536 in
theorem w_c6 : (Jvm.Cond.code ({ cls := "java/lang/StringUTF16", name := "compress", desc := "([CI[BII)I" } : Jvm.MethodName) jdk_52_method_21_code (7 : Nat) (Option.some Jvm.ClassFile.FieldType.int)).before args0 about1 = true := code_word (m := ⟨8, 3⟩) (meth := k8m3) (c := k8c3) (by decide +kernel) rfl rfl rfl (by decide +kernel)
set_option maxRecDepth 65536 in
theorem w_c7 : (Jvm.Cond.code ({ cls := "java/lang/StringUTF16", name := "coderFromArrayLen", desc := "([BI)B" } : Jvm.MethodName) jdk_52_method_15_code (2 : Nat) (Option.some Jvm.ClassFile.FieldType.byte)).before args0 about1 = true := code_word (m := ⟨8, 1⟩) (meth := k8m1) (c := k8c1) (by decide +kernel) rfl rfl rfl (by decide +kernel)
set_option maxRecDepth 65536 in
theorem w_c8 : (Jvm.Cond.code ({ cls := "com/example/sliceworks/sliceworks/web/Headers", name := "unquoted", desc := "(Ljava/lang/String;)Ljava/lang/String;" } : Jvm.MethodName) prog_7_method_11_code (1 : Nat) (Option.some (Jvm.ClassFile.FieldType.object "java/lang/String"))).before args0 about1 = true := code_word (m := ⟨9, 1⟩) (meth := k9m1) (c := k9c1) (by decide +kernel) rfl rfl rfl (by decide +kernel)
set_option maxRecDepth 65536 in
theorem w_c9 : (Jvm.Cond.code ({ cls := "java/lang/String", name := "length", desc := "()I" } : Jvm.MethodName) jdk_42_method_54_code (1 : Nat) (Option.some Jvm.ClassFile.FieldType.int)).before args0 about1 = true := code_word (m := ⟨7, 2⟩) (meth := k7m2) (c := k7c2) (by decide +kernel) rfl rfl rfl (by decide +kernel)
set_option maxRecDepth 65536 in
theorem w_c10 : (Jvm.Cond.code ({ cls := "java/lang/String", name := "coder", desc := "()B" } : Jvm.MethodName) jdk_42_method_152_code (1 : Nat) (Option.some Jvm.ClassFile.FieldType.byte)).before args0 about1 = true := code_word (m := ⟨7, 10⟩) (meth := k7m10) (c := k7c10) (by decide +kernel) rfl rfl rfl (by decide +kernel)
set_option maxRecDepth 65536 in
theorem w_c11 : (Jvm.Cond.code ({ cls := "java/lang/String", name := "startsWith", desc := "(Ljava/lang/String;)Z" } : Jvm.MethodName) jdk_42_method_76_code (2 : Nat) (Option.some Jvm.ClassFile.FieldType.boolean)).before args0 about1 = true := code_word (m := ⟨7, 5⟩) (meth := k7m5) (c := k7c5) (by decide +kernel) rfl rfl rfl (by decide +kernel)
set_option maxRecDepth 65536 in
theorem w_c12 : (Jvm.Cond.code ({ cls := "java/lang/String", name := "startsWith", desc := "(Ljava/lang/String;I)Z" } : Jvm.MethodName) jdk_42_method_75_code (8 : Nat) (Option.some Jvm.ClassFile.FieldType.boolean)).before args0 about1 = true := code_word (m := ⟨7, 4⟩) (meth := k7m4) (c := k7c4) (by decide +kernel) rfl rfl rfl (by decide +kernel)
set_option maxRecDepth 65536 in
theorem w_c13 : (Jvm.Cond.code ({ cls := "jdk/internal/util/ArraysSupport", name := "mismatch", desc := "([BI[BII)I" } : Jvm.MethodName) jdk_48_method_14_code (8 : Nat) (Option.some Jvm.ClassFile.FieldType.int)).before args0 about1 = true := code_word (m := ⟨10, 1⟩) (meth := k10m1) (c := k10c1) (by decide +kernel) rfl rfl rfl (by decide +kernel)
set_option maxRecDepth 65536 in
theorem w_c14 : (Jvm.Cond.code ({ cls := "java/lang/String", name := "equals", desc := "(Ljava/lang/Object;)Z" } : Jvm.MethodName) jdk_42_method_66_code (3 : Nat) (Option.some Jvm.ClassFile.FieldType.boolean)).before args0 about1 = true := code_word (m := ⟨7, 3⟩) (meth := k7m3) (c := k7c3) (by decide +kernel) rfl rfl rfl (by decide +kernel)
set_option maxRecDepth 65536 in
theorem w_c15 : (Jvm.Cond.code ({ cls := "java/lang/String", name := "endsWith", desc := "(Ljava/lang/String;)Z" } : Jvm.MethodName) jdk_42_method_77_code (2 : Nat) (Option.some Jvm.ClassFile.FieldType.boolean)).before args0 about1 = true := code_word (m := ⟨7, 6⟩) (meth := k7m6) (c := k7c6) (by decide +kernel) rfl rfl rfl (by decide +kernel)
set_option maxRecDepth 65536 in
theorem w_c16 : (Jvm.Cond.code ({ cls := "java/lang/String", name := "substring", desc := "(II)Ljava/lang/String;" } : Jvm.MethodName) jdk_42_method_92_code (5 : Nat) (Option.some (Jvm.ClassFile.FieldType.object "java/lang/String"))).before args0 about1 = true := code_word (m := ⟨7, 7⟩) (meth := k7m7) (c := k7c7) (by decide +kernel) rfl rfl rfl (by decide +kernel)
set_option maxRecDepth 65536 in
theorem w_c17 : (Jvm.Cond.code ({ cls := "java/lang/String", name := "checkBoundsBeginEnd", desc := "(III)V" } : Jvm.MethodName) jdk_42_method_158_code (3 : Nat) (Option.none : Option Jvm.ClassFile.FieldType)).before args0 about1 = true := code_word (m := ⟨7, 12⟩) (meth := k7m12) (c := k7c12) (by decide +kernel) rfl rfl rfl (by decide +kernel)
set_option maxRecDepth 65536 in
theorem w_c18 : (Jvm.Cond.code ({ cls := "jdk/internal/util/Preconditions", name := "checkFromToIndex", desc := "(IIILjava/util/function/BiFunction;)I" } : Jvm.MethodName) jdk_41_method_12_code (4 : Nat) (Option.some Jvm.ClassFile.FieldType.int)).before args0 about1 = true := code_word (m := ⟨11, 1⟩) (meth := k11m1) (c := k11c1) (by decide +kernel) rfl rfl rfl (by decide +kernel)
set_option maxRecDepth 65536 in
theorem w_c19 : (Jvm.Cond.code ({ cls := "java/lang/String", name := "isLatin1", desc := "()Z" } : Jvm.MethodName) jdk_42_method_154_code (1 : Nat) (Option.some Jvm.ClassFile.FieldType.boolean)).before args0 about1 = true := code_word (m := ⟨7, 11⟩) (meth := k7m11) (c := k7c11) (by decide +kernel) rfl rfl rfl (by decide +kernel)
set_option maxRecDepth 65536 in
theorem w_c20 : (Jvm.Cond.code ({ cls := "java/lang/StringLatin1", name := "newString", desc := "([BII)Ljava/lang/String;" } : Jvm.MethodName) jdk_43_method_47_code (3 : Nat) (Option.some (Jvm.ClassFile.FieldType.object "java/lang/String"))).before args0 about1 = true := code_word (m := ⟨12, 2⟩) (meth := k12m2) (c := k12c2) (by decide +kernel) rfl rfl rfl (by decide +kernel)
set_option maxRecDepth 65536 in
theorem w_c21 : (Jvm.Cond.code ({ cls := "java/lang/StringLatin1", name := "equals", desc := "([B[B)Z" } : Jvm.MethodName) jdk_43_method_13_code (3 : Nat) (Option.some Jvm.ClassFile.FieldType.boolean)).before args0 about1 = true := code_word (m := ⟨12, 1⟩) (meth := k12m1) (c := k12c1) (by decide +kernel) rfl rfl rfl (by decide +kernel)
set_option maxRecDepth 65536 in
theorem w_c22 : (Jvm.Cond.code ({ cls := "java/util/Arrays", name := "copyOfRange", desc := "([BII)[B" } : Jvm.MethodName) jdk_65_method_132_code (3 : Nat) (Option.some (Jvm.ClassFile.FieldType.array Jvm.ClassFile.FieldType.byte))).before args0 about1 = true := code_word (m := ⟨13, 2⟩) (meth := k13m2) (c := k13c2) (by decide +kernel) rfl rfl rfl (by decide +kernel)
set_option maxRecDepth 65536 in
theorem w_c23 : (Jvm.Cond.code ({ cls := "java/util/Arrays", name := "copyOfRangeByte", desc := "([BII)[B" } : Jvm.MethodName) jdk_65_method_133_code (5 : Nat) (Option.some (Jvm.ClassFile.FieldType.array Jvm.ClassFile.FieldType.byte))).before args0 about1 = true := code_word (m := ⟨13, 3⟩) (meth := k13m3) (c := k13c3) (by decide +kernel) rfl rfl rfl (by decide +kernel)
set_option maxRecDepth 65536 in
theorem w_c24 : (Jvm.Cond.code ({ cls := "java/util/Arrays", name := "checkLength", desc := "(II)V" } : Jvm.MethodName) jdk_65_method_131_code (2 : Nat) (Option.none : Option Jvm.ClassFile.FieldType)).before args0 about1 = true := code_word (m := ⟨13, 1⟩) (meth := k13m1) (c := k13c1) (by decide +kernel) rfl rfl rfl (by decide +kernel)
set_option maxRecDepth 65536 in
theorem w_c25 : (Jvm.Cond.code ({ cls := "java/lang/Math", name := "min", desc := "(II)I" } : Jvm.MethodName) jdk_29_method_69_code (2 : Nat) (Option.some Jvm.ClassFile.FieldType.int)).before args0 about1 = true := code_word (m := ⟨14, 1⟩) (meth := k14m1) (c := k14c1) (by decide +kernel) rfl rfl rfl (by decide +kernel)
set_option maxRecDepth 65536 in
theorem w_c26 : (Jvm.Cond.code ({ cls := "java/lang/String", name := "<init>", desc := "([BB)V" } : Jvm.MethodName) jdk_42_method_151_code (3 : Nat) (Option.none : Option Jvm.ClassFile.FieldType)).before args0 about1 = true := code_word (m := ⟨7, 9⟩) (meth := k7m9) (c := k7c9) (by decide +kernel) rfl rfl rfl (by decide +kernel)
def codes1 : List Jvm.Cond := [Jvm.Cond.code x code maxLocals ret, Jvm.Cond.code ({ cls := "com/example/sliceworks/sliceworks/web/HeadersUnquotedPinLaw", name := "make", desc := "([CII)Ljava/lang/String;" } : Jvm.MethodName) method_2_code (3 : Nat) (Option.some (Jvm.ClassFile.FieldType.object "java/lang/String")), Jvm.Cond.code ({ cls := "java/lang/String", name := "<init>", desc := "([C)V" } : Jvm.MethodName) jdk_42_method_3_code (2 : Nat) (Option.none : Option Jvm.ClassFile.FieldType), Jvm.Cond.code ({ cls := "java/lang/String", name := "<init>", desc := "([CIILjava/lang/Void;)V" } : Jvm.MethodName) jdk_42_method_149_code (6 : Nat) (Option.none : Option Jvm.ClassFile.FieldType), Jvm.Cond.code ({ cls := "java/lang/Object", name := "<init>", desc := "()V" } : Jvm.MethodName) object_method_1_code (1 : Nat) (Option.none : Option Jvm.ClassFile.FieldType), Jvm.Cond.code ({ cls := "java/lang/StringUTF16", name := "compress", desc := "([CII)[B" } : Jvm.MethodName) jdk_52_method_16_code (6 : Nat) (Option.some (Jvm.ClassFile.FieldType.array Jvm.ClassFile.FieldType.byte)), Jvm.Cond.code ({ cls := "java/lang/StringUTF16", name := "compress", desc := "([CI[BII)I" } : Jvm.MethodName) jdk_52_method_21_code (7 : Nat) (Option.some Jvm.ClassFile.FieldType.int), Jvm.Cond.code ({ cls := "java/lang/StringUTF16", name := "coderFromArrayLen", desc := "([BI)B" } : Jvm.MethodName) jdk_52_method_15_code (2 : Nat) (Option.some Jvm.ClassFile.FieldType.byte), Jvm.Cond.code ({ cls := "com/example/sliceworks/sliceworks/web/Headers", name := "unquoted", desc := "(Ljava/lang/String;)Ljava/lang/String;" } : Jvm.MethodName) prog_7_method_11_code (1 : Nat) (Option.some (Jvm.ClassFile.FieldType.object "java/lang/String")), Jvm.Cond.code ({ cls := "java/lang/String", name := "length", desc := "()I" } : Jvm.MethodName) jdk_42_method_54_code (1 : Nat) (Option.some Jvm.ClassFile.FieldType.int), Jvm.Cond.code ({ cls := "java/lang/String", name := "coder", desc := "()B" } : Jvm.MethodName) jdk_42_method_152_code (1 : Nat) (Option.some Jvm.ClassFile.FieldType.byte), Jvm.Cond.code ({ cls := "java/lang/String", name := "startsWith", desc := "(Ljava/lang/String;)Z" } : Jvm.MethodName) jdk_42_method_76_code (2 : Nat) (Option.some Jvm.ClassFile.FieldType.boolean), Jvm.Cond.code ({ cls := "java/lang/String", name := "startsWith", desc := "(Ljava/lang/String;I)Z" } : Jvm.MethodName) jdk_42_method_75_code (8 : Nat) (Option.some Jvm.ClassFile.FieldType.boolean), Jvm.Cond.code ({ cls := "jdk/internal/util/ArraysSupport", name := "mismatch", desc := "([BI[BII)I" } : Jvm.MethodName) jdk_48_method_14_code (8 : Nat) (Option.some Jvm.ClassFile.FieldType.int), Jvm.Cond.code ({ cls := "java/lang/String", name := "equals", desc := "(Ljava/lang/Object;)Z" } : Jvm.MethodName) jdk_42_method_66_code (3 : Nat) (Option.some Jvm.ClassFile.FieldType.boolean), Jvm.Cond.code ({ cls := "java/lang/String", name := "endsWith", desc := "(Ljava/lang/String;)Z" } : Jvm.MethodName) jdk_42_method_77_code (2 : Nat) (Option.some Jvm.ClassFile.FieldType.boolean), Jvm.Cond.code ({ cls := "java/lang/String", name := "substring", desc := "(II)Ljava/lang/String;" } : Jvm.MethodName) jdk_42_method_92_code (5 : Nat) (Option.some (Jvm.ClassFile.FieldType.object "java/lang/String")), Jvm.Cond.code ({ cls := "java/lang/String", name := "checkBoundsBeginEnd", desc := "(III)V" } : Jvm.MethodName) jdk_42_method_158_code (3 : Nat) (Option.none : Option Jvm.ClassFile.FieldType), Jvm.Cond.code ({ cls := "jdk/internal/util/Preconditions", name := "checkFromToIndex", desc := "(IIILjava/util/function/BiFunction;)I" } : Jvm.MethodName) jdk_41_method_12_code (4 : Nat) (Option.some Jvm.ClassFile.FieldType.int), Jvm.Cond.code ({ cls := "java/lang/String", name := "isLatin1", desc := "()Z" } : Jvm.MethodName) jdk_42_method_154_code (1 : Nat) (Option.some Jvm.ClassFile.FieldType.boolean), Jvm.Cond.code ({ cls := "java/lang/StringLatin1", name := "newString", desc := "([BII)Ljava/lang/String;" } : Jvm.MethodName) jdk_43_method_47_code (3 : Nat) (Option.some (Jvm.ClassFile.FieldType.object "java/lang/String")), Jvm.Cond.code ({ cls := "java/lang/StringLatin1", name := "equals", desc := "([B[B)Z" } : Jvm.MethodName) jdk_43_method_13_code (3 : Nat) (Option.some Jvm.ClassFile.FieldType.boolean), Jvm.Cond.code ({ cls := "java/util/Arrays", name := "copyOfRange", desc := "([BII)[B" } : Jvm.MethodName) jdk_65_method_132_code (3 : Nat) (Option.some (Jvm.ClassFile.FieldType.array Jvm.ClassFile.FieldType.byte)), Jvm.Cond.code ({ cls := "java/util/Arrays", name := "copyOfRangeByte", desc := "([BII)[B" } : Jvm.MethodName) jdk_65_method_133_code (5 : Nat) (Option.some (Jvm.ClassFile.FieldType.array Jvm.ClassFile.FieldType.byte)), Jvm.Cond.code ({ cls := "java/util/Arrays", name := "checkLength", desc := "(II)V" } : Jvm.MethodName) jdk_65_method_131_code (2 : Nat) (Option.none : Option Jvm.ClassFile.FieldType), Jvm.Cond.code ({ cls := "java/lang/Math", name := "min", desc := "(II)I" } : Jvm.MethodName) jdk_29_method_69_code (2 : Nat) (Option.some Jvm.ClassFile.FieldType.int), Jvm.Cond.code ({ cls := "java/lang/String", name := "<init>", desc := "([BB)V" } : Jvm.MethodName) jdk_42_method_151_code (3 : Nat) (Option.none : Option Jvm.ClassFile.FieldType)]
set_option maxRecDepth 65536 in
theorem codes_eq : words1.filter isCode = codes1 := rfl
theorem w_codes : ∀ c ∈ words1.filter isCode, c.before args0 about1 = true := by
  rw [codes_eq]
  intro c hc
  simp only [codes1, List.mem_cons, List.not_mem_nil, or_false] at hc
  rcases hc with rfl | rfl | rfl | rfl | rfl | rfl | rfl | rfl | rfl | rfl | rfl | rfl | rfl | rfl | rfl | rfl | rfl | rfl | rfl | rfl | rfl | rfl | rfl | rfl | rfl | rfl | rfl
  · exact w_c0
  · exact w_c1
  · exact w_c2
  · exact w_c3
  · exact w_c4
  · exact w_c5
  · exact w_c6
  · exact w_c7
  · exact w_c8
  · exact w_c9
  · exact w_c10
  · exact w_c11
  · exact w_c12
  · exact w_c13
  · exact w_c14
  · exact w_c15
  · exact w_c16
  · exact w_c17
  · exact w_c18
  · exact w_c19
  · exact w_c20
  · exact w_c21
  · exact w_c22
  · exact w_c23
  · exact w_c24
  · exact w_c25
  · exact w_c26
set_option maxRecDepth 65536 in
theorem w_t1 : (words1.take 24).all (fun c => isCode c || c.before args0 about1) = true := by decide +kernel
set_option maxRecDepth 65536 in
theorem w_t2 : ((words1.drop 24).take 24).all (fun c => isCode c || c.before args0 about1) = true := by decide +kernel
set_option maxRecDepth 65536 in
theorem w_t3 : (((words1.drop 24).drop 24).take 24).all (fun c => isCode c || c.before args0 about1) = true := by decide +kernel
set_option maxRecDepth 65536 in
theorem w_t4 : ((((words1.drop 24).drop 24).drop 24).take 24).all (fun c => isCode c || c.before args0 about1) = true := by decide +kernel
set_option maxRecDepth 65536 in
theorem w_t5 : (((((words1.drop 24).drop 24).drop 24).drop 24).take 24).all (fun c => isCode c || c.before args0 about1) = true := by decide +kernel
set_option maxRecDepth 65536 in
theorem w_t6 : (((((words1.drop 24).drop 24).drop 24).drop 24).drop 24).all (fun c => isCode c || c.before args0 about1) = true := by decide +kernel
theorem w_tables : (allAtoms (Jvm.Cond.code x code maxLocals ret :: tables_1)).before args0 about1 = true := by
  rw [allAtoms_all]
  show words1.all (fun c => c.before args0 about1) = true
  refine all_split ?_ w_codes
  rw [← List.take_append_drop 24 words1, List.all_append, w_t1, ← List.take_append_drop 24 (words1.drop 24), List.all_append, w_t2, ← List.take_append_drop 24 ((words1.drop 24).drop 24), List.all_append, w_t3, ← List.take_append_drop 24 (((words1.drop 24).drop 24).drop 24), List.all_append, w_t4, ← List.take_append_drop 24 ((((words1.drop 24).drop 24).drop 24).drop 24), List.all_append, w_t5, w_t6]
  rfl
set_option maxRecDepth 65536 in
theorem w_rest : rest_1_c.before args0 about1 = true := by decide +kernel
set_option maxRecDepth 65536 in
theorem w_case : (Jvm.Cond.and given_1 narrow_1).before args0 about1 = true := by decide +kernel
set_option maxRecDepth 65536 in
theorem w_consts : constsHeld consts_1 about1 := Jvm.Lit.constsHeldB_iff.mp (by decide +kernel)
theorem w_applies : (headSpec (Jvm.Cond.code x code maxLocals ret :: tables_1) room_1).applies x e0.platform about1 = true :=
  (Spec.applies_iff w_frames).mpr ⟨w_running, w_runnable, w_alone, w_named, w_hears, w_ripe, w_room, w_tables⟩
theorem atStart : AtStart classFile x code maxLocals ret World_1 tables_1 room_1 Calls_1 rest_1 Pre_1 launch0 p0 e0 about1 theMethod args0 below0 :=
  ⟨lists_1, trivial, launch0.admits_env _ _ _, launch0.least_env, fairChoices_fair.cas, fairChoices_fair.clock, w_frames, w_args, w_heap, w_applies, ⟨w_consts, trivial⟩, w_rest, w_case⟩
end start1
theorem witness_1 : WitnessClaimed_1 := ⟨start1.p0, start1.e0, start1.about1, start1.theMethod, start1.args0, start1.below0, start1.atStart⟩
end Jvm.Pilot.@@N@@
