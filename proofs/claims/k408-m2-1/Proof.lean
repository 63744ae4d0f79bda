import JvmDerived
import JvmDerived.Pilot.@@N@@Statement
import JvmDerived.Pilot.@@N@@Code
set_option linter.unusedVariables false
set_option linter.unusedSimpArgs false
namespace Jvm.Pilot.@@N@@
/-- the frame is the narrow one -/
def NW : Bool := true
end Jvm.Pilot.@@N@@
-- part fp
namespace Jvm.Pilot.@@N@@.OwnFP
open Jvm.FP.Core
/-- the double x is the number N / D -/
def DVal (x : UInt64) (N D : Nat) : Prop := ∃ c q, val64 x = .fin false c q ∧ c * 2 ^ q.toNat * D = N * 2 ^ (-q).toNat
theorem shiftc {x y a b a' b' : Nat} (h : x * 2^a' = y*2^b') (e : a' + b = a + b') : x*2^a = y*2^b := by
  rcases Nat.le_total a a' with k | k
  · obtain ⟨t, rfl⟩ := Nat.exists_eq_add_of_le k
    obtain rfl : b' = b + t := by omega
    rw [Nat.pow_add, Nat.pow_add, ← Nat.mul_assoc, ← Nat.mul_assoc] at h
    exact Nat.eq_of_mul_eq_mul_right (Nat.two_pow_pos t) h
  · obtain ⟨t, rfl⟩ := Nat.exists_eq_add_of_le k
    obtain rfl : b = b' + t := by omega
    rw [Nat.pow_add, Nat.pow_add, ← Nat.mul_assoc, ← Nat.mul_assoc, h]
theorem DVal.l2d {a : Int64} {N : Nat} (h : a.toInt = N) (hN : N < 9007199254740992) : DVal (l2d a) N 1 := by
  obtain ⟨c, q, e⟩ := l2d_shape a
  have w := l2d_whole (a := a) ⟨by omega, by omega⟩
  rw [e] at w
  have hs : decide (a.toInt < 0) = false := by simp; omega
  rw [hs] at e w
  refine ⟨c, q, e, ?_⟩
  have w : ((c * 2 ^ q.toNat : Nat) : Int) = a.toInt * ((2 ^ (-q).toNat : Nat) : Int) := w
  rw [h] at w
  have w : c * 2 ^ q.toNat = N * 2 ^ (-q).toNat := by exact_mod_cast w
  rw [Nat.mul_one, w]
theorem ddiv_val {x y : UInt64} {N D M E : Nat} (hx : DVal x N D) (hy : DVal y M E) (hM : 0 < M) (hD : 0 < D) : val64 (ddiv x y) = roundRatio b64 false (N*E) (D*M) 0 := by
  obtain ⟨c, q, e1, h1⟩ := hx
  obtain ⟨d, r, e2, h2⟩ := hy
  have hd : d ≠ 0 := by
    rintro rfl
    rw [Nat.zero_mul, Nat.zero_mul] at h2
    have := Nat.mul_pos hM (Nat.two_pow_pos (-r).toNat)
    omega
  rw [val64_ddiv, e1, e2]
  show (if d = 0 then _ else _) = _
  rw [if_neg hd]
  refine roundRatio_congr (by omega) (Nat.mul_pos hD hM) ?_
  refine shiftc (a' := q.toNat + (-r).toNat) (b' := (-q).toNat + r.toNat) ?_ (by omega)
  rw [Nat.pow_add, Nat.pow_add]
  calc c*(D*M)*(2^q.toNat*2^(-r).toNat) = (c*2^q.toNat*D)*(M*2^(-r).toNat) := by ac_rfl
    _ = (N*2^(-q).toNat)*(d*2^r.toNat*E) := by rw [h1, h2]
    _ = N*E*d*(2^(-q).toNat*2^r.toNat) := by ac_rfl
theorem unit_val {c N D : Nat} {q e : Int} (h : c * 2 ^ q.toNat * D = N * 2 ^ (-q).toNat) (he : e ≤ q) : inUnits c q e * D * 2^e.toNat = N * 2^(-e).toNat := by
  unfold inUnits
  have g : (c * D) * 2 ^ ((q-e).toNat + e.toNat) = N * 2 ^ (-e).toNat :=
    shiftc (a' := q.toNat) (b' := (-q).toNat) (by rw [← h]; ac_rfl) (by omega)
  rw [← g, Nat.pow_add]; ac_rfl
theorem dadd_val {x y : UInt64} {N D M E : Nat} (hx : DVal x N D) (hy : DVal y M E) (hD : 0 < D) (hE : 0 < E) : val64 (dadd x y) = roundRatio b64 false (N*E + M*D) (D*E) 0 := by
  obtain ⟨c, q, e1, h1⟩ := hx
  obtain ⟨d, r, e2, h2⟩ := hy
  rw [val64_dadd, e1, e2]
  have g1 := unit_val (e := min q r) h1 (by omega)
  have g2 := unit_val (e := min q r) h2 (by omega)
  simp only [exactSum]
  generalize min q r = e at *
  have hs : sumUnits false c q false d r e = ((inUnits c q e + inUnits d r e : Nat) : Int) := by
    unfold sumUnits signed; simp
  rw [hs]
  have hg : sumSign false false ((inUnits c q e + inUnits d r e : Nat) : Int) = false := by
    unfold sumSign; split
    · rfl
    · simp; omega
  rw [hg]
  show roundRatio b64 false _ 1 e = _
  refine roundRatio_congr (by omega) (Nat.mul_pos hD hE) ?_
  rw [Int.natAbs_natCast, Int.sub_zero, Int.zero_sub, Nat.mul_one]
  generalize inUnits c q e = X at *
  generalize inUnits d r e = Y at *
  calc (X+Y)*(D*E)*2^e.toNat = (X*D*2^e.toNat)*E + (Y*E*2^e.toNat)*D := by rw [Nat.add_mul, Nat.add_mul]; ac_rfl
    _ = (N*2^(-e).toNat)*E + (M*2^(-e).toNat)*D := by rw [g1, g2]
    _ = (N*E + M*D)*2^(-e).toNat := by rw [Nat.add_mul]; ac_rfl
theorem exact_val {z : UInt64} {N D K a : Nat} (hz : val64 z = roundRatio b64 false N D 0) (hD : 0 < D) (h : N * 2^a = K * D) (hK : K < 9007199254740992) (ha : a ≤ 900) : DVal z N D := by
  by_cases hK0 : K = 0
  · subst hK0
    have hN : N = 0 := by
      rw [Nat.zero_mul] at h
      rcases Nat.mul_eq_zero.mp h with h | h
      · exact h
      · have := Nat.two_pow_pos a; omega
    subst hN
    exact ⟨0, b64.qmin, by rw [hz]; unfold roundRatio; rw [if_pos rfl], by simp⟩
  · have k1 := Nat.log2_self_le hK0
    have k2 := Nat.lt_log2_self (n := K)
    have k3 : K.log2 < 53 := (Nat.log2_lt hK0).mpr hK
    generalize K.log2 = t at *
    obtain ⟨u, hu⟩ : ∃ u, t + u = 52 := ⟨52 - t, by omega⟩
    have b1 : 2^52 ≤ K * 2^u := by rw [← hu, Nat.pow_add]; exact Nat.mul_le_mul_right _ k1
    have b2 : K * 2^u < 2^53 := by
      have : 2^53 = 2^(t+1)*2^u := by rw [← Nat.pow_add]; congr 1; omega
      rw [this]; exact Nat.mul_lt_mul_of_pos_right k2 (Nat.two_pow_pos u)
    have qn : b64.qmin = -1074 := by decide
    have qx : b64.qmax = 971 := by decide
    have hq : N * 2^(u + a) = (K*2^u) * D := by rw [Nat.pow_add]; calc N*(2^u*2^a) = (N*2^a)*2^u := by ac_rfl
                                                    _ = K*2^u*D := by rw [h]; ac_rfl
    have ex : roundRatio b64 false N D 0 = .fin false (K*2^u) (-((u + a : Nat) : Int)) := by
      refine roundRatio_exact good_b64 hD ⟨b2, ?_, ?_, Or.inr b1⟩ ?_
      · rw [qn]; omega
      · rw [qx]; omega
      · have a1 : ((0 : Int) - -((u + a : Nat) : Int)).toNat = u + a := by omega
        have a2 : (-((u + a : Nat) : Int) - 0).toNat = 0 := by omega
        rw [a1, a2, Nat.pow_zero, Nat.mul_one, hq]
    refine ⟨_, _, hz.trans ex, ?_⟩
    have a1 : (- -((u + a : Nat) : Int)).toNat = u + a := by omega
    have a2 : (-((u + a : Nat) : Int)).toNat = 0 := by omega
    rw [a1, a2, Nat.pow_zero, Nat.mul_one, hq]
/-- the density law: W + R / c, divided by m, is n / (c m), where the inner quotient and the sum are exact -/
theorem density {W R cc n p : Int64} {im : Int32} {w r c k M a b K1 K2 : Nat} (hW : W.toInt = w) (hR : R.toInt = r) (hc : cc.toInt = c) (hm : im.toInt = M) (hn : n.toInt = k) (hp : p.toInt = (c * M : Nat))
    (w53 : w < 9007199254740992) (r53 : r < 9007199254740992) (c53 : c < 9007199254740992) (k53 : k < 9007199254740992) (p53 : c * M < 9007199254740992) (c0 : 0 < c) (M0 : 0 < M)
    (hk : w * c + r = k) (e1 : r * 2^a = K1 * c) (hK1 : K1 < 9007199254740992) (ha : a ≤ 900) (e2 : k * 2^b = K2 * c) (hK2 : K2 < 9007199254740992) (hb : b ≤ 900) :
    ddiv (dadd (l2d W) (ddiv (l2d R) (l2d cc))) (i2d im) = ddiv (l2d n) (l2d p) ∧ dcmp (ddiv (l2d n) (l2d p)) (ddiv (l2d n) (l2d p)) = some .eq := by
  have vR := DVal.l2d hR r53
  have vW := DVal.l2d hW w53
  have vc := DVal.l2d hc c53
  have vn := DVal.l2d hn k53
  have vp := DVal.l2d hp p53
  have hm' : im.toInt64.toInt = M := by rw [Int32.toInt_toInt64]; exact hm
  have M53 : M < 9007199254740992 := Nat.lt_of_le_of_lt (Nat.le_mul_of_pos_left _ c0) p53
  have vm := DVal.l2d hm' M53
  rw [← i2d_l2d] at vm
  have v1 := exact_val (a := a) (ddiv_val vR vc c0 Nat.one_pos) (Nat.mul_pos Nat.one_pos c0) (by rw [Nat.mul_one, Nat.one_mul]; exact e1) hK1 ha
  have v2 := exact_val (a := b) (dadd_val vW v1 Nat.one_pos (Nat.mul_pos Nat.one_pos c0)) (Nat.mul_pos Nat.one_pos (Nat.mul_pos Nat.one_pos c0)) (by rw [Nat.mul_one, Nat.mul_one, Nat.one_mul, Nat.one_mul, hk]; exact e2) hK2 hb
  have v3 := ddiv_val v2 vm M0 (Nat.mul_pos Nat.one_pos (Nat.mul_pos Nat.one_pos c0))
  have v4 := ddiv_val vn vp (Nat.mul_pos c0 M0) Nat.one_pos
  simp only [Nat.one_mul, Nat.mul_one, hk] at v3 v4
  have hx : val64 (ddiv (l2d n) (l2d p)) ≠ .nan := by
    rw [v4]; unfold roundRatio roundAt settle bound
    repeat' split
    all_goals exact fun q => nomatch q
  refine ⟨(val64_inj hx (v4.trans v3.symm)).symm, ?_⟩
  rw [dcmp_zval hx hx]
  simp
end Jvm.Pilot.@@N@@.OwnFP
namespace Jvm.Pilot.@@N@@.OwnFP
open Jvm.FP.Core
theorem t_add {a b : Int64} (h1 : -9223372036854775808 ≤ a.toInt + b.toInt) (h2 : a.toInt + b.toInt < 9223372036854775808) : (a + b).toInt = a.toInt + b.toInt := by
  rw [Int64.toInt_add]; exact Int.bmod_eq_of_le (by omega) (by omega)
theorem t_mul {a b : Int64} (h1 : -9223372036854775808 ≤ a.toInt * b.toInt) (h2 : a.toInt * b.toInt < 9223372036854775808) : (a * b).toInt = a.toInt * b.toInt := by
  rw [Int64.toInt_mul]; exact Int.bmod_eq_of_le (by omega) (by omega)
theorem s_add {a b : Int32} (h1 : -2147483648 ≤ a.toInt + b.toInt) (h2 : a.toInt + b.toInt < 2147483648) : (a + b).toInt = a.toInt + b.toInt := by
  rw [Int32.toInt_add]; exact Int.bmod_eq_of_le (by omega) (by omega)
theorem s_sub {a b : Int32} (h1 : -2147483648 ≤ a.toInt - b.toInt) (h2 : a.toInt - b.toInt < 2147483648) : (a - b).toInt = a.toInt - b.toInt := by
  rw [Int32.toInt_sub]; exact Int.bmod_eq_of_le (by omega) (by omega)
theorem s_mul {a b : Int32} (h1 : -2147483648 ≤ a.toInt * b.toInt) (h2 : a.toInt * b.toInt < 2147483648) : (a * b).toInt = a.toInt * b.toInt := by
  rw [Int32.toInt_mul]; exact Int.bmod_eq_of_le (by omega) (by omega)
theorem and_low (x : Int32) (n : Nat) (hn : n ≤ 31) : (x &&& Int32.ofNat (2^n - 1)).toInt = ((x.toBitVec.toNat % 2^n : Nat) : Int) := by
  have p : 2^n ≤ 2^31 := Nat.pow_le_pow_right (by omega) hn
  have q := Nat.mod_lt x.toBitVec.toNat (Nat.two_pow_pos n)
  have e : (x &&& Int32.ofNat (2^n - 1)).toBitVec.toNat = x.toBitVec.toNat % 2^n := by
    rw [Int32.toBitVec_and, BitVec.toNat_and, Int32.toBitVec_ofNat', BitVec.toNat_ofNat, Nat.mod_eq_of_lt (a := 2^n - 1) (by omega), Nat.and_two_pow_sub_one_eq_mod]
  rw [← Int32.toInt_toBitVec, BitVec.toInt_eq_toNat_of_lt (by rw [e]; omega), e]
theorem and_low64 (x : Int64) (n : Nat) (hn : n ≤ 63) : (x &&& Int64.ofNat (2^n - 1)).toInt = ((x.toBitVec.toNat % 2^n : Nat) : Int) := by
  have p : 2^n ≤ 2^63 := Nat.pow_le_pow_right (by omega) hn
  have q := Nat.mod_lt x.toBitVec.toNat (Nat.two_pow_pos n)
  have e : (x &&& Int64.ofNat (2^n - 1)).toBitVec.toNat = x.toBitVec.toNat % 2^n := by
    rw [Int64.toBitVec_and, BitVec.toNat_and, Int64.toBitVec_ofNat', BitVec.toNat_ofNat, Nat.mod_eq_of_lt (a := 2^n - 1) (by omega), Nat.and_two_pow_sub_one_eq_mod]
  rw [← Int64.toInt_toBitVec, BitVec.toInt_eq_toNat_of_lt (by rw [e]; omega), e]
theorem mask40 (x : Int64) : ∃ k : Nat, (x &&& 1099511627775).toInt = k ∧ k < 1099511627776 := ⟨_, and_low64 x 40 (by omega), Nat.mod_lt _ (by omega)⟩
theorem mask31 (x : Int32) : ∃ k : Nat, (x &&& 2147483647).toInt = k := ⟨_, and_low x 31 (by omega)⟩
theorem mask4 (x : Int32) : ∃ k : Nat, (x &&& 15).toInt = k ∧ k < 16 := ⟨_, and_low x 4 (by omega), Nat.mod_lt _ (by omega)⟩
theorem pow7 (x : Int32) : ∃ a : Nat, a ≤ 7 ∧ ((1 : Int32) <<< ((x &&& 7) &&& 31)).toInt = ((2^a : Nat) : Int) := by
  have h := and_low x 3 (by omega)
  have q := Nat.mod_lt x.toBitVec.toNat (Nat.two_pow_pos 3)
  refine ⟨x.toBitVec.toNat % 2^3, by omega, ?_⟩
  generalize x.toBitVec.toNat % 2^3 = a at *
  have e : x &&& 7 = Int32.ofNat a := by
    apply Int32.toInt_inj.mp
    rw [Int32.toInt_ofNat_of_lt (by omega)]
    exact h
  rw [e]
  match a, q with
  | 0, _ => decide
  | 1, _ => decide
  | 2, _ => decide
  | 3, _ => decide
  | 4, _ => decide
  | 5, _ => decide
  | 6, _ => decide
  | 7, _ => decide
  | n + 8, q => omega
/-- children and words, as the law draws them -/
def CM (c m : Int32) : Prop := (∃ a b : Nat, a ≤ 7 ∧ b ≤ 7 ∧ (c = 0 ∧ a = 0 ∨ c.toInt = ((2^a : Nat) : Int)) ∧ m.toInt = ((2^b : Nat) : Int)) ∨ (∃ j d : Nat, 1 ≤ j ∧ j ≤ 16 ∧ 1 ≤ d ∧ d ≤ 100 ∧ c.toInt = d ∧ m.toInt = ((d * j : Nat) : Int))
def CK (c k : Int32) : Prop := (c = 0 ∧ k = 0) ∨ (1 ≤ k.toInt ∧ k.toInt ≤ c.toInt)
theorem rem_pos {x y : Int32} {k d : Nat} (hx : x.toInt = k) (hy : y.toInt = d) : (x % y).toInt = ((k % d : Nat) : Int) := by
  rw [Int32.toInt_mod, hx, hy]; rfl
theorem cm_even (x y c : Int32) (hc : c = 0 ∨ c = (1 : Int32) <<< ((x &&& 7) &&& 31)) : CM c ((1 : Int32) <<< ((y &&& 7) &&& 31)) := by
  obtain ⟨b, hb, eb⟩ := pow7 y
  rcases hc with rfl | rfl
  · exact Or.inl ⟨0, b, by omega, hb, Or.inl ⟨rfl, rfl⟩, eb⟩
  · obtain ⟨a, ha, ea⟩ := pow7 x
    exact Or.inl ⟨a, b, ha, hb, Or.inr ea, eb⟩
theorem cm_odd (x y : Int32) : CM (1 + ((x &&& 2147483647) % 100)) ((1 + ((x &&& 2147483647) % 100)) * (1 + (y &&& 15))) := by
  obtain ⟨k, hk⟩ := mask31 x
  obtain ⟨j, hj, hj'⟩ := mask4 y
  have hr := rem_pos (y := 100) (d := 100) hk rfl
  have o : (1 : Int32).toInt = 1 := rfl
  have lt := Nat.mod_lt k (show 100 > 0 by omega)
  generalize (x &&& 2147483647) % 100 = r at *
  have h1 : (1 + r).toInt = ((1 + k % 100 : Nat) : Int) := by rw [s_add (by omega) (by omega)]; omega
  have h2 : (1 + (y &&& 15)).toInt = ((1 + j : Nat) : Int) := by rw [s_add (by omega) (by omega)]; omega
  generalize 1 + (y &&& 15) = z at *
  generalize 1 + r = u at *
  generalize hd : 1 + k % 100 = d at *
  have bd : d * (1 + j) ≤ 100 * 16 := Nat.mul_le_mul (by omega) (by omega)
  refine Or.inr ⟨1 + j, d, by omega, by omega, by omega, by omega, h1, ?_⟩
  have e : u.toInt * z.toInt = ((d * (1 + j) : Nat) : Int) := by rw [h1, h2, Int.natCast_mul]
  rw [s_mul (by omega) (by omega), e]
theorem cm_nn {c m : Int32} (h : CM c m) : (c = 0 ∨ 1 ≤ c.toInt) ∧ c.toInt ≤ 128 ∧ 1 ≤ m.toInt ∧ m.toInt ≤ 1600 := by
  rcases h with ⟨a, b, ha, hb, hc, hm⟩ | ⟨j, d, j1, j2, d1, d2, hc, hm⟩
  · have pa : 2^a ≤ 2^7 := Nat.pow_le_pow_right (by omega) ha
    have pb : 2^b ≤ 2^7 := Nat.pow_le_pow_right (by omega) hb
    have := Nat.two_pow_pos a
    have := Nat.two_pow_pos b
    refine ⟨?_, ?_, by omega, by omega⟩
    · rcases hc with hc | hc
      · exact Or.inl hc.1
      · right; omega
    · rcases hc with hc | hc
      · rw [hc.1]; decide
      · omega
  · have bd : d * j ≤ 100 * 16 := Nat.mul_le_mul d2 j2
    have := Nat.mul_le_mul d1 j1
    exact ⟨by omega, by omega, by omega, by omega⟩
theorem ck_of {c m : Int32} (x : Int32) (h : CM c m) (h0 : ¬ c = 0) : CK c (1 + ((x &&& 2147483647) % c)) := by
  obtain ⟨h1, h2, -⟩ := cm_nn h
  have h1 := h1.resolve_left h0
  obtain ⟨k, hk⟩ := mask31 x
  obtain ⟨d, hd⟩ : ∃ d : Nat, c.toInt = d := ⟨c.toInt.toNat, by omega⟩
  have hr := rem_pos hk hd
  have o : (1 : Int32).toInt = 1 := rfl
  have lt := Nat.mod_lt k (show d > 0 by omega)
  generalize (x &&& 2147483647) % c = r at *
  have : (1 + r).toInt = 1 + r.toInt := by rw [s_add (by omega) (by omega), o]
  exact Or.inr ⟨by omega, by omega⟩
/-- the divisor, as Math.max gives it -/
def mx (c : Int32) : Int32 := if c < 1 then 1 else c
theorem m_nz {c m : Int32} (h : CM c m) : m ≠ 0 := fun q => by
  obtain ⟨-, -, h3, -⟩ := cm_nn h; rw [q] at h3; exact absurd h3 (by decide)
theorem mx_pos {c m : Int32} (h : CM c m) : 1 ≤ (mx c).toInt ∧ (mx c).toInt ≤ 128 := by
  obtain ⟨h1, h2, -, -⟩ := cm_nn h
  have o1 : (1 : Int32).toInt = 1 := rfl
  unfold mx; split
  · omega
  · rename_i q; rw [Int32.lt_iff_toInt_lt] at q; omega
theorem mx_nz {c m : Int32} (h : CM c m) : (mx c).toInt64 ≠ 0 := fun q => by
  have h1 := (mx_pos h).1
  rw [← Int32.toInt_toInt64, q] at h1; exact absurd h1 (by decide)
theorem p_nz {c m : Int32} (h : CM c m) : (mx c).toInt64 * m.toInt64 ≠ 0 := fun q => by
  obtain ⟨h1, h2⟩ := mx_pos h
  obtain ⟨-, -, h3, h4⟩ := cm_nn h
  have e : (mx c).toInt64.toInt * m.toInt64.toInt = (mx c).toInt * m.toInt := by rw [Int32.toInt_toInt64, Int32.toInt_toInt64]
  have b1 := Int.mul_le_mul h1 h3 (by omega) (by omega)
  have b2 := Int.mul_le_mul h2 h4 (by omega) (by omega)
  have r := t_mul (a := (mx c).toInt64) (b := m.toInt64) (by omega) (by omega)
  rw [q, e] at r
  have z : (0 : Int64).toInt = 0 := rfl
  omega
/-- the law's numbers -/
theorem law_num {e l : Int64} {c k m : Int32} (he : ∃ n : Nat, e.toInt = n ∧ n < 1099511627776) (hl : ∃ n : Nat, l.toInt = n ∧ n < 1099511627776) (hcm : CM c m) (hck : CK c k) :
    ddiv (dadd (l2d ((e + l) + (m.toInt64 * (c - k).toInt64) / (mx c).toInt64)) (ddiv (l2d ((m.toInt64 * (c - k).toInt64) - (m.toInt64 * (c - k).toInt64) / (mx c).toInt64 * (mx c).toInt64)) (l2d (mx c).toInt64))) (i2d m)
      = ddiv (l2d ((e + l) * (mx c).toInt64 + m.toInt64 * (c - k).toInt64)) (l2d ((mx c).toInt64 * m.toInt64)) ∧
    dcmp (ddiv (l2d ((e + l) * (mx c).toInt64 + m.toInt64 * (c - k).toInt64)) (l2d ((mx c).toInt64 * m.toInt64))) (ddiv (l2d ((e + l) * (mx c).toInt64 + m.toInt64 * (c - k).toInt64)) (l2d ((mx c).toInt64 * m.toInt64))) = some .eq := by
  obtain ⟨ne, he, he'⟩ := he
  obtain ⟨nl, hl, hl'⟩ := hl
  obtain ⟨h1, h2, h3, h4⟩ := cm_nn hcm
  have z0 : (0 : Int32).toInt = 0 := rfl
  have o1 : (1 : Int32).toInt = 1 := rfl
  -- the divisor
  obtain ⟨d, hd, hd1, hd2, hdc⟩ : ∃ d : Nat, (mx c).toInt = d ∧ 1 ≤ d ∧ d ≤ 128 ∧ (d = 1 ∧ c = 0 ∨ c.toInt = d) := by
    rcases h1 with rfl | h1
    · exact ⟨1, by decide, by omega, by omega, Or.inl ⟨rfl, rfl⟩⟩
    · have : mx c = c := by unfold mx; rw [if_neg (by rw [Int32.lt_iff_toInt_lt]; omega)]
      exact ⟨c.toInt.toNat, by rw [this]; omega, by omega, by omega, Or.inr (by omega)⟩
  obtain ⟨M, hM⟩ : ∃ M : Nat, m.toInt = M := ⟨m.toInt.toNat, by omega⟩
  obtain ⟨t, ht, ht'⟩ : ∃ t : Nat, (c - k).toInt = t ∧ t ≤ 127 := by
    rcases hck with ⟨rfl, rfl⟩ | ⟨q1, q2⟩
    · exact ⟨0, by decide, by omega⟩
    · have : (c - k).toInt = c.toInt - k.toInt := s_sub (by omega) (by omega)
      exact ⟨(c - k).toInt.toNat, by omega, by omega⟩
  have hd64 : (mx c).toInt64.toInt = d := by rw [Int32.toInt_toInt64]; exact hd
  have hm64 : m.toInt64.toInt = M := by rw [Int32.toInt_toInt64]; exact hM
  have ht64 : (c - k).toInt64.toInt = t := by rw [Int32.toInt_toInt64]; exact ht
  have bw : M * t ≤ 1600 * 127 := Nat.mul_le_mul (by omega) ht'
  have hw : (m.toInt64 * (c - k).toInt64).toInt = ((M * t : Nat) : Int) := by
    have e : m.toInt64.toInt * (c - k).toInt64.toInt = ((M * t : Nat) : Int) := by rw [hm64, ht64, Int.natCast_mul]
    rw [t_mul (by omega) (by omega), e]
  have hel : (e + l).toInt = ((ne + nl : Nat) : Int) := by rw [t_add (by omega) (by omega)]; omega
  have bdm : d * M ≤ 128 * 1600 := Nat.mul_le_mul hd2 (by omega)
  have hp : ((mx c).toInt64 * m.toInt64).toInt = ((d * M : Nat) : Int) := by
    have e : (mx c).toInt64.toInt * m.toInt64.toInt = ((d * M : Nat) : Int) := by rw [hd64, hm64, Int.natCast_mul]
    rw [t_mul (by omega) (by omega), e]
  generalize (c - k).toInt64 = tt at *
  generalize m.toInt64 * tt = wt at *
  have q64 : (wt / (mx c).toInt64).toInt = ((M * t / d : Nat) : Int) := by
    rw [Int64.toInt_div_of_ne_right _ _ (fun q => by rw [q] at hd64; have : (-1 : Int64).toInt = -1 := rfl; omega), hw, hd64]; rfl
  have bq : M * t / d ≤ M * t := Nat.div_le_self _ _
  have dm := Nat.div_add_mod (M * t) d
  have lr := Nat.mod_lt (M * t) (show d > 0 by omega)
  have er0 : ∀ j, M = d * j → M * t % d = 0 := fun j z => by rw [z, Nat.mul_assoc]; exact Nat.mul_mod_right _ _
  generalize M * t / d = Q at *
  generalize M * t % d = S at *
  have hW : ((e + l) + wt / (mx c).toInt64).toInt = ((ne + nl + Q : Nat) : Int) := by rw [t_add (by omega) (by omega)]; omega
  have r64 : (wt - wt / (mx c).toInt64 * (mx c).toInt64).toInt = ((S : Nat) : Int) := by
    have e1 : (wt / (mx c).toInt64).toInt * (mx c).toInt64.toInt = ((d * Q : Nat) : Int) := by rw [q64, hd64, ← Int.natCast_mul, Nat.mul_comm]
    have e2 : (wt / (mx c).toInt64 * (mx c).toInt64).toInt = ((d * Q : Nat) : Int) := by rw [t_mul (by omega) (by omega), e1]
    rw [Int64.toInt_sub, hw, e2, Int.bmod_eq_of_le (by omega) (by omega)]
    omega
  have bn : (ne + nl) * d ≤ 2199023255552 * 128 := Nat.mul_le_mul (by omega) hd2
  have hn : ((e + l) * (mx c).toInt64 + wt).toInt = (((ne + nl) * d + M * t : Nat) : Int) := by
    have e1 : (e + l).toInt * (mx c).toInt64.toInt = (((ne + nl) * d : Nat) : Int) := by rw [hel, hd64, Int.natCast_mul]
    have e2 : ((e + l) * (mx c).toInt64).toInt = (((ne + nl) * d : Nat) : Int) := by rw [t_mul (by omega) (by omega), e1]
    rw [t_add (by omega) (by omega), e2, hw]; rfl
  have hk : (ne + nl + Q) * d + S = (ne + nl) * d + M * t := by
    rw [Nat.add_mul, Nat.mul_comm Q]; omega
  rcases hcm with ⟨a, b, ha, hb, hc, hm⟩ | ⟨j, d', j1, j2, d1, d2, hc, hm⟩
  · have ed : d = 2^a := by
      rcases hdc with ⟨q1, q2⟩ | q
      · rcases hc with ⟨-, q3⟩ | q3
        · rw [q1, q3]
        · have := Nat.two_pow_pos a; rw [q2] at q3; omega
      · rcases hc with ⟨q3, q4⟩ | q3
        · rw [q3] at q; omega
        · omega
    exact density (a := a) (b := a) (K1 := S) (K2 := (ne + nl) * d + M * t) hW r64 hd64 hM hn hp (by omega) (by omega) (by omega) (by omega) (by omega) (by omega) (by omega) hk (by rw [ed]) (by omega) (by omega) (by rw [ed]) (by omega) (by omega)
  · have ed : d = d' := by
      rcases hdc with ⟨q1, q2⟩ | q
      · rw [q2] at hc; omega
      · omega
    subst ed
    have eM : M = d * j := by omega
    have er : S = 0 := er0 j eM
    exact density (a := 0) (b := 0) (K1 := 0) (K2 := ne + nl + Q) hW r64 hd64 hM hn hp (by omega) (by omega) (by omega) (by omega) (by omega) (by omega) (by omega) hk (by rw [er, Nat.zero_mul, Nat.zero_mul]) (by omega) (by omega) (by rw [← hk, er, Nat.add_zero, Nat.pow_zero, Nat.mul_one]) (by omega) (by omega)
end Jvm.Pilot.@@N@@.OwnFP
-- part pre
namespace Jvm.Pilot.@@N@@
open Jvm Jvm.ClassFile Sem Op Lib Jvm.Free Jvm.Stand Jvm.LawKit Jvm.RoadKit Bundle Jvm.Pilot.@@N@@.Jvm.D
section Pre
variable {Z : State} {a0 : Array Value} {EL : List (String × Nat)} {sv : Bool} {p : Program} {l : Launch} {e : Env} {R : Room} {s : State} {m : MethodId} {args : Array Value} {below : List Frame} {meth : Method} {c : Code} {own : String} {bytes : ByteArray} {maxL : Nat} {rt : Option FieldType} {nm : String} {h0 : Heap} {ws sf : List Addr} {T : State} {h : Heap} {locs : List Loc} {cells slots : Nat} {Q : Option Value → Heap → Prop} {kc ks : Nat}
theorem neA {x y : Addr} (h : @LT.lt Nat _ x y ∨ @LT.lt Nat _ y x) : x ≠ y := fun e => by subst e; rcases h with h | h <;> exact Nat.lt_irrefl _ h
/-- the i-th word of the tables -/
theorem wd (hw : ∀ d ∈ tables_1, d.before a0 Z = true) (i : Nat) {d : Jvm.Cond} (hd : tables_1[i]? = some d) : d.before a0 Z = true := hw d (List.mem_of_getElem? hd)
/-- the run from T with the frame g on top ends well: it returns, and Q says what -/
def Run (Z : State) (EL : List (String × Nat)) (sv : Bool) (p : Program) (e : Env) (below : List Frame) (s : State) (h0 : Heap) (ws : List Addr) (Q : Option Value → Heap → Prop) (kc ks : Nat) (T : State) (g : JFrame) : Prop :=
  ∃ s₂ o, Steps p.tables e below (T.setTop g) s₂ ∧ s₂.status = .running ∧ Ended s₂ below o ∧ ∃ v L, o = .returned v ∧ (Fr Z.heap.size L ∧ Keep h0 s₂.heap ws ∧ Q v s₂.heap) ∧ CHr Z EL s.vm h0 s₂.vm s₂.heap ∧ ReturnedEndW s o s₂ L kc ks ∧ (NW = true → s.WarmedH s₂.vm) ∧ (sv = true → ∀ x, v = some (.ref x) → x < s₂.heap.size ∧ Safe Z EL s₂.vm s₂.heap x)
/-- what a walk bears at every place: besides the Stand (over the start with the tables at hand): what is plain; what is said of the tables -/
def Sit (Z : State) (a0 : Array Value) (EL : List (String × Nat)) (p : Program) (l : Launch) (e : Env) (R : Room) (s : State) (m : MethodId) (args : Array Value) (below : List Frame) (meth : Method) (c : Code) (own : String) (bytes : ByteArray) (maxL : Nat) (rt : Option FieldType) (nm : String) (h0 : Heap) (ws : List Addr) (sf : List Addr) (T : State) (h : Heap) (locs : List Loc) (cells slots : Nat) : Prop :=
  (T.heap = h ∧ p.tables.exec = Jvm.exec ∧ c.code = bytes ∧ c.maxLocals = maxL ∧ meth.sig.returnType = rt ∧ meth.locks = false ∧ meth.name = nm ∧ Fr Z.heap.size locs ∧ Keep h0 h ws ∧ Ext Z.heap h ∧ EW Z a0 EL) ∧
  ∃ vm0 k0, Stand p l e R (s.setVm vm0) m args below meth c T locs cells slots ∧ Z.Warmed39 vm0 ∧ vm0.findClass own = some m.cls ∧ s.Since vm0 k0 ∧ k0 ≤ h.size ∧ CHr Z EL s.vm h0 vm0 h ∧ (∀ x ∈ sf, x < h.size ∧ Safe Z EL vm0 h x) ∧ (NW = true → s.WarmedH vm0)
theorem Sit.eh (X : Sit Z a0 EL p l e R s m args below meth c own bytes maxL rt nm h0 ws sf T h locs cells slots) : T.heap = h := X.1.1
theorem Sit.ex (X : Sit Z a0 EL p l e R s m args below meth c own bytes maxL rt nm h0 ws sf T h locs cells slots) : p.tables.exec = Jvm.exec := X.1.2.1
theorem Sit.byt (X : Sit Z a0 EL p l e R s m args below meth c own bytes maxL rt nm h0 ws sf T h locs cells slots) : c.code = bytes := X.1.2.2.1
theorem Sit.ml (X : Sit Z a0 EL p l e R s m args below meth c own bytes maxL rt nm h0 ws sf T h locs cells slots) : c.maxLocals = maxL := X.1.2.2.2.1
theorem Sit.rtt (X : Sit Z a0 EL p l e R s m args below meth c own bytes maxL rt nm h0 ws sf T h locs cells slots) : meth.sig.returnType = rt := X.1.2.2.2.2.1
theorem Sit.lk (X : Sit Z a0 EL p l e R s m args below meth c own bytes maxL rt nm h0 ws sf T h locs cells slots) : meth.locks = false := X.1.2.2.2.2.2.1
theorem Sit.nmm (X : Sit Z a0 EL p l e R s m args below meth c own bytes maxL rt nm h0 ws sf T h locs cells slots) : meth.name = nm := X.1.2.2.2.2.2.2.1
theorem Sit.fr (X : Sit Z a0 EL p l e R s m args below meth c own bytes maxL rt nm h0 ws sf T h locs cells slots) : Fr Z.heap.size locs := X.1.2.2.2.2.2.2.2.1
theorem Sit.kp (X : Sit Z a0 EL p l e R s m args below meth c own bytes maxL rt nm h0 ws sf T h locs cells slots) : Keep h0 h ws := X.1.2.2.2.2.2.2.2.2.1
theorem Sit.old (X : Sit Z a0 EL p l e R s m args below meth c own bytes maxL rt nm h0 ws sf T h locs cells slots) : Ext Z.heap h := X.1.2.2.2.2.2.2.2.2.2.1
theorem Sit.ew (X : Sit Z a0 EL p l e R s m args below meth c own bytes maxL rt nm h0 ws sf T h locs cells slots) : EW Z a0 EL := X.1.2.2.2.2.2.2.2.2.2.2
theorem Sit.at (X : Sit Z a0 EL p l e R s m args below meth c own bytes maxL rt nm h0 ws sf T h locs cells slots) : At T m c below := by obtain ⟨-, vm0, k0, X, -⟩ := X; exact X.here
theorem Sit.de (X : Sit Z a0 EL p l e R s m args below meth c own bytes maxL rt nm h0 ws sf T h locs cells slots) {pc : Nat} {r : Except ClassFile.DecodeError (ClassFile.Instr × Nat)} (h2 : ClassFile.decode bytes pc = r) : ClassFile.decode c.code pc = r := X.byt ▸ h2
theorem extKp {h' : Heap} {wz : List Addr} (O : Ext Z.heap h) (K : Keep h h' wz) (q : ∀ x ∈ wz, Z.heap.size ≤ x) : Ext Z.heap h' := ⟨Nat.le_trans O.1 K.1, fun a cl r => K.2.1 _ _ (O.2 _ _ r) fun z => absurd (Array.getElem?_eq_some_iff.mp r).1 (Nat.not_lt.mpr (q _ z))⟩
theorem extK {h h' : Heap} (E : Ext h h') : Keep h h' [] := (Keep.refl h []).ext E
theorem Sit.mono (X : Sit Z a0 EL p l e R s m args below meth c own bytes maxL rt nm h0 ws sf T h locs cells slots) {k n : Nat} (hk : cells ≤ k) (hn : slots ≤ n) : Sit Z a0 EL p l e R s m args below meth c own bytes maxL rt nm h0 ws sf T h locs k n := by
  obtain ⟨F, vm0, k0, Y, r⟩ := X; exact ⟨F, vm0, k0, Y.mono hk hn, r⟩
theorem Sit.less {sf' : List Addr} (X : Sit Z a0 EL p l e R s m args below meth c own bytes maxL rt nm h0 ws sf T h locs cells slots) (q : ∀ x ∈ sf', x ∈ sf) : Sit Z a0 EL p l e R s m args below meth c own bytes maxL rt nm h0 ws sf' T h locs cells slots := by
  obtain ⟨F, vm0, k0, Y, r1, r2, r3, r4, r5, r6, r7⟩ := X; exact ⟨F, vm0, k0, Y, r1, r2, r3, r4, r5, fun x hx => r6 x (q x hx), r7⟩
theorem Run.via {T' : State} {g g' : JFrame} (q : ∀ t, Steps p.tables e below (T'.setTop g') t → Steps p.tables e below (T.setTop g) t) (r : Run Z EL sv p e below s h0 ws Q kc ks T' g') : Run Z EL sv p e below s h0 ws Q kc ks T g := by
  obtain ⟨s₂, o, r1, r2⟩ := r
  exact ⟨s₂, o, q _ r1, r2⟩
theorem Run.on {T' : State} {g g' : JFrame} (q : Steps p.tables e below (T.setTop g) (T'.setTop g')) (r : Run Z EL sv p e below s h0 ws Q kc ks T' g') : Run Z EL sv p e below s h0 ws Q kc ks T g := Run.via (fun _ k => q.trans k) r
/-- the end -/
theorem Run.out (X : Sit Z a0 EL p l e R s m args below meth c own bytes maxL rt nm h0 ws sf T h locs cells slots) {v : Option Value} {g : JFrame} (hv : rt = none → v = none) (hc : cells ≤ kc) (hs : slots ≤ ks) (hq : Q v h) (hsv : sv = true → ∀ x, v = some (.ref x) → x ∈ sf)
    (q : ∀ vm0 fs, Stand p l e R (s.setVm vm0) m args below meth c T locs cells slots → (∀ (f : JFrame) (acts : List Action), f.method = m → f.locked = none → f.entered = [] → (doReturn e (T.setTop f) acts v).1 = T.setFrames fs) → Steps p.tables e below (T.setTop g) (T.setFrames fs)) : Run Z EL sv p e below s h0 ws Q kc ks T g := by
  obtain ⟨F, vm0, k0, Y, r1, r2, r3, r4, r5, r6, r7⟩ := id X
  obtain ⟨fs, hr, hrun, hended, hW⟩ := Y.leaveW r3 (by rw [X.eh]; exact r4) (v := v) (fun z => hv (X.rtt.symm.trans z)) X.lk
  have eh : (T.setFrames fs).heap = h := X.eh
  have ev : (T.setFrames fs).vm = T.vm := rfl
  refine ⟨_, _, q vm0 fs Y hr, hrun, hended, v, locs, rfl, ⟨X.fr, by rw [eh]; exact X.kp, by rw [eh]; exact hq⟩, ?_, ⟨hW.1, hW.2.1, hW.2.2.1, hW.2.2.2.mono hc hs⟩, fun z => ?_, fun z x hx => ?_⟩
  · rw [eh, ev]; exact r5.trans (CHv.at Y r1 X.ew r5.1)
  · rw [ev]; exact State.WarmedH.trans (t := s.setVm vm0) (r7 z) Y.warmed
  · rw [eh, ev]; exact ⟨(r6 x (hsv z x hx)).1, (CHv.at Y r1 X.ew r5.1).safe (r6 x (hsv z x hx)).1 (r6 x (hsv z x hx)).2⟩
theorem Run.retN (X : Sit Z a0 EL p l e R s m args below meth c own bytes maxL rt nm h0 ws sf T h locs cells slots) {pc : Nat} {Ls : Array Slot} {z : Int32} {rest : List Value} {t : FieldType} (hr : rt = some t) (ht : t = .boolean ∨ t = .byte ∨ t = .char ∨ t = .short) (hd : decode bytes pc = .ok (.ireturn, 1)) (hc : cells ≤ kc) (hs : slots ≤ ks) (hq : Q (some (.int (nar t z))) h) :
    Run Z EL sv p e below s h0 ws Q kc ks T (mkF m pc Ls (.int z :: rest)) :=
  Run.out X (fun z => by rw [hr] at z; cases z) hc hs hq (fun _ _ z => by cases z) fun vm0 fs Y q => Jvm.RoadKit.retN Y X.ex (X.rtt.trans hr) ht (X.de hd) q
theorem Run.retI (X : Sit Z a0 EL p l e R s m args below meth c own bytes maxL rt nm h0 ws sf T h locs cells slots) {pc : Nat} {Ls : Array Slot} {z : Int32} {rest : List Value} (hr : rt = some .int) (hd : decode bytes pc = .ok (.ireturn, 1)) (hc : cells ≤ kc) (hs : slots ≤ ks) (hq : Q (some (.int z)) h) :
    Run Z EL sv p e below s h0 ws Q kc ks T (mkF m pc Ls (.int z :: rest)) :=
  Run.out X (fun z => by rw [hr] at z; cases z) hc hs hq (fun _ _ z => by cases z) fun vm0 fs Y q => retOut Y X.ex (X.rtt.trans hr) rfl (Or.inl ⟨rfl, Or.inl rfl, z, rfl⟩) (X.de hd) q
theorem Run.retA (X : Sit Z a0 EL p l e R s m args below meth c own bytes maxL rt nm h0 ws sf T h locs cells slots) {pc : Nat} {Ls : Array Slot} {v : Value} {rest : List Value} {t : FieldType} (hr : rt = some t) (ht : t.isReference = true) (hv : v.isRef = true) (hd : decode bytes pc = .ok (.areturn, 1)) (hc : cells ≤ kc) (hs : slots ≤ ks) (hq : Q (some v) h) (hsv : sv = true → ∀ x, v = .ref x → x ∈ sf) :
    Run Z EL sv p e below s h0 ws Q kc ks T (mkF m pc Ls (v :: rest)) :=
  Run.out X (fun z => by rw [hr] at z; cases z) hc hs hq (fun z x hx => hsv z x (Option.some.inj hx)) fun vm0 fs Y q => retOut Y X.ex (X.rtt.trans hr) (by rcases ref_cases hv with rfl | ⟨_, rfl⟩ <;> cases t <;> rfl) (Or.inr (Or.inr (Or.inr (Or.inr ⟨rfl, ht, hv⟩)))) (X.de hd) q
theorem Run.retV (X : Sit Z a0 EL p l e R s m args below meth c own bytes maxL rt nm h0 ws sf T h locs cells slots) {pc : Nat} {Ls : Array Slot} (hr : rt = none) (hd : decode bytes pc = .ok (.return_, 1)) (hc : cells ≤ kc) (hs : slots ≤ ks) (hq : Q none h) :
    Run Z EL sv p e below s h0 ws Q kc ks T (mkF m pc Ls []) :=
  Run.out X (fun _ => rfl) hc hs hq (fun _ _ z => by cases z) fun vm0 fs Y q => Y.returnOut X.ex (X.rtt.trans hr) (X.de hd) q
/-- a body's contract; sf: objects handed in that are no booked literal's -/
def Con (l : Launch) (Z : State) (a0 : Array Value) (EL : List (String × Nat)) (sv : Bool) (y : MethodName) (bytes : ByteArray) (maxL : Nat) (rt : Option FieldType) (rm : Room) (ws sf : List Addr) (as' : Array Value) (h0 : Heap) (Q : Option Value → Heap → Prop) : Prop :=
  EW Z a0 EL → ∀ wds, MetFree l y (head1 (Jvm.Cond.code y bytes maxL rt :: wds) rm) (fun a U => a = as' ∧ Z.Warmed39 U.vm ∧ U.heap = h0 ∧ CHv Z EL U.vm h0 ∧ ∀ x ∈ sf, x < h0.size ∧ Safe Z EL U.vm h0 x) (fun _ _ _ _ _ => True) (fun _ U o U' => ∃ v L, o = .returned v ∧ (Fr Z.heap.size L ∧ Keep h0 U'.heap ws ∧ Q v U'.heap) ∧ CHr Z EL U.vm h0 U'.vm U'.heap ∧ ReturnedEndW U o U' L rm.cells rm.slots ∧ (NW = true → U.WarmedH U'.vm) ∧ (sv = true → ∀ x, v = some (.ref x) → x < U'.heap.size ∧ Safe Z EL U'.vm U'.heap x))
theorem Con.enter {y : MethodName} {rm : Room} {as' : Array Value} (hn : plainFor y = true) (hE : Ext Z.heap h0)
    (body : ∀ p e s m below meth c T, Sit Z a0 EL p l e rm s m as' below meth c y.cls bytes maxL rt y.name h0 ws sf T h0 [] 0 0 → Run Z EL sv p e below s h0 ws Q rm.cells rm.slots T (entryFrame m as' maxL)) : Con l Z a0 EL sv y bytes maxL rt rm ws sf as' h0 Q := by
  intro hEW wds
  refine MetFree.of_bodySF hn hisR ?_
  intro p e s m args below meth c s₁ Bd hml0 hP hK
  obtain ⟨rfl, hZ, hh, hH, hsf⟩ := hP
  have X0 : Stand p l e rm s m args below meth c s₁ [] 0 0 := Stand.of_body Bd
  have e0 : s₁.heap = h0 := by rw [← hh, Bd.state]; rfl
  exact body p e s m below meth c s₁ ⟨⟨e0, Bd.exec, Bd.bytes, hml0, Bd.returns, Bd.notSynchronized, (name_of_methodNamed Bd.named Bd.method).1, Fr.nil _, Keep.refl _ _, hE, hEW⟩, s.vm, h0.size, X0, hZ, findClass_of_methodNamed Bd.named, (State.WarmedH.refl s).since _, Nat.le_refl _, CHr.refl hH, hsf, fun _ => State.WarmedH.refl s⟩
/-! steps: the same base -/
/-- the walk goes on: other state, same heap -/
theorem Sit.same (X : Sit Z a0 EL p l e R s m args below meth c own bytes maxL rt nm h0 ws sf T h locs cells slots) {Q' : State → Prop} (q : ∀ vm0, Stand p l e R (s.setVm vm0) m args below meth c T locs cells slots → Z.Warmed39 (s.setVm vm0).vm → (s.setVm vm0).vm.findClass own = some m.cls → ∃ T', Stand p l e R (s.setVm vm0) m args below meth c T' locs cells slots ∧ T'.heap = h ∧ Q' T') : ∃ T', Sit Z a0 EL p l e R s m args below meth c own bytes maxL rt nm h0 ws sf T' h locs cells slots ∧ Q' T' := by
  obtain ⟨F, vm0, k0, Y, r1, r2, r⟩ := id X
  obtain ⟨T', Y', e', q'⟩ := q vm0 Y r1 r2
  exact ⟨T', ⟨⟨e', X.ex, X.byt, X.ml, X.rtt, X.lk, X.nmm, X.fr, X.kp, X.old, X.ew⟩, vm0, k0, Y', r1, r2, r⟩, q'⟩
/-- .. the heap has grown by an object x; it is nobody's literal -/
theorem Sit.grow (X : Sit Z a0 EL p l e R s m args below meth c own bytes maxL rt nm h0 ws sf T h locs cells slots) {k n : Nat} {Q' : State → Heap → Prop} (q : ∀ vm0, Stand p l e R (s.setVm vm0) m args below meth c T locs cells slots → Z.Warmed39 (s.setVm vm0).vm → (s.setVm vm0).vm.findClass own = some m.cls → ∃ T' h', Stand p l e R (s.setVm vm0) m args below meth c T' locs k n ∧ T'.heap = h' ∧ Ext h h' ∧ h.size < h'.size ∧ Q' T' h') : ∃ T' h', Sit Z a0 EL p l e R s m args below meth c own bytes maxL rt nm h0 ws (h.size :: sf) T' h' locs k n ∧ Ext h h' ∧ Q' T' h' := by
  obtain ⟨F, vm0, k0, Y, r1, r2, r3, r4, r5, r6, r7⟩ := id X
  obtain ⟨T', h', Y', e', E, lt, q'⟩ := q vm0 Y r1 r2
  refine ⟨T', h', ⟨⟨e', X.ex, X.byt, X.ml, X.rtt, X.lk, X.nmm, X.fr, X.kp.ext E, extKp X.old (extK E) (fun _ z => nomatch z), X.ew⟩, vm0, k0, Y', r1, r2, r3, Nat.le_trans r4 E.1, r5.trans (CHr.ext E r5.1), fun x hx => ?_, r7⟩, E, q'⟩
  rcases List.mem_cons.mp hx with rfl | hx
  · exact ⟨lt, (Safe.new (Nat.le_refl _)).ext E r5.1⟩
  · exact ⟨Nat.lt_of_lt_of_le (r6 x hx).1 E.1, (r6 x hx).2.ext E r5.1⟩
/-- .. only the places wz were written, none of a literal's -/
theorem Sit.go (X : Sit Z a0 EL p l e R s m args below meth c own bytes maxL rt nm h0 ws sf T h locs cells slots) {k n : Nat} {wz : List Addr} {Q' : State → Heap → List Loc → Prop} (r : ∀ x ∈ wz, (x ∈ ws ∨ h0.size ≤ x) ∧ Z.heap.size ≤ x) (sfe : ∀ vm0, Z.vm.Alike vm0 → (∀ x ∈ sf, Safe Z EL vm0 h x) → ∀ x ∈ wz, Safe Z EL vm0 h x)
    (q : ∀ vm0, Stand p l e R (s.setVm vm0) m args below meth c T locs cells slots → Z.Warmed39 (s.setVm vm0).vm → (s.setVm vm0).vm.findClass own = some m.cls → ∃ T' h' L, Stand p l e R (s.setVm vm0) m args below meth c T' (locs ++ L) k n ∧ T'.heap = h' ∧ Keep h h' wz ∧ Fr Z.heap.size L ∧ Q' T' h' L) : ∃ T' h' L, Sit Z a0 EL p l e R s m args below meth c own bytes maxL rt nm h0 ws sf T' h' (locs ++ L) k n ∧ Keep h h' wz ∧ Q' T' h' L := by
  obtain ⟨F, vm0, k0, Y, r1, r2, r3, r4, r5, r6, r7⟩ := id X
  obtain ⟨T', h', L, Y', e', K, N, q'⟩ := q vm0 Y r1 r2
  have sw := sfe vm0 r1.alike fun x hx => (r6 x hx).2
  exact ⟨T', h', L, ⟨⟨e', X.ex, X.byt, X.ml, X.rtt, X.lk, X.nmm, Fr.app X.fr N, X.kp.trans K fun x hx => (r x hx).1, extKp X.old K fun x hx => (r x hx).2, X.ew⟩, vm0, k0, Y', r1, r2, r3, Nat.le_trans r4 K.1, r5.trans (CHr.keep K sw r5.1), fun x hx => ⟨Nat.lt_of_lt_of_le (r6 x hx).1 K.1, (r6 x hx).2.keep K sw r5.1⟩, r7⟩, K, q'⟩
/-- .. as 'go', the places said anew -/
theorem Sit.goL (X : Sit Z a0 EL p l e R s m args below meth c own bytes maxL rt nm h0 ws sf T h locs cells slots) {k n : Nat} {wz : List Addr} {Q' : State → Heap → Prop} (r : ∀ x ∈ wz, (x ∈ ws ∨ h0.size ≤ x) ∧ Z.heap.size ≤ x) (sfe : ∀ vm0, Z.vm.Alike vm0 → (∀ x ∈ sf, Safe Z EL vm0 h x) → ∀ x ∈ wz, Safe Z EL vm0 h x)
    (q : ∀ vm0, Stand p l e R (s.setVm vm0) m args below meth c T locs cells slots → Z.Warmed39 (s.setVm vm0).vm → (s.setVm vm0).vm.findClass own = some m.cls → ∃ T' h' L, Stand p l e R (s.setVm vm0) m args below meth c T' L k n ∧ T'.heap = h' ∧ Keep h h' wz ∧ Fr Z.heap.size L ∧ Q' T' h') : ∃ T' h' L, Sit Z a0 EL p l e R s m args below meth c own bytes maxL rt nm h0 ws sf T' h' L k n ∧ Keep h h' wz ∧ Q' T' h' := by
  obtain ⟨F, vm0, k0, Y, r1, r2, r3, r4, r5, r6, r7⟩ := id X
  obtain ⟨T', h', L, Y', e', K, N, q'⟩ := q vm0 Y r1 r2
  have sw := sfe vm0 r1.alike fun x hx => (r6 x hx).2
  exact ⟨T', h', L, ⟨⟨e', X.ex, X.byt, X.ml, X.rtt, X.lk, X.nmm, N, X.kp.trans K fun x hx => (r x hx).1, extKp X.old K fun x hx => (r x hx).2, X.ew⟩, vm0, k0, Y', r1, r2, r3, Nat.le_trans r4 K.1, r5.trans (CHr.keep K sw r5.1), fun x hx => ⟨Nat.lt_of_lt_of_le (r6 x hx).1 K.1, (r6 x hx).2.keep K sw r5.1⟩, r7⟩, K, q'⟩
/-- the reference that comes back, where the contract says that it is nobody's literal -/
def rvs (su : Bool) (v : Option Value) : List Addr := match su, v with
  | true, some (.ref x) => [x]
  | _, _ => []
theorem rvs_safe {su : Bool} {v : Option Value} {P : Addr → Prop} (q : su = true → ∀ x, v = some (.ref x) → P x) : ∀ x ∈ rvs su v, P x := fun x hx => by
  unfold rvs at hx
  split at hx
  · cases List.mem_singleton.mp hx; exact q rfl x rfl
  · cases hx
/-- .. a step that may have interned: another base -/
theorem Sit.reb (X : Sit Z a0 EL p l e R s m args below meth c own bytes maxL rt nm h0 ws sf T h locs cells slots) {k n : Nat} {wz : List Addr} {Q' : State → Heap → List Loc → List Addr → Prop} (r : ∀ x ∈ wz, (x ∈ ws ∨ h0.size ≤ x) ∧ Z.heap.size ≤ x)
    (q : ∀ vm0 k0, Stand p l e R (s.setVm vm0) m args below meth c T locs cells slots → Z.Warmed39 (s.setVm vm0).vm → (s.setVm vm0).vm.findClass own = some m.cls → s.Since vm0 k0 → k0 ≤ h.size → CHv Z EL vm0 h → (∀ x ∈ sf, x < h.size ∧ Safe Z EL vm0 h x) → ∃ T' h' L vm1 k1 sx, Stand p l e R (s.setVm vm1) m args below meth c T' (locs ++ L) k n ∧ T'.heap = h' ∧ Keep h h' wz ∧ Fr Z.heap.size L ∧ Z.Warmed39 vm1 ∧ vm1.findClass own = some m.cls ∧ s.Since vm1 k1 ∧ k1 ≤ h'.size ∧ CHr Z EL vm0 h vm1 h' ∧ (NW = true → (s.setVm vm0).WarmedH vm1) ∧ (∀ x ∈ sx, x < h'.size ∧ Safe Z EL vm1 h' x) ∧ Q' T' h' L sx) : ∃ T' h' L sx, Sit Z a0 EL p l e R s m args below meth c own bytes maxL rt nm h0 ws (sx ++ sf) T' h' (locs ++ L) k n ∧ Keep h h' wz ∧ Q' T' h' L sx := by
  obtain ⟨F, vm0, k0, Y, r1, r2, r3, r4, r5, r6, r7⟩ := id X
  obtain ⟨T', h', L, vm1, k1, sx, Y', e', K, N, W1, W2, S1, hk1, C1, n1, f1, q'⟩ := q vm0 k0 Y r1 r2 r3 r4 r5.1 r6
  refine ⟨T', h', L, sx, ⟨⟨e', X.ex, X.byt, X.ml, X.rtt, X.lk, X.nmm, Fr.app X.fr N, X.kp.trans K fun x hx => (r x hx).1, extKp X.old K fun x hx => (r x hx).2, X.ew⟩, vm1, k1, Y', W1, W2, S1, hk1, r5.trans C1, fun x hx => ?_, fun z => State.WarmedH.trans (t := s.setVm vm0) (r7 z) (n1 z)⟩, K, q'⟩
  rcases List.mem_append.mp hx with hx | hx
  · exact f1 x hx
  · exact ⟨Nat.lt_of_lt_of_le (r6 x hx).1 K.1, C1.safe (r6 x hx).1 (r6 x hx).2⟩
theorem Run.new (X : Sit Z a0 EL p l e R s m args below meth c own bytes maxL rt nm h0 ws sf T h locs cells slots) {C : String} {index n pc : Nat} {Ls : Array Slot} {st : List Value} (w : (Cond.classLink own index C).before a0 Z = true) (wi : (Cond.instantiable C n).before a0 Z = true) (wz : (Cond.initialized C).before a0 Z = true) (hd : decode bytes pc = .ok (.new index, 3)) (hc : cells + 1 ≤ R.cells) (hl : slots + n ≤ R.slots)
    (k : ∀ (T' : State) (h' : Heap) (x : Addr), @Eq Nat x h.size → Sit Z a0 EL p l e R s m args below meth c own bytes maxL rt nm h0 ws (x :: sf) T' h' locs (cells + 1) (slots + n) → Keep h h' [] → @LT.lt Nat _ x h'.size → Exa Z h' x C → (∀ {O f d : String} {ty : FieldType}, Laid Z a0 C O f d → parseFieldDescriptor d = some ty → Fld Z h' x O f d (defaultValue ty)) → Run Z EL sv p e below s h0 ws Q kc ks T' (mkF m (pc + 3) Ls (.ref x :: st))) :
    Run Z EL sv p e below s h0 ws Q kc ks T (mkF m pc Ls st) := by
  obtain ⟨T', h', X', E, A, D, q⟩ := X.grow (k := cells + 1) (n := slots + n) (Q' := fun T' h' => Exa Z h' h.size C ∧ (∀ {O f d : String} {ty : FieldType}, Laid Z a0 C O f d → parseFieldDescriptor d = some ty → Fld Z h' h.size O f d (defaultValue ty)) ∧ ∀ t, Steps p.tables e below (T'.setTop (mkF m (pc + 3) Ls (.ref h.size :: st))) t → Steps p.tables e below (T.setTop (mkF m pc Ls st)) t) fun vm0 Y hZ ho => by
    obtain ⟨T', h', Y', e', E, A, D, -, q⟩ := newO Y X.ex hZ ho w wi wz X.eh (g := mkF m pc Ls st) rfl (X.de hd) hc hl
    exact ⟨T', h', Y', e', E, A.lt, A, D, q⟩
  exact Run.via q (k T' h' _ rfl X' (extK E) A.lt A D)
theorem Run.getf (X : Sit Z a0 EL p l e R s m args below meth c own bytes maxL rt nm h0 ws sf T h locs cells slots) {R0 O f d : String} {index pc : Nat} {Ls : Array Slot} {st : List Value} {a : Addr} {v : Value} (w : (Cond.fieldLink own index R0 f d).before a0 Z = true) (via : Via Z R0 O f d) (F : Fld Z h a O f d v) (hd : decode bytes pc = .ok (.getfield index, 3))
    (k : ∀ (T' : State), Sit Z a0 EL p l e R s m args below meth c own bytes maxL rt nm h0 ws sf T' h locs cells slots → Run Z EL sv p e below s h0 ws Q kc ks T' (mkF m (pc + 3) Ls (v :: st))) : Run Z EL sv p e below s h0 ws Q kc ks T (mkF m pc Ls (.ref a :: st)) := by
  obtain ⟨T', X', q⟩ := X.same fun vm0 Y hZ ho => getF Y X.ex hZ ho (host := "") (Or.inl w) via X.eh F (g := mkF m pc Ls (.ref a :: st)) rfl rfl (X.de hd)
  exact Run.via q (k T' X')
theorem Run.gets (X : Sit Z a0 EL p l e R s m args below meth c own bytes maxL rt nm h0 ws sf T h locs cells slots) {R0 O f d : String} {index pc : Nat} {Ls : Array Slot} {st : List Value} {v : Value} (w : (Cond.fieldLink own index R0 f d).before a0 Z = true) (via : Via Z R0 O f d) (F : Sta Z Z.heap O f d v) (hd : decode bytes pc = .ok (.getstatic index, 3))
    (k : ∀ (T' : State), Sit Z a0 EL p l e R s m args below meth c own bytes maxL rt nm h0 ws sf T' h locs cells slots → Run Z EL sv p e below s h0 ws Q kc ks T' (mkF m (pc + 3) Ls (v :: st))) : Run Z EL sv p e below s h0 ws Q kc ks T (mkF m pc Ls st) := by
  obtain ⟨T', X', q⟩ := X.same fun vm0 Y hZ ho => getS Y X.ex hZ (host := "") ho w via X.eh (F.ext X.old) (g := mkF m pc Ls st) rfl (X.de hd)
  exact Run.via q (k T' X')
theorem Run.putf (X : Sit Z a0 EL p l e R s m args below meth c own bytes maxL rt nm h0 ws sf T h locs cells slots) {R0 O f d C : String} {index pc kk : Nat} {Ls : Array Slot} {st : List Value} {a : Addr} {v v' old : Value} {ty : FieldType} (w : (Cond.fieldLink own index R0 f d).before a0 Z = true) (via : Via Z R0 O f d) (F : Fld Z h a O f d old) (E : Exa Z h a C) (L : (Cond.lays C O f d).before a0 Z = true ∨ ((Cond.laysFinal C O f d).before a0 Z = true ∧ own = O ∧ nm = "<init>")) (wi : (Cond.instantiable C kk).before a0 Z = true)
    (hty : parseFieldDescriptor d = some ty) (hn : narrow ty v = v') (hf : fits ty v' = true) (ha : a ∈ ws ∨ h0.size ≤ a) (hz : Z.heap.size ≤ a) (hsf : (C ≠ "java/lang/String" ∧ C ≠ "[B") ∨ a ∈ sf) (hd : decode bytes pc = .ok (.putfield index, 3))
    (k : ∀ (T' : State) (h' : Heap) (L : List Loc), Sit Z a0 EL p l e R s m args below meth c own bytes maxL rt nm h0 ws sf T' h' (locs ++ L) cells slots → Keep h h' [a] → Wr h h' a (RoadKit.slotOf Z O f d) v' → Fld Z h' a O f d v' → Exa Z h' a C → Run Z EL sv p e below s h0 ws Q kc ks T' (mkF m (pc + 3) Ls st)) : Run Z EL sv p e below s h0 ws Q kc ks T (mkF m pc Ls (v :: .ref a :: st)) := by
  obtain ⟨T', h', L', X', K, W, q⟩ := X.go (k := cells) (n := slots) (wz := [a]) (Q' := fun T' h' _ => Wr h h' a (RoadKit.slotOf Z O f d) v' ∧ ∀ t, Steps p.tables e below (T'.setTop (mkF m (pc + 3) Ls st)) t → Steps p.tables e below (T.setTop (mkF m pc Ls (v :: .ref a :: st))) t) (fun x hx => by cases List.mem_singleton.mp hx; exact ⟨ha, hz⟩) (fun vm0 al hs x hx => by cases List.mem_singleton.mp hx; exact hsf.elim (fun z => Safe.exa al E z.1 z.2) (hs a)) fun vm0 Y hZ ho => by
    obtain ⟨T', h', Y', e', W, q⟩ := putFN Y X.ex hZ ho w via X.eh F E (L.imp id fun z => ⟨z.1, z.2.1, X.nmm.trans z.2.2⟩) wi hty hn hf (g := mkF m pc Ls (v :: .ref a :: st)) rfl rfl (X.de hd)
    exact ⟨T', h', _, Y', e', Keep.of_wr W, fun y hy => by cases List.mem_singleton.mp hy; exact hz, W, q⟩
  exact Run.via q (k T' h' L' X' K W (F.same W) (E.wr W))
theorem Run.initO (X : Sit Z a0 EL p l e R s m args below meth c own bytes maxL rt nm h0 ws sf T h locs cells slots) {idx pc : Nat} {Ls : Array Slot} {a : Addr} {st : List Value} (w1 : (Cond.methodLink own idx Lib.objectInit).before a0 Z = true) (w2 : (Cond.instanceMethod Lib.objectInit).before a0 Z = true) (w3 : (Cond.code Lib.objectInit ⟨#[0xb1]⟩ 1 none).before a0 Z = true)
    (hsz : Ls.size = maxL) (hd : decode bytes pc = .ok (.invokespecial idx, 3)) (hf : 1 ≤ R.frames) (hl : (st.map fun v => v.category).sum + 12 ≤ R.locals)
    (k : ∀ (T' : State), Sit Z a0 EL p l e R s m args below meth c own bytes maxL rt nm h0 ws sf T' h locs cells slots → Run Z EL sv p e below s h0 ws Q kc ks T' (mkF m (pc + 3) Ls st)) : Run Z EL sv p e below s h0 ws Q kc ks T (mkF m pc Ls (.ref a :: st)) := by
  obtain ⟨T', X', q⟩ := X.same fun vm0 Y hZ ho => Jvm.RoadKit.initO Y X.ex hZ ho w1 w2 w3 X.eh (g := mkF m pc Ls (.ref a :: st)) rfl (hsz.trans X.ml.symm) rfl (X.de hd) hf (W := (st.map fun v => v.category).sum) (by show 2 * 0 + _ ≤ _; omega) hl
  exact Run.via q (k T' X')
theorem Run.ldcI (X : Sit Z a0 EL p l e R s m args below meth c own bytes maxL rt nm h0 ws sf T h locs cells slots) {index pc : Nat} {v : Int32} {Ls : Array Slot} {st : List Value} (w : (Cond.constant own index v).before a0 Z = true) (hd : decode bytes pc = .ok (.ldc index, 2))
    (k : Run Z EL sv p e below s h0 ws Q kc ks T (mkF m (pc + 2) Ls (.int v :: st))) : Run Z EL sv p e below s h0 ws Q kc ks T (mkF m pc Ls st) := by
  obtain ⟨-, vm0, k0, Y, r1, r2, -⟩ := id X
  exact Run.via (Y.ldcInt X.ex r2 (mv (s := s.setVm vm0) r1 w) (g := mkF m pc Ls st) rfl (X.de hd)) k
theorem Run.ldcL (X : Sit Z a0 EL p l e R s m args below meth c own bytes maxL rt nm h0 ws sf T h locs cells slots) {index pc : Nat} {v : Int64} {Ls : Array Slot} {st : List Value} (w : (Cond.constantLong own index v).before a0 Z = true) (hd : decode bytes pc = .ok (.ldc2_w index, 3))
    (k : Run Z EL sv p e below s h0 ws Q kc ks T (mkF m (pc + 3) Ls (.long v :: st))) : Run Z EL sv p e below s h0 ws Q kc ks T (mkF m pc Ls st) := by
  obtain ⟨-, vm0, k0, Y, r1, r2, -⟩ := id X
  exact Run.via (Y.ldc2Long X.ex r2 (mv (s := s.setVm vm0) r1 w) (g := mkF m pc Ls st) rfl (X.de hd)) k
theorem Run.irem (X : Sit Z a0 EL p l e R s m args below meth c own bytes maxL rt nm h0 ws sf T h locs cells slots) {pc : Nat} {x y : Int32} {Ls : Array Slot} {st : List Value} (hd : decode bytes pc = .ok (.irem, 1)) (hy : y ≠ 0)
    (k : Run Z EL sv p e below s h0 ws Q kc ks T (mkF m (pc + 1) Ls (.int (x % y) :: st))) : Run Z EL sv p e below s h0 ws Q kc ks T (mkF m pc Ls (.int y :: .int x :: st)) := by
  obtain ⟨-, vm0, k0, Y, -⟩ := id X
  exact Run.via (fun t r => iremM Y X.ex (g := mkF m pc Ls (.int y :: .int x :: st)) rfl (X.de hd) rfl hy r) k
theorem Run.lswHit (X : Sit Z a0 EL p l e R s m args below meth c own bytes maxL rt nm h0 ws sf T h locs cells slots) {pc len : Nat} {k : Int32} {df : Int} {pairs : Array (Int × Int)} {Ls : Array Slot} {st : List Value} (hd : decode bytes pc = .ok (.lookupswitch df pairs, len)) (hso : (pairs.toList.zip (pairs.toList.drop 1)).all (fun (a, next) => a.1 < next.1) = true) {a off : Int} (hf : pairs.find? (·.1 == k.toInt) = some (a, off)) (ho : 0 ≤ (pc : Int) + off)
    (r : Run Z EL sv p e below s h0 ws Q kc ks T (mkF m ((pc : Int) + off).toNat Ls st)) : Run Z EL sv p e below s h0 ws Q kc ks T (mkF m pc Ls (.int k :: st)) := by
  obtain ⟨-, vm0, k0, Y, -⟩ := id X
  exact Run.via (fun t r => Y.lookupswitchHit X.ex (g := mkF m pc Ls (.int k :: st)) rfl rfl (X.de hd) hso hf ho t r) r
theorem Run.lswMiss (X : Sit Z a0 EL p l e R s m args below meth c own bytes maxL rt nm h0 ws sf T h locs cells slots) {pc len : Nat} {k : Int32} {df : Int} {pairs : Array (Int × Int)} {Ls : Array Slot} {st : List Value} (hd : decode bytes pc = .ok (.lookupswitch df pairs, len)) (hso : (pairs.toList.zip (pairs.toList.drop 1)).all (fun (a, next) => a.1 < next.1) = true) (hf : pairs.find? (·.1 == k.toInt) = none) (ho : 0 ≤ (pc : Int) + df)
    (r : Run Z EL sv p e below s h0 ws Q kc ks T (mkF m ((pc : Int) + df).toNat Ls st)) : Run Z EL sv p e below s h0 ws Q kc ks T (mkF m pc Ls (.int k :: st)) := by
  obtain ⟨-, vm0, k0, Y, -⟩ := id X
  exact Run.via (fun t r => Y.lookupswitchMiss X.ex (g := mkF m pc Ls (.int k :: st)) rfl rfl (X.de hd) hso hf ho t r) r
/-! arrays of chars or bytes -/
/-- the array b holds just these -/
def Arc (ty : FieldType) (Z : State) (h : Heap) (b : Addr) (cs : List Int32) : Prop := ∃ k, Arv Z h b k ty (Int32.ofNat cs.length) (cs.map Value.int) (.int 0) ∧ cs.length ≤ 4000
theorem n32' {n : Nat} (h : n ≤ 4000) : ¬ Int32.ofNat n < 0 ∧ (Int32.ofNat n).toNatClampNeg = n := by
  have e : (Int32.ofNat n).toInt = n := Int32.toInt_ofNat_small (by omega)
  refine ⟨fun q => ?_, ?_⟩
  · rw [Int32.lt_iff_toInt_lt, e] at q; have : (0 : Int32).toInt = 0 := rfl; omega
  · show (Int32.ofNat n).toInt.toNat = n
    rw [e]; simp
theorem Arc.keep {ty : FieldType} {h' : Heap} {wz : List Addr} {b : Addr} {cs : List Int32} (A : Arc ty Z h b cs) (K : Keep h h' wz) (q : b ∉ wz) : Arc ty Z h' b cs := by
  obtain ⟨k, A, r⟩ := A; exact ⟨k, A.keep K q, r⟩
theorem Arc.lt {ty : FieldType} {b : Addr} {cs : List Int32} (A : Arc ty Z h b cs) : @LT.lt Nat _ b h.size := by obtain ⟨k, A, r⟩ := A; exact A.lt
theorem getD_map (cs : List Int32) (i : Nat) : (cs.map Value.int).getD i (.int 0) = .int (cs.getD i 0) := by
  simp only [List.getD_eq_getElem?_getD, List.getElem?_map]; cases cs[i]? <;> rfl
theorem Run.newarr (X : Sit Z a0 EL p l e R s m args below meth c own bytes maxL rt nm h0 ws sf T h locs cells slots) {aty : ArrayType} {pc n cap : Nat} {j : Int32} {Ls : Array Slot} {st : List Value} (w : (Cond.arrayClass (newarray.typeOf aty)).before a0 Z = true) (hi : defaultValue (newarray.typeOf aty) = .int 0) (hd : decode bytes pc = .ok (.newarray aty, 2)) (hj : j = Int32.ofNat n) (hcap : n ≤ cap) (hn : cap ≤ 4000) (hc : cells + 1 ≤ R.cells) (hl : slots + cap ≤ R.slots)
    (k : ∀ (T' : State) (h' : Heap) (x : Addr), @Eq Nat x h.size → Sit Z a0 EL p l e R s m args below meth c own bytes maxL rt nm h0 ws (x :: sf) T' h' locs (cells + 1) (slots + cap) → Keep h h' [] → @LT.lt Nat _ x h'.size → Arc (newarray.typeOf aty) Z h' x (List.replicate n 0) → Run Z EL sv p e below s h0 ws Q kc ks T' (mkF m (pc + 2) Ls (.ref x :: st))) :
    Run Z EL sv p e below s h0 ws Q kc ks T (mkF m pc Ls (.int j :: st)) := by
  subst hj
  have hn' : n ≤ 4000 := Nat.le_trans hcap hn
  have q32 := n32' hn'
  obtain ⟨T', h', X', E, lt, A, q⟩ := X.grow (k := cells + 1) (n := slots + cap) (Q' := fun T' h' => h.size < h'.size ∧ Arc (newarray.typeOf aty) Z h' h.size (List.replicate n 0) ∧ ∀ t, Steps p.tables e below (T'.setTop (mkF m (pc + 2) Ls (.ref h.size :: st))) t → Steps p.tables e below (T.setTop (mkF m pc Ls (.int (Int32.ofNat n) :: st))) t) fun vm0 Y hZ ho => by
    obtain ⟨T', h', kA, Y', e', E, A, q⟩ := newP Y X.ex hZ w X.eh (g := mkF m pc Ls (.int (Int32.ofNat n) :: st)) rfl (X.de hd) rfl q32.1 (cap := cap) (by rw [q32.2]; exact hcap) (by omega) hc hl
    have V := Arv.new A q32.1
    rw [hi] at V
    refine ⟨T', h', Y', e', E, A.lt, A.lt, ⟨kA, ?_, by simpa using hn'⟩, q⟩
    have V2 := V.pad (vs' := (List.replicate n (0 : Int32)).map Value.int) fun i => by
      have := pad_rep [] (.int 0) n i
      simpa using this
    simpa using V2
  exact Run.via q (k T' h' _ rfl X' (extK E) lt A)
theorem idx_of {j : Int32} {i n : Nat} (hj : j = Int32.ofNat i) (hi : i < n) (hn : n ≤ 4000) : ¬ (j < 0 ∨ (Int32.ofNat n).toNatClampNeg ≤ j.toNatClampNeg) ∧ j.toNatClampNeg = i := by
  subst hj
  have a := n32' (n := i) (by omega)
  have b := n32' hn
  exact ⟨fun q => q.elim a.1 fun q => by rw [a.2, b.2] at q; omega, a.2⟩
theorem Arc.set {ty : FieldType} {h' : Heap} {b : Addr} {cs : List Int32} {j v' : Int32} {i : Nat} {kA : ClassId} {cl : Cell} (hlen : cs.length ≤ 4000) (A : Arr Z h b cl ty) (q1 : cl.cls = kA) (S : cl.slots.size = (Int32.ofNat cs.length).toNatClampNeg) (q3 : ¬ Int32.ofNat cs.length < 0) (H : RoadKit.Has cl (cs.map Value.int) (.int 0)) (G : ∀ i, i < cl.slots.size → fits ty ((cs.map Value.int).getD i (.int 0)) = true) (hv : fits ty (.int v') = true) (W : Wr h h' b j.toNatClampNeg (.int v')) (j2 : j.toNatClampNeg = i) (hi : i < cs.length) : Arc ty Z h' b (cs.set i v') := by
  have V' := Arv.set A q1 S q3 H G hv W i j2 (by simpa using hi)
  refine ⟨kA, ?_, by simpa using hlen⟩
  have e1 : (cs.map Value.int).set i (.int v') = (cs.set i v').map Value.int := by simp [List.map_set]
  rw [e1] at V'
  simpa using V'
theorem Run.castore (X : Sit Z a0 EL p l e R s m args below meth c own bytes maxL rt nm h0 ws sf T h locs cells slots) {pc i : Nat} {j v v' : Int32} {b : Addr} {cs : List Int32} {Ls : Array Slot} {st : List Value} (A : Arc .char Z h b cs) (hj : j = Int32.ofNat i) (hi : i < cs.length) (hv : nar .char v = v') (ha : b ∈ ws ∨ h0.size ≤ b) (hz : Z.heap.size ≤ b) (hd : decode bytes pc = .ok (.castore, 1))
    (k : ∀ (T' : State) (h' : Heap) (L : List Loc), Sit Z a0 EL p l e R s m args below meth c own bytes maxL rt nm h0 ws sf T' h' (locs ++ L) cells slots → Keep h h' [b] → h'.size = h.size → Arc .char Z h' b (cs.set i v') → Run Z EL sv p e below s h0 ws Q kc ks T' (mkF m (pc + 1) Ls st)) : Run Z EL sv p e below s h0 ws Q kc ks T (mkF m pc Ls (.int v :: .int j :: .ref b :: st)) := by
  obtain ⟨kA, V, hlen⟩ := A
  obtain ⟨cl, A, q1, S, q3, H, G⟩ := id V
  obtain ⟨j1, j2⟩ := idx_of hj hi hlen
  obtain ⟨T', h', L', X', K, W, q⟩ := X.go (k := cells) (n := slots) (wz := [b]) (Q' := fun T' h' _ => Wr h h' b j.toNatClampNeg (.int (nar .char v)) ∧ ∀ t, Steps p.tables e below (T'.setTop (mkF m (pc + 1) Ls st)) t → Steps p.tables e below (T.setTop (mkF m pc Ls (.int v :: .int j :: .ref b :: st))) t) (fun x hx => by cases List.mem_singleton.mp hx; exact ⟨ha, hz⟩) (fun vm0 al hs x hx => by cases List.mem_singleton.mp hx; exact Safe.arv al V (by decide)) fun vm0 Y hZ ho => by
    obtain ⟨T', h', Y', e', W, q⟩ := stC Y X.ex hZ X.eh A (j := j) (by rw [S]; exact j1) (g := mkF m pc Ls (.int v :: .int j :: .ref b :: st)) rfl rfl (X.de hd)
    exact ⟨T', h', _, Y', e', Keep.of_wr W, fun y hy => by cases List.mem_singleton.mp hy; exact hz, W, q⟩
  rw [hv] at W
  exact Run.via q (k T' h' L' X' K W.size (Arc.set hlen A q1 S q3 H G (by rw [← hv]; exact fits_nar_char _) W j2 hi))
theorem Run.bastore (X : Sit Z a0 EL p l e R s m args below meth c own bytes maxL rt nm h0 ws sf T h locs cells slots) {pc i : Nat} {j v v' : Int32} {b : Addr} {cs : List Int32} {Ls : Array Slot} {st : List Value} (A : Arc .byte Z h b cs) (hj : j = Int32.ofNat i) (hi : i < cs.length) (hv : nar .byte v = v') (ha : b ∈ ws ∨ h0.size ≤ b) (hz : Z.heap.size ≤ b) (hsf : b ∈ sf) (hd : decode bytes pc = .ok (.bastore, 1))
    (k : ∀ (T' : State) (h' : Heap) (L : List Loc), Sit Z a0 EL p l e R s m args below meth c own bytes maxL rt nm h0 ws sf T' h' (locs ++ L) cells slots → Keep h h' [b] → h'.size = h.size → Arc .byte Z h' b (cs.set i v') → Run Z EL sv p e below s h0 ws Q kc ks T' (mkF m (pc + 1) Ls st)) : Run Z EL sv p e below s h0 ws Q kc ks T (mkF m pc Ls (.int v :: .int j :: .ref b :: st)) := by
  obtain ⟨kA, V, hlen⟩ := A
  obtain ⟨cl, A, q1, S, q3, H, G⟩ := id V
  obtain ⟨j1, j2⟩ := idx_of hj hi hlen
  obtain ⟨T', h', L', X', K, W, q⟩ := X.go (k := cells) (n := slots) (wz := [b]) (Q' := fun T' h' _ => Wr h h' b j.toNatClampNeg (.int (nar .byte v)) ∧ ∀ t, Steps p.tables e below (T'.setTop (mkF m (pc + 1) Ls st)) t → Steps p.tables e below (T.setTop (mkF m pc Ls (.int v :: .int j :: .ref b :: st))) t) (fun x hx => by cases List.mem_singleton.mp hx; exact ⟨ha, hz⟩) (fun vm0 al hs x hx => by cases List.mem_singleton.mp hx; exact hs b hsf) fun vm0 Y hZ ho => by
    obtain ⟨T', h', Y', e', W, q⟩ := stB Y X.ex hZ X.eh A (j := j) (by rw [S]; exact j1) (g := mkF m pc Ls (.int v :: .int j :: .ref b :: st)) rfl rfl (X.de hd)
    exact ⟨T', h', _, Y', e', Keep.of_wr W, fun y hy => by cases List.mem_singleton.mp hy; exact hz, W, q⟩
  rw [hv] at W
  exact Run.via q (k T' h' L' X' K W.size (Arc.set hlen A q1 S q3 H G (by rw [← hv]; exact fits_nar_byte _) W j2 hi))
theorem Run.caload (X : Sit Z a0 EL p l e R s m args below meth c own bytes maxL rt nm h0 ws sf T h locs cells slots) {pc i : Nat} {j : Int32} {b : Addr} {cs : List Int32} {Ls : Array Slot} {st : List Value} (A : Arc .char Z h b cs) (hj : j = Int32.ofNat i) (hi : i < cs.length) (hd : decode bytes pc = .ok (.caload, 1))
    (k : Run Z EL sv p e below s h0 ws Q kc ks T (mkF m (pc + 1) Ls (.int (cs.getD i 0) :: st))) : Run Z EL sv p e below s h0 ws Q kc ks T (mkF m pc Ls (.int j :: .ref b :: st)) := by
  obtain ⟨kA, V, hlen⟩ := A
  obtain ⟨cl, A, q1, S, q3, H, G⟩ := V
  obtain ⟨j1, j2⟩ := idx_of hj hi hlen
  obtain ⟨-, vm0, k0, Y, r1, r2, -⟩ := id X
  exact Run.via (fun t r => Y.caload X.ex (j := j) (v := .int (cs.getD i 0)) (by rw [X.eh]; exact A.1) (State.isArrayOf_alike r1.alike A.2.1) A.2.2 (by rw [S]; exact j1) (by rw [j2, H i (by rw [S, (n32' hlen).2]; exact hi), getD_map]) (g := mkF m pc Ls (.int j :: .ref b :: st)) rfl rfl (X.de hd) t r) k
theorem Run.baload (X : Sit Z a0 EL p l e R s m args below meth c own bytes maxL rt nm h0 ws sf T h locs cells slots) {pc i : Nat} {j : Int32} {b : Addr} {cs : List Int32} {Ls : Array Slot} {st : List Value} (A : Arc .byte Z h b cs) (hj : j = Int32.ofNat i) (hi : i < cs.length) (hd : decode bytes pc = .ok (.baload, 1))
    (k : Run Z EL sv p e below s h0 ws Q kc ks T (mkF m (pc + 1) Ls (.int (cs.getD i 0) :: st))) : Run Z EL sv p e below s h0 ws Q kc ks T (mkF m pc Ls (.int j :: .ref b :: st)) := by
  obtain ⟨kA, V, hlen⟩ := A
  obtain ⟨cl, A, q1, S, q3, H, G⟩ := V
  obtain ⟨j1, j2⟩ := idx_of hj hi hlen
  obtain ⟨-, vm0, k0, Y, r1, r2, -⟩ := id X
  exact Run.via (fun t r => Y.baloadBytes X.ex (j := j) (v := .int (cs.getD i 0)) (by rw [X.eh]; exact A.1) (State.isArrayOf_alike r1.alike A.2.1) A.2.2 (by rw [S]; exact j1) (by rw [j2, H i (by rw [S, (n32' hlen).2]; exact hi), getD_map]) (g := mkF m pc Ls (.int j :: .ref b :: st)) rfl rfl (X.de hd) t r) k
theorem Run.alen {ty : FieldType} (X : Sit Z a0 EL p l e R s m args below meth c own bytes maxL rt nm h0 ws sf T h locs cells slots) {pc : Nat} {b : Addr} {cs : List Int32} {Ls : Array Slot} {st : List Value} (A : Arc ty Z h b cs) (hd : decode bytes pc = .ok (.arraylength, 1))
    (k : Run Z EL sv p e below s h0 ws Q kc ks T (mkF m (pc + 1) Ls (.int (Int32.ofNat cs.length) :: st))) : Run Z EL sv p e below s h0 ws Q kc ks T (mkF m pc Ls (.ref b :: st)) := by
  obtain ⟨kA, V, hlen⟩ := A
  obtain ⟨cl, A, q1, S, q3, H, G⟩ := V
  obtain ⟨-, vm0, k0, Y, r1, r2, -⟩ := id X
  refine Run.via (fun t r => Y.arraylength X.ex (by rw [X.eh]; exact A.1) (State.isArrayOf_alike r1.alike A.2.1) (g := mkF m pc Ls (.ref b :: st)) rfl rfl (X.de hd) t ?_) k
  rw [len_of S q3]
  exact r
/-! calls -/
theorem Con.payS {y : MethodName} {rm : Room} {as' : Array Value} {wz sz : List Addr} {Q' : Option Value → Heap → Prop} {by' : ByteArray} {ml : Nat} {rt' : Option FieldType} {len W : Nat} {vm0 : Vm} {su : Bool} (C : Con l Z a0 EL su y by' ml rt' rm wz sz as' h Q') (hEL : EW Z a0 EL) (hZ : Z.Warmed39 vm0) (H : CHv Z EL vm0 h) (hsz : ∀ x ∈ sz, x < h.size ∧ Safe Z EL vm0 h x) (wc : (Cond.code y by' ml rt').before a0 Z = true) (wz' : (Cond.initialized y.cls).before a0 Z = true) (hf : rm.frames + 1 ≤ R.frames) (hl : W + (ml + 11) + rm.locals ≤ R.locals) :
    BackS l R p e below (s.setVm vm0) args y len W (fun A a => a = as' ∧ A.U.heap = h ∧ A.cells + rm.cells ≤ R.cells ∧ A.slots + rm.slots ≤ R.slots)
      (fun A _ v B => ∃ L, (Fr Z.heap.size L ∧ Keep h B.U.heap wz ∧ Q' v B.U.heap) ∧ B.locs = A.locs ++ L ∧ B.cells = A.cells + rm.cells ∧ B.slots = A.slots + rm.slots ∧ CHr Z EL vm0 h B.U.vm B.U.heap ∧ (NW = true → (s.setVm vm0).WarmedH B.U.vm) ∧ (su = true → ∀ x, v = some (.ref x) → x < B.U.heap.size ∧ Safe Z EL B.U.vm B.U.heap x)) :=
  BackS.of_freeW (bytes := by') (maxL := ml) (ret := rt') (E := fun _ first o t L k n => k = rm.cells ∧ n = rm.slots ∧ (∃ v, o = .returned v ∧ (Fr Z.heap.size L ∧ Keep h t.heap wz ∧ Q' v t.heap) ∧ (su = true → ∀ x, v = some (.ref x) → x < t.heap.size ∧ Safe Z EL t.vm t.heap x)) ∧ CHr Z EL first.vm h t.vm t.heap ∧ (NW = true → first.WarmedH t.vm)) (C hEL []) hf hl
    (fun m meth c A a Y hp => have hU : Z.Warmed39 A.U.vm := wtrans (s := s.setVm vm0) hZ Y.warmed
      ⟨by show (Cond.and _ .tt).before a A.U = true; rw [Cond.before_and, mv hU wc]; rfl, mv hU wc, mv hU wz', hp.2.2.1, hp.2.2.2⟩)
    (fun m meth c A a g mk Y hp => ⟨hp.1, wtrans (s := s.setVm vm0) hZ Y.warmed, hp.2.1, (CHv.at Y hZ hEL H).1, fun x hx => ⟨(hsz x hx).1, (CHv.at Y hZ hEL H).safe (hsz x hx).1 (hsz x hx).2⟩⟩) (fun _ _ _ _ _ _ _ _ _ => trivial)
    (fun _ _ _ _ ⟨v, L, g1, g2, g3, g4, g5, g6⟩ => ⟨L, _, _, g4, rfl, rfl, ⟨v, g1, g2, g6⟩, g3, g5⟩)
    (fun m meth c A a g mk v t L k n Y hp _ _ ⟨e1, e2, ⟨v', e3, e4, e7⟩, e5, e6⟩ => by
      cases e3; subst e1 e2
      exact ⟨L, e4, rfl, rfl, rfl, (CHv.at Y hZ hEL H).trans e5, fun z => State.WarmedH.trans (t := A.U) Y.warmed (e6 z), e7⟩)
/-- what a call by a contract leaves, whichever instruction made it -/
theorem Run.called (X : Sit Z a0 EL p l e R s m args below meth c own bytes maxL rt nm h0 ws sf T h locs cells slots) {y : MethodName} {by' : ByteArray} {ml : Nat} {rt' : Option FieldType} {rm : Room} {wz sz : List Addr} {Q' : Option Value → Heap → Prop} {len pc W : Nat} {Ls : Array Slot} {st rest : List Value} {as' : Array Value}
    {su : Bool} (C : Con l Z a0 EL su y by' ml rt' rm wz sz as' h Q') (w3 : (Cond.initialized y.cls).before a0 Z = true) (w4 : (Cond.code y by' ml rt').before a0 Z = true) (hf : rm.frames + 1 ≤ R.frames) (hl : W + (ml + 11) + rm.locals ≤ R.locals) (hwz : ∀ x ∈ wz, (x ∈ ws ∨ h0.size ≤ x) ∧ Z.heap.size ≤ x) (hsz : ∀ x ∈ sz, x ∈ sf)
    (q : ∀ vm0, Stand p l e R (s.setVm vm0) m args below meth c T locs cells slots → Z.Warmed39 (s.setVm vm0).vm → (s.setVm vm0).vm.findClass own = some m.cls →
      ∀ {Post : Pt → Array Value → Option Value → Pt → Prop}, BackS l R p e below (s.setVm vm0) args y len W (fun A a => a = as' ∧ A.U.heap = h ∧ A.cells + rm.cells ≤ R.cells ∧ A.slots + rm.slots ≤ R.slots) Post → ∃ (v : Option Value) (vm₁ : Vm) (B : Pt), (s.setVm vm0).WarmedH vm₁ ∧ Stand p l e R ((s.setVm vm0).setVm B.U.vm) m args below meth c B.U B.locs B.cells B.slots ∧ (s.setVm vm0).Since B.U.vm B.U.heap.size ∧ T.heap.size ≤ B.U.heap.size ∧ Post ⟨T.setVm vm₁, locs, cells, slots⟩ as' v B ∧ Steps p.tables e below (T.setTop (mkF m pc Ls st)) (B.U.setTop (mkF m (pc + len) Ls (v.toList ++ rest))))
    (k : ∀ (v : Option Value) (T' : State) (h' : Heap) (L : List Loc), Q' v h' → Sit Z a0 EL p l e R s m args below meth c own bytes maxL rt nm h0 ws sf T' h' (locs ++ L) (cells + rm.cells) (slots + rm.slots) → (su = true → ∀ x, v = some (.ref x) → Sit Z a0 EL p l e R s m args below meth c own bytes maxL rt nm h0 ws (x :: sf) T' h' (locs ++ L) (cells + rm.cells) (slots + rm.slots)) → Keep h h' wz → Run Z EL sv p e below s h0 ws Q kc ks T' (mkF m (pc + len) Ls (v.toList ++ rest))) : Run Z EL sv p e below s h0 ws Q kc ks T (mkF m pc Ls st) := by
  obtain ⟨T', h', L, sx, X', K, v, q3, rfl, sp⟩ := X.reb (k := cells + rm.cells) (n := slots + rm.slots) (wz := wz) (Q' := fun T' h' L sx => ∃ v, Q' v h' ∧ sx = rvs su v ∧ Steps p.tables e below (T.setTop (mkF m pc Ls st)) (T'.setTop (mkF m (pc + len) Ls (v.toList ++ rest)))) hwz fun vm0 k0 Y hZ ho hS hk H hs => by
    obtain ⟨v, vm₁, ⟨T', L', k', n'⟩, -, Y', S', hT, ⟨Lc, ⟨q1, q2, q3⟩, l1, y1, z1, C1, n1, f1⟩, sp⟩ := q vm0 Y hZ ho (C.payS (W := W) X.ew hZ H (fun x hx => hs x (hsz x hx)) w4 w3 hf hl)
    dsimp only [Pt.U, Pt.locs, Pt.cells, Pt.slots] at Y' S' hT l1 y1 z1 sp q1 q2 q3 C1 n1 f1
    subst l1 y1 z1
    exact ⟨T', T'.heap, Lc, T'.vm, T'.heap.size, rvs su v, Y', rfl, q2, q1, State.Warmed39.trans (t := s.setVm vm0) hZ S'.1, (S'.1.alike.findClass _ _).trans ho, hS.trans S' (Nat.le_trans hk (by rw [X.eh] at hT; exact hT)), Nat.le_refl _, C1, n1, rvs_safe f1, v, q3, rfl, sp⟩
  refine Run.on sp (k v T' h' L q3 (X'.less fun x hx => List.mem_append_right _ hx) (fun z x hx => ?_) K)
  subst z hx
  exact X'
theorem Run.callS (X : Sit Z a0 EL p l e R s m args below meth c own bytes maxL rt nm h0 ws sf T h locs cells slots) {y : MethodName} {by' : ByteArray} {ml : Nat} {rt' : Option FieldType} {rm : Room} {wz sz : List Addr} {Q' : Option Value → Heap → Prop} {index pc W : Nat} {Ls : Array Slot} {st argsL rest : List Value} {ps : List FieldType} {rr : Option FieldType}
    {su : Bool} (C : Con l Z a0 EL su y by' ml rt' rm wz sz argsL.toArray h Q') (w1 : (Cond.methodLink own index y).before a0 Z = true) (w2 : (Cond.static y).before a0 Z = true) (w3 : (Cond.initialized y.cls).before a0 Z = true) (w4 : (Cond.code y by' ml rt').before a0 Z = true) (hy : y.cls ≠ "java/lang/invoke/MethodHandle" ∧ y.cls ≠ "java/lang/invoke/VarHandle")
    (hds : parseMethodDescriptor y.desc = some ⟨ps, rr⟩) (hln : argsL.length = ps.length) (hst : st = argsL.reverse ++ rest) (hW : (rest.map fun v => v.category).sum ≤ W) (hsz : Ls.size = maxL) (hd : decode bytes pc = .ok (.invokestatic index, 3)) (hf : rm.frames + 1 ≤ R.frames) (hl : W + (ml + 11) + rm.locals ≤ R.locals) (hc : cells + rm.cells ≤ R.cells) (hs : slots + rm.slots ≤ R.slots) (hwz : ∀ x ∈ wz, (x ∈ ws ∨ h0.size ≤ x) ∧ Z.heap.size ≤ x) (hsf : ∀ x ∈ sz, x ∈ sf)
    (k : ∀ (v : Option Value) (T' : State) (h' : Heap) (L : List Loc), Q' v h' → Sit Z a0 EL p l e R s m args below meth c own bytes maxL rt nm h0 ws sf T' h' (locs ++ L) (cells + rm.cells) (slots + rm.slots) → (su = true → ∀ x, v = some (.ref x) → Sit Z a0 EL p l e R s m args below meth c own bytes maxL rt nm h0 ws (x :: sf) T' h' (locs ++ L) (cells + rm.cells) (slots + rm.slots)) → Keep h h' wz → Run Z EL sv p e below s h0 ws Q kc ks T' (mkF m (pc + 3) Ls (v.toList ++ rest))) : Run Z EL sv p e below s h0 ws Q kc ks T (mkF m pc Ls st) :=
  Run.called X (len := 3) (W := W) C w3 w4 hf hl hwz hsf (fun vm0 Y hZ ho _ bk => callSS Y X.ex (y := y) ho (mv hZ w1) (mv hZ w2) (mv hZ w3) (mv hZ w4) hy bk (g := mkF m pc Ls st) rfl (hsz.trans X.ml.symm) (argsL := argsL) (rest := rest) (lenOf hds hln) hst (by show 2 * 0 + _ ≤ _; omega) (X.de hd) (fun _ _ => ⟨rfl, X.eh, hc, hs⟩)) k
theorem Run.callN (X : Sit Z a0 EL p l e R s m args below meth c own bytes maxL rt nm h0 ws sf T h locs cells slots) {y : MethodName} {by' : ByteArray} {ml : Nat} {rm : Room} {wz sz : List Addr} {Q' : Option Value → Heap → Prop} {index pc W : Nat} {Ls : Array Slot} {a : Addr} {st argsL rest : List Value} {ps : List FieldType} {rr : Option FieldType}
    {su : Bool} (C : Con l Z a0 EL su y by' ml none rm wz sz (.ref a :: argsL).toArray h Q') (hi : y.name = "<init>") (w1 : (Cond.methodLink own index y).before a0 Z = true) (w2 : (Cond.instanceMethod y).before a0 Z = true) (w3 : (Cond.initialized y.cls).before a0 Z = true) (w4 : (Cond.code y by' ml none).before a0 Z = true) (hy : y.cls ≠ "java/lang/invoke/MethodHandle" ∧ y.cls ≠ "java/lang/invoke/VarHandle")
    (hds : parseMethodDescriptor y.desc = some ⟨ps, rr⟩) (hln : argsL.length = ps.length) (hst : st = argsL.reverse ++ .ref a :: rest) (hW : (rest.map fun v => v.category).sum ≤ W) (hsz : Ls.size = maxL) (hd : decode bytes pc = .ok (.invokespecial index, 3)) (hf : rm.frames + 1 ≤ R.frames) (hl : W + (ml + 11) + rm.locals ≤ R.locals) (hc : cells + rm.cells ≤ R.cells) (hs : slots + rm.slots ≤ R.slots) (hwz : ∀ x ∈ wz, (x ∈ ws ∨ h0.size ≤ x) ∧ Z.heap.size ≤ x) (hsf : ∀ x ∈ sz, x ∈ sf)
    (k : ∀ (v : Option Value) (T' : State) (h' : Heap) (L : List Loc), Q' v h' → Sit Z a0 EL p l e R s m args below meth c own bytes maxL rt nm h0 ws sf T' h' (locs ++ L) (cells + rm.cells) (slots + rm.slots) → (su = true → ∀ x, v = some (.ref x) → Sit Z a0 EL p l e R s m args below meth c own bytes maxL rt nm h0 ws (x :: sf) T' h' (locs ++ L) (cells + rm.cells) (slots + rm.slots)) → Keep h h' wz → Run Z EL sv p e below s h0 ws Q kc ks T' (mkF m (pc + 3) Ls (v.toList ++ rest))) : Run Z EL sv p e below s h0 ws Q kc ks T (mkF m pc Ls st) :=
  Run.called X (len := 3) (W := W) C w3 w4 hf hl hwz hsf (fun vm0 Y hZ ho _ bk => Y.specialBackS X.ex (y := y) hi ho (mv hZ w1) (mv hZ w2) (mv hZ w4) hy bk (g := mkF m pc Ls st) rfl (hsz.trans X.ml.symm) (Steps.refl _) (a := a) (argsL := argsL) (rest := rest) (lenOf hds hln) hst (by show 2 * 0 + _ ≤ _; omega) (X.de hd) (fun _ _ => ⟨rfl, X.eh, hc, hs⟩)) k
theorem Run.callV (X : Sit Z a0 EL p l e R s m args below meth c own bytes maxL rt nm h0 ws sf T h locs cells slots) {y : MethodName} {by' : ByteArray} {ml : Nat} {rt' : Option FieldType} {rm : Room} {wz sz : List Addr} {Q' : Option Value → Heap → Prop} {index pc W : Nat} {Ls : Array Slot} {a : Addr} {cls : String} {st argsL rest : List Value} {ps : List FieldType} {rr : Option FieldType}
    {su : Bool} (C : Con l Z a0 EL su y by' ml rt' rm wz sz (.ref a :: argsL).toArray h Q') (E : Exa Z h a cls) (w1 : (Cond.methodLink own index y).before a0 Z = true) (wd : (Cond.declares y).before a0 Z = true) (w2 : (Cond.instanceMethod y).before a0 Z = true) (wl : (Cond.selects cls y y).before a0 Z = true) (w3 : (Cond.initialized y.cls).before a0 Z = true) (w4 : (Cond.code y by' ml rt').before a0 Z = true) (hy : y.cls ≠ "java/lang/invoke/MethodHandle" ∧ y.cls ≠ "java/lang/invoke/VarHandle")
    (hds : parseMethodDescriptor y.desc = some ⟨ps, rr⟩) (hln : argsL.length = ps.length) (hst : st = argsL.reverse ++ .ref a :: rest) (hW : (rest.map fun v => v.category).sum ≤ W) (hsz : Ls.size = maxL) (hd : decode bytes pc = .ok (.invokevirtual index, 3)) (hf : rm.frames + 1 ≤ R.frames) (hl : W + (ml + 11) + rm.locals ≤ R.locals) (hc : cells + rm.cells ≤ R.cells) (hs : slots + rm.slots ≤ R.slots) (hwz : ∀ x ∈ wz, (x ∈ ws ∨ h0.size ≤ x) ∧ Z.heap.size ≤ x) (hsf : ∀ x ∈ sz, x ∈ sf)
    (k : ∀ (v : Option Value) (T' : State) (h' : Heap) (L : List Loc), Q' v h' → Sit Z a0 EL p l e R s m args below meth c own bytes maxL rt nm h0 ws sf T' h' (locs ++ L) (cells + rm.cells) (slots + rm.slots) → (su = true → ∀ x, v = some (.ref x) → Sit Z a0 EL p l e R s m args below meth c own bytes maxL rt nm h0 ws (x :: sf) T' h' (locs ++ L) (cells + rm.cells) (slots + rm.slots)) → Keep h h' wz → Run Z EL sv p e below s h0 ws Q kc ks T' (mkF m (pc + 3) Ls (v.toList ++ rest))) : Run Z EL sv p e below s h0 ws Q kc ks T (mkF m pc Ls st) :=
  Run.called X (len := 3) (W := W) C w3 w4 hf hl hwz hsf (fun vm0 Y hZ ho _ bk => by
    obtain ⟨cq, kq, qa, qb, qc⟩ := isOf (s := s.setVm vm0) hZ X.eh E
    exact Y.virtualBackS X.ex (y := y) (z := y) ho (mv hZ w1) (mv hZ wd) (notFace_of_selects (args := #[]) (mv hZ wl)) (mv hZ wl) (mv hZ w2) hy bk qa qc (g := mkF m pc Ls st) rfl (hsz.trans X.ml.symm) (Steps.refl _) (argsL := argsL) (rest := rest) (lenOf hds hln) hst (by show 2 * 0 + _ ≤ _; omega) (X.de hd) (fun _ _ => ⟨rfl, X.eh, hc, hs⟩)) k
theorem Run.callI (X : Sit Z a0 EL p l e R s m args below meth c own bytes maxL rt nm h0 ws sf T h locs cells slots) {xi y : MethodName} {by' : ByteArray} {ml : Nat} {rt' : Option FieldType} {rm : Room} {wz sz : List Addr} {Q' : Option Value → Heap → Prop} {index count pc W : Nat} {Ls : Array Slot} {a : Addr} {cls : String} {st argsL rest : List Value} {ps : List FieldType} {rr : Option FieldType}
    {su : Bool} (C : Con l Z a0 EL su y by' ml rt' rm wz sz (.ref a :: argsL).toArray h Q') (E : Exa Z h a cls) (w1 : (Cond.methodLink own index xi).before a0 Z = true) (wd : (Cond.declares xi).before a0 Z = true) (wf : (Cond.interfaceMethod xi.cls xi.cls xi.name xi.desc).before a0 Z = true) (hfa : ((Cond.interfaceMethod xi.cls xi.cls xi.name xi.desc).onTables && (Cond.interfaceMethod xi.cls xi.cls xi.name xi.desc).keepsFace) = true) (wl : (Cond.selects cls xi y).before a0 Z = true) (w2 : (Cond.instanceMethod y).before a0 Z = true) (wp : (Cond.publicMethod y).before a0 Z = true) (wu : (Cond.unhidden cls xi.name xi.desc).before a0 Z = true) (wc : (Cond.castable cls xi.cls).before a0 Z = true) (w3 : (Cond.initialized y.cls).before a0 Z = true) (w4 : (Cond.code y by' ml rt').before a0 Z = true) (hy : xi.cls ≠ "java/lang/invoke/MethodHandle" ∧ xi.cls ≠ "java/lang/invoke/VarHandle")
    (hds : parseMethodDescriptor xi.desc = some ⟨ps, rr⟩) (hln : argsL.length = ps.length) (hst : st = argsL.reverse ++ .ref a :: rest) (hW : (rest.map fun v => v.category).sum ≤ W) (hsz : Ls.size = maxL) (hd : decode bytes pc = .ok (.invokeinterface index count, 5)) (hf : rm.frames + 1 ≤ R.frames) (hl : W + (ml + 11) + rm.locals ≤ R.locals) (hc : cells + rm.cells ≤ R.cells) (hs : slots + rm.slots ≤ R.slots) (hwz : ∀ x ∈ wz, (x ∈ ws ∨ h0.size ≤ x) ∧ Z.heap.size ≤ x) (hsf : ∀ x ∈ sz, x ∈ sf)
    (k : ∀ (v : Option Value) (T' : State) (h' : Heap) (L : List Loc), Q' v h' → Sit Z a0 EL p l e R s m args below meth c own bytes maxL rt nm h0 ws sf T' h' (locs ++ L) (cells + rm.cells) (slots + rm.slots) → (su = true → ∀ x, v = some (.ref x) → Sit Z a0 EL p l e R s m args below meth c own bytes maxL rt nm h0 ws (x :: sf) T' h' (locs ++ L) (cells + rm.cells) (slots + rm.slots)) → Keep h h' wz → Run Z EL sv p e below s h0 ws Q kc ks T' (mkF m (pc + 5) Ls (v.toList ++ rest))) : Run Z EL sv p e below s h0 ws Q kc ks T (mkF m pc Ls st) :=
  Run.called X (len := 5) (W := W) C w3 w4 hf hl hwz hsf (fun vm0 Y hZ ho _ bk => by
    obtain ⟨cq, kq, qa, qb, qc⟩ := isOf (s := s.setVm vm0) hZ X.eh E
    exact Y.interfaceBackS X.ex (xi := xi) (y := y) ho (mv hZ w1) (mv hZ wd) (mv hZ wf hfa) (mv hZ wl) (mv hZ w2) (mv hZ wp) (mv hZ wu) (mv hZ wc) hy bk qa qb qc (g := mkF m pc Ls st) rfl (hsz.trans X.ml.symm) (Steps.refl _) (argsL := argsL) (rest := rest) (lenOf hds hln) hst (by show 2 * 0 + _ ≤ _; omega) (X.de hd) (fun _ _ => ⟨rfl, X.eh, hc, hs⟩)) k
end Pre
end Jvm.Pilot.@@N@@
-- part own
namespace Jvm.Pilot.@@N@@
open Jvm Jvm.ClassFile Sem Op Lib Jvm.Free Jvm.Stand Jvm.LawKit Jvm.RoadKit Bundle Jvm.Pilot.@@N@@.Jvm.D
theorem Run.retD {Z : State} {a0 : Array Value} {EL : List (String × Nat)} {sv : Bool} {p : Program} {l : Launch} {e : Env} {R : Room} {s : State} {m : MethodId} {args : Array Value} {below : List Frame} {meth : Method} {c : Code} {own : String} {bytes : ByteArray} {maxL : Nat} {rt : Option FieldType} {nm : String} {h0 : Heap} {ws sf : List Addr} {T : State} {h : Heap} {locs : List Loc} {cells slots : Nat} {Q : Option Value → Heap → Prop} {kc ks : Nat} (X : Sit Z a0 EL p l e R s m args below meth c own bytes maxL rt nm h0 ws sf T h locs cells slots) {pc : Nat} {Ls : Array Slot} {z : UInt64} {rest : List Value} (hr : rt = some .double) (hd : decode bytes pc = .ok (.dreturn, 1)) (hc : cells ≤ kc) (hs : slots ≤ ks) (hq : Q (some (.double z)) h) :
    Run Z EL sv p e below s h0 ws Q kc ks T (mkF m pc Ls (.double z :: rest)) :=
  Run.out X (fun z => by rw [hr] at z; cases z) hc hs hq (fun _ _ z => by cases z) fun vm0 fs Y q => retOut Y X.ex (X.rtt.trans hr) rfl (Or.inr (Or.inr (Or.inl ⟨rfl, rfl, z, rfl⟩))) (X.de hd) q
theorem cmp0 {a b : UInt64} (h : a = b ∧ FP.Core.dcmp b b = some .eq) : cmpValue (FP.dcmp a b) .l = 0 := by
  rw [h.1]; show cmpValue (FP.Core.dcmp b b) .l = 0; rw [h.2]; rfl
theorem pd___D : parseMethodDescriptor "()D" = some ⟨[], some .double⟩ := by decide +kernel
theorem pd__II_I : parseMethodDescriptor "(II)I" = some ⟨[.int, .int], some .int⟩ := by decide +kernel
theorem pd__JJIII_V : parseMethodDescriptor "(JJIII)V" = some ⟨[.long, .long, .int, .int, .int], none⟩ := by decide +kernel
-- part con_mx
theorem mxd_0 : decode jdk_29_method_65_code 0 = .ok (.iload_n 0, 1) := by decide +kernel
theorem mxd_1 : decode jdk_29_method_65_code 1 = .ok (.iload_n 1, 1) := by decide +kernel
theorem mxd_2 : decode jdk_29_method_65_code 2 = .ok (.if_icmp .lt 7, 3) := by decide +kernel
theorem mxd_5 : decode jdk_29_method_65_code 5 = .ok (.iload_n 0, 1) := by decide +kernel
theorem mxd_6 : decode jdk_29_method_65_code 6 = .ok (.goto 4, 3) := by decide +kernel
theorem mxd_9 : decode jdk_29_method_65_code 9 = .ok (.iload_n 1, 1) := by decide +kernel
theorem mxd_10 : decode jdk_29_method_65_code 10 = .ok (.ireturn, 1) := by decide +kernel
set_option maxRecDepth 65536 in
set_option maxHeartbeats 40000000 in
theorem con_mx (l : Launch) {Z : State} {a0 : Array Value} {EL : List (String × Nat)} {h0 : Heap} (hw : ∀ d ∈ tables_1, d.before a0 Z = true) {ch : Int32} (O : Ext Z.heap h0) : Con l Z a0 EL false (⟨"java/lang/Math", "max", "(II)I"⟩ : MethodName) jdk_29_method_65_code 2 (some .int) ({ frames := 0, cells := 0, slots := 0, locals := 0 } : Room) [] [] #[(.int ch), (.int (1 : Int32))] h0 (fun v h => v = some (.int (OwnFP.mx ch)) ∧ h0 = h) := by
  refine Con.enter (Jvm.Free.JP.mathPlain rfl (by decide +kernel)) O ?_
  intro p e s m below meth c T0 X0
  rw [show entryFrame m #[(.int ch), (.int (1 : Int32))] 2 = (mkF m 0 #[.val (.int ch), .val (.int (1 : Int32))] []) from by first | (simp [entryFrame, mkF, argsToLocals, Value.category]; done) | rfl]
  refine Run.via (fun _ => XS.iloadN X0.at X0.ex rfl (X0.de mxd_0) rfl) ?_
  show Run _ _ _ _ _ _ _ _ _ _ _ _ T0 (mkF m 1 #[.val (.int ch), .val (.int (1 : Int32))] [(.int ch)])
  refine Run.via (fun _ => XS.iloadN X0.at X0.ex rfl (X0.de mxd_1) rfl) ?_
  show Run _ _ _ _ _ _ _ _ _ _ _ _ T0 (mkF m 2 #[.val (.int ch), .val (.int (1 : Int32))] [(.int (1 : Int32)), (.int ch)])
  by_cases q : ch < (1 : Int32)
  ·
    refine Run.via (fun _ => XS.icmpYes X0.at X0.ex rfl (pc0 := 2) (pc' := 9) rfl (X0.de mxd_2) rfl (tlt q).1 (by decide) (by decide)) ?_
    show Run _ _ _ _ _ _ _ _ _ _ _ _ T0 (mkF m 9 #[.val (.int ch), .val (.int (1 : Int32))] [])
    refine Run.via (fun _ => XS.iloadN X0.at X0.ex rfl (X0.de mxd_9) rfl) ?_
    show Run _ _ _ _ _ _ _ _ _ _ _ _ T0 (mkF m 10 #[.val (.int ch), .val (.int (1 : Int32))] [(.int (1 : Int32))])
    exact Run.retI X0 rfl mxd_10 (Nat.le_of_ble_eq_true rfl) (Nat.le_of_ble_eq_true rfl) (⟨by unfold OwnFP.mx; rw [if_pos q], rfl⟩)
  ·
    refine Run.via (fun _ => XS.icmpNo X0.at X0.ex rfl (X0.de mxd_2) rfl (flt q).1) ?_
    show Run _ _ _ _ _ _ _ _ _ _ _ _ T0 (mkF m 5 #[.val (.int ch), .val (.int (1 : Int32))] [])
    refine Run.via (fun _ => XS.iloadN X0.at X0.ex rfl (X0.de mxd_5) rfl) ?_
    show Run _ _ _ _ _ _ _ _ _ _ _ _ T0 (mkF m 6 #[.val (.int ch), .val (.int (1 : Int32))] [(.int ch)])
    refine Run.via (fun _ => XS.goto X0.at X0.ex rfl (pc0 := 6) (pc' := 10) rfl (X0.de mxd_6) (by decide) (by decide)) ?_
    show Run _ _ _ _ _ _ _ _ _ _ _ _ T0 (mkF m 10 #[.val (.int ch), .val (.int (1 : Int32))] [(.int ch)])
    exact Run.retI X0 rfl mxd_10 (Nat.le_of_ble_eq_true rfl) (Nat.le_of_ble_eq_true rfl) (⟨by unfold OwnFP.mx; rw [if_neg q], rfl⟩)
-- part con_di
theorem did_0 : decode prog_46_method_1_code 0 = .ok (.aload_n 0, 1) := by decide +kernel
theorem did_1 : decode prog_46_method_1_code 1 = .ok (.invokespecial 1, 3) := by decide +kernel
theorem did_4 : decode prog_46_method_1_code 4 = .ok (.iload 7, 2) := by decide +kernel
theorem did_6 : decode prog_46_method_1_code 6 = .ok (.i2l, 1) := by decide +kernel
theorem did_7 : decode prog_46_method_1_code 7 = .ok (.iload 5, 2) := by decide +kernel
theorem did_9 : decode prog_46_method_1_code 9 = .ok (.iload 6, 2) := by decide +kernel
theorem did_11 : decode prog_46_method_1_code 11 = .ok (.isub, 1) := by decide +kernel
theorem did_12 : decode prog_46_method_1_code 12 = .ok (.i2l, 1) := by decide +kernel
theorem did_13 : decode prog_46_method_1_code 13 = .ok (.lmul, 1) := by decide +kernel
theorem did_14 : decode prog_46_method_1_code 14 = .ok (.lstore 8, 2) := by decide +kernel
theorem did_16 : decode prog_46_method_1_code 16 = .ok (.aload_n 0, 1) := by decide +kernel
theorem did_17 : decode prog_46_method_1_code 17 = .ok (.iload 5, 2) := by decide +kernel
theorem did_19 : decode prog_46_method_1_code 19 = .ok (.iconst 1, 1) := by decide +kernel
theorem did_20 : decode prog_46_method_1_code 20 = .ok (.invokestatic 7, 3) := by decide +kernel
theorem did_23 : decode prog_46_method_1_code 23 = .ok (.i2l, 1) := by decide +kernel
theorem did_24 : decode prog_46_method_1_code 24 = .ok (.putfield 13, 3) := by decide +kernel
theorem did_27 : decode prog_46_method_1_code 27 = .ok (.aload_n 0, 1) := by decide +kernel
theorem did_28 : decode prog_46_method_1_code 28 = .ok (.lload_n 1, 1) := by decide +kernel
theorem did_29 : decode prog_46_method_1_code 29 = .ok (.lload_n 3, 1) := by decide +kernel
theorem did_30 : decode prog_46_method_1_code 30 = .ok (.ladd, 1) := by decide +kernel
theorem did_31 : decode prog_46_method_1_code 31 = .ok (.lload 8, 2) := by decide +kernel
theorem did_33 : decode prog_46_method_1_code 33 = .ok (.aload_n 0, 1) := by decide +kernel
theorem did_34 : decode prog_46_method_1_code 34 = .ok (.getfield 13, 3) := by decide +kernel
theorem did_37 : decode prog_46_method_1_code 37 = .ok (.ldiv, 1) := by decide +kernel
theorem did_38 : decode prog_46_method_1_code 38 = .ok (.ladd, 1) := by decide +kernel
theorem did_39 : decode prog_46_method_1_code 39 = .ok (.putfield 19, 3) := by decide +kernel
theorem did_42 : decode prog_46_method_1_code 42 = .ok (.aload_n 0, 1) := by decide +kernel
theorem did_43 : decode prog_46_method_1_code 43 = .ok (.lload 8, 2) := by decide +kernel
theorem did_45 : decode prog_46_method_1_code 45 = .ok (.aload_n 0, 1) := by decide +kernel
theorem did_46 : decode prog_46_method_1_code 46 = .ok (.getfield 13, 3) := by decide +kernel
theorem did_49 : decode prog_46_method_1_code 49 = .ok (.lrem, 1) := by decide +kernel
theorem did_50 : decode prog_46_method_1_code 50 = .ok (.putfield 22, 3) := by decide +kernel
theorem did_53 : decode prog_46_method_1_code 53 = .ok (.aload_n 0, 1) := by decide +kernel
theorem did_54 : decode prog_46_method_1_code 54 = .ok (.iload 7, 2) := by decide +kernel
theorem did_56 : decode prog_46_method_1_code 56 = .ok (.putfield 25, 3) := by decide +kernel
theorem did_59 : decode prog_46_method_1_code 59 = .ok (.return_, 1) := by decide +kernel
set_option maxRecDepth 65536 in
set_option maxHeartbeats 40000000 in
theorem con_di (l : Launch) {Z : State} {a0 : Array Value} {EL : List (String × Nat)} {h0 : Heap} (hw : ∀ d ∈ tables_1, d.before a0 Z = true) {xa : Addr} {el ll : Int64} {ch kh mh : Int32} (hd : ((OwnFP.mx ch).toInt64) ≠ 0) (EA : Exa Z h0 xa "com/example/structured_keyword_search/structuredkeywordsearch/xml/Density") (FA : Fld Z h0 xa "com/example/structured_keyword_search/structuredkeywordsearch/xml/Density" "mDivisor" "J" (.long 0)) (FB : Fld Z h0 xa "com/example/structured_keyword_search/structuredkeywordsearch/xml/Density" "mWhole" "J" (.long 0)) (FC : Fld Z h0 xa "com/example/structured_keyword_search/structuredkeywordsearch/xml/Density" "mRemainder" "J" (.long 0)) (FD : Fld Z h0 xa "com/example/structured_keyword_search/structuredkeywordsearch/xml/Density" "mWords" "I" (.int 0)) (hz : Z.heap.size ≤ xa) (O : Ext Z.heap h0) : Con l Z a0 EL false (⟨"com/example/structured_keyword_search/structuredkeywordsearch/xml/Density", "<init>", "(JJIII)V"⟩ : MethodName) prog_46_method_1_code 10 none ({ frames := 1, cells := 0, slots := 0, locals := 30 } : Room) [xa] [] #[(.ref xa), (.long el), (.long ll), (.int ch), (.int kh), (.int mh)] h0 (fun v h => v = none ∧ Exa Z h xa "com/example/structured_keyword_search/structuredkeywordsearch/xml/Density" ∧ Fld Z h xa "com/example/structured_keyword_search/structuredkeywordsearch/xml/Density" "mDivisor" "J" (.long ((OwnFP.mx ch).toInt64)) ∧ Fld Z h xa "com/example/structured_keyword_search/structuredkeywordsearch/xml/Density" "mWhole" "J" (.long ((el + ll) + (mh.toInt64 * (ch - kh).toInt64) / ((OwnFP.mx ch).toInt64))) ∧ Fld Z h xa "com/example/structured_keyword_search/structuredkeywordsearch/xml/Density" "mRemainder" "J" (.long ((mh.toInt64 * (ch - kh).toInt64) - (mh.toInt64 * (ch - kh).toInt64) / ((OwnFP.mx ch).toInt64) * ((OwnFP.mx ch).toInt64))) ∧ Fld Z h xa "com/example/structured_keyword_search/structuredkeywordsearch/xml/Density" "mWords" "I" (.int mh)) := by
  refine Con.enter (plainFor_of_name (by first | (simp [plainName, overriddenIn]; done) | decide +kernel)) O ?_
  intro p e s m below meth c T0 X0
  rw [show entryFrame m #[(.ref xa), (.long el), (.long ll), (.int ch), (.int kh), (.int mh)] 10 = (mkF m 0 #[.val (.ref xa), .val (.long el), .second, .val (.long ll), .second, .val (.int ch), .val (.int kh), .val (.int mh), .unset, .unset] []) from by first | (simp [entryFrame, mkF, argsToLocals, Value.category]; done) | rfl]
  refine Run.via (fun _ => XS.aloadN X0.at X0.ex rfl (X0.de did_0) rfl rfl) ?_
  show Run _ _ _ _ _ _ _ _ _ _ _ _ T0 (mkF m 1 #[.val (.ref xa), .val (.long el), .second, .val (.long ll), .second, .val (.int ch), .val (.int kh), .val (.int mh), .unset, .unset] [(.ref xa)])
  refine Run.initO X0 (wd hw 8 rfl) (wd hw 9 rfl) (wd hw 10 rfl) rfl did_1 (by decide) (Nat.le_of_ble_eq_true rfl) ?_
  intro T101 X101
  show Run _ _ _ _ _ _ _ _ _ _ _ _ T101 (mkF m 4 #[.val (.ref xa), .val (.long el), .second, .val (.long ll), .second, .val (.int ch), .val (.int kh), .val (.int mh), .unset, .unset] [])
  refine Run.via (fun _ => XS.iload X101.at X101.ex rfl (X101.de did_4) rfl) ?_
  show Run _ _ _ _ _ _ _ _ _ _ _ _ T101 (mkF m 6 #[.val (.ref xa), .val (.long el), .second, .val (.long ll), .second, .val (.int ch), .val (.int kh), .val (.int mh), .unset, .unset] [(.int mh)])
  refine Run.via (fun _ => XS.i2l X101.at X101.ex rfl (X101.de did_6) rfl) ?_
  show Run _ _ _ _ _ _ _ _ _ _ _ _ T101 (mkF m 7 #[.val (.ref xa), .val (.long el), .second, .val (.long ll), .second, .val (.int ch), .val (.int kh), .val (.int mh), .unset, .unset] [(.long (mh.toInt64))])
  refine Run.via (fun _ => XS.iload X101.at X101.ex rfl (X101.de did_7) rfl) ?_
  show Run _ _ _ _ _ _ _ _ _ _ _ _ T101 (mkF m 9 #[.val (.ref xa), .val (.long el), .second, .val (.long ll), .second, .val (.int ch), .val (.int kh), .val (.int mh), .unset, .unset] [(.int ch), (.long (mh.toInt64))])
  refine Run.via (fun _ => XS.iload X101.at X101.ex rfl (X101.de did_9) rfl) ?_
  show Run _ _ _ _ _ _ _ _ _ _ _ _ T101 (mkF m 11 #[.val (.ref xa), .val (.long el), .second, .val (.long ll), .second, .val (.int ch), .val (.int kh), .val (.int mh), .unset, .unset] [(.int kh), (.int ch), (.long (mh.toInt64))])
  refine Run.via (fun _ => XS.isub X101.at X101.ex rfl (X101.de did_11) rfl) ?_
  show Run _ _ _ _ _ _ _ _ _ _ _ _ T101 (mkF m 12 #[.val (.ref xa), .val (.long el), .second, .val (.long ll), .second, .val (.int ch), .val (.int kh), .val (.int mh), .unset, .unset] [(.int (ch - kh)), (.long (mh.toInt64))])
  refine Run.via (fun _ => XS.i2l X101.at X101.ex rfl (X101.de did_12) rfl) ?_
  show Run _ _ _ _ _ _ _ _ _ _ _ _ T101 (mkF m 13 #[.val (.ref xa), .val (.long el), .second, .val (.long ll), .second, .val (.int ch), .val (.int kh), .val (.int mh), .unset, .unset] [(.long ((ch - kh).toInt64)), (.long (mh.toInt64))])
  refine Run.via (fun _ => XS.lmul X101.at X101.ex rfl (X101.de did_13) rfl) ?_
  show Run _ _ _ _ _ _ _ _ _ _ _ _ T101 (mkF m 14 #[.val (.ref xa), .val (.long el), .second, .val (.long ll), .second, .val (.int ch), .val (.int kh), .val (.int mh), .unset, .unset] [(.long ((mh.toInt64) * ((ch - kh).toInt64)))])
  refine Run.via (fun _ => XS.lstore X101.at X101.ex rfl (X101.de did_14) rfl (l' := #[.val (.ref xa), .val (.long el), .second, .val (.long ll), .second, .val (.int ch), .val (.int kh), .val (.int mh), .val (.long ((mh.toInt64) * ((ch - kh).toInt64))), .second]) rfl) ?_
  show Run _ _ _ _ _ _ _ _ _ _ _ _ T101 (mkF m 16 #[.val (.ref xa), .val (.long el), .second, .val (.long ll), .second, .val (.int ch), .val (.int kh), .val (.int mh), .val (.long ((mh.toInt64) * ((ch - kh).toInt64))), .second] [])
  refine Run.via (fun _ => XS.aloadN X101.at X101.ex rfl (X101.de did_16) rfl rfl) ?_
  show Run _ _ _ _ _ _ _ _ _ _ _ _ T101 (mkF m 17 #[.val (.ref xa), .val (.long el), .second, .val (.long ll), .second, .val (.int ch), .val (.int kh), .val (.int mh), .val (.long ((mh.toInt64) * ((ch - kh).toInt64))), .second] [(.ref xa)])
  refine Run.via (fun _ => XS.iload X101.at X101.ex rfl (X101.de did_17) rfl) ?_
  show Run _ _ _ _ _ _ _ _ _ _ _ _ T101 (mkF m 19 #[.val (.ref xa), .val (.long el), .second, .val (.long ll), .second, .val (.int ch), .val (.int kh), .val (.int mh), .val (.long ((mh.toInt64) * ((ch - kh).toInt64))), .second] [(.int ch), (.ref xa)])
  refine Run.via (fun _ => XS.iconst X101.at X101.ex rfl (X101.de did_19)) ?_
  show Run _ _ _ _ _ _ _ _ _ _ _ _ T101 (mkF m 20 #[.val (.ref xa), .val (.long el), .second, .val (.long ll), .second, .val (.int ch), .val (.int kh), .val (.int mh), .val (.long ((mh.toInt64) * ((ch - kh).toInt64))), .second] [(.int (1 : Int32)), (.int ch), (.ref xa)])
  refine Run.callS X101 (y := (⟨"java/lang/Math", "max", "(II)I"⟩ : MethodName)) (W := 1) (con_mx l hw X101.old) (wd hw 11 rfl) (wd hw 12 rfl) (wd hw 13 rfl) (wd hw 14 rfl) (by decide) pd__II_I rfl (argsL := [(.int ch), (.int (1 : Int32))]) (rest := [(.ref xa)]) rfl (Nat.le_of_ble_eq_true rfl) rfl did_20 (by decide) (by decide) (Nat.le_of_ble_eq_true rfl) (Nat.le_of_ble_eq_true rfl) (nofun) (nofun) ?_
  intro v102 T102 h102 L102 q102 X102 XF102 K102
  obtain ⟨rfl, rfl⟩ := q102
  show Run _ _ _ _ _ _ _ _ _ _ _ _ T102 (mkF m 23 #[.val (.ref xa), .val (.long el), .second, .val (.long ll), .second, .val (.int ch), .val (.int kh), .val (.int mh), .val (.long ((mh.toInt64) * ((ch - kh).toInt64))), .second] [(.int (OwnFP.mx ch)), (.ref xa)])
  refine Run.via (fun _ => XS.i2l X102.at X102.ex rfl (X102.de did_23) rfl) ?_
  show Run _ _ _ _ _ _ _ _ _ _ _ _ T102 (mkF m 24 #[.val (.ref xa), .val (.long el), .second, .val (.long ll), .second, .val (.int ch), .val (.int kh), .val (.int mh), .val (.long ((mh.toInt64) * ((ch - kh).toInt64))), .second] [(.long ((OwnFP.mx ch).toInt64)), (.ref xa)])
  refine Run.putf X102 (wd hw 15 rfl) Via.refl FA EA (Or.inr ⟨(wd hw 16 rfl), rfl, rfl⟩) (wd hw 3 rfl) (ty := .long) (v' := (.long ((OwnFP.mx ch).toInt64))) (by decide) rfl rfl (Or.inl (List.mem_singleton.mpr rfl)) hz (Or.inl (by decide)) did_24 ?_
  intro T103 h103 L103 X103 K103 W103 F103 E103
  show Run _ _ _ _ _ _ _ _ _ _ _ _ T103 (mkF m 27 #[.val (.ref xa), .val (.long el), .second, .val (.long ll), .second, .val (.int ch), .val (.int kh), .val (.int mh), .val (.long ((mh.toInt64) * ((ch - kh).toInt64))), .second] [])
  have F1_103 := (FB.other W103 (Or.inr (slot_ne (Or.inr (wd hw 18 rfl)) (Or.inr (wd hw 16 rfl)) (by decide) (t := .long) (t' := .long) (by decide) (by decide))))
  have F2_103 := (FC.other W103 (Or.inr (slot_ne (Or.inr (wd hw 20 rfl)) (Or.inr (wd hw 16 rfl)) (by decide) (t := .long) (t' := .long) (by decide) (by decide))))
  have F3_103 := (FD.other W103 (Or.inr (slot_ne (Or.inr (wd hw 22 rfl)) (Or.inr (wd hw 16 rfl)) (by decide) (t := .int) (t' := .long) (by decide) (by decide))))
  refine Run.via (fun _ => XS.aloadN X103.at X103.ex rfl (X103.de did_27) rfl rfl) ?_
  show Run _ _ _ _ _ _ _ _ _ _ _ _ T103 (mkF m 28 #[.val (.ref xa), .val (.long el), .second, .val (.long ll), .second, .val (.int ch), .val (.int kh), .val (.int mh), .val (.long ((mh.toInt64) * ((ch - kh).toInt64))), .second] [(.ref xa)])
  refine Run.via (fun _ => XS.lloadN X103.at X103.ex rfl (X103.de did_28) rfl) ?_
  show Run _ _ _ _ _ _ _ _ _ _ _ _ T103 (mkF m 29 #[.val (.ref xa), .val (.long el), .second, .val (.long ll), .second, .val (.int ch), .val (.int kh), .val (.int mh), .val (.long ((mh.toInt64) * ((ch - kh).toInt64))), .second] [(.long el), (.ref xa)])
  refine Run.via (fun _ => XS.lloadN X103.at X103.ex rfl (X103.de did_29) rfl) ?_
  show Run _ _ _ _ _ _ _ _ _ _ _ _ T103 (mkF m 30 #[.val (.ref xa), .val (.long el), .second, .val (.long ll), .second, .val (.int ch), .val (.int kh), .val (.int mh), .val (.long ((mh.toInt64) * ((ch - kh).toInt64))), .second] [(.long ll), (.long el), (.ref xa)])
  refine Run.via (fun _ => XS.ladd X103.at X103.ex rfl (X103.de did_30) rfl) ?_
  show Run _ _ _ _ _ _ _ _ _ _ _ _ T103 (mkF m 31 #[.val (.ref xa), .val (.long el), .second, .val (.long ll), .second, .val (.int ch), .val (.int kh), .val (.int mh), .val (.long ((mh.toInt64) * ((ch - kh).toInt64))), .second] [(.long (el + ll)), (.ref xa)])
  refine Run.via (fun _ => XS.lload X103.at X103.ex rfl (X103.de did_31) rfl) ?_
  show Run _ _ _ _ _ _ _ _ _ _ _ _ T103 (mkF m 33 #[.val (.ref xa), .val (.long el), .second, .val (.long ll), .second, .val (.int ch), .val (.int kh), .val (.int mh), .val (.long ((mh.toInt64) * ((ch - kh).toInt64))), .second] [(.long ((mh.toInt64) * ((ch - kh).toInt64))), (.long (el + ll)), (.ref xa)])
  refine Run.via (fun _ => XS.aloadN X103.at X103.ex rfl (X103.de did_33) rfl rfl) ?_
  show Run _ _ _ _ _ _ _ _ _ _ _ _ T103 (mkF m 34 #[.val (.ref xa), .val (.long el), .second, .val (.long ll), .second, .val (.int ch), .val (.int kh), .val (.int mh), .val (.long ((mh.toInt64) * ((ch - kh).toInt64))), .second] [(.ref xa), (.long ((mh.toInt64) * ((ch - kh).toInt64))), (.long (el + ll)), (.ref xa)])
  refine Run.getf X103 (wd hw 15 rfl) Via.refl F103 did_34 ?_
  intro T104 X104
  show Run _ _ _ _ _ _ _ _ _ _ _ _ T104 (mkF m 37 #[.val (.ref xa), .val (.long el), .second, .val (.long ll), .second, .val (.int ch), .val (.int kh), .val (.int mh), .val (.long ((mh.toInt64) * ((ch - kh).toInt64))), .second] [(.long ((OwnFP.mx ch).toInt64)), (.long ((mh.toInt64) * ((ch - kh).toInt64))), (.long (el + ll)), (.ref xa)])
  refine Run.via (fun _ => XT.ldiv X104.at X104.ex rfl (X104.de did_37) rfl hd) ?_
  show Run _ _ _ _ _ _ _ _ _ _ _ _ T104 (mkF m 38 #[.val (.ref xa), .val (.long el), .second, .val (.long ll), .second, .val (.int ch), .val (.int kh), .val (.int mh), .val (.long ((mh.toInt64) * ((ch - kh).toInt64))), .second] [(.long (((mh.toInt64) * ((ch - kh).toInt64)) / ((OwnFP.mx ch).toInt64))), (.long (el + ll)), (.ref xa)])
  refine Run.via (fun _ => XS.ladd X104.at X104.ex rfl (X104.de did_38) rfl) ?_
  show Run _ _ _ _ _ _ _ _ _ _ _ _ T104 (mkF m 39 #[.val (.ref xa), .val (.long el), .second, .val (.long ll), .second, .val (.int ch), .val (.int kh), .val (.int mh), .val (.long ((mh.toInt64) * ((ch - kh).toInt64))), .second] [(.long ((el + ll) + (((mh.toInt64) * ((ch - kh).toInt64)) / ((OwnFP.mx ch).toInt64)))), (.ref xa)])
  refine Run.putf X104 (wd hw 17 rfl) Via.refl F1_103 E103 (Or.inr ⟨(wd hw 18 rfl), rfl, rfl⟩) (wd hw 3 rfl) (ty := .long) (v' := (.long ((el + ll) + (mh.toInt64 * (ch - kh).toInt64) / ((OwnFP.mx ch).toInt64)))) (by decide) rfl rfl (Or.inl (List.mem_singleton.mpr rfl)) hz (Or.inl (by decide)) did_39 ?_
  intro T105 h105 L105 X105 K105 W105 F105 E105
  show Run _ _ _ _ _ _ _ _ _ _ _ _ T105 (mkF m 42 #[.val (.ref xa), .val (.long el), .second, .val (.long ll), .second, .val (.int ch), .val (.int kh), .val (.int mh), .val (.long ((mh.toInt64) * ((ch - kh).toInt64))), .second] [])
  have F0_105 := (F103.other W105 (Or.inr (slot_ne (Or.inr (wd hw 16 rfl)) (Or.inr (wd hw 18 rfl)) (by decide) (t := .long) (t' := .long) (by decide) (by decide))))
  have F2_105 := (F2_103.other W105 (Or.inr (slot_ne (Or.inr (wd hw 20 rfl)) (Or.inr (wd hw 18 rfl)) (by decide) (t := .long) (t' := .long) (by decide) (by decide))))
  have F3_105 := (F3_103.other W105 (Or.inr (slot_ne (Or.inr (wd hw 22 rfl)) (Or.inr (wd hw 18 rfl)) (by decide) (t := .int) (t' := .long) (by decide) (by decide))))
  refine Run.via (fun _ => XS.aloadN X105.at X105.ex rfl (X105.de did_42) rfl rfl) ?_
  show Run _ _ _ _ _ _ _ _ _ _ _ _ T105 (mkF m 43 #[.val (.ref xa), .val (.long el), .second, .val (.long ll), .second, .val (.int ch), .val (.int kh), .val (.int mh), .val (.long ((mh.toInt64) * ((ch - kh).toInt64))), .second] [(.ref xa)])
  refine Run.via (fun _ => XS.lload X105.at X105.ex rfl (X105.de did_43) rfl) ?_
  show Run _ _ _ _ _ _ _ _ _ _ _ _ T105 (mkF m 45 #[.val (.ref xa), .val (.long el), .second, .val (.long ll), .second, .val (.int ch), .val (.int kh), .val (.int mh), .val (.long ((mh.toInt64) * ((ch - kh).toInt64))), .second] [(.long ((mh.toInt64) * ((ch - kh).toInt64))), (.ref xa)])
  refine Run.via (fun _ => XS.aloadN X105.at X105.ex rfl (X105.de did_45) rfl rfl) ?_
  show Run _ _ _ _ _ _ _ _ _ _ _ _ T105 (mkF m 46 #[.val (.ref xa), .val (.long el), .second, .val (.long ll), .second, .val (.int ch), .val (.int kh), .val (.int mh), .val (.long ((mh.toInt64) * ((ch - kh).toInt64))), .second] [(.ref xa), (.long ((mh.toInt64) * ((ch - kh).toInt64))), (.ref xa)])
  refine Run.getf X105 (wd hw 15 rfl) Via.refl F0_105 did_46 ?_
  intro T106 X106
  show Run _ _ _ _ _ _ _ _ _ _ _ _ T106 (mkF m 49 #[.val (.ref xa), .val (.long el), .second, .val (.long ll), .second, .val (.int ch), .val (.int kh), .val (.int mh), .val (.long ((mh.toInt64) * ((ch - kh).toInt64))), .second] [(.long ((OwnFP.mx ch).toInt64)), (.long ((mh.toInt64) * ((ch - kh).toInt64))), (.ref xa)])
  refine Run.via (fun _ => XT.lrem X106.at X106.ex rfl (X106.de did_49) rfl hd) ?_
  show Run _ _ _ _ _ _ _ _ _ _ _ _ T106 (mkF m 50 #[.val (.ref xa), .val (.long el), .second, .val (.long ll), .second, .val (.int ch), .val (.int kh), .val (.int mh), .val (.long ((mh.toInt64) * ((ch - kh).toInt64))), .second] [(.long (((mh.toInt64) * ((ch - kh).toInt64)) - (((mh.toInt64) * ((ch - kh).toInt64)) / ((OwnFP.mx ch).toInt64)) * ((OwnFP.mx ch).toInt64))), (.ref xa)])
  refine Run.putf X106 (wd hw 19 rfl) Via.refl F2_105 E105 (Or.inr ⟨(wd hw 20 rfl), rfl, rfl⟩) (wd hw 3 rfl) (ty := .long) (v' := (.long ((mh.toInt64 * (ch - kh).toInt64) - (mh.toInt64 * (ch - kh).toInt64) / ((OwnFP.mx ch).toInt64) * ((OwnFP.mx ch).toInt64)))) (by decide) rfl rfl (Or.inl (List.mem_singleton.mpr rfl)) hz (Or.inl (by decide)) did_50 ?_
  intro T107 h107 L107 X107 K107 W107 F107 E107
  show Run _ _ _ _ _ _ _ _ _ _ _ _ T107 (mkF m 53 #[.val (.ref xa), .val (.long el), .second, .val (.long ll), .second, .val (.int ch), .val (.int kh), .val (.int mh), .val (.long ((mh.toInt64) * ((ch - kh).toInt64))), .second] [])
  have F0_107 := (F0_105.other W107 (Or.inr (slot_ne (Or.inr (wd hw 16 rfl)) (Or.inr (wd hw 20 rfl)) (by decide) (t := .long) (t' := .long) (by decide) (by decide))))
  have F1_107 := (F105.other W107 (Or.inr (slot_ne (Or.inr (wd hw 18 rfl)) (Or.inr (wd hw 20 rfl)) (by decide) (t := .long) (t' := .long) (by decide) (by decide))))
  have F3_107 := (F3_105.other W107 (Or.inr (slot_ne (Or.inr (wd hw 22 rfl)) (Or.inr (wd hw 20 rfl)) (by decide) (t := .int) (t' := .long) (by decide) (by decide))))
  refine Run.via (fun _ => XS.aloadN X107.at X107.ex rfl (X107.de did_53) rfl rfl) ?_
  show Run _ _ _ _ _ _ _ _ _ _ _ _ T107 (mkF m 54 #[.val (.ref xa), .val (.long el), .second, .val (.long ll), .second, .val (.int ch), .val (.int kh), .val (.int mh), .val (.long ((mh.toInt64) * ((ch - kh).toInt64))), .second] [(.ref xa)])
  refine Run.via (fun _ => XS.iload X107.at X107.ex rfl (X107.de did_54) rfl) ?_
  show Run _ _ _ _ _ _ _ _ _ _ _ _ T107 (mkF m 56 #[.val (.ref xa), .val (.long el), .second, .val (.long ll), .second, .val (.int ch), .val (.int kh), .val (.int mh), .val (.long ((mh.toInt64) * ((ch - kh).toInt64))), .second] [(.int mh), (.ref xa)])
  refine Run.putf X107 (wd hw 21 rfl) Via.refl F3_107 E107 (Or.inr ⟨(wd hw 22 rfl), rfl, rfl⟩) (wd hw 3 rfl) (ty := .int) (v' := (.int mh)) (by decide) rfl rfl (Or.inl (List.mem_singleton.mpr rfl)) hz (Or.inl (by decide)) did_56 ?_
  intro T108 h108 L108 X108 K108 W108 F108 E108
  show Run _ _ _ _ _ _ _ _ _ _ _ _ T108 (mkF m 59 #[.val (.ref xa), .val (.long el), .second, .val (.long ll), .second, .val (.int ch), .val (.int kh), .val (.int mh), .val (.long ((mh.toInt64) * ((ch - kh).toInt64))), .second] [])
  have F0_108 := (F0_107.other W108 (Or.inr (slot_ne (Or.inr (wd hw 16 rfl)) (Or.inr (wd hw 22 rfl)) (by decide) (t := .long) (t' := .int) (by decide) (by decide))))
  have F1_108 := (F1_107.other W108 (Or.inr (slot_ne (Or.inr (wd hw 18 rfl)) (Or.inr (wd hw 22 rfl)) (by decide) (t := .long) (t' := .int) (by decide) (by decide))))
  have F2_108 := (F107.other W108 (Or.inr (slot_ne (Or.inr (wd hw 20 rfl)) (Or.inr (wd hw 22 rfl)) (by decide) (t := .long) (t' := .int) (by decide) (by decide))))
  exact Run.retV X108 rfl did_59 (Nat.le_of_ble_eq_true rfl) (Nat.le_of_ble_eq_true rfl) (⟨rfl, E108, F0_108, F1_108, F2_108, F108⟩)
-- part con_va
theorem vad_0 : decode prog_46_method_2_code 0 = .ok (.aload_n 0, 1) := by decide +kernel
theorem vad_1 : decode prog_46_method_2_code 1 = .ok (.getfield 19, 3) := by decide +kernel
theorem vad_4 : decode prog_46_method_2_code 4 = .ok (.l2d, 1) := by decide +kernel
theorem vad_5 : decode prog_46_method_2_code 5 = .ok (.aload_n 0, 1) := by decide +kernel
theorem vad_6 : decode prog_46_method_2_code 6 = .ok (.getfield 22, 3) := by decide +kernel
theorem vad_9 : decode prog_46_method_2_code 9 = .ok (.l2d, 1) := by decide +kernel
theorem vad_10 : decode prog_46_method_2_code 10 = .ok (.aload_n 0, 1) := by decide +kernel
theorem vad_11 : decode prog_46_method_2_code 11 = .ok (.getfield 13, 3) := by decide +kernel
theorem vad_14 : decode prog_46_method_2_code 14 = .ok (.l2d, 1) := by decide +kernel
theorem vad_15 : decode prog_46_method_2_code 15 = .ok (.ddiv, 1) := by decide +kernel
theorem vad_16 : decode prog_46_method_2_code 16 = .ok (.dadd, 1) := by decide +kernel
theorem vad_17 : decode prog_46_method_2_code 17 = .ok (.aload_n 0, 1) := by decide +kernel
theorem vad_18 : decode prog_46_method_2_code 18 = .ok (.getfield 25, 3) := by decide +kernel
theorem vad_21 : decode prog_46_method_2_code 21 = .ok (.i2d, 1) := by decide +kernel
theorem vad_22 : decode prog_46_method_2_code 22 = .ok (.ddiv, 1) := by decide +kernel
theorem vad_23 : decode prog_46_method_2_code 23 = .ok (.dreturn, 1) := by decide +kernel
set_option maxRecDepth 65536 in
set_option maxHeartbeats 40000000 in
theorem con_va (l : Launch) {Z : State} {a0 : Array Value} {EL : List (String × Nat)} {h0 : Heap} (hw : ∀ d ∈ tables_1, d.before a0 Z = true) {xa : Addr} {wo re dv : Int64} {mh : Int32} (hd : dv ≠ 0) (hm : mh ≠ 0) (FA : Fld Z h0 xa "com/example/structured_keyword_search/structuredkeywordsearch/xml/Density" "mDivisor" "J" (.long dv)) (FB : Fld Z h0 xa "com/example/structured_keyword_search/structuredkeywordsearch/xml/Density" "mWhole" "J" (.long wo)) (FC : Fld Z h0 xa "com/example/structured_keyword_search/structuredkeywordsearch/xml/Density" "mRemainder" "J" (.long re)) (FD : Fld Z h0 xa "com/example/structured_keyword_search/structuredkeywordsearch/xml/Density" "mWords" "I" (.int mh)) (O : Ext Z.heap h0) : Con l Z a0 EL false (⟨"com/example/structured_keyword_search/structuredkeywordsearch/xml/Density", "value", "()D"⟩ : MethodName) prog_46_method_2_code 1 (some .double) ({ frames := 0, cells := 0, slots := 0, locals := 0 } : Room) [] [] #[(.ref xa)] h0 (fun v h => v = some (.double (FP.ddiv (FP.dadd (FP.l2d wo) (FP.ddiv (FP.l2d re) (FP.l2d dv))) (FP.i2d mh))) ∧ h0 = h) := by
  refine Con.enter (plainFor_of_name (by first | (simp [plainName, overriddenIn]; done) | decide +kernel)) O ?_
  intro p e s m below meth c T0 X0
  rw [show entryFrame m #[(.ref xa)] 1 = (mkF m 0 #[.val (.ref xa)] []) from by first | (simp [entryFrame, mkF, argsToLocals, Value.category]; done) | rfl]
  refine Run.via (fun _ => XS.aloadN X0.at X0.ex rfl (X0.de vad_0) rfl rfl) ?_
  show Run _ _ _ _ _ _ _ _ _ _ _ _ T0 (mkF m 1 #[.val (.ref xa)] [(.ref xa)])
  refine Run.getf X0 (wd hw 17 rfl) Via.refl FB vad_1 ?_
  intro T101 X101
  show Run _ _ _ _ _ _ _ _ _ _ _ _ T101 (mkF m 4 #[.val (.ref xa)] [(.long wo)])
  refine Run.via (fun _ => XS.l2dS X101.at X101.ex rfl (X101.de vad_4) rfl rfl) ?_
  show Run _ _ _ _ _ _ _ _ _ _ _ _ T101 (mkF m 5 #[.val (.ref xa)] [(.double (FP.l2d wo))])
  refine Run.via (fun _ => XS.aloadN X101.at X101.ex rfl (X101.de vad_5) rfl rfl) ?_
  show Run _ _ _ _ _ _ _ _ _ _ _ _ T101 (mkF m 6 #[.val (.ref xa)] [(.ref xa), (.double (FP.l2d wo))])
  refine Run.getf X101 (wd hw 19 rfl) Via.refl FC vad_6 ?_
  intro T102 X102
  show Run _ _ _ _ _ _ _ _ _ _ _ _ T102 (mkF m 9 #[.val (.ref xa)] [(.long re), (.double (FP.l2d wo))])
  refine Run.via (fun _ => XS.l2dS X102.at X102.ex rfl (X102.de vad_9) rfl rfl) ?_
  show Run _ _ _ _ _ _ _ _ _ _ _ _ T102 (mkF m 10 #[.val (.ref xa)] [(.double (FP.l2d re)), (.double (FP.l2d wo))])
  refine Run.via (fun _ => XS.aloadN X102.at X102.ex rfl (X102.de vad_10) rfl rfl) ?_
  show Run _ _ _ _ _ _ _ _ _ _ _ _ T102 (mkF m 11 #[.val (.ref xa)] [(.ref xa), (.double (FP.l2d re)), (.double (FP.l2d wo))])
  refine Run.getf X102 (wd hw 15 rfl) Via.refl FA vad_11 ?_
  intro T103 X103
  show Run _ _ _ _ _ _ _ _ _ _ _ _ T103 (mkF m 14 #[.val (.ref xa)] [(.long dv), (.double (FP.l2d re)), (.double (FP.l2d wo))])
  refine Run.via (fun _ => XS.l2dS X103.at X103.ex rfl (X103.de vad_14) rfl rfl) ?_
  show Run _ _ _ _ _ _ _ _ _ _ _ _ T103 (mkF m 15 #[.val (.ref xa)] [(.double (FP.l2d dv)), (.double (FP.l2d re)), (.double (FP.l2d wo))])
  refine Run.via (fun _ => XS.ddivS X103.at X103.ex rfl (X103.de vad_15) rfl (Jvm.Free.Fl.ddiv_out (Jvm.Free.Fl.l2d_fin re).noNaN (Jvm.Free.Fl.l2d_fin dv) (Jvm.Free.Fl.l2d_nz hd)) rfl) ?_
  show Run _ _ _ _ _ _ _ _ _ _ _ _ T103 (mkF m 16 #[.val (.ref xa)] [(.double (FP.ddiv (FP.l2d re) (FP.l2d dv))), (.double (FP.l2d wo))])
  refine Run.via (fun _ => XS.daddS X103.at X103.ex rfl (X103.de vad_16) rfl (Jvm.Free.Fl.dadd_out' (Jvm.Free.Fl.l2d_fin wo) (Jvm.Free.Fl.ddiv_out (Jvm.Free.Fl.l2d_fin re).noNaN (Jvm.Free.Fl.l2d_fin dv) (Jvm.Free.Fl.l2d_nz hd))) rfl) ?_
  show Run _ _ _ _ _ _ _ _ _ _ _ _ T103 (mkF m 17 #[.val (.ref xa)] [(.double (FP.dadd (FP.l2d wo) (FP.ddiv (FP.l2d re) (FP.l2d dv))))])
  refine Run.via (fun _ => XS.aloadN X103.at X103.ex rfl (X103.de vad_17) rfl rfl) ?_
  show Run _ _ _ _ _ _ _ _ _ _ _ _ T103 (mkF m 18 #[.val (.ref xa)] [(.ref xa), (.double (FP.dadd (FP.l2d wo) (FP.ddiv (FP.l2d re) (FP.l2d dv))))])
  refine Run.getf X103 (wd hw 21 rfl) Via.refl FD vad_18 ?_
  intro T104 X104
  show Run _ _ _ _ _ _ _ _ _ _ _ _ T104 (mkF m 21 #[.val (.ref xa)] [(.int mh), (.double (FP.dadd (FP.l2d wo) (FP.ddiv (FP.l2d re) (FP.l2d dv))))])
  refine Run.via (fun _ => XS.i2dS X104.at X104.ex rfl (X104.de vad_21) rfl rfl) ?_
  show Run _ _ _ _ _ _ _ _ _ _ _ _ T104 (mkF m 22 #[.val (.ref xa)] [(.double (FP.i2d mh)), (.double (FP.dadd (FP.l2d wo) (FP.ddiv (FP.l2d re) (FP.l2d dv))))])
  refine Run.via (fun _ => XS.ddivS X104.at X104.ex rfl (X104.de vad_22) rfl (Jvm.Free.Fl.ddiv_out (Jvm.Free.Fl.dadd_out' (Jvm.Free.Fl.l2d_fin wo) (Jvm.Free.Fl.ddiv_out (Jvm.Free.Fl.l2d_fin re).noNaN (Jvm.Free.Fl.l2d_fin dv) (Jvm.Free.Fl.l2d_nz hd))) (Jvm.Free.Fl.i2d_fin mh) (Jvm.Free.Fl.i2d_nz hm)) rfl) ?_
  show Run _ _ _ _ _ _ _ _ _ _ _ _ T104 (mkF m 23 #[.val (.ref xa)] [(.double (FP.ddiv (FP.dadd (FP.l2d wo) (FP.ddiv (FP.l2d re) (FP.l2d dv))) (FP.i2d mh)))])
  exact Run.retD X104 rfl vad_23 (Nat.le_of_ble_eq_true rfl) (Nat.le_of_ble_eq_true rfl) (⟨rfl, rfl⟩)
-- part con_law
set_option maxRecDepth 65536 in
set_option maxHeartbeats 40000000 in
theorem con_law (l : Launch) {Z : State} {a0 : Array Value} {EL : List (String × Nat)} {h0 : Heap} (hw : ∀ d ∈ tables_1, d.before a0 Z = true) {a1 a2 : Int64} {s3 s4 s5 s6 : Int32} (O : Ext Z.heap h0) : Con l Z a0 EL false x code maxLocals ret room_1 [] [] #[(.long a1), (.long a2), (.int s3), (.int s4), (.int s5), (.int s6)] h0 (fun v _ => v = some (.int 1)) := by
  refine Con.enter (plainFor_of_name (by first | (simp [plainName, overriddenIn]; done) | decide +kernel)) O ?_
  intro p e s m below meth c T0 X0
  rw [show entryFrame m #[(.long a1), (.long a2), (.int s3), (.int s4), (.int s5), (.int s6)] maxLocals = (mkF m 0 #[.val (.long a1), .second, .val (.long a2), .second, .val (.int s3), .val (.int s4), .val (.int s5), .val (.int s6), .unset, .unset, .unset, .unset, .unset, .unset, .unset, .unset, .unset, .unset, .unset, .unset, .unset, .unset, .unset, .unset] []) from by first | (simp [entryFrame, mkF, argsToLocals, Value.category, maxLocals]; done) | rfl]
  refine Run.ldcL X0 (wd hw 0 rfl) at_0 ?_
  show Run _ _ _ _ _ _ _ _ _ _ _ _ T0 (mkF m 3 #[.val (.long a1), .second, .val (.long a2), .second, .val (.int s3), .val (.int s4), .val (.int s5), .val (.int s6), .unset, .unset, .unset, .unset, .unset, .unset, .unset, .unset, .unset, .unset, .unset, .unset, .unset, .unset, .unset, .unset] [(.long (1099511627775 : Int64))])
  refine Run.via (fun _ => XS.lstore X0.at X0.ex rfl (X0.de at_3) rfl (l' := #[.val (.long a1), .second, .val (.long a2), .second, .val (.int s3), .val (.int s4), .val (.int s5), .val (.int s6), .val (.long (1099511627775 : Int64)), .second, .unset, .unset, .unset, .unset, .unset, .unset, .unset, .unset, .unset, .unset, .unset, .unset, .unset, .unset]) rfl) ?_
  show Run _ _ _ _ _ _ _ _ _ _ _ _ T0 (mkF m 5 #[.val (.long a1), .second, .val (.long a2), .second, .val (.int s3), .val (.int s4), .val (.int s5), .val (.int s6), .val (.long (1099511627775 : Int64)), .second, .unset, .unset, .unset, .unset, .unset, .unset, .unset, .unset, .unset, .unset, .unset, .unset, .unset, .unset] [])
  refine Run.via (fun _ => XS.lloadN X0.at X0.ex rfl (X0.de at_5) rfl) ?_
  show Run _ _ _ _ _ _ _ _ _ _ _ _ T0 (mkF m 6 #[.val (.long a1), .second, .val (.long a2), .second, .val (.int s3), .val (.int s4), .val (.int s5), .val (.int s6), .val (.long (1099511627775 : Int64)), .second, .unset, .unset, .unset, .unset, .unset, .unset, .unset, .unset, .unset, .unset, .unset, .unset, .unset, .unset] [(.long a1)])
  refine Run.via (fun _ => XS.lload X0.at X0.ex rfl (X0.de at_6) rfl) ?_
  show Run _ _ _ _ _ _ _ _ _ _ _ _ T0 (mkF m 8 #[.val (.long a1), .second, .val (.long a2), .second, .val (.int s3), .val (.int s4), .val (.int s5), .val (.int s6), .val (.long (1099511627775 : Int64)), .second, .unset, .unset, .unset, .unset, .unset, .unset, .unset, .unset, .unset, .unset, .unset, .unset, .unset, .unset] [(.long (1099511627775 : Int64)), (.long a1)])
  refine Run.via (fun _ => XS.land X0.at X0.ex rfl (X0.de at_8) rfl) ?_
  show Run _ _ _ _ _ _ _ _ _ _ _ _ T0 (mkF m 9 #[.val (.long a1), .second, .val (.long a2), .second, .val (.int s3), .val (.int s4), .val (.int s5), .val (.int s6), .val (.long (1099511627775 : Int64)), .second, .unset, .unset, .unset, .unset, .unset, .unset, .unset, .unset, .unset, .unset, .unset, .unset, .unset, .unset] [(.long (a1 &&& (1099511627775 : Int64)))])
  refine Run.via (fun _ => XS.lstore X0.at X0.ex rfl (X0.de at_9) rfl (l' := #[.val (.long a1), .second, .val (.long a2), .second, .val (.int s3), .val (.int s4), .val (.int s5), .val (.int s6), .val (.long (1099511627775 : Int64)), .second, .val (.long (a1 &&& (1099511627775 : Int64))), .second, .unset, .unset, .unset, .unset, .unset, .unset, .unset, .unset, .unset, .unset, .unset, .unset]) rfl) ?_
  show Run _ _ _ _ _ _ _ _ _ _ _ _ T0 (mkF m 11 #[.val (.long a1), .second, .val (.long a2), .second, .val (.int s3), .val (.int s4), .val (.int s5), .val (.int s6), .val (.long (1099511627775 : Int64)), .second, .val (.long (a1 &&& (1099511627775 : Int64))), .second, .unset, .unset, .unset, .unset, .unset, .unset, .unset, .unset, .unset, .unset, .unset, .unset] [])
  refine Run.via (fun _ => XS.lloadN X0.at X0.ex rfl (X0.de at_11) rfl) ?_
  show Run _ _ _ _ _ _ _ _ _ _ _ _ T0 (mkF m 12 #[.val (.long a1), .second, .val (.long a2), .second, .val (.int s3), .val (.int s4), .val (.int s5), .val (.int s6), .val (.long (1099511627775 : Int64)), .second, .val (.long (a1 &&& (1099511627775 : Int64))), .second, .unset, .unset, .unset, .unset, .unset, .unset, .unset, .unset, .unset, .unset, .unset, .unset] [(.long a2)])
  refine Run.via (fun _ => XS.lload X0.at X0.ex rfl (X0.de at_12) rfl) ?_
  show Run _ _ _ _ _ _ _ _ _ _ _ _ T0 (mkF m 14 #[.val (.long a1), .second, .val (.long a2), .second, .val (.int s3), .val (.int s4), .val (.int s5), .val (.int s6), .val (.long (1099511627775 : Int64)), .second, .val (.long (a1 &&& (1099511627775 : Int64))), .second, .unset, .unset, .unset, .unset, .unset, .unset, .unset, .unset, .unset, .unset, .unset, .unset] [(.long (1099511627775 : Int64)), (.long a2)])
  refine Run.via (fun _ => XS.land X0.at X0.ex rfl (X0.de at_14) rfl) ?_
  show Run _ _ _ _ _ _ _ _ _ _ _ _ T0 (mkF m 15 #[.val (.long a1), .second, .val (.long a2), .second, .val (.int s3), .val (.int s4), .val (.int s5), .val (.int s6), .val (.long (1099511627775 : Int64)), .second, .val (.long (a1 &&& (1099511627775 : Int64))), .second, .unset, .unset, .unset, .unset, .unset, .unset, .unset, .unset, .unset, .unset, .unset, .unset] [(.long (a2 &&& (1099511627775 : Int64)))])
  refine Run.via (fun _ => XS.lstore X0.at X0.ex rfl (X0.de at_15) rfl (l' := #[.val (.long a1), .second, .val (.long a2), .second, .val (.int s3), .val (.int s4), .val (.int s5), .val (.int s6), .val (.long (1099511627775 : Int64)), .second, .val (.long (a1 &&& (1099511627775 : Int64))), .second, .val (.long (a2 &&& (1099511627775 : Int64))), .second, .unset, .unset, .unset, .unset, .unset, .unset, .unset, .unset, .unset, .unset]) rfl) ?_
  show Run _ _ _ _ _ _ _ _ _ _ _ _ T0 (mkF m 17 #[.val (.long a1), .second, .val (.long a2), .second, .val (.int s3), .val (.int s4), .val (.int s5), .val (.int s6), .val (.long (1099511627775 : Int64)), .second, .val (.long (a1 &&& (1099511627775 : Int64))), .second, .val (.long (a2 &&& (1099511627775 : Int64))), .second, .unset, .unset, .unset, .unset, .unset, .unset, .unset, .unset, .unset, .unset] [])
  refine Run.via (fun _ => XS.iload X0.at X0.ex rfl (X0.de at_17) rfl) ?_
  show Run _ _ _ _ _ _ _ _ _ _ _ _ T0 (mkF m 19 #[.val (.long a1), .second, .val (.long a2), .second, .val (.int s3), .val (.int s4), .val (.int s5), .val (.int s6), .val (.long (1099511627775 : Int64)), .second, .val (.long (a1 &&& (1099511627775 : Int64))), .second, .val (.long (a2 &&& (1099511627775 : Int64))), .second, .unset, .unset, .unset, .unset, .unset, .unset, .unset, .unset, .unset, .unset] [(.int s6)])
  refine Run.via (fun _ => XS.iconst X0.at X0.ex rfl (X0.de at_19)) ?_
  show Run _ _ _ _ _ _ _ _ _ _ _ _ T0 (mkF m 20 #[.val (.long a1), .second, .val (.long a2), .second, .val (.int s3), .val (.int s4), .val (.int s5), .val (.int s6), .val (.long (1099511627775 : Int64)), .second, .val (.long (a1 &&& (1099511627775 : Int64))), .second, .val (.long (a2 &&& (1099511627775 : Int64))), .second, .unset, .unset, .unset, .unset, .unset, .unset, .unset, .unset, .unset, .unset] [(.int (1 : Int32)), (.int s6)])
  refine Run.via (fun _ => XS.iand X0.at X0.ex rfl (X0.de at_20) rfl) ?_
  show Run _ _ _ _ _ _ _ _ _ _ _ _ T0 (mkF m 21 #[.val (.long a1), .second, .val (.long a2), .second, .val (.int s3), .val (.int s4), .val (.int s5), .val (.int s6), .val (.long (1099511627775 : Int64)), .second, .val (.long (a1 &&& (1099511627775 : Int64))), .second, .val (.long (a2 &&& (1099511627775 : Int64))), .second, .unset, .unset, .unset, .unset, .unset, .unset, .unset, .unset, .unset, .unset] [(.int (s6 &&& (1 : Int32)))])
  have J81 : ∀ (ch mh : Int32), OwnFP.CM ch mh → Run Z EL false p e below s h0 [] (fun v _ => v = some (.int 1)) room_1.cells room_1.slots T0 (mkF m 81 #[.val (.long a1), .second, .val (.long a2), .second, .val (.int s3), .val (.int s4), .val (.int s5), .val (.int s6), .val (.long (1099511627775 : Int64)), .second, .val (.long (a1 &&& (1099511627775 : Int64))), .second, .val (.long (a2 &&& (1099511627775 : Int64))), .second, .val (.int ch), .val (.int mh), .unset, .unset, .unset, .unset, .unset, .unset, .unset, .unset] []) := by
    intro ch mh hcm
    refine Run.via (fun _ => XS.iload X0.at X0.ex rfl (X0.de at_81) rfl) ?_
    show Run _ _ _ _ _ _ _ _ _ _ _ _ T0 (mkF m 83 #[.val (.long a1), .second, .val (.long a2), .second, .val (.int s3), .val (.int s4), .val (.int s5), .val (.int s6), .val (.long (1099511627775 : Int64)), .second, .val (.long (a1 &&& (1099511627775 : Int64))), .second, .val (.long (a2 &&& (1099511627775 : Int64))), .second, .val (.int ch), .val (.int mh), .unset, .unset, .unset, .unset, .unset, .unset, .unset, .unset] [(.int ch)])
    have J100 : ∀ (kh : Int32), OwnFP.CK ch kh → Run Z EL false p e below s h0 [] (fun v _ => v = some (.int 1)) room_1.cells room_1.slots T0 (mkF m 100 #[.val (.long a1), .second, .val (.long a2), .second, .val (.int s3), .val (.int s4), .val (.int s5), .val (.int s6), .val (.long (1099511627775 : Int64)), .second, .val (.long (a1 &&& (1099511627775 : Int64))), .second, .val (.long (a2 &&& (1099511627775 : Int64))), .second, .val (.int ch), .val (.int mh), .unset, .unset, .unset, .unset, .unset, .unset, .unset, .unset] [(.int kh)]) := by
      intro kh hck
      refine Run.via (fun _ => XS.istore X0.at X0.ex rfl (X0.de at_100) rfl (l' := #[.val (.long a1), .second, .val (.long a2), .second, .val (.int s3), .val (.int s4), .val (.int s5), .val (.int s6), .val (.long (1099511627775 : Int64)), .second, .val (.long (a1 &&& (1099511627775 : Int64))), .second, .val (.long (a2 &&& (1099511627775 : Int64))), .second, .val (.int ch), .val (.int mh), .val (.int kh), .unset, .unset, .unset, .unset, .unset, .unset, .unset]) rfl) ?_
      show Run _ _ _ _ _ _ _ _ _ _ _ _ T0 (mkF m 102 #[.val (.long a1), .second, .val (.long a2), .second, .val (.int s3), .val (.int s4), .val (.int s5), .val (.int s6), .val (.long (1099511627775 : Int64)), .second, .val (.long (a1 &&& (1099511627775 : Int64))), .second, .val (.long (a2 &&& (1099511627775 : Int64))), .second, .val (.int ch), .val (.int mh), .val (.int kh), .unset, .unset, .unset, .unset, .unset, .unset, .unset] [])
      refine Run.new X0 (wd hw 2 rfl) (wd hw 3 rfl) (wd hw 4 rfl) at_102 (Nat.le_of_ble_eq_true rfl) (Nat.le_of_ble_eq_true rfl) ?_
      intro T101 h101 x101 g101 X101 K101 z101 E101 D101
      show Run _ _ _ _ _ _ _ _ _ _ _ _ T101 (mkF m 105 #[.val (.long a1), .second, .val (.long a2), .second, .val (.int s3), .val (.int s4), .val (.int s5), .val (.int s6), .val (.long (1099511627775 : Int64)), .second, .val (.long (a1 &&& (1099511627775 : Int64))), .second, .val (.long (a2 &&& (1099511627775 : Int64))), .second, .val (.int ch), .val (.int mh), .val (.int kh), .unset, .unset, .unset, .unset, .unset, .unset, .unset] [(.ref x101)])
      refine Run.via (fun _ => XS.dup X101.at X101.ex rfl (X101.de at_105) rfl rfl) ?_
      show Run _ _ _ _ _ _ _ _ _ _ _ _ T101 (mkF m 106 #[.val (.long a1), .second, .val (.long a2), .second, .val (.int s3), .val (.int s4), .val (.int s5), .val (.int s6), .val (.long (1099511627775 : Int64)), .second, .val (.long (a1 &&& (1099511627775 : Int64))), .second, .val (.long (a2 &&& (1099511627775 : Int64))), .second, .val (.int ch), .val (.int mh), .val (.int kh), .unset, .unset, .unset, .unset, .unset, .unset, .unset] [(.ref x101), (.ref x101)])
      refine Run.via (fun _ => XS.lload X101.at X101.ex rfl (X101.de at_106) rfl) ?_
      show Run _ _ _ _ _ _ _ _ _ _ _ _ T101 (mkF m 108 #[.val (.long a1), .second, .val (.long a2), .second, .val (.int s3), .val (.int s4), .val (.int s5), .val (.int s6), .val (.long (1099511627775 : Int64)), .second, .val (.long (a1 &&& (1099511627775 : Int64))), .second, .val (.long (a2 &&& (1099511627775 : Int64))), .second, .val (.int ch), .val (.int mh), .val (.int kh), .unset, .unset, .unset, .unset, .unset, .unset, .unset] [(.long (a1 &&& (1099511627775 : Int64))), (.ref x101), (.ref x101)])
      refine Run.via (fun _ => XS.lload X101.at X101.ex rfl (X101.de at_108) rfl) ?_
      show Run _ _ _ _ _ _ _ _ _ _ _ _ T101 (mkF m 110 #[.val (.long a1), .second, .val (.long a2), .second, .val (.int s3), .val (.int s4), .val (.int s5), .val (.int s6), .val (.long (1099511627775 : Int64)), .second, .val (.long (a1 &&& (1099511627775 : Int64))), .second, .val (.long (a2 &&& (1099511627775 : Int64))), .second, .val (.int ch), .val (.int mh), .val (.int kh), .unset, .unset, .unset, .unset, .unset, .unset, .unset] [(.long (a2 &&& (1099511627775 : Int64))), (.long (a1 &&& (1099511627775 : Int64))), (.ref x101), (.ref x101)])
      refine Run.via (fun _ => XS.iload X101.at X101.ex rfl (X101.de at_110) rfl) ?_
      show Run _ _ _ _ _ _ _ _ _ _ _ _ T101 (mkF m 112 #[.val (.long a1), .second, .val (.long a2), .second, .val (.int s3), .val (.int s4), .val (.int s5), .val (.int s6), .val (.long (1099511627775 : Int64)), .second, .val (.long (a1 &&& (1099511627775 : Int64))), .second, .val (.long (a2 &&& (1099511627775 : Int64))), .second, .val (.int ch), .val (.int mh), .val (.int kh), .unset, .unset, .unset, .unset, .unset, .unset, .unset] [(.int ch), (.long (a2 &&& (1099511627775 : Int64))), (.long (a1 &&& (1099511627775 : Int64))), (.ref x101), (.ref x101)])
      refine Run.via (fun _ => XS.iload X101.at X101.ex rfl (X101.de at_112) rfl) ?_
      show Run _ _ _ _ _ _ _ _ _ _ _ _ T101 (mkF m 114 #[.val (.long a1), .second, .val (.long a2), .second, .val (.int s3), .val (.int s4), .val (.int s5), .val (.int s6), .val (.long (1099511627775 : Int64)), .second, .val (.long (a1 &&& (1099511627775 : Int64))), .second, .val (.long (a2 &&& (1099511627775 : Int64))), .second, .val (.int ch), .val (.int mh), .val (.int kh), .unset, .unset, .unset, .unset, .unset, .unset, .unset] [(.int kh), (.int ch), (.long (a2 &&& (1099511627775 : Int64))), (.long (a1 &&& (1099511627775 : Int64))), (.ref x101), (.ref x101)])
      refine Run.via (fun _ => XS.iload X101.at X101.ex rfl (X101.de at_114) rfl) ?_
      show Run _ _ _ _ _ _ _ _ _ _ _ _ T101 (mkF m 116 #[.val (.long a1), .second, .val (.long a2), .second, .val (.int s3), .val (.int s4), .val (.int s5), .val (.int s6), .val (.long (1099511627775 : Int64)), .second, .val (.long (a1 &&& (1099511627775 : Int64))), .second, .val (.long (a2 &&& (1099511627775 : Int64))), .second, .val (.int ch), .val (.int mh), .val (.int kh), .unset, .unset, .unset, .unset, .unset, .unset, .unset] [(.int mh), (.int kh), (.int ch), (.long (a2 &&& (1099511627775 : Int64))), (.long (a1 &&& (1099511627775 : Int64))), (.ref x101), (.ref x101)])
      refine Run.callN X101 (y := (⟨"com/example/structured_keyword_search/structuredkeywordsearch/xml/Density", "<init>", "(JJIII)V"⟩ : MethodName)) (W := 1) (con_di l hw (OwnFP.mx_nz hcm) E101 (D101 (Or.inr (wd hw 16 rfl)) (ty := .long) (by decide)) (D101 (Or.inr (wd hw 18 rfl)) (ty := .long) (by decide)) (D101 (Or.inr (wd hw 20 rfl)) (ty := .long) (by decide)) (D101 (Or.inr (wd hw 22 rfl)) (ty := .int) (by decide)) (by have := O.1; omega) X101.old) rfl (wd hw 5 rfl) (wd hw 6 rfl) (wd hw 4 rfl) (wd hw 7 rfl) (by decide) pd__JJIII_V rfl (argsL := [(.long (a1 &&& (1099511627775 : Int64))), (.long (a2 &&& (1099511627775 : Int64))), (.int ch), (.int kh), (.int mh)]) (rest := [(.ref x101)]) rfl (Nat.le_of_ble_eq_true rfl) rfl at_116 (by decide) (by decide) (Nat.le_of_ble_eq_true rfl) (Nat.le_of_ble_eq_true rfl) (fun y hy => by cases List.mem_singleton.mp hy; exact ⟨Or.inr (by omega), by have := O.1; omega⟩) (nofun) ?_
      intro v102 T102 h102 L102 q102 X102 XF102 K102
      obtain ⟨rfl, EC, GA, GB, GC, GD⟩ := q102
      show Run _ _ _ _ _ _ _ _ _ _ _ _ T102 (mkF m 119 #[.val (.long a1), .second, .val (.long a2), .second, .val (.int s3), .val (.int s4), .val (.int s5), .val (.int s6), .val (.long (1099511627775 : Int64)), .second, .val (.long (a1 &&& (1099511627775 : Int64))), .second, .val (.long (a2 &&& (1099511627775 : Int64))), .second, .val (.int ch), .val (.int mh), .val (.int kh), .unset, .unset, .unset, .unset, .unset, .unset, .unset] [(.ref x101)])
      refine Run.via (fun _ => XS.astore X102.at X102.ex rfl (X102.de at_119) rfl rfl (l' := #[.val (.long a1), .second, .val (.long a2), .second, .val (.int s3), .val (.int s4), .val (.int s5), .val (.int s6), .val (.long (1099511627775 : Int64)), .second, .val (.long (a1 &&& (1099511627775 : Int64))), .second, .val (.long (a2 &&& (1099511627775 : Int64))), .second, .val (.int ch), .val (.int mh), .val (.int kh), .val (.ref x101), .unset, .unset, .unset, .unset, .unset, .unset]) rfl) ?_
      show Run _ _ _ _ _ _ _ _ _ _ _ _ T102 (mkF m 121 #[.val (.long a1), .second, .val (.long a2), .second, .val (.int s3), .val (.int s4), .val (.int s5), .val (.int s6), .val (.long (1099511627775 : Int64)), .second, .val (.long (a1 &&& (1099511627775 : Int64))), .second, .val (.long (a2 &&& (1099511627775 : Int64))), .second, .val (.int ch), .val (.int mh), .val (.int kh), .val (.ref x101), .unset, .unset, .unset, .unset, .unset, .unset] [])
      refine Run.via (fun _ => XS.iload X102.at X102.ex rfl (X102.de at_121) rfl) ?_
      show Run _ _ _ _ _ _ _ _ _ _ _ _ T102 (mkF m 123 #[.val (.long a1), .second, .val (.long a2), .second, .val (.int s3), .val (.int s4), .val (.int s5), .val (.int s6), .val (.long (1099511627775 : Int64)), .second, .val (.long (a1 &&& (1099511627775 : Int64))), .second, .val (.long (a2 &&& (1099511627775 : Int64))), .second, .val (.int ch), .val (.int mh), .val (.int kh), .val (.ref x101), .unset, .unset, .unset, .unset, .unset, .unset] [(.int ch)])
      refine Run.via (fun _ => XS.iconst X102.at X102.ex rfl (X102.de at_123)) ?_
      show Run _ _ _ _ _ _ _ _ _ _ _ _ T102 (mkF m 124 #[.val (.long a1), .second, .val (.long a2), .second, .val (.int s3), .val (.int s4), .val (.int s5), .val (.int s6), .val (.long (1099511627775 : Int64)), .second, .val (.long (a1 &&& (1099511627775 : Int64))), .second, .val (.long (a2 &&& (1099511627775 : Int64))), .second, .val (.int ch), .val (.int mh), .val (.int kh), .val (.ref x101), .unset, .unset, .unset, .unset, .unset, .unset] [(.int (1 : Int32)), (.int ch)])
      refine Run.callS X102 (y := (⟨"java/lang/Math", "max", "(II)I"⟩ : MethodName)) (W := 0) (con_mx l hw X102.old) (wd hw 23 rfl) (wd hw 12 rfl) (wd hw 13 rfl) (wd hw 14 rfl) (by decide) pd__II_I rfl (argsL := [(.int ch), (.int (1 : Int32))]) (rest := []) rfl (Nat.le_of_ble_eq_true rfl) rfl at_124 (by decide) (by decide) (Nat.le_of_ble_eq_true rfl) (Nat.le_of_ble_eq_true rfl) (nofun) (nofun) ?_
      intro v103 T103 h103 L103 q103 X103 XF103 K103
      obtain ⟨rfl, rfl⟩ := q103
      show Run _ _ _ _ _ _ _ _ _ _ _ _ T103 (mkF m 127 #[.val (.long a1), .second, .val (.long a2), .second, .val (.int s3), .val (.int s4), .val (.int s5), .val (.int s6), .val (.long (1099511627775 : Int64)), .second, .val (.long (a1 &&& (1099511627775 : Int64))), .second, .val (.long (a2 &&& (1099511627775 : Int64))), .second, .val (.int ch), .val (.int mh), .val (.int kh), .val (.ref x101), .unset, .unset, .unset, .unset, .unset, .unset] [(.int (OwnFP.mx ch))])
      refine Run.via (fun _ => XS.i2l X103.at X103.ex rfl (X103.de at_127) rfl) ?_
      show Run _ _ _ _ _ _ _ _ _ _ _ _ T103 (mkF m 128 #[.val (.long a1), .second, .val (.long a2), .second, .val (.int s3), .val (.int s4), .val (.int s5), .val (.int s6), .val (.long (1099511627775 : Int64)), .second, .val (.long (a1 &&& (1099511627775 : Int64))), .second, .val (.long (a2 &&& (1099511627775 : Int64))), .second, .val (.int ch), .val (.int mh), .val (.int kh), .val (.ref x101), .unset, .unset, .unset, .unset, .unset, .unset] [(.long ((OwnFP.mx ch).toInt64))])
      refine Run.via (fun _ => XS.lstore X103.at X103.ex rfl (X103.de at_128) rfl (l' := #[.val (.long a1), .second, .val (.long a2), .second, .val (.int s3), .val (.int s4), .val (.int s5), .val (.int s6), .val (.long (1099511627775 : Int64)), .second, .val (.long (a1 &&& (1099511627775 : Int64))), .second, .val (.long (a2 &&& (1099511627775 : Int64))), .second, .val (.int ch), .val (.int mh), .val (.int kh), .val (.ref x101), .val (.long ((OwnFP.mx ch).toInt64)), .second, .unset, .unset, .unset, .unset]) rfl) ?_
      show Run _ _ _ _ _ _ _ _ _ _ _ _ T103 (mkF m 130 #[.val (.long a1), .second, .val (.long a2), .second, .val (.int s3), .val (.int s4), .val (.int s5), .val (.int s6), .val (.long (1099511627775 : Int64)), .second, .val (.long (a1 &&& (1099511627775 : Int64))), .second, .val (.long (a2 &&& (1099511627775 : Int64))), .second, .val (.int ch), .val (.int mh), .val (.int kh), .val (.ref x101), .val (.long ((OwnFP.mx ch).toInt64)), .second, .unset, .unset, .unset, .unset] [])
      refine Run.via (fun _ => XS.lload X103.at X103.ex rfl (X103.de at_130) rfl) ?_
      show Run _ _ _ _ _ _ _ _ _ _ _ _ T103 (mkF m 132 #[.val (.long a1), .second, .val (.long a2), .second, .val (.int s3), .val (.int s4), .val (.int s5), .val (.int s6), .val (.long (1099511627775 : Int64)), .second, .val (.long (a1 &&& (1099511627775 : Int64))), .second, .val (.long (a2 &&& (1099511627775 : Int64))), .second, .val (.int ch), .val (.int mh), .val (.int kh), .val (.ref x101), .val (.long ((OwnFP.mx ch).toInt64)), .second, .unset, .unset, .unset, .unset] [(.long (a1 &&& (1099511627775 : Int64)))])
      refine Run.via (fun _ => XS.lload X103.at X103.ex rfl (X103.de at_132) rfl) ?_
      show Run _ _ _ _ _ _ _ _ _ _ _ _ T103 (mkF m 134 #[.val (.long a1), .second, .val (.long a2), .second, .val (.int s3), .val (.int s4), .val (.int s5), .val (.int s6), .val (.long (1099511627775 : Int64)), .second, .val (.long (a1 &&& (1099511627775 : Int64))), .second, .val (.long (a2 &&& (1099511627775 : Int64))), .second, .val (.int ch), .val (.int mh), .val (.int kh), .val (.ref x101), .val (.long ((OwnFP.mx ch).toInt64)), .second, .unset, .unset, .unset, .unset] [(.long (a2 &&& (1099511627775 : Int64))), (.long (a1 &&& (1099511627775 : Int64)))])
      refine Run.via (fun _ => XS.ladd X103.at X103.ex rfl (X103.de at_134) rfl) ?_
      show Run _ _ _ _ _ _ _ _ _ _ _ _ T103 (mkF m 135 #[.val (.long a1), .second, .val (.long a2), .second, .val (.int s3), .val (.int s4), .val (.int s5), .val (.int s6), .val (.long (1099511627775 : Int64)), .second, .val (.long (a1 &&& (1099511627775 : Int64))), .second, .val (.long (a2 &&& (1099511627775 : Int64))), .second, .val (.int ch), .val (.int mh), .val (.int kh), .val (.ref x101), .val (.long ((OwnFP.mx ch).toInt64)), .second, .unset, .unset, .unset, .unset] [(.long ((a1 &&& (1099511627775 : Int64)) + (a2 &&& (1099511627775 : Int64))))])
      refine Run.via (fun _ => XS.lload X103.at X103.ex rfl (X103.de at_135) rfl) ?_
      show Run _ _ _ _ _ _ _ _ _ _ _ _ T103 (mkF m 137 #[.val (.long a1), .second, .val (.long a2), .second, .val (.int s3), .val (.int s4), .val (.int s5), .val (.int s6), .val (.long (1099511627775 : Int64)), .second, .val (.long (a1 &&& (1099511627775 : Int64))), .second, .val (.long (a2 &&& (1099511627775 : Int64))), .second, .val (.int ch), .val (.int mh), .val (.int kh), .val (.ref x101), .val (.long ((OwnFP.mx ch).toInt64)), .second, .unset, .unset, .unset, .unset] [(.long ((OwnFP.mx ch).toInt64)), (.long ((a1 &&& (1099511627775 : Int64)) + (a2 &&& (1099511627775 : Int64))))])
      refine Run.via (fun _ => XS.lmul X103.at X103.ex rfl (X103.de at_137) rfl) ?_
      show Run _ _ _ _ _ _ _ _ _ _ _ _ T103 (mkF m 138 #[.val (.long a1), .second, .val (.long a2), .second, .val (.int s3), .val (.int s4), .val (.int s5), .val (.int s6), .val (.long (1099511627775 : Int64)), .second, .val (.long (a1 &&& (1099511627775 : Int64))), .second, .val (.long (a2 &&& (1099511627775 : Int64))), .second, .val (.int ch), .val (.int mh), .val (.int kh), .val (.ref x101), .val (.long ((OwnFP.mx ch).toInt64)), .second, .unset, .unset, .unset, .unset] [(.long (((a1 &&& (1099511627775 : Int64)) + (a2 &&& (1099511627775 : Int64))) * ((OwnFP.mx ch).toInt64)))])
      refine Run.via (fun _ => XS.iload X103.at X103.ex rfl (X103.de at_138) rfl) ?_
      show Run _ _ _ _ _ _ _ _ _ _ _ _ T103 (mkF m 140 #[.val (.long a1), .second, .val (.long a2), .second, .val (.int s3), .val (.int s4), .val (.int s5), .val (.int s6), .val (.long (1099511627775 : Int64)), .second, .val (.long (a1 &&& (1099511627775 : Int64))), .second, .val (.long (a2 &&& (1099511627775 : Int64))), .second, .val (.int ch), .val (.int mh), .val (.int kh), .val (.ref x101), .val (.long ((OwnFP.mx ch).toInt64)), .second, .unset, .unset, .unset, .unset] [(.int mh), (.long (((a1 &&& (1099511627775 : Int64)) + (a2 &&& (1099511627775 : Int64))) * ((OwnFP.mx ch).toInt64)))])
      refine Run.via (fun _ => XS.i2l X103.at X103.ex rfl (X103.de at_140) rfl) ?_
      show Run _ _ _ _ _ _ _ _ _ _ _ _ T103 (mkF m 141 #[.val (.long a1), .second, .val (.long a2), .second, .val (.int s3), .val (.int s4), .val (.int s5), .val (.int s6), .val (.long (1099511627775 : Int64)), .second, .val (.long (a1 &&& (1099511627775 : Int64))), .second, .val (.long (a2 &&& (1099511627775 : Int64))), .second, .val (.int ch), .val (.int mh), .val (.int kh), .val (.ref x101), .val (.long ((OwnFP.mx ch).toInt64)), .second, .unset, .unset, .unset, .unset] [(.long (mh.toInt64)), (.long (((a1 &&& (1099511627775 : Int64)) + (a2 &&& (1099511627775 : Int64))) * ((OwnFP.mx ch).toInt64)))])
      refine Run.via (fun _ => XS.iload X103.at X103.ex rfl (X103.de at_141) rfl) ?_
      show Run _ _ _ _ _ _ _ _ _ _ _ _ T103 (mkF m 143 #[.val (.long a1), .second, .val (.long a2), .second, .val (.int s3), .val (.int s4), .val (.int s5), .val (.int s6), .val (.long (1099511627775 : Int64)), .second, .val (.long (a1 &&& (1099511627775 : Int64))), .second, .val (.long (a2 &&& (1099511627775 : Int64))), .second, .val (.int ch), .val (.int mh), .val (.int kh), .val (.ref x101), .val (.long ((OwnFP.mx ch).toInt64)), .second, .unset, .unset, .unset, .unset] [(.int ch), (.long (mh.toInt64)), (.long (((a1 &&& (1099511627775 : Int64)) + (a2 &&& (1099511627775 : Int64))) * ((OwnFP.mx ch).toInt64)))])
      refine Run.via (fun _ => XS.iload X103.at X103.ex rfl (X103.de at_143) rfl) ?_
      show Run _ _ _ _ _ _ _ _ _ _ _ _ T103 (mkF m 145 #[.val (.long a1), .second, .val (.long a2), .second, .val (.int s3), .val (.int s4), .val (.int s5), .val (.int s6), .val (.long (1099511627775 : Int64)), .second, .val (.long (a1 &&& (1099511627775 : Int64))), .second, .val (.long (a2 &&& (1099511627775 : Int64))), .second, .val (.int ch), .val (.int mh), .val (.int kh), .val (.ref x101), .val (.long ((OwnFP.mx ch).toInt64)), .second, .unset, .unset, .unset, .unset] [(.int kh), (.int ch), (.long (mh.toInt64)), (.long (((a1 &&& (1099511627775 : Int64)) + (a2 &&& (1099511627775 : Int64))) * ((OwnFP.mx ch).toInt64)))])
      refine Run.via (fun _ => XS.isub X103.at X103.ex rfl (X103.de at_145) rfl) ?_
      show Run _ _ _ _ _ _ _ _ _ _ _ _ T103 (mkF m 146 #[.val (.long a1), .second, .val (.long a2), .second, .val (.int s3), .val (.int s4), .val (.int s5), .val (.int s6), .val (.long (1099511627775 : Int64)), .second, .val (.long (a1 &&& (1099511627775 : Int64))), .second, .val (.long (a2 &&& (1099511627775 : Int64))), .second, .val (.int ch), .val (.int mh), .val (.int kh), .val (.ref x101), .val (.long ((OwnFP.mx ch).toInt64)), .second, .unset, .unset, .unset, .unset] [(.int (ch - kh)), (.long (mh.toInt64)), (.long (((a1 &&& (1099511627775 : Int64)) + (a2 &&& (1099511627775 : Int64))) * ((OwnFP.mx ch).toInt64)))])
      refine Run.via (fun _ => XS.i2l X103.at X103.ex rfl (X103.de at_146) rfl) ?_
      show Run _ _ _ _ _ _ _ _ _ _ _ _ T103 (mkF m 147 #[.val (.long a1), .second, .val (.long a2), .second, .val (.int s3), .val (.int s4), .val (.int s5), .val (.int s6), .val (.long (1099511627775 : Int64)), .second, .val (.long (a1 &&& (1099511627775 : Int64))), .second, .val (.long (a2 &&& (1099511627775 : Int64))), .second, .val (.int ch), .val (.int mh), .val (.int kh), .val (.ref x101), .val (.long ((OwnFP.mx ch).toInt64)), .second, .unset, .unset, .unset, .unset] [(.long ((ch - kh).toInt64)), (.long (mh.toInt64)), (.long (((a1 &&& (1099511627775 : Int64)) + (a2 &&& (1099511627775 : Int64))) * ((OwnFP.mx ch).toInt64)))])
      refine Run.via (fun _ => XS.lmul X103.at X103.ex rfl (X103.de at_147) rfl) ?_
      show Run _ _ _ _ _ _ _ _ _ _ _ _ T103 (mkF m 148 #[.val (.long a1), .second, .val (.long a2), .second, .val (.int s3), .val (.int s4), .val (.int s5), .val (.int s6), .val (.long (1099511627775 : Int64)), .second, .val (.long (a1 &&& (1099511627775 : Int64))), .second, .val (.long (a2 &&& (1099511627775 : Int64))), .second, .val (.int ch), .val (.int mh), .val (.int kh), .val (.ref x101), .val (.long ((OwnFP.mx ch).toInt64)), .second, .unset, .unset, .unset, .unset] [(.long ((mh.toInt64) * ((ch - kh).toInt64))), (.long (((a1 &&& (1099511627775 : Int64)) + (a2 &&& (1099511627775 : Int64))) * ((OwnFP.mx ch).toInt64)))])
      refine Run.via (fun _ => XS.ladd X103.at X103.ex rfl (X103.de at_148) rfl) ?_
      show Run _ _ _ _ _ _ _ _ _ _ _ _ T103 (mkF m 149 #[.val (.long a1), .second, .val (.long a2), .second, .val (.int s3), .val (.int s4), .val (.int s5), .val (.int s6), .val (.long (1099511627775 : Int64)), .second, .val (.long (a1 &&& (1099511627775 : Int64))), .second, .val (.long (a2 &&& (1099511627775 : Int64))), .second, .val (.int ch), .val (.int mh), .val (.int kh), .val (.ref x101), .val (.long ((OwnFP.mx ch).toInt64)), .second, .unset, .unset, .unset, .unset] [(.long ((((a1 &&& (1099511627775 : Int64)) + (a2 &&& (1099511627775 : Int64))) * ((OwnFP.mx ch).toInt64)) + ((mh.toInt64) * ((ch - kh).toInt64))))])
      refine Run.via (fun _ => XS.lstore X103.at X103.ex rfl (X103.de at_149) rfl (l' := #[.val (.long a1), .second, .val (.long a2), .second, .val (.int s3), .val (.int s4), .val (.int s5), .val (.int s6), .val (.long (1099511627775 : Int64)), .second, .val (.long (a1 &&& (1099511627775 : Int64))), .second, .val (.long (a2 &&& (1099511627775 : Int64))), .second, .val (.int ch), .val (.int mh), .val (.int kh), .val (.ref x101), .val (.long ((OwnFP.mx ch).toInt64)), .second, .val (.long ((((a1 &&& (1099511627775 : Int64)) + (a2 &&& (1099511627775 : Int64))) * ((OwnFP.mx ch).toInt64)) + ((mh.toInt64) * ((ch - kh).toInt64)))), .second, .unset, .unset]) rfl) ?_
      show Run _ _ _ _ _ _ _ _ _ _ _ _ T103 (mkF m 151 #[.val (.long a1), .second, .val (.long a2), .second, .val (.int s3), .val (.int s4), .val (.int s5), .val (.int s6), .val (.long (1099511627775 : Int64)), .second, .val (.long (a1 &&& (1099511627775 : Int64))), .second, .val (.long (a2 &&& (1099511627775 : Int64))), .second, .val (.int ch), .val (.int mh), .val (.int kh), .val (.ref x101), .val (.long ((OwnFP.mx ch).toInt64)), .second, .val (.long ((((a1 &&& (1099511627775 : Int64)) + (a2 &&& (1099511627775 : Int64))) * ((OwnFP.mx ch).toInt64)) + ((mh.toInt64) * ((ch - kh).toInt64)))), .second, .unset, .unset] [])
      refine Run.via (fun _ => XS.lload X103.at X103.ex rfl (X103.de at_151) rfl) ?_
      show Run _ _ _ _ _ _ _ _ _ _ _ _ T103 (mkF m 153 #[.val (.long a1), .second, .val (.long a2), .second, .val (.int s3), .val (.int s4), .val (.int s5), .val (.int s6), .val (.long (1099511627775 : Int64)), .second, .val (.long (a1 &&& (1099511627775 : Int64))), .second, .val (.long (a2 &&& (1099511627775 : Int64))), .second, .val (.int ch), .val (.int mh), .val (.int kh), .val (.ref x101), .val (.long ((OwnFP.mx ch).toInt64)), .second, .val (.long ((((a1 &&& (1099511627775 : Int64)) + (a2 &&& (1099511627775 : Int64))) * ((OwnFP.mx ch).toInt64)) + ((mh.toInt64) * ((ch - kh).toInt64)))), .second, .unset, .unset] [(.long ((((a1 &&& (1099511627775 : Int64)) + (a2 &&& (1099511627775 : Int64))) * ((OwnFP.mx ch).toInt64)) + ((mh.toInt64) * ((ch - kh).toInt64))))])
      refine Run.via (fun _ => XS.l2dS X103.at X103.ex rfl (X103.de at_153) rfl rfl) ?_
      show Run _ _ _ _ _ _ _ _ _ _ _ _ T103 (mkF m 154 #[.val (.long a1), .second, .val (.long a2), .second, .val (.int s3), .val (.int s4), .val (.int s5), .val (.int s6), .val (.long (1099511627775 : Int64)), .second, .val (.long (a1 &&& (1099511627775 : Int64))), .second, .val (.long (a2 &&& (1099511627775 : Int64))), .second, .val (.int ch), .val (.int mh), .val (.int kh), .val (.ref x101), .val (.long ((OwnFP.mx ch).toInt64)), .second, .val (.long ((((a1 &&& (1099511627775 : Int64)) + (a2 &&& (1099511627775 : Int64))) * ((OwnFP.mx ch).toInt64)) + ((mh.toInt64) * ((ch - kh).toInt64)))), .second, .unset, .unset] [(.double (FP.l2d ((((a1 &&& (1099511627775 : Int64)) + (a2 &&& (1099511627775 : Int64))) * ((OwnFP.mx ch).toInt64)) + ((mh.toInt64) * ((ch - kh).toInt64)))))])
      refine Run.via (fun _ => XS.lload X103.at X103.ex rfl (X103.de at_154) rfl) ?_
      show Run _ _ _ _ _ _ _ _ _ _ _ _ T103 (mkF m 156 #[.val (.long a1), .second, .val (.long a2), .second, .val (.int s3), .val (.int s4), .val (.int s5), .val (.int s6), .val (.long (1099511627775 : Int64)), .second, .val (.long (a1 &&& (1099511627775 : Int64))), .second, .val (.long (a2 &&& (1099511627775 : Int64))), .second, .val (.int ch), .val (.int mh), .val (.int kh), .val (.ref x101), .val (.long ((OwnFP.mx ch).toInt64)), .second, .val (.long ((((a1 &&& (1099511627775 : Int64)) + (a2 &&& (1099511627775 : Int64))) * ((OwnFP.mx ch).toInt64)) + ((mh.toInt64) * ((ch - kh).toInt64)))), .second, .unset, .unset] [(.long ((OwnFP.mx ch).toInt64)), (.double (FP.l2d ((((a1 &&& (1099511627775 : Int64)) + (a2 &&& (1099511627775 : Int64))) * ((OwnFP.mx ch).toInt64)) + ((mh.toInt64) * ((ch - kh).toInt64)))))])
      refine Run.via (fun _ => XS.iload X103.at X103.ex rfl (X103.de at_156) rfl) ?_
      show Run _ _ _ _ _ _ _ _ _ _ _ _ T103 (mkF m 158 #[.val (.long a1), .second, .val (.long a2), .second, .val (.int s3), .val (.int s4), .val (.int s5), .val (.int s6), .val (.long (1099511627775 : Int64)), .second, .val (.long (a1 &&& (1099511627775 : Int64))), .second, .val (.long (a2 &&& (1099511627775 : Int64))), .second, .val (.int ch), .val (.int mh), .val (.int kh), .val (.ref x101), .val (.long ((OwnFP.mx ch).toInt64)), .second, .val (.long ((((a1 &&& (1099511627775 : Int64)) + (a2 &&& (1099511627775 : Int64))) * ((OwnFP.mx ch).toInt64)) + ((mh.toInt64) * ((ch - kh).toInt64)))), .second, .unset, .unset] [(.int mh), (.long ((OwnFP.mx ch).toInt64)), (.double (FP.l2d ((((a1 &&& (1099511627775 : Int64)) + (a2 &&& (1099511627775 : Int64))) * ((OwnFP.mx ch).toInt64)) + ((mh.toInt64) * ((ch - kh).toInt64)))))])
      refine Run.via (fun _ => XS.i2l X103.at X103.ex rfl (X103.de at_158) rfl) ?_
      show Run _ _ _ _ _ _ _ _ _ _ _ _ T103 (mkF m 159 #[.val (.long a1), .second, .val (.long a2), .second, .val (.int s3), .val (.int s4), .val (.int s5), .val (.int s6), .val (.long (1099511627775 : Int64)), .second, .val (.long (a1 &&& (1099511627775 : Int64))), .second, .val (.long (a2 &&& (1099511627775 : Int64))), .second, .val (.int ch), .val (.int mh), .val (.int kh), .val (.ref x101), .val (.long ((OwnFP.mx ch).toInt64)), .second, .val (.long ((((a1 &&& (1099511627775 : Int64)) + (a2 &&& (1099511627775 : Int64))) * ((OwnFP.mx ch).toInt64)) + ((mh.toInt64) * ((ch - kh).toInt64)))), .second, .unset, .unset] [(.long (mh.toInt64)), (.long ((OwnFP.mx ch).toInt64)), (.double (FP.l2d ((((a1 &&& (1099511627775 : Int64)) + (a2 &&& (1099511627775 : Int64))) * ((OwnFP.mx ch).toInt64)) + ((mh.toInt64) * ((ch - kh).toInt64)))))])
      refine Run.via (fun _ => XS.lmul X103.at X103.ex rfl (X103.de at_159) rfl) ?_
      show Run _ _ _ _ _ _ _ _ _ _ _ _ T103 (mkF m 160 #[.val (.long a1), .second, .val (.long a2), .second, .val (.int s3), .val (.int s4), .val (.int s5), .val (.int s6), .val (.long (1099511627775 : Int64)), .second, .val (.long (a1 &&& (1099511627775 : Int64))), .second, .val (.long (a2 &&& (1099511627775 : Int64))), .second, .val (.int ch), .val (.int mh), .val (.int kh), .val (.ref x101), .val (.long ((OwnFP.mx ch).toInt64)), .second, .val (.long ((((a1 &&& (1099511627775 : Int64)) + (a2 &&& (1099511627775 : Int64))) * ((OwnFP.mx ch).toInt64)) + ((mh.toInt64) * ((ch - kh).toInt64)))), .second, .unset, .unset] [(.long (((OwnFP.mx ch).toInt64) * (mh.toInt64))), (.double (FP.l2d ((((a1 &&& (1099511627775 : Int64)) + (a2 &&& (1099511627775 : Int64))) * ((OwnFP.mx ch).toInt64)) + ((mh.toInt64) * ((ch - kh).toInt64)))))])
      refine Run.via (fun _ => XS.l2dS X103.at X103.ex rfl (X103.de at_160) rfl rfl) ?_
      show Run _ _ _ _ _ _ _ _ _ _ _ _ T103 (mkF m 161 #[.val (.long a1), .second, .val (.long a2), .second, .val (.int s3), .val (.int s4), .val (.int s5), .val (.int s6), .val (.long (1099511627775 : Int64)), .second, .val (.long (a1 &&& (1099511627775 : Int64))), .second, .val (.long (a2 &&& (1099511627775 : Int64))), .second, .val (.int ch), .val (.int mh), .val (.int kh), .val (.ref x101), .val (.long ((OwnFP.mx ch).toInt64)), .second, .val (.long ((((a1 &&& (1099511627775 : Int64)) + (a2 &&& (1099511627775 : Int64))) * ((OwnFP.mx ch).toInt64)) + ((mh.toInt64) * ((ch - kh).toInt64)))), .second, .unset, .unset] [(.double (FP.l2d (((OwnFP.mx ch).toInt64) * (mh.toInt64)))), (.double (FP.l2d ((((a1 &&& (1099511627775 : Int64)) + (a2 &&& (1099511627775 : Int64))) * ((OwnFP.mx ch).toInt64)) + ((mh.toInt64) * ((ch - kh).toInt64)))))])
      refine Run.via (fun _ => XS.ddivS X103.at X103.ex rfl (X103.de at_161) rfl (Jvm.Free.Fl.ddiv_out (Jvm.Free.Fl.l2d_fin _).noNaN (Jvm.Free.Fl.l2d_fin _) (Jvm.Free.Fl.l2d_nz (OwnFP.p_nz hcm))) rfl) ?_
      show Run _ _ _ _ _ _ _ _ _ _ _ _ T103 (mkF m 162 #[.val (.long a1), .second, .val (.long a2), .second, .val (.int s3), .val (.int s4), .val (.int s5), .val (.int s6), .val (.long (1099511627775 : Int64)), .second, .val (.long (a1 &&& (1099511627775 : Int64))), .second, .val (.long (a2 &&& (1099511627775 : Int64))), .second, .val (.int ch), .val (.int mh), .val (.int kh), .val (.ref x101), .val (.long ((OwnFP.mx ch).toInt64)), .second, .val (.long ((((a1 &&& (1099511627775 : Int64)) + (a2 &&& (1099511627775 : Int64))) * ((OwnFP.mx ch).toInt64)) + ((mh.toInt64) * ((ch - kh).toInt64)))), .second, .unset, .unset] [(.double (FP.ddiv (FP.l2d ((((a1 &&& (1099511627775 : Int64)) + (a2 &&& (1099511627775 : Int64))) * ((OwnFP.mx ch).toInt64)) + ((mh.toInt64) * ((ch - kh).toInt64)))) (FP.l2d (((OwnFP.mx ch).toInt64) * (mh.toInt64)))))])
      refine Run.via (fun _ => XS.dstore X103.at X103.ex rfl (X103.de at_162) rfl (l' := #[.val (.long a1), .second, .val (.long a2), .second, .val (.int s3), .val (.int s4), .val (.int s5), .val (.int s6), .val (.long (1099511627775 : Int64)), .second, .val (.long (a1 &&& (1099511627775 : Int64))), .second, .val (.long (a2 &&& (1099511627775 : Int64))), .second, .val (.int ch), .val (.int mh), .val (.int kh), .val (.ref x101), .val (.long ((OwnFP.mx ch).toInt64)), .second, .val (.long ((((a1 &&& (1099511627775 : Int64)) + (a2 &&& (1099511627775 : Int64))) * ((OwnFP.mx ch).toInt64)) + ((mh.toInt64) * ((ch - kh).toInt64)))), .second, .val (.double (FP.ddiv (FP.l2d ((((a1 &&& (1099511627775 : Int64)) + (a2 &&& (1099511627775 : Int64))) * ((OwnFP.mx ch).toInt64)) + ((mh.toInt64) * ((ch - kh).toInt64)))) (FP.l2d (((OwnFP.mx ch).toInt64) * (mh.toInt64))))), .second]) rfl) ?_
      show Run _ _ _ _ _ _ _ _ _ _ _ _ T103 (mkF m 164 #[.val (.long a1), .second, .val (.long a2), .second, .val (.int s3), .val (.int s4), .val (.int s5), .val (.int s6), .val (.long (1099511627775 : Int64)), .second, .val (.long (a1 &&& (1099511627775 : Int64))), .second, .val (.long (a2 &&& (1099511627775 : Int64))), .second, .val (.int ch), .val (.int mh), .val (.int kh), .val (.ref x101), .val (.long ((OwnFP.mx ch).toInt64)), .second, .val (.long ((((a1 &&& (1099511627775 : Int64)) + (a2 &&& (1099511627775 : Int64))) * ((OwnFP.mx ch).toInt64)) + ((mh.toInt64) * ((ch - kh).toInt64)))), .second, .val (.double (FP.ddiv (FP.l2d ((((a1 &&& (1099511627775 : Int64)) + (a2 &&& (1099511627775 : Int64))) * ((OwnFP.mx ch).toInt64)) + ((mh.toInt64) * ((ch - kh).toInt64)))) (FP.l2d (((OwnFP.mx ch).toInt64) * (mh.toInt64))))), .second] [])
      refine Run.via (fun _ => XS.aload X103.at X103.ex rfl (X103.de at_164) rfl rfl) ?_
      show Run _ _ _ _ _ _ _ _ _ _ _ _ T103 (mkF m 166 #[.val (.long a1), .second, .val (.long a2), .second, .val (.int s3), .val (.int s4), .val (.int s5), .val (.int s6), .val (.long (1099511627775 : Int64)), .second, .val (.long (a1 &&& (1099511627775 : Int64))), .second, .val (.long (a2 &&& (1099511627775 : Int64))), .second, .val (.int ch), .val (.int mh), .val (.int kh), .val (.ref x101), .val (.long ((OwnFP.mx ch).toInt64)), .second, .val (.long ((((a1 &&& (1099511627775 : Int64)) + (a2 &&& (1099511627775 : Int64))) * ((OwnFP.mx ch).toInt64)) + ((mh.toInt64) * ((ch - kh).toInt64)))), .second, .val (.double (FP.ddiv (FP.l2d ((((a1 &&& (1099511627775 : Int64)) + (a2 &&& (1099511627775 : Int64))) * ((OwnFP.mx ch).toInt64)) + ((mh.toInt64) * ((ch - kh).toInt64)))) (FP.l2d (((OwnFP.mx ch).toInt64) * (mh.toInt64))))), .second] [(.ref x101)])
      refine Run.callV X103 (y := (⟨"com/example/structured_keyword_search/structuredkeywordsearch/xml/Density", "value", "()D"⟩ : MethodName)) (W := 0) (con_va l hw (OwnFP.mx_nz hcm) (OwnFP.m_nz hcm) GA GB GC GD X103.old) EC (wd hw 24 rfl) (wd hw 25 rfl) (wd hw 26 rfl) (wd hw 27 rfl) (wd hw 4 rfl) (wd hw 28 rfl) (by decide) pd___D rfl (argsL := []) (rest := []) rfl (Nat.le_of_ble_eq_true rfl) rfl at_166 (by decide) (by decide) (Nat.le_of_ble_eq_true rfl) (Nat.le_of_ble_eq_true rfl) (nofun) (nofun) ?_
      intro v104 T104 h104 L104 q104 X104 XF104 K104
      obtain ⟨rfl, rfl⟩ := q104
      show Run _ _ _ _ _ _ _ _ _ _ _ _ T104 (mkF m 169 #[.val (.long a1), .second, .val (.long a2), .second, .val (.int s3), .val (.int s4), .val (.int s5), .val (.int s6), .val (.long (1099511627775 : Int64)), .second, .val (.long (a1 &&& (1099511627775 : Int64))), .second, .val (.long (a2 &&& (1099511627775 : Int64))), .second, .val (.int ch), .val (.int mh), .val (.int kh), .val (.ref x101), .val (.long ((OwnFP.mx ch).toInt64)), .second, .val (.long ((((a1 &&& (1099511627775 : Int64)) + (a2 &&& (1099511627775 : Int64))) * ((OwnFP.mx ch).toInt64)) + ((mh.toInt64) * ((ch - kh).toInt64)))), .second, .val (.double (FP.ddiv (FP.l2d ((((a1 &&& (1099511627775 : Int64)) + (a2 &&& (1099511627775 : Int64))) * ((OwnFP.mx ch).toInt64)) + ((mh.toInt64) * ((ch - kh).toInt64)))) (FP.l2d (((OwnFP.mx ch).toInt64) * (mh.toInt64))))), .second] [(.double (FP.ddiv (FP.dadd (FP.l2d (((a1 &&& (1099511627775 : Int64)) + (a2 &&& (1099511627775 : Int64))) + (mh.toInt64 * (ch - kh).toInt64) / ((OwnFP.mx ch).toInt64))) (FP.ddiv (FP.l2d ((mh.toInt64 * (ch - kh).toInt64) - (mh.toInt64 * (ch - kh).toInt64) / ((OwnFP.mx ch).toInt64) * ((OwnFP.mx ch).toInt64))) (FP.l2d ((OwnFP.mx ch).toInt64)))) (FP.i2d mh)))])
      refine Run.via (fun _ => XS.dload X104.at X104.ex rfl (X104.de at_169) rfl) ?_
      show Run _ _ _ _ _ _ _ _ _ _ _ _ T104 (mkF m 171 #[.val (.long a1), .second, .val (.long a2), .second, .val (.int s3), .val (.int s4), .val (.int s5), .val (.int s6), .val (.long (1099511627775 : Int64)), .second, .val (.long (a1 &&& (1099511627775 : Int64))), .second, .val (.long (a2 &&& (1099511627775 : Int64))), .second, .val (.int ch), .val (.int mh), .val (.int kh), .val (.ref x101), .val (.long ((OwnFP.mx ch).toInt64)), .second, .val (.long ((((a1 &&& (1099511627775 : Int64)) + (a2 &&& (1099511627775 : Int64))) * ((OwnFP.mx ch).toInt64)) + ((mh.toInt64) * ((ch - kh).toInt64)))), .second, .val (.double (FP.ddiv (FP.l2d ((((a1 &&& (1099511627775 : Int64)) + (a2 &&& (1099511627775 : Int64))) * ((OwnFP.mx ch).toInt64)) + ((mh.toInt64) * ((ch - kh).toInt64)))) (FP.l2d (((OwnFP.mx ch).toInt64) * (mh.toInt64))))), .second] [(.double (FP.ddiv (FP.l2d ((((a1 &&& (1099511627775 : Int64)) + (a2 &&& (1099511627775 : Int64))) * ((OwnFP.mx ch).toInt64)) + ((mh.toInt64) * ((ch - kh).toInt64)))) (FP.l2d (((OwnFP.mx ch).toInt64) * (mh.toInt64))))), (.double (FP.ddiv (FP.dadd (FP.l2d (((a1 &&& (1099511627775 : Int64)) + (a2 &&& (1099511627775 : Int64))) + (mh.toInt64 * (ch - kh).toInt64) / ((OwnFP.mx ch).toInt64))) (FP.ddiv (FP.l2d ((mh.toInt64 * (ch - kh).toInt64) - (mh.toInt64 * (ch - kh).toInt64) / ((OwnFP.mx ch).toInt64) * ((OwnFP.mx ch).toInt64))) (FP.l2d ((OwnFP.mx ch).toInt64)))) (FP.i2d mh)))])
      refine Run.via (fun _ => XS.dcmpS X104.at X104.ex rfl (X104.de at_171) rfl (v := 0) (cmp0 (OwnFP.law_num (OwnFP.mask40 a1) (OwnFP.mask40 a2) hcm hck))) ?_
      show Run _ _ _ _ _ _ _ _ _ _ _ _ T104 (mkF m 172 #[.val (.long a1), .second, .val (.long a2), .second, .val (.int s3), .val (.int s4), .val (.int s5), .val (.int s6), .val (.long (1099511627775 : Int64)), .second, .val (.long (a1 &&& (1099511627775 : Int64))), .second, .val (.long (a2 &&& (1099511627775 : Int64))), .second, .val (.int ch), .val (.int mh), .val (.int kh), .val (.ref x101), .val (.long ((OwnFP.mx ch).toInt64)), .second, .val (.long ((((a1 &&& (1099511627775 : Int64)) + (a2 &&& (1099511627775 : Int64))) * ((OwnFP.mx ch).toInt64)) + ((mh.toInt64) * ((ch - kh).toInt64)))), .second, .val (.double (FP.ddiv (FP.l2d ((((a1 &&& (1099511627775 : Int64)) + (a2 &&& (1099511627775 : Int64))) * ((OwnFP.mx ch).toInt64)) + ((mh.toInt64) * ((ch - kh).toInt64)))) (FP.l2d (((OwnFP.mx ch).toInt64) * (mh.toInt64))))), .second] [(.int (0 : Int32))])
      refine Run.via (fun _ => XS.ifNo X104.at X104.ex rfl (X104.de at_172) rfl ((if0 _ _).trans (teq (by decide : ((0 : Int32) = (0 : Int32)))).2)) ?_
      show Run _ _ _ _ _ _ _ _ _ _ _ _ T104 (mkF m 175 #[.val (.long a1), .second, .val (.long a2), .second, .val (.int s3), .val (.int s4), .val (.int s5), .val (.int s6), .val (.long (1099511627775 : Int64)), .second, .val (.long (a1 &&& (1099511627775 : Int64))), .second, .val (.long (a2 &&& (1099511627775 : Int64))), .second, .val (.int ch), .val (.int mh), .val (.int kh), .val (.ref x101), .val (.long ((OwnFP.mx ch).toInt64)), .second, .val (.long ((((a1 &&& (1099511627775 : Int64)) + (a2 &&& (1099511627775 : Int64))) * ((OwnFP.mx ch).toInt64)) + ((mh.toInt64) * ((ch - kh).toInt64)))), .second, .val (.double (FP.ddiv (FP.l2d ((((a1 &&& (1099511627775 : Int64)) + (a2 &&& (1099511627775 : Int64))) * ((OwnFP.mx ch).toInt64)) + ((mh.toInt64) * ((ch - kh).toInt64)))) (FP.l2d (((OwnFP.mx ch).toInt64) * (mh.toInt64))))), .second] [])
      refine Run.via (fun _ => XS.iconst X104.at X104.ex rfl (X104.de at_175)) ?_
      show Run _ _ _ _ _ _ _ _ _ _ _ _ T104 (mkF m 176 #[.val (.long a1), .second, .val (.long a2), .second, .val (.int s3), .val (.int s4), .val (.int s5), .val (.int s6), .val (.long (1099511627775 : Int64)), .second, .val (.long (a1 &&& (1099511627775 : Int64))), .second, .val (.long (a2 &&& (1099511627775 : Int64))), .second, .val (.int ch), .val (.int mh), .val (.int kh), .val (.ref x101), .val (.long ((OwnFP.mx ch).toInt64)), .second, .val (.long ((((a1 &&& (1099511627775 : Int64)) + (a2 &&& (1099511627775 : Int64))) * ((OwnFP.mx ch).toInt64)) + ((mh.toInt64) * ((ch - kh).toInt64)))), .second, .val (.double (FP.ddiv (FP.l2d ((((a1 &&& (1099511627775 : Int64)) + (a2 &&& (1099511627775 : Int64))) * ((OwnFP.mx ch).toInt64)) + ((mh.toInt64) * ((ch - kh).toInt64)))) (FP.l2d (((OwnFP.mx ch).toInt64) * (mh.toInt64))))), .second] [(.int (1 : Int32))])
      refine Run.via (fun _ => XS.goto X104.at X104.ex rfl (pc0 := 176) (pc' := 180) rfl (X104.de at_176) (by decide) (by decide)) ?_
      show Run _ _ _ _ _ _ _ _ _ _ _ _ T104 (mkF m 180 #[.val (.long a1), .second, .val (.long a2), .second, .val (.int s3), .val (.int s4), .val (.int s5), .val (.int s6), .val (.long (1099511627775 : Int64)), .second, .val (.long (a1 &&& (1099511627775 : Int64))), .second, .val (.long (a2 &&& (1099511627775 : Int64))), .second, .val (.int ch), .val (.int mh), .val (.int kh), .val (.ref x101), .val (.long ((OwnFP.mx ch).toInt64)), .second, .val (.long ((((a1 &&& (1099511627775 : Int64)) + (a2 &&& (1099511627775 : Int64))) * ((OwnFP.mx ch).toInt64)) + ((mh.toInt64) * ((ch - kh).toInt64)))), .second, .val (.double (FP.ddiv (FP.l2d ((((a1 &&& (1099511627775 : Int64)) + (a2 &&& (1099511627775 : Int64))) * ((OwnFP.mx ch).toInt64)) + ((mh.toInt64) * ((ch - kh).toInt64)))) (FP.l2d (((OwnFP.mx ch).toInt64) * (mh.toInt64))))), .second] [(.int (1 : Int32))])
      exact Run.retN X104 (t := .boolean) rfl (by simp) at_180 (Nat.le_of_ble_eq_true rfl) (Nat.le_of_ble_eq_true rfl) (rfl)
    by_cases hc0 : ch = (0 : Int32)
    ·
      refine Run.via (fun _ => XS.ifNo X0.at X0.ex rfl (X0.de at_83) rfl ((if0 _ _).trans (teq hc0).2)) ?_
      show Run _ _ _ _ _ _ _ _ _ _ _ _ T0 (mkF m 86 #[.val (.long a1), .second, .val (.long a2), .second, .val (.int s3), .val (.int s4), .val (.int s5), .val (.int s6), .val (.long (1099511627775 : Int64)), .second, .val (.long (a1 &&& (1099511627775 : Int64))), .second, .val (.long (a2 &&& (1099511627775 : Int64))), .second, .val (.int ch), .val (.int mh), .unset, .unset, .unset, .unset, .unset, .unset, .unset, .unset] [])
      refine Run.via (fun _ => XS.iconst X0.at X0.ex rfl (X0.de at_86)) ?_
      show Run _ _ _ _ _ _ _ _ _ _ _ _ T0 (mkF m 87 #[.val (.long a1), .second, .val (.long a2), .second, .val (.int s3), .val (.int s4), .val (.int s5), .val (.int s6), .val (.long (1099511627775 : Int64)), .second, .val (.long (a1 &&& (1099511627775 : Int64))), .second, .val (.long (a2 &&& (1099511627775 : Int64))), .second, .val (.int ch), .val (.int mh), .unset, .unset, .unset, .unset, .unset, .unset, .unset, .unset] [(.int (0 : Int32))])
      refine Run.via (fun _ => XS.goto X0.at X0.ex rfl (pc0 := 87) (pc' := 100) rfl (X0.de at_87) (by decide) (by decide)) ?_
      show Run _ _ _ _ _ _ _ _ _ _ _ _ T0 (mkF m 100 #[.val (.long a1), .second, .val (.long a2), .second, .val (.int s3), .val (.int s4), .val (.int s5), .val (.int s6), .val (.long (1099511627775 : Int64)), .second, .val (.long (a1 &&& (1099511627775 : Int64))), .second, .val (.long (a2 &&& (1099511627775 : Int64))), .second, .val (.int ch), .val (.int mh), .unset, .unset, .unset, .unset, .unset, .unset, .unset, .unset] [(.int (0 : Int32))])
      exact J100 _ (Or.inl ⟨hc0, rfl⟩)
    ·
      refine Run.via (fun _ => XS.ifYes X0.at X0.ex rfl (pc0 := 83) (pc' := 90) rfl (X0.de at_83) rfl ((if0 _ _).trans (feq hc0).2) (by decide) (by decide)) ?_
      show Run _ _ _ _ _ _ _ _ _ _ _ _ T0 (mkF m 90 #[.val (.long a1), .second, .val (.long a2), .second, .val (.int s3), .val (.int s4), .val (.int s5), .val (.int s6), .val (.long (1099511627775 : Int64)), .second, .val (.long (a1 &&& (1099511627775 : Int64))), .second, .val (.long (a2 &&& (1099511627775 : Int64))), .second, .val (.int ch), .val (.int mh), .unset, .unset, .unset, .unset, .unset, .unset, .unset, .unset] [])
      refine Run.via (fun _ => XS.iconst X0.at X0.ex rfl (X0.de at_90)) ?_
      show Run _ _ _ _ _ _ _ _ _ _ _ _ T0 (mkF m 91 #[.val (.long a1), .second, .val (.long a2), .second, .val (.int s3), .val (.int s4), .val (.int s5), .val (.int s6), .val (.long (1099511627775 : Int64)), .second, .val (.long (a1 &&& (1099511627775 : Int64))), .second, .val (.long (a2 &&& (1099511627775 : Int64))), .second, .val (.int ch), .val (.int mh), .unset, .unset, .unset, .unset, .unset, .unset, .unset, .unset] [(.int (1 : Int32))])
      refine Run.via (fun _ => XS.iload X0.at X0.ex rfl (X0.de at_91) rfl) ?_
      show Run _ _ _ _ _ _ _ _ _ _ _ _ T0 (mkF m 93 #[.val (.long a1), .second, .val (.long a2), .second, .val (.int s3), .val (.int s4), .val (.int s5), .val (.int s6), .val (.long (1099511627775 : Int64)), .second, .val (.long (a1 &&& (1099511627775 : Int64))), .second, .val (.long (a2 &&& (1099511627775 : Int64))), .second, .val (.int ch), .val (.int mh), .unset, .unset, .unset, .unset, .unset, .unset, .unset, .unset] [(.int s4), (.int (1 : Int32))])
      refine Run.ldcI X0 (wd hw 1 rfl) at_93 ?_
      show Run _ _ _ _ _ _ _ _ _ _ _ _ T0 (mkF m 95 #[.val (.long a1), .second, .val (.long a2), .second, .val (.int s3), .val (.int s4), .val (.int s5), .val (.int s6), .val (.long (1099511627775 : Int64)), .second, .val (.long (a1 &&& (1099511627775 : Int64))), .second, .val (.long (a2 &&& (1099511627775 : Int64))), .second, .val (.int ch), .val (.int mh), .unset, .unset, .unset, .unset, .unset, .unset, .unset, .unset] [(.int (2147483647 : Int32)), (.int s4), (.int (1 : Int32))])
      refine Run.via (fun _ => XS.iand X0.at X0.ex rfl (X0.de at_95) rfl) ?_
      show Run _ _ _ _ _ _ _ _ _ _ _ _ T0 (mkF m 96 #[.val (.long a1), .second, .val (.long a2), .second, .val (.int s3), .val (.int s4), .val (.int s5), .val (.int s6), .val (.long (1099511627775 : Int64)), .second, .val (.long (a1 &&& (1099511627775 : Int64))), .second, .val (.long (a2 &&& (1099511627775 : Int64))), .second, .val (.int ch), .val (.int mh), .unset, .unset, .unset, .unset, .unset, .unset, .unset, .unset] [(.int (s4 &&& (2147483647 : Int32))), (.int (1 : Int32))])
      refine Run.via (fun _ => XS.iload X0.at X0.ex rfl (X0.de at_96) rfl) ?_
      show Run _ _ _ _ _ _ _ _ _ _ _ _ T0 (mkF m 98 #[.val (.long a1), .second, .val (.long a2), .second, .val (.int s3), .val (.int s4), .val (.int s5), .val (.int s6), .val (.long (1099511627775 : Int64)), .second, .val (.long (a1 &&& (1099511627775 : Int64))), .second, .val (.long (a2 &&& (1099511627775 : Int64))), .second, .val (.int ch), .val (.int mh), .unset, .unset, .unset, .unset, .unset, .unset, .unset, .unset] [(.int ch), (.int (s4 &&& (2147483647 : Int32))), (.int (1 : Int32))])
      refine Run.irem X0 at_98 hc0 ?_
      show Run _ _ _ _ _ _ _ _ _ _ _ _ T0 (mkF m 99 #[.val (.long a1), .second, .val (.long a2), .second, .val (.int s3), .val (.int s4), .val (.int s5), .val (.int s6), .val (.long (1099511627775 : Int64)), .second, .val (.long (a1 &&& (1099511627775 : Int64))), .second, .val (.long (a2 &&& (1099511627775 : Int64))), .second, .val (.int ch), .val (.int mh), .unset, .unset, .unset, .unset, .unset, .unset, .unset, .unset] [(.int ((s4 &&& (2147483647 : Int32)) % ch)), (.int (1 : Int32))])
      refine Run.via (fun _ => XS.iadd X0.at X0.ex rfl (X0.de at_99) rfl) ?_
      show Run _ _ _ _ _ _ _ _ _ _ _ _ T0 (mkF m 100 #[.val (.long a1), .second, .val (.long a2), .second, .val (.int s3), .val (.int s4), .val (.int s5), .val (.int s6), .val (.long (1099511627775 : Int64)), .second, .val (.long (a1 &&& (1099511627775 : Int64))), .second, .val (.long (a2 &&& (1099511627775 : Int64))), .second, .val (.int ch), .val (.int mh), .unset, .unset, .unset, .unset, .unset, .unset, .unset, .unset] [(.int ((1 : Int32) + ((s4 &&& (2147483647 : Int32)) % ch)))])
      exact J100 _ (OwnFP.ck_of s4 hcm hc0)
  by_cases hm1 : (s6 &&& (1 : Int32)) = (0 : Int32)
  ·
    refine Run.via (fun _ => XS.ifNo X0.at X0.ex rfl (X0.de at_21) rfl ((if0 _ _).trans (teq hm1).2)) ?_
    show Run _ _ _ _ _ _ _ _ _ _ _ _ T0 (mkF m 24 #[.val (.long a1), .second, .val (.long a2), .second, .val (.int s3), .val (.int s4), .val (.int s5), .val (.int s6), .val (.long (1099511627775 : Int64)), .second, .val (.long (a1 &&& (1099511627775 : Int64))), .second, .val (.long (a2 &&& (1099511627775 : Int64))), .second, .unset, .unset, .unset, .unset, .unset, .unset, .unset, .unset, .unset, .unset] [])
    refine Run.via (fun _ => XS.iload X0.at X0.ex rfl (X0.de at_24) rfl) ?_
    show Run _ _ _ _ _ _ _ _ _ _ _ _ T0 (mkF m 26 #[.val (.long a1), .second, .val (.long a2), .second, .val (.int s3), .val (.int s4), .val (.int s5), .val (.int s6), .val (.long (1099511627775 : Int64)), .second, .val (.long (a1 &&& (1099511627775 : Int64))), .second, .val (.long (a2 &&& (1099511627775 : Int64))), .second, .unset, .unset, .unset, .unset, .unset, .unset, .unset, .unset, .unset, .unset] [(.int s3)])
    refine Run.via (fun _ => XS.bipush X0.at X0.ex rfl (X0.de at_26)) ?_
    show Run _ _ _ _ _ _ _ _ _ _ _ _ T0 (mkF m 28 #[.val (.long a1), .second, .val (.long a2), .second, .val (.int s3), .val (.int s4), .val (.int s5), .val (.int s6), .val (.long (1099511627775 : Int64)), .second, .val (.long (a1 &&& (1099511627775 : Int64))), .second, .val (.long (a2 &&& (1099511627775 : Int64))), .second, .unset, .unset, .unset, .unset, .unset, .unset, .unset, .unset, .unset, .unset] [(.int (8 : Int32)), (.int s3)])
    refine Run.via (fun _ => XS.iand X0.at X0.ex rfl (X0.de at_28) rfl) ?_
    show Run _ _ _ _ _ _ _ _ _ _ _ _ T0 (mkF m 29 #[.val (.long a1), .second, .val (.long a2), .second, .val (.int s3), .val (.int s4), .val (.int s5), .val (.int s6), .val (.long (1099511627775 : Int64)), .second, .val (.long (a1 &&& (1099511627775 : Int64))), .second, .val (.long (a2 &&& (1099511627775 : Int64))), .second, .unset, .unset, .unset, .unset, .unset, .unset, .unset, .unset, .unset, .unset] [(.int (s3 &&& (8 : Int32)))])
    by_cases h8 : (s3 &&& (8 : Int32)) = (0 : Int32)
    ·
      refine Run.via (fun _ => XS.ifYes X0.at X0.ex rfl (pc0 := 29) (pc' := 36) rfl (X0.de at_29) rfl ((if0 _ _).trans (teq h8).1) (by decide) (by decide)) ?_
      show Run _ _ _ _ _ _ _ _ _ _ _ _ T0 (mkF m 36 #[.val (.long a1), .second, .val (.long a2), .second, .val (.int s3), .val (.int s4), .val (.int s5), .val (.int s6), .val (.long (1099511627775 : Int64)), .second, .val (.long (a1 &&& (1099511627775 : Int64))), .second, .val (.long (a2 &&& (1099511627775 : Int64))), .second, .unset, .unset, .unset, .unset, .unset, .unset, .unset, .unset, .unset, .unset] [])
      refine Run.via (fun _ => XS.iconst X0.at X0.ex rfl (X0.de at_36)) ?_
      show Run _ _ _ _ _ _ _ _ _ _ _ _ T0 (mkF m 37 #[.val (.long a1), .second, .val (.long a2), .second, .val (.int s3), .val (.int s4), .val (.int s5), .val (.int s6), .val (.long (1099511627775 : Int64)), .second, .val (.long (a1 &&& (1099511627775 : Int64))), .second, .val (.long (a2 &&& (1099511627775 : Int64))), .second, .unset, .unset, .unset, .unset, .unset, .unset, .unset, .unset, .unset, .unset] [(.int (1 : Int32))])
      refine Run.via (fun _ => XS.iload X0.at X0.ex rfl (X0.de at_37) rfl) ?_
      show Run _ _ _ _ _ _ _ _ _ _ _ _ T0 (mkF m 39 #[.val (.long a1), .second, .val (.long a2), .second, .val (.int s3), .val (.int s4), .val (.int s5), .val (.int s6), .val (.long (1099511627775 : Int64)), .second, .val (.long (a1 &&& (1099511627775 : Int64))), .second, .val (.long (a2 &&& (1099511627775 : Int64))), .second, .unset, .unset, .unset, .unset, .unset, .unset, .unset, .unset, .unset, .unset] [(.int s3), (.int (1 : Int32))])
      refine Run.via (fun _ => XS.bipush X0.at X0.ex rfl (X0.de at_39)) ?_
      show Run _ _ _ _ _ _ _ _ _ _ _ _ T0 (mkF m 41 #[.val (.long a1), .second, .val (.long a2), .second, .val (.int s3), .val (.int s4), .val (.int s5), .val (.int s6), .val (.long (1099511627775 : Int64)), .second, .val (.long (a1 &&& (1099511627775 : Int64))), .second, .val (.long (a2 &&& (1099511627775 : Int64))), .second, .unset, .unset, .unset, .unset, .unset, .unset, .unset, .unset, .unset, .unset] [(.int (7 : Int32)), (.int s3), (.int (1 : Int32))])
      refine Run.via (fun _ => XS.iand X0.at X0.ex rfl (X0.de at_41) rfl) ?_
      show Run _ _ _ _ _ _ _ _ _ _ _ _ T0 (mkF m 42 #[.val (.long a1), .second, .val (.long a2), .second, .val (.int s3), .val (.int s4), .val (.int s5), .val (.int s6), .val (.long (1099511627775 : Int64)), .second, .val (.long (a1 &&& (1099511627775 : Int64))), .second, .val (.long (a2 &&& (1099511627775 : Int64))), .second, .unset, .unset, .unset, .unset, .unset, .unset, .unset, .unset, .unset, .unset] [(.int (s3 &&& (7 : Int32))), (.int (1 : Int32))])
      refine Run.via (fun _ => XS.ishl X0.at X0.ex rfl (X0.de at_42) rfl) ?_
      show Run _ _ _ _ _ _ _ _ _ _ _ _ T0 (mkF m 43 #[.val (.long a1), .second, .val (.long a2), .second, .val (.int s3), .val (.int s4), .val (.int s5), .val (.int s6), .val (.long (1099511627775 : Int64)), .second, .val (.long (a1 &&& (1099511627775 : Int64))), .second, .val (.long (a2 &&& (1099511627775 : Int64))), .second, .unset, .unset, .unset, .unset, .unset, .unset, .unset, .unset, .unset, .unset] [(.int ((1 : Int32) <<< ((s3 &&& (7 : Int32)) &&& 31)))])
      refine Run.via (fun _ => XS.istore X0.at X0.ex rfl (X0.de at_43) rfl (l' := #[.val (.long a1), .second, .val (.long a2), .second, .val (.int s3), .val (.int s4), .val (.int s5), .val (.int s6), .val (.long (1099511627775 : Int64)), .second, .val (.long (a1 &&& (1099511627775 : Int64))), .second, .val (.long (a2 &&& (1099511627775 : Int64))), .second, .val (.int ((1 : Int32) <<< ((s3 &&& (7 : Int32)) &&& 31))), .unset, .unset, .unset, .unset, .unset, .unset, .unset, .unset, .unset]) rfl) ?_
      show Run _ _ _ _ _ _ _ _ _ _ _ _ T0 (mkF m 45 #[.val (.long a1), .second, .val (.long a2), .second, .val (.int s3), .val (.int s4), .val (.int s5), .val (.int s6), .val (.long (1099511627775 : Int64)), .second, .val (.long (a1 &&& (1099511627775 : Int64))), .second, .val (.long (a2 &&& (1099511627775 : Int64))), .second, .val (.int ((1 : Int32) <<< ((s3 &&& (7 : Int32)) &&& 31))), .unset, .unset, .unset, .unset, .unset, .unset, .unset, .unset, .unset] [])
      refine Run.via (fun _ => XS.iconst X0.at X0.ex rfl (X0.de at_45)) ?_
      show Run _ _ _ _ _ _ _ _ _ _ _ _ T0 (mkF m 46 #[.val (.long a1), .second, .val (.long a2), .second, .val (.int s3), .val (.int s4), .val (.int s5), .val (.int s6), .val (.long (1099511627775 : Int64)), .second, .val (.long (a1 &&& (1099511627775 : Int64))), .second, .val (.long (a2 &&& (1099511627775 : Int64))), .second, .val (.int ((1 : Int32) <<< ((s3 &&& (7 : Int32)) &&& 31))), .unset, .unset, .unset, .unset, .unset, .unset, .unset, .unset, .unset] [(.int (1 : Int32))])
      refine Run.via (fun _ => XS.iload X0.at X0.ex rfl (X0.de at_46) rfl) ?_
      show Run _ _ _ _ _ _ _ _ _ _ _ _ T0 (mkF m 48 #[.val (.long a1), .second, .val (.long a2), .second, .val (.int s3), .val (.int s4), .val (.int s5), .val (.int s6), .val (.long (1099511627775 : Int64)), .second, .val (.long (a1 &&& (1099511627775 : Int64))), .second, .val (.long (a2 &&& (1099511627775 : Int64))), .second, .val (.int ((1 : Int32) <<< ((s3 &&& (7 : Int32)) &&& 31))), .unset, .unset, .unset, .unset, .unset, .unset, .unset, .unset, .unset] [(.int s5), (.int (1 : Int32))])
      refine Run.via (fun _ => XS.bipush X0.at X0.ex rfl (X0.de at_48)) ?_
      show Run _ _ _ _ _ _ _ _ _ _ _ _ T0 (mkF m 50 #[.val (.long a1), .second, .val (.long a2), .second, .val (.int s3), .val (.int s4), .val (.int s5), .val (.int s6), .val (.long (1099511627775 : Int64)), .second, .val (.long (a1 &&& (1099511627775 : Int64))), .second, .val (.long (a2 &&& (1099511627775 : Int64))), .second, .val (.int ((1 : Int32) <<< ((s3 &&& (7 : Int32)) &&& 31))), .unset, .unset, .unset, .unset, .unset, .unset, .unset, .unset, .unset] [(.int (7 : Int32)), (.int s5), (.int (1 : Int32))])
      refine Run.via (fun _ => XS.iand X0.at X0.ex rfl (X0.de at_50) rfl) ?_
      show Run _ _ _ _ _ _ _ _ _ _ _ _ T0 (mkF m 51 #[.val (.long a1), .second, .val (.long a2), .second, .val (.int s3), .val (.int s4), .val (.int s5), .val (.int s6), .val (.long (1099511627775 : Int64)), .second, .val (.long (a1 &&& (1099511627775 : Int64))), .second, .val (.long (a2 &&& (1099511627775 : Int64))), .second, .val (.int ((1 : Int32) <<< ((s3 &&& (7 : Int32)) &&& 31))), .unset, .unset, .unset, .unset, .unset, .unset, .unset, .unset, .unset] [(.int (s5 &&& (7 : Int32))), (.int (1 : Int32))])
      refine Run.via (fun _ => XS.ishl X0.at X0.ex rfl (X0.de at_51) rfl) ?_
      show Run _ _ _ _ _ _ _ _ _ _ _ _ T0 (mkF m 52 #[.val (.long a1), .second, .val (.long a2), .second, .val (.int s3), .val (.int s4), .val (.int s5), .val (.int s6), .val (.long (1099511627775 : Int64)), .second, .val (.long (a1 &&& (1099511627775 : Int64))), .second, .val (.long (a2 &&& (1099511627775 : Int64))), .second, .val (.int ((1 : Int32) <<< ((s3 &&& (7 : Int32)) &&& 31))), .unset, .unset, .unset, .unset, .unset, .unset, .unset, .unset, .unset] [(.int ((1 : Int32) <<< ((s5 &&& (7 : Int32)) &&& 31)))])
      refine Run.via (fun _ => XS.istore X0.at X0.ex rfl (X0.de at_52) rfl (l' := #[.val (.long a1), .second, .val (.long a2), .second, .val (.int s3), .val (.int s4), .val (.int s5), .val (.int s6), .val (.long (1099511627775 : Int64)), .second, .val (.long (a1 &&& (1099511627775 : Int64))), .second, .val (.long (a2 &&& (1099511627775 : Int64))), .second, .val (.int ((1 : Int32) <<< ((s3 &&& (7 : Int32)) &&& 31))), .val (.int ((1 : Int32) <<< ((s5 &&& (7 : Int32)) &&& 31))), .unset, .unset, .unset, .unset, .unset, .unset, .unset, .unset]) rfl) ?_
      show Run _ _ _ _ _ _ _ _ _ _ _ _ T0 (mkF m 54 #[.val (.long a1), .second, .val (.long a2), .second, .val (.int s3), .val (.int s4), .val (.int s5), .val (.int s6), .val (.long (1099511627775 : Int64)), .second, .val (.long (a1 &&& (1099511627775 : Int64))), .second, .val (.long (a2 &&& (1099511627775 : Int64))), .second, .val (.int ((1 : Int32) <<< ((s3 &&& (7 : Int32)) &&& 31))), .val (.int ((1 : Int32) <<< ((s5 &&& (7 : Int32)) &&& 31))), .unset, .unset, .unset, .unset, .unset, .unset, .unset, .unset] [])
      refine Run.via (fun _ => XS.goto X0.at X0.ex rfl (pc0 := 54) (pc' := 81) rfl (X0.de at_54) (by decide) (by decide)) ?_
      show Run _ _ _ _ _ _ _ _ _ _ _ _ T0 (mkF m 81 #[.val (.long a1), .second, .val (.long a2), .second, .val (.int s3), .val (.int s4), .val (.int s5), .val (.int s6), .val (.long (1099511627775 : Int64)), .second, .val (.long (a1 &&& (1099511627775 : Int64))), .second, .val (.long (a2 &&& (1099511627775 : Int64))), .second, .val (.int ((1 : Int32) <<< ((s3 &&& (7 : Int32)) &&& 31))), .val (.int ((1 : Int32) <<< ((s5 &&& (7 : Int32)) &&& 31))), .unset, .unset, .unset, .unset, .unset, .unset, .unset, .unset] [])
      exact J81 _ _ (OwnFP.cm_even s3 s5 _ (Or.inr rfl))
    ·
      refine Run.via (fun _ => XS.ifNo X0.at X0.ex rfl (X0.de at_29) rfl ((if0 _ _).trans (feq h8).1)) ?_
      show Run _ _ _ _ _ _ _ _ _ _ _ _ T0 (mkF m 32 #[.val (.long a1), .second, .val (.long a2), .second, .val (.int s3), .val (.int s4), .val (.int s5), .val (.int s6), .val (.long (1099511627775 : Int64)), .second, .val (.long (a1 &&& (1099511627775 : Int64))), .second, .val (.long (a2 &&& (1099511627775 : Int64))), .second, .unset, .unset, .unset, .unset, .unset, .unset, .unset, .unset, .unset, .unset] [])
      refine Run.via (fun _ => XS.iconst X0.at X0.ex rfl (X0.de at_32)) ?_
      show Run _ _ _ _ _ _ _ _ _ _ _ _ T0 (mkF m 33 #[.val (.long a1), .second, .val (.long a2), .second, .val (.int s3), .val (.int s4), .val (.int s5), .val (.int s6), .val (.long (1099511627775 : Int64)), .second, .val (.long (a1 &&& (1099511627775 : Int64))), .second, .val (.long (a2 &&& (1099511627775 : Int64))), .second, .unset, .unset, .unset, .unset, .unset, .unset, .unset, .unset, .unset, .unset] [(.int (0 : Int32))])
      refine Run.via (fun _ => XS.goto X0.at X0.ex rfl (pc0 := 33) (pc' := 43) rfl (X0.de at_33) (by decide) (by decide)) ?_
      show Run _ _ _ _ _ _ _ _ _ _ _ _ T0 (mkF m 43 #[.val (.long a1), .second, .val (.long a2), .second, .val (.int s3), .val (.int s4), .val (.int s5), .val (.int s6), .val (.long (1099511627775 : Int64)), .second, .val (.long (a1 &&& (1099511627775 : Int64))), .second, .val (.long (a2 &&& (1099511627775 : Int64))), .second, .unset, .unset, .unset, .unset, .unset, .unset, .unset, .unset, .unset, .unset] [(.int (0 : Int32))])
      refine Run.via (fun _ => XS.istore X0.at X0.ex rfl (X0.de at_43) rfl (l' := #[.val (.long a1), .second, .val (.long a2), .second, .val (.int s3), .val (.int s4), .val (.int s5), .val (.int s6), .val (.long (1099511627775 : Int64)), .second, .val (.long (a1 &&& (1099511627775 : Int64))), .second, .val (.long (a2 &&& (1099511627775 : Int64))), .second, .val (.int (0 : Int32)), .unset, .unset, .unset, .unset, .unset, .unset, .unset, .unset, .unset]) rfl) ?_
      show Run _ _ _ _ _ _ _ _ _ _ _ _ T0 (mkF m 45 #[.val (.long a1), .second, .val (.long a2), .second, .val (.int s3), .val (.int s4), .val (.int s5), .val (.int s6), .val (.long (1099511627775 : Int64)), .second, .val (.long (a1 &&& (1099511627775 : Int64))), .second, .val (.long (a2 &&& (1099511627775 : Int64))), .second, .val (.int (0 : Int32)), .unset, .unset, .unset, .unset, .unset, .unset, .unset, .unset, .unset] [])
      refine Run.via (fun _ => XS.iconst X0.at X0.ex rfl (X0.de at_45)) ?_
      show Run _ _ _ _ _ _ _ _ _ _ _ _ T0 (mkF m 46 #[.val (.long a1), .second, .val (.long a2), .second, .val (.int s3), .val (.int s4), .val (.int s5), .val (.int s6), .val (.long (1099511627775 : Int64)), .second, .val (.long (a1 &&& (1099511627775 : Int64))), .second, .val (.long (a2 &&& (1099511627775 : Int64))), .second, .val (.int (0 : Int32)), .unset, .unset, .unset, .unset, .unset, .unset, .unset, .unset, .unset] [(.int (1 : Int32))])
      refine Run.via (fun _ => XS.iload X0.at X0.ex rfl (X0.de at_46) rfl) ?_
      show Run _ _ _ _ _ _ _ _ _ _ _ _ T0 (mkF m 48 #[.val (.long a1), .second, .val (.long a2), .second, .val (.int s3), .val (.int s4), .val (.int s5), .val (.int s6), .val (.long (1099511627775 : Int64)), .second, .val (.long (a1 &&& (1099511627775 : Int64))), .second, .val (.long (a2 &&& (1099511627775 : Int64))), .second, .val (.int (0 : Int32)), .unset, .unset, .unset, .unset, .unset, .unset, .unset, .unset, .unset] [(.int s5), (.int (1 : Int32))])
      refine Run.via (fun _ => XS.bipush X0.at X0.ex rfl (X0.de at_48)) ?_
      show Run _ _ _ _ _ _ _ _ _ _ _ _ T0 (mkF m 50 #[.val (.long a1), .second, .val (.long a2), .second, .val (.int s3), .val (.int s4), .val (.int s5), .val (.int s6), .val (.long (1099511627775 : Int64)), .second, .val (.long (a1 &&& (1099511627775 : Int64))), .second, .val (.long (a2 &&& (1099511627775 : Int64))), .second, .val (.int (0 : Int32)), .unset, .unset, .unset, .unset, .unset, .unset, .unset, .unset, .unset] [(.int (7 : Int32)), (.int s5), (.int (1 : Int32))])
      refine Run.via (fun _ => XS.iand X0.at X0.ex rfl (X0.de at_50) rfl) ?_
      show Run _ _ _ _ _ _ _ _ _ _ _ _ T0 (mkF m 51 #[.val (.long a1), .second, .val (.long a2), .second, .val (.int s3), .val (.int s4), .val (.int s5), .val (.int s6), .val (.long (1099511627775 : Int64)), .second, .val (.long (a1 &&& (1099511627775 : Int64))), .second, .val (.long (a2 &&& (1099511627775 : Int64))), .second, .val (.int (0 : Int32)), .unset, .unset, .unset, .unset, .unset, .unset, .unset, .unset, .unset] [(.int (s5 &&& (7 : Int32))), (.int (1 : Int32))])
      refine Run.via (fun _ => XS.ishl X0.at X0.ex rfl (X0.de at_51) rfl) ?_
      show Run _ _ _ _ _ _ _ _ _ _ _ _ T0 (mkF m 52 #[.val (.long a1), .second, .val (.long a2), .second, .val (.int s3), .val (.int s4), .val (.int s5), .val (.int s6), .val (.long (1099511627775 : Int64)), .second, .val (.long (a1 &&& (1099511627775 : Int64))), .second, .val (.long (a2 &&& (1099511627775 : Int64))), .second, .val (.int (0 : Int32)), .unset, .unset, .unset, .unset, .unset, .unset, .unset, .unset, .unset] [(.int ((1 : Int32) <<< ((s5 &&& (7 : Int32)) &&& 31)))])
      refine Run.via (fun _ => XS.istore X0.at X0.ex rfl (X0.de at_52) rfl (l' := #[.val (.long a1), .second, .val (.long a2), .second, .val (.int s3), .val (.int s4), .val (.int s5), .val (.int s6), .val (.long (1099511627775 : Int64)), .second, .val (.long (a1 &&& (1099511627775 : Int64))), .second, .val (.long (a2 &&& (1099511627775 : Int64))), .second, .val (.int (0 : Int32)), .val (.int ((1 : Int32) <<< ((s5 &&& (7 : Int32)) &&& 31))), .unset, .unset, .unset, .unset, .unset, .unset, .unset, .unset]) rfl) ?_
      show Run _ _ _ _ _ _ _ _ _ _ _ _ T0 (mkF m 54 #[.val (.long a1), .second, .val (.long a2), .second, .val (.int s3), .val (.int s4), .val (.int s5), .val (.int s6), .val (.long (1099511627775 : Int64)), .second, .val (.long (a1 &&& (1099511627775 : Int64))), .second, .val (.long (a2 &&& (1099511627775 : Int64))), .second, .val (.int (0 : Int32)), .val (.int ((1 : Int32) <<< ((s5 &&& (7 : Int32)) &&& 31))), .unset, .unset, .unset, .unset, .unset, .unset, .unset, .unset] [])
      refine Run.via (fun _ => XS.goto X0.at X0.ex rfl (pc0 := 54) (pc' := 81) rfl (X0.de at_54) (by decide) (by decide)) ?_
      show Run _ _ _ _ _ _ _ _ _ _ _ _ T0 (mkF m 81 #[.val (.long a1), .second, .val (.long a2), .second, .val (.int s3), .val (.int s4), .val (.int s5), .val (.int s6), .val (.long (1099511627775 : Int64)), .second, .val (.long (a1 &&& (1099511627775 : Int64))), .second, .val (.long (a2 &&& (1099511627775 : Int64))), .second, .val (.int (0 : Int32)), .val (.int ((1 : Int32) <<< ((s5 &&& (7 : Int32)) &&& 31))), .unset, .unset, .unset, .unset, .unset, .unset, .unset, .unset] [])
      exact J81 _ _ (OwnFP.cm_even s3 s5 _ (Or.inl rfl))
  ·
    refine Run.via (fun _ => XS.ifYes X0.at X0.ex rfl (pc0 := 21) (pc' := 57) rfl (X0.de at_21) rfl ((if0 _ _).trans (feq hm1).2) (by decide) (by decide)) ?_
    show Run _ _ _ _ _ _ _ _ _ _ _ _ T0 (mkF m 57 #[.val (.long a1), .second, .val (.long a2), .second, .val (.int s3), .val (.int s4), .val (.int s5), .val (.int s6), .val (.long (1099511627775 : Int64)), .second, .val (.long (a1 &&& (1099511627775 : Int64))), .second, .val (.long (a2 &&& (1099511627775 : Int64))), .second, .unset, .unset, .unset, .unset, .unset, .unset, .unset, .unset, .unset, .unset] [])
    refine Run.via (fun _ => XS.iconst X0.at X0.ex rfl (X0.de at_57)) ?_
    show Run _ _ _ _ _ _ _ _ _ _ _ _ T0 (mkF m 58 #[.val (.long a1), .second, .val (.long a2), .second, .val (.int s3), .val (.int s4), .val (.int s5), .val (.int s6), .val (.long (1099511627775 : Int64)), .second, .val (.long (a1 &&& (1099511627775 : Int64))), .second, .val (.long (a2 &&& (1099511627775 : Int64))), .second, .unset, .unset, .unset, .unset, .unset, .unset, .unset, .unset, .unset, .unset] [(.int (1 : Int32))])
    refine Run.via (fun _ => XS.iload X0.at X0.ex rfl (X0.de at_58) rfl) ?_
    show Run _ _ _ _ _ _ _ _ _ _ _ _ T0 (mkF m 60 #[.val (.long a1), .second, .val (.long a2), .second, .val (.int s3), .val (.int s4), .val (.int s5), .val (.int s6), .val (.long (1099511627775 : Int64)), .second, .val (.long (a1 &&& (1099511627775 : Int64))), .second, .val (.long (a2 &&& (1099511627775 : Int64))), .second, .unset, .unset, .unset, .unset, .unset, .unset, .unset, .unset, .unset, .unset] [(.int s3), (.int (1 : Int32))])
    refine Run.ldcI X0 (wd hw 1 rfl) at_60 ?_
    show Run _ _ _ _ _ _ _ _ _ _ _ _ T0 (mkF m 62 #[.val (.long a1), .second, .val (.long a2), .second, .val (.int s3), .val (.int s4), .val (.int s5), .val (.int s6), .val (.long (1099511627775 : Int64)), .second, .val (.long (a1 &&& (1099511627775 : Int64))), .second, .val (.long (a2 &&& (1099511627775 : Int64))), .second, .unset, .unset, .unset, .unset, .unset, .unset, .unset, .unset, .unset, .unset] [(.int (2147483647 : Int32)), (.int s3), (.int (1 : Int32))])
    refine Run.via (fun _ => XS.iand X0.at X0.ex rfl (X0.de at_62) rfl) ?_
    show Run _ _ _ _ _ _ _ _ _ _ _ _ T0 (mkF m 63 #[.val (.long a1), .second, .val (.long a2), .second, .val (.int s3), .val (.int s4), .val (.int s5), .val (.int s6), .val (.long (1099511627775 : Int64)), .second, .val (.long (a1 &&& (1099511627775 : Int64))), .second, .val (.long (a2 &&& (1099511627775 : Int64))), .second, .unset, .unset, .unset, .unset, .unset, .unset, .unset, .unset, .unset, .unset] [(.int (s3 &&& (2147483647 : Int32))), (.int (1 : Int32))])
    refine Run.via (fun _ => XS.bipush X0.at X0.ex rfl (X0.de at_63)) ?_
    show Run _ _ _ _ _ _ _ _ _ _ _ _ T0 (mkF m 65 #[.val (.long a1), .second, .val (.long a2), .second, .val (.int s3), .val (.int s4), .val (.int s5), .val (.int s6), .val (.long (1099511627775 : Int64)), .second, .val (.long (a1 &&& (1099511627775 : Int64))), .second, .val (.long (a2 &&& (1099511627775 : Int64))), .second, .unset, .unset, .unset, .unset, .unset, .unset, .unset, .unset, .unset, .unset] [(.int (100 : Int32)), (.int (s3 &&& (2147483647 : Int32))), (.int (1 : Int32))])
    refine Run.irem X0 at_65 (by decide) ?_
    show Run _ _ _ _ _ _ _ _ _ _ _ _ T0 (mkF m 66 #[.val (.long a1), .second, .val (.long a2), .second, .val (.int s3), .val (.int s4), .val (.int s5), .val (.int s6), .val (.long (1099511627775 : Int64)), .second, .val (.long (a1 &&& (1099511627775 : Int64))), .second, .val (.long (a2 &&& (1099511627775 : Int64))), .second, .unset, .unset, .unset, .unset, .unset, .unset, .unset, .unset, .unset, .unset] [(.int ((s3 &&& (2147483647 : Int32)) % (100 : Int32))), (.int (1 : Int32))])
    refine Run.via (fun _ => XS.iadd X0.at X0.ex rfl (X0.de at_66) rfl) ?_
    show Run _ _ _ _ _ _ _ _ _ _ _ _ T0 (mkF m 67 #[.val (.long a1), .second, .val (.long a2), .second, .val (.int s3), .val (.int s4), .val (.int s5), .val (.int s6), .val (.long (1099511627775 : Int64)), .second, .val (.long (a1 &&& (1099511627775 : Int64))), .second, .val (.long (a2 &&& (1099511627775 : Int64))), .second, .unset, .unset, .unset, .unset, .unset, .unset, .unset, .unset, .unset, .unset] [(.int ((1 : Int32) + ((s3 &&& (2147483647 : Int32)) % (100 : Int32))))])
    refine Run.via (fun _ => XS.istore X0.at X0.ex rfl (X0.de at_67) rfl (l' := #[.val (.long a1), .second, .val (.long a2), .second, .val (.int s3), .val (.int s4), .val (.int s5), .val (.int s6), .val (.long (1099511627775 : Int64)), .second, .val (.long (a1 &&& (1099511627775 : Int64))), .second, .val (.long (a2 &&& (1099511627775 : Int64))), .second, .val (.int ((1 : Int32) + ((s3 &&& (2147483647 : Int32)) % (100 : Int32)))), .unset, .unset, .unset, .unset, .unset, .unset, .unset, .unset, .unset]) rfl) ?_
    show Run _ _ _ _ _ _ _ _ _ _ _ _ T0 (mkF m 69 #[.val (.long a1), .second, .val (.long a2), .second, .val (.int s3), .val (.int s4), .val (.int s5), .val (.int s6), .val (.long (1099511627775 : Int64)), .second, .val (.long (a1 &&& (1099511627775 : Int64))), .second, .val (.long (a2 &&& (1099511627775 : Int64))), .second, .val (.int ((1 : Int32) + ((s3 &&& (2147483647 : Int32)) % (100 : Int32)))), .unset, .unset, .unset, .unset, .unset, .unset, .unset, .unset, .unset] [])
    refine Run.via (fun _ => XS.iload X0.at X0.ex rfl (X0.de at_69) rfl) ?_
    show Run _ _ _ _ _ _ _ _ _ _ _ _ T0 (mkF m 71 #[.val (.long a1), .second, .val (.long a2), .second, .val (.int s3), .val (.int s4), .val (.int s5), .val (.int s6), .val (.long (1099511627775 : Int64)), .second, .val (.long (a1 &&& (1099511627775 : Int64))), .second, .val (.long (a2 &&& (1099511627775 : Int64))), .second, .val (.int ((1 : Int32) + ((s3 &&& (2147483647 : Int32)) % (100 : Int32)))), .unset, .unset, .unset, .unset, .unset, .unset, .unset, .unset, .unset] [(.int ((1 : Int32) + ((s3 &&& (2147483647 : Int32)) % (100 : Int32))))])
    refine Run.via (fun _ => XS.iconst X0.at X0.ex rfl (X0.de at_71)) ?_
    show Run _ _ _ _ _ _ _ _ _ _ _ _ T0 (mkF m 72 #[.val (.long a1), .second, .val (.long a2), .second, .val (.int s3), .val (.int s4), .val (.int s5), .val (.int s6), .val (.long (1099511627775 : Int64)), .second, .val (.long (a1 &&& (1099511627775 : Int64))), .second, .val (.long (a2 &&& (1099511627775 : Int64))), .second, .val (.int ((1 : Int32) + ((s3 &&& (2147483647 : Int32)) % (100 : Int32)))), .unset, .unset, .unset, .unset, .unset, .unset, .unset, .unset, .unset] [(.int (1 : Int32)), (.int ((1 : Int32) + ((s3 &&& (2147483647 : Int32)) % (100 : Int32))))])
    refine Run.via (fun _ => XS.iload X0.at X0.ex rfl (X0.de at_72) rfl) ?_
    show Run _ _ _ _ _ _ _ _ _ _ _ _ T0 (mkF m 74 #[.val (.long a1), .second, .val (.long a2), .second, .val (.int s3), .val (.int s4), .val (.int s5), .val (.int s6), .val (.long (1099511627775 : Int64)), .second, .val (.long (a1 &&& (1099511627775 : Int64))), .second, .val (.long (a2 &&& (1099511627775 : Int64))), .second, .val (.int ((1 : Int32) + ((s3 &&& (2147483647 : Int32)) % (100 : Int32)))), .unset, .unset, .unset, .unset, .unset, .unset, .unset, .unset, .unset] [(.int s5), (.int (1 : Int32)), (.int ((1 : Int32) + ((s3 &&& (2147483647 : Int32)) % (100 : Int32))))])
    refine Run.via (fun _ => XS.bipush X0.at X0.ex rfl (X0.de at_74)) ?_
    show Run _ _ _ _ _ _ _ _ _ _ _ _ T0 (mkF m 76 #[.val (.long a1), .second, .val (.long a2), .second, .val (.int s3), .val (.int s4), .val (.int s5), .val (.int s6), .val (.long (1099511627775 : Int64)), .second, .val (.long (a1 &&& (1099511627775 : Int64))), .second, .val (.long (a2 &&& (1099511627775 : Int64))), .second, .val (.int ((1 : Int32) + ((s3 &&& (2147483647 : Int32)) % (100 : Int32)))), .unset, .unset, .unset, .unset, .unset, .unset, .unset, .unset, .unset] [(.int (15 : Int32)), (.int s5), (.int (1 : Int32)), (.int ((1 : Int32) + ((s3 &&& (2147483647 : Int32)) % (100 : Int32))))])
    refine Run.via (fun _ => XS.iand X0.at X0.ex rfl (X0.de at_76) rfl) ?_
    show Run _ _ _ _ _ _ _ _ _ _ _ _ T0 (mkF m 77 #[.val (.long a1), .second, .val (.long a2), .second, .val (.int s3), .val (.int s4), .val (.int s5), .val (.int s6), .val (.long (1099511627775 : Int64)), .second, .val (.long (a1 &&& (1099511627775 : Int64))), .second, .val (.long (a2 &&& (1099511627775 : Int64))), .second, .val (.int ((1 : Int32) + ((s3 &&& (2147483647 : Int32)) % (100 : Int32)))), .unset, .unset, .unset, .unset, .unset, .unset, .unset, .unset, .unset] [(.int (s5 &&& (15 : Int32))), (.int (1 : Int32)), (.int ((1 : Int32) + ((s3 &&& (2147483647 : Int32)) % (100 : Int32))))])
    refine Run.via (fun _ => XS.iadd X0.at X0.ex rfl (X0.de at_77) rfl) ?_
    show Run _ _ _ _ _ _ _ _ _ _ _ _ T0 (mkF m 78 #[.val (.long a1), .second, .val (.long a2), .second, .val (.int s3), .val (.int s4), .val (.int s5), .val (.int s6), .val (.long (1099511627775 : Int64)), .second, .val (.long (a1 &&& (1099511627775 : Int64))), .second, .val (.long (a2 &&& (1099511627775 : Int64))), .second, .val (.int ((1 : Int32) + ((s3 &&& (2147483647 : Int32)) % (100 : Int32)))), .unset, .unset, .unset, .unset, .unset, .unset, .unset, .unset, .unset] [(.int ((1 : Int32) + (s5 &&& (15 : Int32)))), (.int ((1 : Int32) + ((s3 &&& (2147483647 : Int32)) % (100 : Int32))))])
    refine Run.via (fun _ => XS.imul X0.at X0.ex rfl (X0.de at_78) rfl) ?_
    show Run _ _ _ _ _ _ _ _ _ _ _ _ T0 (mkF m 79 #[.val (.long a1), .second, .val (.long a2), .second, .val (.int s3), .val (.int s4), .val (.int s5), .val (.int s6), .val (.long (1099511627775 : Int64)), .second, .val (.long (a1 &&& (1099511627775 : Int64))), .second, .val (.long (a2 &&& (1099511627775 : Int64))), .second, .val (.int ((1 : Int32) + ((s3 &&& (2147483647 : Int32)) % (100 : Int32)))), .unset, .unset, .unset, .unset, .unset, .unset, .unset, .unset, .unset] [(.int (((1 : Int32) + ((s3 &&& (2147483647 : Int32)) % (100 : Int32))) * ((1 : Int32) + (s5 &&& (15 : Int32)))))])
    refine Run.via (fun _ => XS.istore X0.at X0.ex rfl (X0.de at_79) rfl (l' := #[.val (.long a1), .second, .val (.long a2), .second, .val (.int s3), .val (.int s4), .val (.int s5), .val (.int s6), .val (.long (1099511627775 : Int64)), .second, .val (.long (a1 &&& (1099511627775 : Int64))), .second, .val (.long (a2 &&& (1099511627775 : Int64))), .second, .val (.int ((1 : Int32) + ((s3 &&& (2147483647 : Int32)) % (100 : Int32)))), .val (.int (((1 : Int32) + ((s3 &&& (2147483647 : Int32)) % (100 : Int32))) * ((1 : Int32) + (s5 &&& (15 : Int32))))), .unset, .unset, .unset, .unset, .unset, .unset, .unset, .unset]) rfl) ?_
    show Run _ _ _ _ _ _ _ _ _ _ _ _ T0 (mkF m 81 #[.val (.long a1), .second, .val (.long a2), .second, .val (.int s3), .val (.int s4), .val (.int s5), .val (.int s6), .val (.long (1099511627775 : Int64)), .second, .val (.long (a1 &&& (1099511627775 : Int64))), .second, .val (.long (a2 &&& (1099511627775 : Int64))), .second, .val (.int ((1 : Int32) + ((s3 &&& (2147483647 : Int32)) % (100 : Int32)))), .val (.int (((1 : Int32) + ((s3 &&& (2147483647 : Int32)) % (100 : Int32))) * ((1 : Int32) + (s5 &&& (15 : Int32))))), .unset, .unset, .unset, .unset, .unset, .unset, .unset, .unset] [])
    exact J81 _ _ (OwnFP.cm_odd s3 s5)
-- part comes
set_option maxRecDepth 65536 in
set_option maxHeartbeats 40000000 in
theorem comes_1 {Post : Tables → Env → Array Value → State → Outcome → State → Prop} (hpost : ∀ tb e args s v u, (limb_1_1.after args s (.returned v) u = true ∧ limb_1_2.after args s (.returned v) u = true ∧ True) → FrameEnd s (.returned v) u (Jvm.fieldLocs frame_1_writes args s ++ Jvm.arrayLocs frame_1_arrays args s ++ Jvm.staticLocs frame_1_statics s) 16 128 → Post tb e args s (.returned v) u) :
    ArmFor flags0 classFile x code maxLocals ret World_1 tables_1 room_1 Calls_1 rest_1 Pre_1 Post := by
  intro l hfl _ _ p e ha hc hk s m args below hf hA hF happ hP
  obtain ⟨hcalls, hrest, hpre⟩ := hP
  obtain ⟨-, -, -, hnamed, -, -, -, hat⟩ := (Spec.applies_iff hf).mp happ
  obtain ⟨hg, hn⟩ := and_e (Cond.before_iff.mp (show (Jvm.Cond.and given_1 narrow_1).before args s = true from hpre))
  obtain ⟨hcount, hg0⟩ := and_e hg
  obtain ⟨ga0, hg1⟩ := and_e hg0
  obtain ⟨ga1, hg2⟩ := and_e hg1
  obtain ⟨ga2, hg3⟩ := and_e hg2
  obtain ⟨ga3, hg4⟩ := and_e hg3
  obtain ⟨ga4, hg5⟩ := and_e hg4
  have ga5 := hg5
  obtain ⟨w0, w1, w2, w3, w4, w5, rfl⟩ : ∃ w0 w1 w2 w3 w4 w5 : Value, args = #[w0, w1, w2, w3, w4, w5] := by
    have hs : args.size = 6 := by simpa [Cond.value, given_1] using hcount
    obtain ⟨L⟩ := args
    match L, hs with
    | [w0, w1, w2, w3, w4, w5], _ => exact ⟨w0, w1, w2, w3, w4, w5, rfl⟩
  have hw := fun d (hd : d ∈ tables_1) => atoms_spec (ws := Jvm.Cond.code x code maxLocals ret :: tables_1) hat d (List.mem_cons_of_mem _ hd)
  obtain ⟨i0, ei0⟩ := isL_v ga0
  obtain rfl : w0 = (.long i0) := Option.some.inj ei0
  obtain ⟨i1, ei1⟩ := isL_v ga1
  obtain rfl : w1 = (.long i1) := Option.some.inj ei1
  obtain ⟨i2, ei2⟩ := is_v ga2
  obtain rfl : w2 = (.int i2) := Option.some.inj ei2
  obtain ⟨i3, ei3⟩ := is_v ga3
  obtain rfl : w3 = (.int i3) := Option.some.inj ei3
  obtain ⟨i4, ei4⟩ := is_v ga4
  obtain rfl : w4 = (.int i4) := Option.some.inj ei4
  obtain ⟨i5, ei5⟩ := is_v ga5
  obtain rfl : w5 = (.int i5) := Option.some.inj ei5
  have hEW : EW s #[(.long i0), (.long i1), (.int i2), (.int i3), (.int i4), (.int i5)] [] := EW.nil
  have hCH : CHv s [] s.vm s.heap := fun p hp => nomatch hp
  obtain ⟨n, o, h1, h2, h3, _, L, rfl, ⟨N, -, rfl⟩, -, hq, hnw, -⟩ := con_law l hw (a1 := i0) (a2 := i1) (s3 := i2) (s4 := i3) (s5 := i4) (s6 := i5) (h0 := s.heap) ⟨Nat.le_refl _, fun _ _ q => q⟩ hEW tables_1 p e ha hc hk s m _ below hf ((Spec.applies_iff_loose hf).mp happ).1 ⟨rfl, State.Warmed39.refl s, rfl, hCH, nofun⟩ trivial
  refine ⟨n, _, h1, h2, h3, hpost _ _ _ _ _ _ ⟨Cond.after_iff.mpr rfl, Cond.after_iff.mpr (eq_i res_at (Term.int_eval (1)) rfl), trivial⟩ ⟨hq.1, hnw rfl, (hq.2.2.2.sift fun y hy => Or.inr (N y hy)).mono (by decide) (by decide)⟩⟩
theorem main_1_1 : Claimed_1_1 := comes_1 fun _ _ _ _ _ _ h hF => ⟨h.1, hF⟩
theorem main_1_2 : Claimed_1_2 := comes_1 fun _ _ _ _ _ _ h hF => ⟨h.2.1, hF⟩
end Jvm.Pilot.@@N@@
-- part witness
namespace Jvm.Pilot.@@N@@
open Jvm Jvm.ClassFile Sem Op Lib Jvm.Free Jvm.Stand Jvm.Pilot.@@N@@.Jvm.D
/-! MADE BY PROGRAM (witnessworld.py) out of the Statement's table words and the real class files: 9 classes; the members and pool entries that the words name. The judged class is class 1, her method 1. -/
namespace start1
open Jvm.ClassFile
def u (s : String) : CpInfo := .utf8 (stringToUtf16 s)
/-- a pool by its gaps: so many unusable entries, then the entry; so many at the end -/
def gap : Nat → List CpInfo → List CpInfo
  | 0, r => r
  | n + 1, r => .unusable :: gap n r
def poolList (es : List (Nat × CpInfo)) (last : Nat) : List CpInfo := es.foldr (fun e r => gap e.1 (e.2 :: r)) (gap last [])
def pool (es : List (Nat × CpInfo)) (last : Nat) : Array CpInfo := ⟨poolList es last⟩
def fileOf (pool : Array CpInfo) (this : Nat) (attrs : Array Attribute := #[]) (ms : Array MethodInfo := #[]) (fl : Nat := 33) (sup : Nat := 0) (ifs : Array Nat := #[]) (fds : Array FieldInfo := #[]) : ClassFile where
  minorVersion := 0
  majorVersion := 65
  constantPool := pool
  accessFlags := fl
  thisClass := this
  superClass := sup
  interfaces := ifs
  fields := fds
  methods := ms
  attributes := attrs
def plain (name : String) (sup : Option ClassId) : Class where
  name := name
  kind := .ordinary
  loader := none
  accessFlags := 33
  super := sup
  interfaces := #[]
  cf := none
  fields := #[]
  methods := #[]
  instanceTypes := #[]
  staticTypes := #[]
  resolved := #[]
  callSites := []
  init := .initialized
  statics := none
  mirror := none

def pool0 : Array CpInfo := pool [(5, u "<init>"), (0, u "()V"), (1, .class_ 10), (1, u "java/lang/Object")] 113

def k0c0 : Code := { maxStack := 0, maxLocals := 1, code := object_method_1_code, exceptionTable := #[], attributes := #[] }
def k0m0 : Method := { name := "<init>", desc := "()V", sig := { parameters := [], returnType := none }, accessFlags := 1, code := some k0c0 }
/-- java/lang/Object -/
def k0 : Class := { plain "java/lang/Object" none with
  accessFlags := 33
  interfaces := #[]
  cf := some (fileOf pool0 8 #[] #[{ accessFlags := 1, nameIndex := 5, descriptorIndex := 6, attributes := #[] }] 33 0 #[] #[])
  fields := #[]
  methods := #[k0m0]
  instanceTypes := #[]
  staticTypes := #[]
  resolved := Array.replicate 124 none
  statics := none }

def pool1 : Array CpInfo := pool [(2, .class_ 4), (1, u "java/lang/Object"), (0, u "<init>"), (0, u "()V"), (0, .long 1099511627775), (1, .integer 2147483647), (0, .class_ 11), (0, u "com/example/structured_keyword_search/structuredkeywordsearch/xml/Density"), (0, .methodref 10 13), (0, .nameAndType 5 14), (0, u "(JJIII)V"), (0, .methodref 16 17), (0, .class_ 18), (0, .nameAndType 19 20), (0, u "java/lang/Math"), (0, u "max"), (0, u "(II)I"), (0, .methodref 10 22), (0, .nameAndType 23 24), (0, u "value"), (0, u "()D"), (0, .class_ 26), (0, u "com/example/structured_keyword_search/structuredkeywordsearch/xml/DensityValuePinLaw"), (2, u "law"), (0, u "(JJIIII)Z")] 3

def k1m0 : Method := { name := "<init>", desc := "()V", sig := { parameters := [], returnType := none }, accessFlags := 1, code := none }
def k1c1 : Code := { maxStack := 9, maxLocals := 24, code := code, exceptionTable := #[], attributes := #[] }
def k1m1 : Method := { name := "law", desc := "(JJIIII)Z", sig := { parameters := [.long, .long, .int, .int, .int, .int], returnType := some .boolean }, accessFlags := 9, code := some k1c1 }
/-- com/example/structured_keyword_search/structuredkeywordsearch/xml/DensityValuePinLaw -/
def k1 : Class := { plain "com/example/structured_keyword_search/structuredkeywordsearch/xml/DensityValuePinLaw" (some 0) with
  accessFlags := 49
  interfaces := #[]
  cf := some (fileOf pool1 25 #[] #[{ accessFlags := 1, nameIndex := 5, descriptorIndex := 6, attributes := #[] }, { accessFlags := 9, nameIndex := 29, descriptorIndex := 30, attributes := #[] }] 49 2 #[] #[])
  fields := #[]
  methods := #[k1m0, k1m1]
  instanceTypes := #[]
  staticTypes := #[]
  resolved := Array.replicate 34 none
  statics := none }

def pool2 : Array CpInfo := pool [(1, .class_ 2), (0, u "java/lang/Comparable"), (0, .class_ 4), (0, u "java/lang/Object")] 7

/-- java/lang/Comparable -/
def k2 : Class := { plain "java/lang/Comparable" (some 0) with
  accessFlags := 1537
  interfaces := #[]
  cf := some (fileOf pool2 1 #[] #[] 1537 3 #[] #[])
  fields := #[]
  methods := #[]
  instanceTypes := #[]
  staticTypes := #[]
  resolved := Array.replicate 12 none
  statics := none }

def pool3 : Array CpInfo := pool [(1, .methodref 2 3), (0, .class_ 4), (0, .nameAndType 5 6), (0, u "java/lang/Object"), (0, u "<init>"), (0, u "()V"), (0, .methodref 8 9), (0, .class_ 10), (0, .nameAndType 11 12), (0, u "java/lang/Math"), (0, u "max"), (0, u "(II)I"), (0, .fieldref 14 15), (0, .class_ 16), (0, .nameAndType 17 18), (0, u "com/example/structured_keyword_search/structuredkeywordsearch/xml/Density"), (0, u "mDivisor"), (0, u "J"), (0, .fieldref 14 20), (0, .nameAndType 21 18), (0, u "mWhole"), (0, .fieldref 14 23), (0, .nameAndType 24 18), (0, u "mRemainder"), (0, .fieldref 14 26), (0, .nameAndType 27 28), (0, u "mWords"), (0, u "I"), (17, .class_ 47), (0, u "java/lang/Comparable"), (0, u "(JJIII)V"), (2, u "value"), (0, u "()D")] 7

def k3c0 : Code := { maxStack := 7, maxLocals := 10, code := prog_46_method_1_code, exceptionTable := #[], attributes := #[] }
def k3m0 : Method := { name := "<init>", desc := "(JJIII)V", sig := { parameters := [.long, .long, .int, .int, .int], returnType := none }, accessFlags := 0, code := some k3c0 }
def k3c1 : Code := { maxStack := 6, maxLocals := 1, code := prog_46_method_2_code, exceptionTable := #[], attributes := #[] }
def k3m1 : Method := { name := "value", desc := "()D", sig := { parameters := [], returnType := some .double }, accessFlags := 1, code := some k3c1 }
/-- com/example/structured_keyword_search/structuredkeywordsearch/xml/Density -/
def k3 : Class := { plain "com/example/structured_keyword_search/structuredkeywordsearch/xml/Density" (some 0) with
  accessFlags := 49
  interfaces := #[2]
  cf := some (fileOf pool3 14 #[] #[{ accessFlags := 0, nameIndex := 5, descriptorIndex := 48, attributes := #[] }, { accessFlags := 1, nameIndex := 51, descriptorIndex := 52, attributes := #[] }] 49 2 #[46] #[{ accessFlags := 18, nameIndex := 21, descriptorIndex := 18, attributes := #[] }, { accessFlags := 18, nameIndex := 24, descriptorIndex := 18, attributes := #[] }, { accessFlags := 18, nameIndex := 17, descriptorIndex := 18, attributes := #[] }, { accessFlags := 18, nameIndex := 27, descriptorIndex := 28, attributes := #[] }])
  fields := #[{ name := "mWhole", type := .long, accessFlags := 18, slot := 0, constantValue := 0 }, { name := "mRemainder", type := .long, accessFlags := 18, slot := 1, constantValue := 0 }, { name := "mDivisor", type := .long, accessFlags := 18, slot := 2, constantValue := 0 }, { name := "mWords", type := .int, accessFlags := 18, slot := 3, constantValue := 0 }]
  methods := #[k3m0, k3m1]
  instanceTypes := #[.long, .long, .long, .int]
  staticTypes := #[]
  resolved := Array.replicate 60 none
  statics := none }

def pool4 : Array CpInfo := pool [(1, .class_ 2), (0, u "java/lang/Math"), (1, .class_ 6), (1, u "java/lang/Object"), (0, u "<init>"), (0, u "()V"), (89, .class_ 100), (1, u "java/lang/Math$RandomNumberGeneratorHolder"), (71, u "negativeZeroFloatBits"), (0, u "J"), (2, u "negativeZeroDoubleBits"), (21, u "max"), (46, u "$assertionsDisabled"), (0, u "Z"), (88, u "(II)I"), (2, u "twoToTheDoubleScaleDown"), (0, u "D"), (4, u "twoToTheDoubleScaleUp"), (9, u "E"), (3, u "PI"), (2, u "TAU"), (2, u "DEGREES_TO_RADIANS"), (0, u "RADIANS_TO_DEGREES")] 94

def k4m0 : Method := { name := "<init>", desc := "()V", sig := { parameters := [], returnType := none }, accessFlags := 2, code := none }
def k4c1 : Code := { maxStack := 2, maxLocals := 2, code := jdk_29_method_65_code, exceptionTable := #[], attributes := #[] }
def k4m1 : Method := { name := "max", desc := "(II)I", sig := { parameters := [.int, .int], returnType := some .int }, accessFlags := 9, code := some k4c1 }
/-- java/lang/Math -/
def k4 : Class := { plain "java/lang/Math" (some 0) with
  accessFlags := 49
  interfaces := #[]
  cf := some (fileOf pool4 1 #[.nestMembers #[98]] #[{ accessFlags := 2, nameIndex := 7, descriptorIndex := 8, attributes := #[] }, { accessFlags := 9, nameIndex := 198, descriptorIndex := 335, attributes := #[] }] 49 4 #[] #[{ accessFlags := 25, nameIndex := 354, descriptorIndex := 339, attributes := #[] }, { accessFlags := 25, nameIndex := 358, descriptorIndex := 339, attributes := #[] }, { accessFlags := 25, nameIndex := 361, descriptorIndex := 339, attributes := #[] }, { accessFlags := 26, nameIndex := 364, descriptorIndex := 339, attributes := #[] }, { accessFlags := 26, nameIndex := 365, descriptorIndex := 339, attributes := #[] }, { accessFlags := 26, nameIndex := 172, descriptorIndex := 173, attributes := #[] }, { accessFlags := 26, nameIndex := 176, descriptorIndex := 173, attributes := #[] }, { accessFlags := 8, nameIndex := 344, descriptorIndex := 339, attributes := #[] }, { accessFlags := 8, nameIndex := 338, descriptorIndex := 339, attributes := #[] }, { accessFlags := 4120, nameIndex := 245, descriptorIndex := 246, attributes := #[] }])
  fields := #[{ name := "E", type := .double, accessFlags := 25, slot := 0, constantValue := 0 }, { name := "PI", type := .double, accessFlags := 25, slot := 1, constantValue := 0 }, { name := "TAU", type := .double, accessFlags := 25, slot := 2, constantValue := 0 }, { name := "DEGREES_TO_RADIANS", type := .double, accessFlags := 26, slot := 3, constantValue := 0 }, { name := "RADIANS_TO_DEGREES", type := .double, accessFlags := 26, slot := 4, constantValue := 0 }, { name := "negativeZeroFloatBits", type := .long, accessFlags := 26, slot := 5, constantValue := 0 }, { name := "negativeZeroDoubleBits", type := .long, accessFlags := 26, slot := 6, constantValue := 0 }, { name := "twoToTheDoubleScaleUp", type := .double, accessFlags := 8, slot := 7, constantValue := 0 }, { name := "twoToTheDoubleScaleDown", type := .double, accessFlags := 8, slot := 8, constantValue := 0 }, { name := "$assertionsDisabled", type := .boolean, accessFlags := 4120, slot := 9, constantValue := 0 }]
  methods := #[k4m0, k4m1]
  instanceTypes := #[]
  staticTypes := #[.double, .double, .double, .double, .double, .long, .long, .double, .double, .boolean]
  resolved := Array.replicate 460 none
  statics := none }

def pool5 : Array CpInfo := pool [(1, u "java/lang/Cloneable"), (0, .class_ 1), (0, u "java/lang/Object"), (0, .class_ 3)] 3

/-- java/lang/Cloneable -/
def k5 : Class := { plain "java/lang/Cloneable" (some 0) with
  accessFlags := 1537
  interfaces := #[]
  cf := some (fileOf pool5 2 #[] #[] 1537 4 #[] #[])
  fields := #[]
  methods := #[]
  instanceTypes := #[]
  staticTypes := #[]
  resolved := Array.replicate 8 none
  statics := none }

def pool6 : Array CpInfo := pool [(1, u "java/io/Serializable"), (0, .class_ 1), (0, u "java/lang/Object"), (0, .class_ 3)] 3

/-- java/io/Serializable -/
def k6 : Class := { plain "java/io/Serializable" (some 0) with
  accessFlags := 1537
  interfaces := #[]
  cf := some (fileOf pool6 2 #[] #[] 1537 4 #[] #[])
  fields := #[]
  methods := #[]
  instanceTypes := #[]
  staticTypes := #[]
  resolved := Array.replicate 8 none
  statics := none }

/-- the primitive byte -/
def k7 : Class := { plain "byte" none with kind := .primitive 'B', accessFlags := 0x411 }
/-- [B -/
def k8 : Class := { plain "[B" (some 0) with kind := .array 7 .byte, interfaces := #[5, 6], accessFlags := 1041 }

def heap : Heap := #[]
def classes : Array Class := #[k0, k1, k2, k3, k4, k5, k6, k7, k8]
def interned : List (Array UInt16 × Addr) := []
def slotsUsed : Nat := 0
def theMethod : MethodId := ⟨1, 1⟩
def args0 : Array Value := #[.long 5, .long 3, .int 3, .int 1, .int 2, .int 1]
def aboutOver (below : List Frame) : State where
  vm := { classes := classes, interned := interned.toArray }
  heap := heap
  slotsUsed := slotsUsed
  threads := #[{ frames := .invoking theMethod args0 :: below }]
def below0 : List Frame := [.native { method := ⟨0, 0⟩, args := #[] }]
def about1 : State := aboutOver below0
def p0 : Program := .bare "" "" ""
def e0 : Env := launch0.env 0 0 0
theorem w_frames : about1.frames = Frame.invoking theMethod args0 :: below0 := rfl
set_option maxRecDepth 65536 in
theorem w_args : argsFit about1.vm theMethod args0 = true := by decide +kernel
set_option maxRecDepth 65536 in
theorem w_heap : heapFits about1 = true := by decide +kernel
set_option maxRecDepth 65536 in
theorem w_runnable : about1.curStatus? = some .runnable := by decide +kernel
set_option maxRecDepth 65536 in
theorem w_alone : about1.alone = true := by decide +kernel
set_option maxRecDepth 65536 in
theorem w_named : about1.methodNamed? x = some theMethod := by decide +kernel
set_option maxRecDepth 65536 in
theorem w_hears : about1.hears theMethod below0 = true := by decide +kernel
set_option maxRecDepth 65536 in
theorem w_ripe : about1.ripe theMethod args0 below0 = true := by decide +kernel
theorem w_running : about1.status = .running := rfl
set_option maxRecDepth 65536 in
theorem w_room : about1.hasRoom e0.platform room_1 = true :=
  launch0.hasRoom_least _ room_1 (by decide +kernel) (by decide +kernel) (by decide +kernel) (by decide +kernel) (by decide +kernel) (by decide +kernel)
theorem allAtoms_all (ts : List Jvm.Cond) (a : Array Jvm.Value) (st : Jvm.State) : (allAtoms ts).before a st = ts.all (fun c => c.before a st) := by
  induction ts with
  | nil => rfl
  | cons c t ih =>
    show (Jvm.Cond.and c (allAtoms t)).before a st = _
    rw [Jvm.Cond.before_and, ih, List.all_cons]
def words1 : List Jvm.Cond := Jvm.Cond.code x code maxLocals ret :: tables_1
/-- a 'code' word, met by the world's own term for the bytes: nothing is compared byte by byte -/
theorem code_word {y : MethodName} {bytes : ByteArray} {mx : Nat} {rt : Option FieldType} {a : Array Value} {s : State} {m : MethodId} {meth : Method} {c : Code} (h1 : s.methodNamed? y = some m) (h2 : s.vm.method? m = some meth) (h3 : meth.code = some c) (h4 : c.code = bytes)
    (h5 : (c.maxLocals == mx && c.exceptionTable.isEmpty && decide (c.maxStack ≤ mostOperands) && decide (meth.sig.returnType = rt) && !meth.locks && decide (parseMethodDescriptor y.desc = some meth.sig)) = true) : (Jvm.Cond.code y bytes mx rt).before a s = true := by
  simp only [Bool.and_eq_true, beq_iff_eq, Bool.not_eq_true', decide_eq_true_eq] at h5
  obtain ⟨⟨⟨⟨⟨g1, g2⟩, g3⟩, g4⟩, g5⟩, g6⟩ := h5
  simp [Cond.before, Cond.holds, Cond.value, h1, h2, h3, h4, g1, g2, g3, g4, g5, g6]
def isCode : Jvm.Cond → Bool
  | .code _ _ _ _ => true
  | _ => false
theorem all_split {L : List Jvm.Cond} {P : Jvm.Cond → Bool} (h1 : L.all (fun c => isCode c || P c) = true) (h2 : ∀ c ∈ L.filter isCode, P c = true) : L.all P = true := by
  refine List.all_eq_true.mpr fun c hc => ?_
  have h := List.all_eq_true.mp h1 c hc
  rcases Bool.eq_false_or_eq_true (isCode c) with hi | hi
  · exact h2 c (List.mem_filter.mpr ⟨hc, hi⟩)
  · simpa [hi] using h
set_option maxRecDepth 65536 in
theorem w_c0 : (Jvm.Cond.code x code maxLocals ret).before args0 about1 = true := code_word (m := ⟨1, 1⟩) (meth := k1m1) (c := k1c1) (by decide +kernel) rfl rfl rfl (by decide +kernel)
set_option maxRecDepth 65536 in
theorem w_c1 : (Jvm.Cond.code ({ cls := "com/example/structured_keyword_search/structuredkeywordsearch/xml/Density", name := "<init>", desc := "(JJIII)V" } : Jvm.MethodName) prog_46_method_1_code (10 : Nat) (Option.none : Option Jvm.ClassFile.FieldType)).before args0 about1 = true := code_word (m := ⟨3, 0⟩) (meth := k3m0) (c := k3c0) (by decide +kernel) rfl rfl rfl (by decide +kernel)
set_option maxRecDepth 65536 in
theorem w_c2 : (Jvm.Cond.code ({ cls := "java/lang/Object", name := "<init>", desc := "()V" } : Jvm.MethodName) object_method_1_code (1 : Nat) (Option.none : Option Jvm.ClassFile.FieldType)).before args0 about1 = true := code_word (m := ⟨0, 0⟩) (meth := k0m0) (c := k0c0) (by decide +kernel) rfl rfl rfl (by decide +kernel)
set_option maxRecDepth 65536 in
theorem w_c3 : (Jvm.Cond.code ({ cls := "java/lang/Math", name := "max", desc := "(II)I" } : Jvm.MethodName) jdk_29_method_65_code (2 : Nat) (Option.some Jvm.ClassFile.FieldType.int)).before args0 about1 = true := code_word (m := ⟨4, 1⟩) (meth := k4m1) (c := k4c1) (by decide +kernel) rfl rfl rfl (by decide +kernel)
set_option maxRecDepth 65536 in
theorem w_c4 : (Jvm.Cond.code ({ cls := "com/example/structured_keyword_search/structuredkeywordsearch/xml/Density", name := "value", desc := "()D" } : Jvm.MethodName) prog_46_method_2_code (1 : Nat) (Option.some Jvm.ClassFile.FieldType.double)).before args0 about1 = true := code_word (m := ⟨3, 1⟩) (meth := k3m1) (c := k3c1) (by decide +kernel) rfl rfl rfl (by decide +kernel)
def codes1 : List Jvm.Cond := [Jvm.Cond.code x code maxLocals ret, Jvm.Cond.code ({ cls := "com/example/structured_keyword_search/structuredkeywordsearch/xml/Density", name := "<init>", desc := "(JJIII)V" } : Jvm.MethodName) prog_46_method_1_code (10 : Nat) (Option.none : Option Jvm.ClassFile.FieldType), Jvm.Cond.code ({ cls := "java/lang/Object", name := "<init>", desc := "()V" } : Jvm.MethodName) object_method_1_code (1 : Nat) (Option.none : Option Jvm.ClassFile.FieldType), Jvm.Cond.code ({ cls := "java/lang/Math", name := "max", desc := "(II)I" } : Jvm.MethodName) jdk_29_method_65_code (2 : Nat) (Option.some Jvm.ClassFile.FieldType.int), Jvm.Cond.code ({ cls := "com/example/structured_keyword_search/structuredkeywordsearch/xml/Density", name := "value", desc := "()D" } : Jvm.MethodName) prog_46_method_2_code (1 : Nat) (Option.some Jvm.ClassFile.FieldType.double)]
set_option maxRecDepth 65536 in
theorem codes_eq : words1.filter isCode = codes1 := rfl
theorem w_codes : ∀ c ∈ words1.filter isCode, c.before args0 about1 = true := by
  rw [codes_eq]
  intro c hc
  simp only [codes1, List.mem_cons, List.not_mem_nil, or_false] at hc
  rcases hc with rfl | rfl | rfl | rfl | rfl
  · exact w_c0
  · exact w_c1
  · exact w_c2
  · exact w_c3
  · exact w_c4
set_option maxRecDepth 65536 in
theorem w_t1 : (words1.take 24).all (fun c => isCode c || c.before args0 about1) = true := by decide +kernel
set_option maxRecDepth 65536 in
theorem w_t2 : (words1.drop 24).all (fun c => isCode c || c.before args0 about1) = true := by decide +kernel
theorem w_tables : (allAtoms (Jvm.Cond.code x code maxLocals ret :: tables_1)).before args0 about1 = true := by
  rw [allAtoms_all]
  show words1.all (fun c => c.before args0 about1) = true
  refine all_split ?_ w_codes
  rw [← List.take_append_drop 24 words1, List.all_append, w_t1, w_t2]
  rfl
set_option maxRecDepth 65536 in
theorem w_case : (Jvm.Cond.and given_1 narrow_1).before args0 about1 = true := by decide +kernel
theorem w_applies : (headSpec (Jvm.Cond.code x code maxLocals ret :: tables_1) room_1).applies x e0.platform about1 = true :=
  (Spec.applies_iff w_frames).mpr ⟨w_running, w_runnable, w_alone, w_named, w_hears, w_ripe, w_room, w_tables⟩
theorem atStart : AtStart classFile x code maxLocals ret World_1 tables_1 room_1 Calls_1 rest_1 Pre_1 launch0 p0 e0 about1 theMethod args0 below0 :=
  ⟨lists_1, trivial, launch0.admits_env _ _ _, launch0.least_env, fairChoices_fair.cas, fairChoices_fair.clock, w_frames, w_args, w_heap, w_applies, trivial, trivial, w_case⟩
end start1
theorem witness_1 : WitnessClaimed_1 := ⟨start1.p0, start1.e0, start1.about1, start1.theMethod, start1.args0, start1.below0, start1.atStart⟩
end Jvm.Pilot.@@N@@
