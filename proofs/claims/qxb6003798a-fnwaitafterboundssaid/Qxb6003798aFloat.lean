/-
  Plain facts on the model's doubles: rounding to nearest is monotone against every number that the format has. No Go in sight.
-/
import Ieee.Arith
namespace Go.Proofs.Qxb6003798a
open Ieee

/-! ### Cutting to a whole number -/

theorem shl_pow (a k : Nat) : a <<< k = a * 2 ^ k := Nat.shiftLeft_eq a k

theorem log2_lt (n : Nat) : n < 2 ^ (n.log2 + 1) := Nat.lt_log2_self

theorem cut_le {n d N : Nat} (h : n ≤ N * 2 ^ d) : Toward.even.cut false n d ≤ N := by
  unfold Toward.cut
  simp only [shl_pow, Nat.one_mul]
  by_cases hd : d ≤ n.log2 + 2
  · rw [Nat.min_eq_left hd]
    have hg : 0 < 2 ^ d := Nat.two_pow_pos d
    generalize 2 ^ d = g at h hg
    have h1 : n / g ≤ N := Nat.div_le_of_le_mul (by rw [Nat.mul_comm]; exact h)
    by_cases h2 : n / g = N
    · have h3 : n % g = 0 := by
        have := Nat.div_add_mod n g
        rw [h2, Nat.mul_comm] at this
        omega
      rw [h3, h2]
      have e2 : (g == 2 * 0) = false := by simp; omega
      simp [e2]
    · have : (decide (g < 2 * (n % g)) || g == 2 * (n % g) && n / g % 2 == 1).toNat ≤ 1 := Bool.toNat_le _
      omega
  · rw [Nat.min_eq_right (by omega)]
    have hn := log2_lt n
    have hg : 2 ^ (n.log2 + 2) = 2 * 2 ^ (n.log2 + 1) := by rw [Nat.pow_succ]; omega
    have h1 : n / 2 ^ (n.log2 + 2) = 0 := Nat.div_eq_of_lt (by omega)
    have h2 : n % 2 ^ (n.log2 + 2) = n := Nat.mod_eq_of_lt (by omega)
    rw [h1, h2]
    have e1 : decide (2 ^ (n.log2 + 2) < 2 * n) = false := by simp; omega
    have e2 : (2 ^ (n.log2 + 2) == 2 * n) = false := by simp; omega
    rw [e1, e2]
    simp

theorem le_cut {n d N : Nat} (h : N * 2 ^ d ≤ n) : N ≤ Toward.even.cut false n d := by
  unfold Toward.cut
  simp only [shl_pow, Nat.one_mul]
  by_cases hd : d ≤ n.log2 + 2
  · rw [Nat.min_eq_left hd]
    have hg : 0 < 2 ^ d := Nat.two_pow_pos d
    have : N ≤ n / 2 ^ d := (Nat.le_div_iff_mul_le hg).2 h
    omega
  · have hn := log2_lt n
    have hN : N = 0 := by
      rcases Nat.eq_zero_or_pos N with h0 | h0
      · exact h0
      · have h1 : 2 ^ (n.log2 + 1) ≤ 2 ^ d := Nat.pow_le_pow_right (by omega) (by omega)
        have h2 : 1 * 2 ^ d ≤ N * 2 ^ d := Nat.mul_le_mul_right _ h0
        omega
    rw [hN]
    exact Nat.zero_le _

/-! ### A number of the format, and its rung -/

/-- The exponent, made a natural number (every place that is met is far above -3000). -/
def ex (p : Int) : Nat := (p + 3000).toNat

/-- 'M * 2 ^ P' is a number of the format; R is its rung. -/
structure Dec (M : Nat) (P : Int) (R : Nat) : Prop where
  hP : -1074 ≤ P
  hM : M < 9007199254740992
  hN : -1074 < P → 4503599627370496 ≤ M
  hR : (R : Int) = (P + 1074) * 4503599627370496 + M

theorem ex_add (p : Int) (k : Nat) (h : -3000 ≤ p) : ex (p + k) = ex p + k := by unfold ex; omega

theorem lp_eq : double.leastPlace = -1074 := by decide
theorem bin_eq : double.binade = 4503599627370496 := by decide
theorem inf_eq : double.infRung = 9218868437227405312 := by decide
theorem sw_eq : double.signWeight = 9223372036854775808 := by decide

/-- The two numbers that 'nearest' reckons with. -/
theorem nearest_eq (m : Nat) (p : Int) (hm : m ≠ 0) :
    double.nearest false m p = min ((max (p + m.log2 - 52) (-1074) + 1074).toNat * 4503599627370496 + Toward.even.cut false (m <<< (p - max (p + m.log2 - 52) (-1074)).toNat) (max (p + m.log2 - 52) (-1074) - p).toNat) 9218868437227405312 := by
  unfold Format.nearest
  rw [if_neg hm]
  simp only [lp_eq, bin_eq, inf_eq, Format.word]
  have : (double.fractionBits : Int) = 52 := by decide
  rw [this]
  simp [Int.sub_neg]

theorem log2_le {m : Nat} (h : m ≠ 0) : 2 ^ m.log2 ≤ m := Nat.log2_self_le h

/-- What is kept, against whole numbers N of units at 'last'. -/
theorem scale {m : Nat} {p last : Int} (hp : -3000 ≤ p) (hl : -3000 ≤ last) : (m <<< (p - last).toNat) * 2 ^ ex last = m * 2 ^ ex p * 2 ^ (last - p).toNat := by
  rw [shl_pow]
  by_cases h : last ≤ p
  · have e1 : ex p = ex last + (p - last).toNat := by unfold ex; omega
    have e2 : (last - p).toNat = 0 := by omega
    rw [e1, e2, Nat.pow_add, Nat.pow_zero, Nat.mul_one, Nat.mul_assoc, Nat.mul_comm (2 ^ (p - last).toNat)]
  · have e1 : ex last = ex p + (last - p).toNat := by unfold ex; omega
    have e2 : (p - last).toNat = 0 := by omega
    rw [e1, e2, Nat.pow_add, Nat.pow_zero, Nat.mul_one, Nat.mul_assoc]

theorem kept_le {m : Nat} {p last : Int} (hp : -3000 ≤ p) (hl : -3000 ≤ last) {N : Nat} (h : m * 2 ^ ex p ≤ N * 2 ^ ex last) : Toward.even.cut false (m <<< (p - last).toNat) (last - p).toNat ≤ N := by
  refine cut_le ?_
  have s := scale (m := m) hp hl
  have hpos : 0 < 2 ^ ex last := Nat.two_pow_pos _
  refine Nat.le_of_mul_le_mul_right ?_ hpos
  rw [s]
  calc m * 2 ^ ex p * 2 ^ (last - p).toNat ≤ N * 2 ^ ex last * 2 ^ (last - p).toNat := Nat.mul_le_mul_right _ h
    _ = N * 2 ^ (last - p).toNat * 2 ^ ex last := by rw [Nat.mul_assoc, Nat.mul_comm (2 ^ ex last), ← Nat.mul_assoc]

theorem le_kept {m : Nat} {p last : Int} (hp : -3000 ≤ p) (hl : -3000 ≤ last) {N : Nat} (h : N * 2 ^ ex last ≤ m * 2 ^ ex p) : N ≤ Toward.even.cut false (m <<< (p - last).toNat) (last - p).toNat := by
  refine le_cut ?_
  have s := scale (m := m) hp hl
  have hpos : 0 < 2 ^ ex last := Nat.two_pow_pos _
  refine Nat.le_of_mul_le_mul_right ?_ hpos
  rw [s]
  calc N * 2 ^ (last - p).toNat * 2 ^ ex last = N * 2 ^ ex last * 2 ^ (last - p).toNat := by rw [Nat.mul_assoc, Nat.mul_comm (2 ^ (last - p).toNat), ← Nat.mul_assoc]
    _ ≤ m * 2 ^ ex p * 2 ^ (last - p).toNat := Nat.mul_le_mul_right _ h

theorem p52 : (2 : Nat) ^ 52 = 4503599627370496 := by decide
theorem p53 : (2 : Nat) ^ 53 = 9007199254740992 := by decide

/-- Of a normal result: the number is at least 2^52 units of 'last'. -/
theorem low_of {m : Nat} {p last : Int} (hm : m ≠ 0) (hp : -3000 ≤ p) (h : last ≤ p + m.log2 - 52) (hl : -1074 ≤ last) : 4503599627370496 * 2 ^ ex last ≤ m * 2 ^ ex p := by
  rw [← p52, ← Nat.pow_add]
  calc 2 ^ (52 + ex last) ≤ 2 ^ (m.log2 + ex p) := Nat.pow_le_pow_right (by omega) (by unfold ex; omega)
    _ = 2 ^ m.log2 * 2 ^ ex p := Nat.pow_add _ _ _
    _ ≤ m * 2 ^ ex p := Nat.mul_le_mul_right _ (log2_le hm)

/-- It is less than 2^53 units of 'last'. -/
theorem high_of {m : Nat} {p last : Int} (hp : -3000 ≤ p) (h : p + m.log2 - 52 ≤ last) (hl : -1074 ≤ last) : m * 2 ^ ex p ≤ 9007199254740992 * 2 ^ ex last := by
  rw [← p53, ← Nat.pow_add]
  calc m * 2 ^ ex p ≤ 2 ^ (m.log2 + 1) * 2 ^ ex p := Nat.mul_le_mul_right _ (Nat.le_of_lt (log2_lt m))
    _ = 2 ^ (m.log2 + 1 + ex p) := (Nat.pow_add _ _ _).symm
    _ ≤ 2 ^ (53 + ex last) := Nat.pow_le_pow_right (by omega) (by unfold ex; omega)

theorem grow {M k : Nat} (h : 4503599627370496 ≤ M) : M + k * 4503599627370496 ≤ M * 2 ^ k := by
  induction k with
  | zero => simp
  | succ k ih =>
    have h1 : M * 2 ^ (k + 1) = M * 2 ^ k + M * 2 ^ k := by rw [Nat.pow_succ, ← Nat.mul_assoc]; omega
    have h2 : 1 ≤ 2 ^ k := Nat.one_le_two_pow
    have h3 : M * 1 ≤ M * 2 ^ k := Nat.mul_le_mul_left _ h2
    rw [h1]
    have h4 : (k + 1) * 4503599627370496 = k * 4503599627370496 + 4503599627370496 := Nat.succ_mul _ _
    rw [h4]
    rw [← Nat.add_assoc]
    rw [Nat.mul_one] at h3
    exact Nat.add_le_add ih (Nat.le_trans h h3)

/-- ROUNDING DOES NOT PASS A NUMBER OF THE FORMAT, from below. -/
theorem nearest_le {m : Nat} {p : Int} {M : Nat} {P : Int} {R : Nat} (D : Dec M P R) (hm : m ≠ 0) (hp : -3000 ≤ p) (h : m * 2 ^ ex p ≤ M * 2 ^ ex P) : double.nearest false m p ≤ R := by
  rw [nearest_eq m p hm]
  refine Nat.le_trans (Nat.min_le_left _ _) ?_
  have hlast1 : -1074 ≤ max (p + m.log2 - 52) (-1074) := by omega
  have hlast2 : p + m.log2 - 52 ≤ max (p + m.log2 - 52) (-1074) := by omega
  have hlast3 : max (p + m.log2 - 52) (-1074) = -1074 ∨ max (p + m.log2 - 52) (-1074) ≤ p + m.log2 - 52 := by omega
  generalize max (p + m.log2 - 52) (-1074) = last at hlast1 hlast2 hlast3 ⊢
  obtain ⟨hP, hM, hN, hR⟩ := D
  by_cases hc : last ≤ P
  · obtain ⟨k, hk⟩ : ∃ k : Nat, P = last + k := ⟨(P - last).toNat, by omega⟩
    have e1 : M * 2 ^ ex P = (M * 2 ^ k) * 2 ^ ex last := by
      rw [hk, ex_add last k (by omega), Nat.pow_add, Nat.mul_assoc, Nat.mul_comm (2 ^ ex last)]
    rcases Nat.eq_zero_or_pos k with rfl | hk0
    · have h1 := kept_le (m := m) hp (by omega : (-3000 : Int) ≤ last) (N := M) (by rw [e1] at h; simpa using h)
      omega
    · have h1 := kept_le (m := m) hp (by omega : (-3000 : Int) ≤ last) (N := 9007199254740992) (high_of hp hlast2 hlast1)
      have := hN (by omega)
      omega
  · exfalso
    have h0 : last ≤ p + m.log2 - 52 := by omega
    have h1 := low_of hm hp h0 hlast1
    have h2 : M * 2 ^ ex P < 4503599627370496 * 2 ^ ex last := by
      obtain ⟨k, hk⟩ : ∃ k : Nat, last = P + (k + 1 : Nat) := ⟨(last - P - 1).toNat, by omega⟩
      rw [hk, ex_add P (k + 1) (by omega), Nat.pow_add, Nat.pow_succ]
      have h3 : 1 ≤ 2 ^ k := Nat.one_le_two_pow
      have h4 : 0 < 2 ^ ex P := Nat.two_pow_pos _
      calc M * 2 ^ ex P < 9007199254740992 * 2 ^ ex P := (Nat.mul_lt_mul_right h4).2 hM
        _ = 4503599627370496 * (2 ^ ex P * (1 * 2)) := by omega
        _ ≤ 4503599627370496 * (2 ^ ex P * (2 ^ k * 2)) := Nat.mul_le_mul_left _ (Nat.mul_le_mul_left _ (Nat.mul_le_mul_right _ h3))
    omega

/-- .. nor from above. -/
theorem le_nearest {m : Nat} {p : Int} {M : Nat} {P : Int} {R : Nat} (D : Dec M P R) (hi : R ≤ 9218868437227405312) (hm : m ≠ 0) (hp : -3000 ≤ p) (h : M * 2 ^ ex P ≤ m * 2 ^ ex p) : R ≤ double.nearest false m p := by
  rw [nearest_eq m p hm]
  refine (Nat.le_min).2 ⟨?_, hi⟩
  have hlast1 : -1074 ≤ max (p + m.log2 - 52) (-1074) := by omega
  have hlast3 : max (p + m.log2 - 52) (-1074) = -1074 ∨ max (p + m.log2 - 52) (-1074) ≤ p + m.log2 - 52 := by omega
  generalize max (p + m.log2 - 52) (-1074) = last at hlast1 hlast3 ⊢
  obtain ⟨hP, hM, hN, hR⟩ := D
  by_cases hc : last ≤ P
  · obtain ⟨k, hk⟩ : ∃ k : Nat, P = last + k := ⟨(P - last).toNat, by omega⟩
    have e1 : M * 2 ^ ex P = (M * 2 ^ k) * 2 ^ ex last := by
      rw [hk, ex_add last k (by omega), Nat.pow_add, Nat.mul_assoc, Nat.mul_comm (2 ^ ex last)]
    have h1 := le_kept (m := m) hp (by omega : (-3000 : Int) ≤ last) (N := M * 2 ^ k) (by rw [e1] at h; exact h)
    rcases Nat.eq_zero_or_pos k with rfl | hk0
    · simp at h1
      omega
    · have h2 := grow (k := k) (hN (by omega))
      omega
  · have h0 : last ≤ p + m.log2 - 52 := by omega
    have h1 := le_kept (m := m) hp (by omega : (-3000 : Int) ≤ last) (N := 4503599627370496) (low_of hm hp h0 hlast1)
    omega

theorem nearest_inf (m : Nat) (p : Int) (hm : m ≠ 0) : double.nearest false m p ≤ 9218868437227405312 := by
  rw [nearest_eq m p hm]; exact Nat.min_le_right _ _

end Go.Proofs.Qxb6003798a
