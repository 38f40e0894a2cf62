/-
  Plain facts on the model's doubles, third part: whole numbers made floats; quotients. No Go in sight.
-/
import Derived.Test.Qxb6003798aMul
namespace Go.Proofs.Qxb6003798a
open Ieee

/-! ### Rounding whole numbers is monotone -/

theorem cut_eq (n d : Nat) : Toward.even.cut false n d = n / 2 ^ d + (decide (2 ^ d < 2 * (n % 2 ^ d)) || 2 ^ d == 2 * (n % 2 ^ d) && n / 2 ^ d % 2 == 1).toNat := by
  unfold Toward.cut
  simp only [shl_pow, Nat.one_mul]
  by_cases hd : d ≤ n.log2 + 2
  · rw [Nat.min_eq_left hd]
  · rw [Nat.min_eq_right (by omega)]
    have hn := log2_lt n
    have hg : 2 ^ (n.log2 + 2) = 2 * 2 ^ (n.log2 + 1) := by rw [Nat.pow_succ]; omega
    have hd2 : 2 ^ (n.log2 + 2) ≤ 2 ^ d := Nat.pow_le_pow_right (by omega) (by omega)
    have h1 : n / 2 ^ (n.log2 + 2) = 0 := Nat.div_eq_of_lt (by omega)
    have h2 : n % 2 ^ (n.log2 + 2) = n := Nat.mod_eq_of_lt (by omega)
    have h3 : n / 2 ^ d = 0 := Nat.div_eq_of_lt (by omega)
    have h4 : n % 2 ^ d = n := Nat.mod_eq_of_lt (by omega)
    rw [h1, h2, h3, h4]
    have e1 : decide (2 ^ (n.log2 + 2) < 2 * n) = false := by simp; omega
    have e2 : (2 ^ (n.log2 + 2) == 2 * n) = false := by simp; omega
    have e3 : decide (2 ^ d < 2 * n) = false := by simp; omega
    have e4 : (2 ^ d == 2 * n) = false := by simp; omega
    rw [e1, e2, e3, e4]

theorem cut_mono {n n' d : Nat} (h : n ≤ n') : Toward.even.cut false n d ≤ Toward.even.cut false n' d := by
  rw [cut_eq, cut_eq]
  have hg : 0 < 2 ^ d := Nat.two_pow_pos d
  generalize 2 ^ d = g at hg ⊢
  have hq : n / g ≤ n' / g := Nat.div_le_div_right h
  have b1 : (decide (g < 2 * (n % g)) || g == 2 * (n % g) && n / g % 2 == 1).toNat ≤ 1 := Bool.toNat_le _
  by_cases hc : n / g = n' / g
  · have d1 := Nat.div_add_mod n g
    have d2 := Nat.div_add_mod n' g
    rw [hc] at d1
    have hr : n % g ≤ n' % g := by omega
    rw [hc]
    generalize n % g = r at hr
    generalize n' % g = r' at hr
    generalize n' / g = q
    refine Nat.add_le_add_left ?_ _
    by_cases c1 : g < 2 * r'
    · have e : (decide (g < 2 * r') || g == 2 * r' && q % 2 == 1) = true := by simp [c1]
      rw [e]
      exact Bool.toNat_le _
    · by_cases c2 : g < 2 * r
      · omega
      · by_cases c3 : g = 2 * r
        · have : r = r' := by omega
          subst this
          exact Nat.le_refl _
        · have e : (decide (g < 2 * r) || g == 2 * r && q % 2 == 1) = false := by simp [c2, c3]
          rw [e]
          exact Nat.zero_le _
  · omega

/-- A power of two, as a number of the format. -/
theorem dec_pow (k : Nat) (hk : k ≤ 64) : Dec 4503599627370496 ((k : Int) - 52) ((k + 1023) * 4503599627370496) := ⟨by omega, by omega, by omega, by omega⟩
theorem pow_val (k : Nat) : 4503599627370496 * 2 ^ ex ((k : Int) - 52) = 2 ^ k * 2 ^ ex 0 := by
  rw [← p52, ← Nat.pow_add, ← Nat.pow_add]
  congr 1
  unfold ex
  omega

theorem nearest_mono {m m' : Nat} (h0 : m ≠ 0) (h : m ≤ m') (hm : m' < 2 ^ 64) : double.nearest false m 0 ≤ double.nearest false m' 0 := by
  have h0' : m' ≠ 0 := by omega
  by_cases hc : m.log2 = m'.log2
  · rw [nearest_eq m 0 h0, nearest_eq m' 0 h0', hc]
    have : Toward.even.cut false (m <<< ((0 : Int) - max (0 + (m'.log2 : Int) - 52) (-1074)).toNat) (max (0 + (m'.log2 : Int) - 52) (-1074) - 0).toNat ≤ Toward.even.cut false (m' <<< ((0 : Int) - max (0 + (m'.log2 : Int) - 52) (-1074)).toNat) (max (0 + (m'.log2 : Int) - 52) (-1074) - 0).toNat := by
      refine cut_mono ?_
      rw [shl_pow, shl_pow]
      exact Nat.mul_le_mul_right _ h
    omega
  · have hl : m.log2 < m'.log2 := by
      have h1 : m < 2 ^ (m'.log2 + 1) := Nat.lt_of_le_of_lt h (log2_lt m')
      have h2 : m.log2 < m'.log2 + 1 := (Nat.log2_lt h0).2 h1
      omega
    have hk : m'.log2 < 64 := (Nat.log2_lt h0').2 hm
    have D := dec_pow m'.log2 (by omega)
    have hv := pow_val m'.log2
    refine Nat.le_trans (nearest_le D h0 (by omega) ?_) (le_nearest D (by omega) h0' (by omega) ?_)
    · rw [hv]
      refine Nat.mul_le_mul_right _ (Nat.le_trans (Nat.le_of_lt (log2_lt m)) (Nat.pow_le_pow_right (by omega) (by omega)))
    · rw [hv]
      exact Nat.mul_le_mul_right _ (log2_le h0')

/-- A whole number below 2^53 is a number of the format. -/
theorem dec_int {m : Nat} (h0 : m ≠ 0) (h : m < 9007199254740992) : ∃ M P R, Dec M P R ∧ R < 9218868437227405312 ∧ M * 2 ^ ex P = m * 2 ^ ex 0 := by
  have hl : m.log2 < 53 := (Nat.log2_lt h0).2 (by rw [p53]; exact h)
  have e : 2 ^ m.log2 * 2 ^ (52 - m.log2) = 4503599627370496 := by rw [← Nat.pow_add, show m.log2 + (52 - m.log2) = 52 by omega, p52]
  have h1 : 4503599627370496 ≤ m * 2 ^ (52 - m.log2) := by rw [← e]; exact Nat.mul_le_mul_right _ (log2_le h0)
  have h2 : m * 2 ^ (52 - m.log2) < 9007199254740992 := by
    have e2 : 2 ^ (m.log2 + 1) * 2 ^ (52 - m.log2) = 9007199254740992 := by rw [Nat.pow_succ, Nat.mul_right_comm, e]
    rw [← e2]
    exact (Nat.mul_lt_mul_right (Nat.two_pow_pos _)).2 (log2_lt m)
  refine ⟨m * 2 ^ (52 - m.log2), (m.log2 : Int) - 52, (m.log2 + 1022) * 4503599627370496 + m * 2 ^ (52 - m.log2), ⟨by omega, h2, fun _ => h1, by omega⟩, by omega, ?_⟩
  rw [Nat.mul_assoc, ← Nat.pow_add]
  congr 2
  unfold ex
  omega

theorem int_fin {m : Nat} (h0 : m ≠ 0) (h : m < 2 ^ 64) : double.nearest false m 0 ≠ 0 ∧ double.nearest false m 0 < 9218868437227405312 := by
  have D0 := dec_pow 0 (by omega)
  have D1 := dec_pow 64 (by omega)
  have h1 := le_nearest D0 (by omega) h0 (by omega) (p := 0) (by rw [pow_val]; exact Nat.mul_le_mul_right _ (by omega))
  have h2 := nearest_le D1 h0 (by omega) (p := 0) (by rw [pow_val]; exact Nat.mul_le_mul_right _ (Nat.le_of_lt h))
  omega

/-! ### Quotients -/

theorem dec_hi {M P R} (D : Dec M P R) (h : R < 9218868437227405312) : P ≤ 971 := by
  obtain ⟨h1, h2, h3, h4⟩ := D
  by_cases hc : -1074 < P
  · have := h3 hc; omega
  · omega

/-- The quotient's own numbers. -/
def quoM (m n : Nat) : Nat := 54 + n.log2 - m.log2
def quoQ (m n : Nat) : Nat := 2 * (m * 2 ^ quoM m n / n) + (m * 2 ^ quoM m n % n != 0).toNat

theorem div_eq {x y m n : Nat} {i j : Int} (hx : double.read x = .number false m i) (hy : double.read y = .number false n j) (hn : n ≠ 0) :
    double.div x y = some (double.nearest false (quoQ m n) (i - j - quoM m n - 1)) := by
  unfold Format.div
  rw [hx, hy]
  simp only [Datum.quotient, hn, if_false, Option.map, Format.write, Bool.xor_self, shl_pow]
  rfl

theorem quo_big {m n : Nat} (hm : m ≠ 0) : 9007199254740992 * n ≤ m * 2 ^ quoM m n := by
  have h1 : 2 ^ (54 + n.log2) ≤ 2 ^ m.log2 * 2 ^ quoM m n := by
    rw [← Nat.pow_add]
    exact Nat.pow_le_pow_right (by omega) (by unfold quoM; omega)
  have h2 : 2 ^ m.log2 * 2 ^ quoM m n ≤ m * 2 ^ quoM m n := Nat.mul_le_mul_right _ (log2_le hm)
  have h3 : 9007199254740992 * n ≤ 2 ^ 53 * 2 ^ (n.log2 + 1) := by rw [p53]; exact Nat.mul_le_mul_left _ (Nat.le_of_lt (log2_lt n))
  have h4 : 2 ^ 53 * 2 ^ (n.log2 + 1) = 2 ^ (54 + n.log2) := by rw [← Nat.pow_add]; congr 1; omega
  omega

theorem quoQ_nz {m n : Nat} (hm : m ≠ 0) (hn : n ≠ 0) : 18014398509481984 ≤ quoQ m n := by
  have := (Nat.le_div_iff_mul_le (Nat.pos_of_ne_zero hn)).2 (quo_big (n := n) hm)
  unfold quoQ
  omega

theorem le_quot {m n t : Nat} {i j P : Int} (hm : m ≠ 0) (hn : n ≠ 0) (ht : t ≤ 8) (hi : -1074 ≤ i) (hj : -1074 ≤ j) (hi' : i ≤ 971) (hj' : j ≤ 971) (hP : -1074 ≤ P) (hnm : n.log2 ≤ 60)
    (H : t * (n * 2 ^ ex j) * 2 ^ ex P ≤ m * 2 ^ ex i * 2 ^ K3) : t * 2 ^ ex P ≤ quoQ m n * 2 ^ ex (i - j - quoM m n - 1) := by
  have hq : quoM m n ≤ 114 := by unfold quoM; omega
  by_cases hc : i - j - quoM m n ≤ P
  · obtain ⟨k, hk⟩ : ∃ k : Nat, P = i - j - quoM m n + k := ⟨(P - (i - j - quoM m n)).toNat, by omega⟩
    have e1 : ex j + ex P + quoM m n = ex i + K3 + k := by unfold ex K3; omega
    have h1 : t * 2 ^ k * n ≤ m * 2 ^ quoM m n := by
      have hpos : 0 < 2 ^ (ex i + K3) := Nat.two_pow_pos _
      refine Nat.le_of_mul_le_mul_right ?_ hpos
      calc t * 2 ^ k * n * 2 ^ (ex i + K3) = t * n * 2 ^ (ex i + K3 + k) := by rw [Nat.pow_add _ (ex i + K3) k]; ac_rfl
        _ = t * (n * 2 ^ ex j) * 2 ^ ex P * 2 ^ quoM m n := by rw [← e1, Nat.pow_add, Nat.pow_add]; ac_rfl
        _ ≤ m * 2 ^ ex i * 2 ^ K3 * 2 ^ quoM m n := Nat.mul_le_mul_right _ H
        _ = m * 2 ^ quoM m n * 2 ^ (ex i + K3) := by rw [Nat.pow_add]; generalize 2 ^ K3 = kk; ac_rfl
    have h2 := (Nat.le_div_iff_mul_le (Nat.pos_of_ne_zero hn)).2 h1
    have e2 : ex P = ex (i - j - quoM m n - 1) + (k + 1) := by unfold ex; omega
    rw [e2, Nat.pow_add, Nat.pow_succ]
    have h3 : t * 2 ^ k * 2 ≤ quoQ m n := by unfold quoQ; omega
    calc t * (2 ^ ex (i - j - quoM m n - 1) * (2 ^ k * 2)) = t * 2 ^ k * 2 * 2 ^ ex (i - j - quoM m n - 1) := by ac_rfl
      _ ≤ quoQ m n * 2 ^ ex (i - j - quoM m n - 1) := Nat.mul_le_mul_right _ h3
  · have h1 := quoQ_nz hm hn
    exact Nat.mul_le_mul (by omega) (Nat.pow_le_pow_right (by omega) (by unfold ex; omega))

theorem quot_le {m n t : Nat} {i j P : Int} (hm : m ≠ 0) (hn : n ≠ 0) (ht : t ≤ 8) (hi : -1074 ≤ i) (hj : -1074 ≤ j) (hi' : i ≤ 971) (hj' : j ≤ 971) (hP : -1074 ≤ P) (hnm : n.log2 ≤ 60)
    (H : m * 2 ^ ex i * 2 ^ K3 ≤ t * (n * 2 ^ ex j) * 2 ^ ex P) : quoQ m n * 2 ^ ex (i - j - quoM m n - 1) ≤ t * 2 ^ ex P := by
  have hq : quoM m n ≤ 114 := by unfold quoM; omega
  have hpos : 0 < 2 ^ (ex i + K3) := Nat.two_pow_pos _
  by_cases hc : i - j - quoM m n ≤ P
  · obtain ⟨k, hk⟩ : ∃ k : Nat, P = i - j - quoM m n + k := ⟨(P - (i - j - quoM m n)).toNat, by omega⟩
    have e1 : ex j + ex P + quoM m n = ex i + K3 + k := by unfold ex K3; omega
    have h1 : m * 2 ^ quoM m n ≤ t * 2 ^ k * n := by
      refine Nat.le_of_mul_le_mul_right ?_ hpos
      calc m * 2 ^ quoM m n * 2 ^ (ex i + K3) = m * 2 ^ ex i * 2 ^ K3 * 2 ^ quoM m n := by rw [Nat.pow_add]; generalize 2 ^ K3 = kk; ac_rfl
        _ ≤ t * (n * 2 ^ ex j) * 2 ^ ex P * 2 ^ quoM m n := Nat.mul_le_mul_right _ H
        _ = t * n * 2 ^ (ex i + K3 + k) := by rw [← e1, Nat.pow_add, Nat.pow_add]; ac_rfl
        _ = t * 2 ^ k * n * 2 ^ (ex i + K3) := by rw [Nat.pow_add _ (ex i + K3) k]; ac_rfl
    have e2 : ex P = ex (i - j - quoM m n - 1) + (k + 1) := by unfold ex; omega
    rw [e2, Nat.pow_add, Nat.pow_succ]
    have h3 : quoQ m n ≤ t * 2 ^ k * 2 := by
      unfold quoQ
      generalize m * 2 ^ quoM m n = X at h1
      generalize t * 2 ^ k = N at h1
      have hn0 : 0 < n := Nat.pos_of_ne_zero hn
      have h4 : X / n ≤ N := Nat.div_le_of_le_mul (by rw [Nat.mul_comm]; exact h1)
      have b := Bool.toNat_le (X % n != 0)
      by_cases h5 : X / n = N
      · have d := Nat.div_add_mod X n
        rw [h5, Nat.mul_comm] at d
        have h6 : X % n = 0 := by omega
        rw [h6, h5]
        simp
        omega
      · omega
    calc quoQ m n * 2 ^ ex (i - j - quoM m n - 1) ≤ t * 2 ^ k * 2 * 2 ^ ex (i - j - quoM m n - 1) := Nat.mul_le_mul_right _ h3
      _ = t * (2 ^ ex (i - j - quoM m n - 1) * (2 ^ k * 2)) := by ac_rfl
  · exfalso
    obtain ⟨s, hs⟩ : ∃ s : Nat, i - j - quoM m n = P + s := ⟨(i - j - quoM m n - P).toNat, by omega⟩
    have e1 : ex j + ex P + quoM m n + s = ex i + K3 := by unfold ex K3; omega
    have h1 : m * 2 ^ quoM m n ≤ t * n := by
      have hpos2 : 0 < 2 ^ (ex j + ex P) := Nat.two_pow_pos _
      refine Nat.le_of_mul_le_mul_right ?_ hpos2
      calc m * 2 ^ quoM m n * 2 ^ (ex j + ex P) = m * 2 ^ (ex j + ex P + quoM m n) := by rw [Nat.pow_add _ (ex j + ex P) (quoM m n)]; ac_rfl
        _ ≤ m * 2 ^ (ex i + K3) := Nat.mul_le_mul_left _ (Nat.pow_le_pow_right (by omega) (by omega))
        _ = m * 2 ^ ex i * 2 ^ K3 := by rw [Nat.pow_add, Nat.mul_assoc]
        _ ≤ t * (n * 2 ^ ex j) * 2 ^ ex P := H
        _ = t * n * 2 ^ (ex j + ex P) := by rw [Nat.pow_add]; ac_rfl
    have h2 := quo_big (n := n) hm
    have h3 : t * n ≤ 8 * n := Nat.mul_le_mul_right _ ht
    omega

end Go.Proofs.Qxb6003798a
