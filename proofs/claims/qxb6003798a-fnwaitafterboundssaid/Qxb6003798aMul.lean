/-
  Plain facts on the model's doubles, second part: what a word reads as; products; quotients; the order against a constant. No Go in sight.
-/
import Derived.Test.Qxb6003798aFloat
namespace Go.Proofs.Qxb6003798a
open Ieee

/-- A finite positive word. -/
theorem read_fin {r : Nat} (h : r < 9218868437227405312) : ∃ M P, double.read r = .number false M P ∧ Dec M P r := by
  have e1 : r / 9223372036854775808 % 2 = 0 := by omega
  have e2 : r % 9223372036854775808 = r := by omega
  unfold Format.read
  simp only [sw_eq, bin_eq, inf_eq, lp_eq, e1, e2]
  by_cases h1 : r < 4503599627370496
  · refine ⟨r, -1074, by simp [h1], ⟨by omega, by omega, by omega, by omega⟩⟩
  · refine ⟨4503599627370496 + r % 4503599627370496, -1074 + (r / 4503599627370496 - 1 : Nat), by simp [h1, h], ⟨by omega, by omega, by omega, by omega⟩⟩

theorem read_inf : double.read 9218868437227405312 = .infinity false := by decide

/-- The greater rung is the greater number. -/
theorem val_le {M P R M' P' R'} (D : Dec M P R) (D' : Dec M' P' R') (h : R ≤ R') : M * 2 ^ ex P ≤ M' * 2 ^ ex P' := by
  obtain ⟨hP, hM, hN, hR⟩ := D
  obtain ⟨hP', hM', hN', hR'⟩ := D'
  rcases Int.lt_trichotomy P P' with hc | hc | hc
  · obtain ⟨k, hk⟩ : ∃ k : Nat, P' = P + (k + 1 : Nat) := ⟨(P' - P - 1).toNat, by omega⟩
    have h1 := hN' (by omega)
    rw [hk, ex_add P (k + 1) (by omega), Nat.pow_add, Nat.pow_succ]
    have h3 : 1 ≤ 2 ^ k := Nat.one_le_two_pow
    calc M * 2 ^ ex P ≤ 9007199254740992 * 2 ^ ex P := Nat.mul_le_mul_right _ (Nat.le_of_lt hM)
      _ = 4503599627370496 * (2 ^ ex P * (1 * 2)) := by omega
      _ ≤ 4503599627370496 * (2 ^ ex P * (2 ^ k * 2)) := Nat.mul_le_mul_left _ (Nat.mul_le_mul_left _ (Nat.mul_le_mul_right _ h3))
      _ ≤ M' * (2 ^ ex P * (2 ^ k * 2)) := Nat.mul_le_mul_right _ h1
  · subst hc
    exact Nat.mul_le_mul_right _ (by omega)
  · have := hN (by omega)
    omega

theorem val_lt {M P R M' P' R'} (D : Dec M P R) (D' : Dec M' P' R') (h : R < R') : M * 2 ^ ex P < M' * 2 ^ ex P' := by
  obtain ⟨hP, hM, hN, hR⟩ := D
  obtain ⟨hP', hM', hN', hR'⟩ := D'
  have pos : ∀ k, 0 < 2 ^ k := fun k => Nat.two_pow_pos k
  rcases Int.lt_trichotomy P P' with hc | hc | hc
  · obtain ⟨k, hk⟩ : ∃ k : Nat, P' = P + (k + 1 : Nat) := ⟨(P' - P - 1).toNat, by omega⟩
    have h1 := hN' (by omega)
    rw [hk, ex_add P (k + 1) (by omega), Nat.pow_add, Nat.pow_succ]
    have h3 : 1 ≤ 2 ^ k := Nat.one_le_two_pow
    calc M * 2 ^ ex P < 9007199254740992 * 2 ^ ex P := (Nat.mul_lt_mul_right (pos _)).2 hM
      _ = 4503599627370496 * (2 ^ ex P * (1 * 2)) := by omega
      _ ≤ 4503599627370496 * (2 ^ ex P * (2 ^ k * 2)) := Nat.mul_le_mul_left _ (Nat.mul_le_mul_left _ (Nat.mul_le_mul_right _ h3))
      _ ≤ M' * (2 ^ ex P * (2 ^ k * 2)) := Nat.mul_le_mul_right _ h1
  · subst hc
    exact (Nat.mul_lt_mul_right (pos _)).2 (by omega)
  · have := hN (by omega)
    omega

/-! ### The test against the constant -/

theorem decC : Dec 4835703278458517 (-82) 4472406533629990549 := ⟨by omega, by omega, by omega, by omega⟩
theorem dec_one : Dec 4503599627370496 (-52) 4607182418800017408 := ⟨by omega, by omega, by omega, by omega⟩
theorem dec_p16 : Dec 4503599627370496 (-68) 4535124824762089472 := ⟨by omega, by omega, by omega, by omega⟩
theorem dec_p32 : Dec 4503599627370496 (-84) 4463067230724161536 := ⟨by omega, by omega, by omega, by omega⟩
theorem dec_p9 : Dec 4503599627370496 (-61) 4566650022153682944 := ⟨by omega, by omega, by omega, by omega⟩
theorem dec_p18 : Dec 4503599627370496 (-70) 4526117625507348480 := ⟨by omega, by omega, by omega, by omega⟩
theorem dec_p36 : Dec 4503599627370496 (-88) 4445052832214679552 := ⟨by omega, by omega, by omega, by omega⟩
theorem dec_f1 : Dec 5629499534213120 (-56) 4590293920197378048 := ⟨by omega, by omega, by omega, by omega⟩
theorem dec_f2 : Dec 7036874417766400 (-60) 4573686896571449344 := ⟨by omega, by omega, by omega, by omega⟩
theorem dec_f3 : Dec 5497558138880000 (-67) 4540622382900969472 := ⟨by omega, by omega, by omega, by omega⟩
theorem dec_f4 : Dec 8589934592000000 (-75) 4507685962335125504 := ⟨by omega, by omega, by omega, by omega⟩
theorem dec_f5 : Dec 6710886400000000 (-82) 4474281716751532032 := ⟨by omega, by omega, by omega, by omega⟩

theorem ex_sub {p b : Int} (hb : -3000 ≤ b) (h : b ≤ p) : ex p = (p - b).toNat + ex b := by unfold ex; omega

theorem cmp_shift {m n : Nat} {i j : Int} (hi : -3000 ≤ i) (hj : -3000 ≤ j) :
    (compare (signed false m (i - min i j).toNat) (signed false n (j - min i j).toNat) == Ordering.gt) = decide (n * 2 ^ ex j < m * 2 ^ ex i) := by
  have e1 := ex_sub (p := i) (b := min i j) (by omega) (by omega)
  have e2 := ex_sub (p := j) (b := min i j) (by omega) (by omega)
  have hpos : 0 < 2 ^ ex (min i j) := Nat.two_pow_pos _
  have e3 : (n * 2 ^ ex j < m * 2 ^ ex i) ↔ (n * 2 ^ (j - min i j).toNat < m * 2 ^ (i - min i j).toNat) := by
    rw [e1, e2, Nat.pow_add, Nat.pow_add, ← Nat.mul_assoc, ← Nat.mul_assoc]
    exact Nat.mul_lt_mul_right hpos
  simp only [signed, Bool.false_eq_true, if_false, shl_pow]
  rw [Bool.eq_iff_iff, decide_eq_true_eq, e3]
  generalize n * 2 ^ (j - min i j).toNat = x
  generalize m * 2 ^ (i - min i j).toNat = y
  rw [beq_iff_eq, Int.compare_eq_gt]
  omega

/-- 'chance > 1e-9', by the rungs. -/
theorem gt_iff {a : Nat} (ha : a ≤ 9218868437227405312) : (double.order a 4472406533629990549 == some .gt) = decide (4472406533629990549 < a) := by
  obtain ⟨MC, PC, hC, DC⟩ := read_fin (r := 4472406533629990549) (by omega)
  rcases Nat.lt_or_ge a 9218868437227405312 with h | h
  · obtain ⟨M, P, hr, D⟩ := read_fin h
    unfold Format.order
    rw [hr, hC]
    simp only [Datum.order]
    have e := cmp_shift (m := M) (n := MC) (i := P) (j := PC) (by have := D.hP; omega) (by have := DC.hP; omega)
    have e' : ∀ o : Ordering, ((some o == some Ordering.gt) : Bool) = (o == Ordering.gt) := fun o => rfl
    rw [e', e]
    by_cases hc : 4472406533629990549 < a
    · simp only [hc, decide_true, decide_eq_true_eq]
      exact val_lt DC D hc
    · simp only [hc, decide_false, decide_eq_false_iff_not]
      have := val_le D DC (by omega)
      omega
  · have : a = 9218868437227405312 := by omega
    subst this
    unfold Format.order
    rw [read_inf, hC]
    rfl

/-! ### Products -/

theorem dec_nz {M P R} (D : Dec M P R) (h : R ≠ 0) : M ≠ 0 := by
  have := D.hR; have := D.hP; have := D.hN; omega

/-- A product of two positive words. -/
theorem mul_some {a b : Nat} (ha : a ≤ 9218868437227405312) (hb : b ≤ 9218868437227405312) (a0 : a ≠ 0) (b0 : b ≠ 0) : ∃ c, double.mul a b = some c ∧ c ≤ 9218868437227405312 := by
  unfold Format.mul
  have winf : double.word false double.infRung = 9218868437227405312 := by decide
  rcases Nat.lt_or_ge a 9218868437227405312 with h | h
  · obtain ⟨M, P, hr, D⟩ := read_fin h
    have hM := dec_nz D a0
    rcases Nat.lt_or_ge b 9218868437227405312 with k | k
    · obtain ⟨N, Q, hs, D'⟩ := read_fin k
      have hN := dec_nz D' b0
      rw [hr, hs]
      exact ⟨_, rfl, nearest_inf _ _ (Nat.mul_ne_zero hM hN)⟩
    · have : b = 9218868437227405312 := by omega
      subst this
      rw [hr, read_inf]
      simp only [Datum.product, hM, if_false, Option.map, Format.write]
      exact ⟨_, rfl, by rw [show (false ^^ false) = false from rfl, winf]; exact Nat.le_refl _⟩
  · have : a = 9218868437227405312 := by omega
    subst this
    rcases Nat.lt_or_ge b 9218868437227405312 with k | k
    · obtain ⟨N, Q, hs, D'⟩ := read_fin k
      have hN := dec_nz D' b0
      rw [hs, read_inf]
      simp only [Datum.product, hN, if_false, Option.map, Format.write]
      exact ⟨_, rfl, by rw [show (false ^^ false) = false from rfl, winf]; exact Nat.le_refl _⟩
    · have : b = 9218868437227405312 := by omega
      subst this
      rw [read_inf]
      exact ⟨_, rfl, by decide⟩

/-- The scale (a plain number behind a name: no tactic is to reckon 2 to its power). -/
def K3 : Nat := 3000

theorem ex_prod {P Q : Int} (hP : -1074 ≤ P) (hQ : -1074 ≤ Q) : ex P + ex Q = ex (P + Q) + K3 := by unfold ex K3; omega

theorem mul_ge {a b : Nat} (ha : a ≤ 9218868437227405312) (hb : b ≤ 9218868437227405312) (a0 : a ≠ 0) (b0 : b ≠ 0) {Ma Pa Ra Mb Pb Rb Mc Pc Rc} (Da : Dec Ma Pa Ra) (Db : Dec Mb Pb Rb) (Dc : Dec Mc Pc Rc) (hc : Rc ≤ 9218868437227405312) (hra : Ra ≤ a) (hrb : Rb ≤ b)
    (h : Mc * 2 ^ ex Pc * 2 ^ K3 ≤ (Ma * 2 ^ ex Pa) * (Mb * 2 ^ ex Pb)) {c : Nat} (hm : double.mul a b = some c) : Rc ≤ c := by
  unfold Format.mul at hm
  have winf : double.word false double.infRung = 9218868437227405312 := by decide
  rcases Nat.lt_or_ge a 9218868437227405312 with h1 | h1
  · obtain ⟨M, P, hr, D⟩ := read_fin h1
    have hM := dec_nz D a0
    rcases Nat.lt_or_ge b 9218868437227405312 with k | k
    · obtain ⟨N, Q, hs, D'⟩ := read_fin k
      have hN := dec_nz D' b0
      rw [hr, hs] at hm
      simp only [Datum.product, Option.map, Format.write, Option.some.injEq, Bool.xor_self] at hm
      subst hm
      have hP := D.hP
      have hQ := D'.hP
      refine le_nearest Dc hc (Nat.mul_ne_zero hM hN) (by omega) ?_
      have v1 := val_le Da D hra
      have v2 := val_le Db D' hrb
      have hpos : 0 < 2 ^ K3 := Nat.two_pow_pos _
      refine Nat.le_of_mul_le_mul_right ?_ hpos
      refine Nat.le_trans h (Nat.le_trans (Nat.mul_le_mul v1 v2) (Nat.le_of_eq ?_))
      rw [Nat.mul_assoc (M * N), ← Nat.pow_add, ← ex_prod hP hQ, Nat.pow_add, Nat.mul_mul_mul_comm]
    · have : b = 9218868437227405312 := by omega
      subst this
      rw [hr, read_inf] at hm
      simp only [Datum.product, hM, if_false, Option.map, Format.write, Bool.xor_self, winf, Option.some.injEq] at hm
      omega
  · have : a = 9218868437227405312 := by omega
    subst this
    rcases Nat.lt_or_ge b 9218868437227405312 with k | k
    · obtain ⟨N, Q, hs, D'⟩ := read_fin k
      have hN := dec_nz D' b0
      rw [hs, read_inf] at hm
      simp only [Datum.product, hN, if_false, Option.map, Format.write, Bool.xor_self, winf, Option.some.injEq] at hm
      omega
    · have : b = 9218868437227405312 := by omega
      subst this
      rw [read_inf] at hm
      simp only [Datum.product, Option.map, Format.write, Bool.xor_self, winf, Option.some.injEq] at hm
      omega

theorem mul_le {a b : Nat} (a0 : a ≠ 0) (b0 : b ≠ 0) {Ma Pa Ra Mb Pb Rb Mc Pc Rc} (Da : Dec Ma Pa Ra) (Db : Dec Mb Pb Rb) (Dc : Dec Mc Pc Rc) (hra : a ≤ Ra) (hrb : b ≤ Rb) (fa : Ra < 9218868437227405312) (fb : Rb < 9218868437227405312)
    (h : (Ma * 2 ^ ex Pa) * (Mb * 2 ^ ex Pb) ≤ Mc * 2 ^ ex Pc * 2 ^ K3) {c : Nat} (hm : double.mul a b = some c) : c ≤ Rc := by
  unfold Format.mul at hm
  obtain ⟨M, P, hr, D⟩ := read_fin (Nat.lt_of_le_of_lt hra fa)
  have hM := dec_nz D a0
  obtain ⟨N, Q, hs, D'⟩ := read_fin (Nat.lt_of_le_of_lt hrb fb)
  have hN := dec_nz D' b0
  rw [hr, hs] at hm
  simp only [Datum.product, Option.map, Format.write, Option.some.injEq, Bool.xor_self] at hm
  subst hm
  have hP := D.hP
  have hQ := D'.hP
  refine nearest_le Dc (Nat.mul_ne_zero hM hN) (by omega) ?_
  have v1 := val_le D Da hra
  have v2 := val_le D' Db hrb
  have hpos : 0 < 2 ^ K3 := Nat.two_pow_pos _
  refine Nat.le_of_mul_le_mul_right ?_ hpos
  refine Nat.le_trans (Nat.le_of_eq ?_) (Nat.le_trans (Nat.mul_le_mul v1 v2) h)
  rw [Nat.mul_assoc (M * N), ← Nat.pow_add, ← ex_prod hP hQ, Nat.pow_add, Nat.mul_mul_mul_comm]

end Go.Proofs.Qxb6003798a
