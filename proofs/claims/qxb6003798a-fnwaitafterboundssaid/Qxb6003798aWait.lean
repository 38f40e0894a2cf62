/-
  The plain law of waitAfter: what the loop's answer must be. No Go in sight.
-/
import Derived.Test.Qxb6003798aDiv
namespace Go.Proofs.Qxb6003798a
open Ieee

/-- The word of a whole number. -/
def wd (n : Nat) : Nat := double.nearest false n 0
def share (m e : Nat) : Nat := (double.div (wd m) (wd e)).getD 0
def unh (m e : Nat) : Nat := (double.mul (share m e) (share m e)).getD 0
/-- The chance after k rounds. -/
def ch (u : Nat) : Nat → Nat
  | 0 => u
  | k + 1 => (double.mul (ch u k) u).getD 0

theorem ex0 : ex 0 = K3 := rfl

theorem val_int {m : Nat} (h0 : m ≠ 0) (h : m < 9007199254740992) {M i} (D : Dec M i (wd m)) : M * 2 ^ ex i = m * 2 ^ ex 0 := by
  obtain ⟨M', P', R', D', hR', hv⟩ := dec_int h0 h
  have h1 : wd m ≤ R' := nearest_le D' h0 (by omega) (Nat.le_of_eq hv.symm)
  have h2 : R' ≤ wd m := le_nearest D' (by omega) h0 (by omega) (Nat.le_of_eq hv)
  have e : wd m = R' := by omega
  rw [e] at D
  rw [← hv]
  exact Nat.le_antisymm (val_le D D' (Nat.le_refl _)) (val_le D' D (Nat.le_refl _))

theorem val_ge {m : Nat} (h0 : m ≠ 0) (h : m < 9007199254740992) (s : Nat) (hs : s ≤ 16) {e : Nat} (he : m * 2 ^ s ≤ e) {N j} (D : Dec N j (wd e)) : m * 2 ^ s * 2 ^ ex 0 ≤ N * 2 ^ ex j := by
  obtain ⟨M', P', R', D', hR', hv⟩ := dec_int h0 h
  have hnz := dec_nz (R := R') D' (fun e0 => by
    subst e0
    have h1 : M' = 0 := by have := D'.hR; have := D'.hP; have := D'.hN; omega
    rw [h1] at hv
    have : 0 < m * 2 ^ ex 0 := Nat.mul_pos (by omega) (Nat.two_pow_pos _)
    omega)
  by_cases hn : -1074 < P'
  · have D2 : Dec M' (P' + s) (R' + s * 4503599627370496) := by
      have := D'.hM; have := D'.hN hn; have := D'.hR
      exact ⟨by omega, by omega, by omega, by omega⟩
    have hv2 : M' * 2 ^ ex (P' + s) = m * 2 ^ s * 2 ^ ex 0 := by
      rw [ex_add P' s (by omega), Nat.pow_add, ← Nat.mul_assoc, hv]
      generalize 2 ^ ex 0 = b
      ac_rfl
    have e0 : e ≠ 0 := by
      have : 0 < m * 2 ^ s := Nat.mul_pos (by omega) (Nat.two_pow_pos _)
      omega
    have hP := dec_hi D' hR'
    have hle : R' + s * 4503599627370496 ≤ wd e := le_nearest D2 (by
      have := D'.hM; have := D'.hR
      have hb : P' ≤ 52 := by
        rcases Int.lt_or_le 52 P' with hb | hb
        · exfalso
          have hm : 4503599627370496 ≤ M' := D'.hN hn
          have h1 : m * 2 ^ ex 0 < 9007199254740992 * 2 ^ ex 0 := (Nat.mul_lt_mul_right (Nat.two_pow_pos _)).2 h
          have h2 : 4503599627370496 * 2 ^ ex P' ≤ M' * 2 ^ ex P' := Nat.mul_le_mul_right _ hm
          have h3 : 2 ^ (ex 0 + 53) ≤ 2 ^ ex P' := Nat.pow_le_pow_right (by omega) (by unfold ex; omega)
          rw [Nat.pow_add, p53] at h3
          have h4 : 1 ≤ 2 ^ ex 0 := Nat.one_le_two_pow
          have h5 : 2 ^ ex P' ≤ 4503599627370496 * 2 ^ ex P' := Nat.le_mul_of_pos_left _ (by omega)
          rw [hv] at h2
          have h6 : 2 ^ ex 0 * 9007199254740992 = 9007199254740992 * 2 ^ ex 0 := Nat.mul_comm _ _
          omega
        · exact hb
      omega) e0 (by omega) (by rw [hv2]; exact Nat.mul_le_mul_right _ he)
    rw [← hv2]
    exact val_le D2 D hle
  · exfalso
    have hP' : P' = -1074 := by have := D'.hP; omega
    have h1 : M' * 2 ^ ex P' < 9007199254740992 * 2 ^ ex P' := (Nat.mul_lt_mul_right (Nat.two_pow_pos _)).2 D'.hM
    have h2 : 2 ^ (ex P' + 53) ≤ 2 ^ ex 0 := Nat.pow_le_pow_right (by omega) (by rw [hP']; decide)
    rw [Nat.pow_add, p53] at h2
    have h3 : 1 * 2 ^ ex 0 ≤ m * 2 ^ ex 0 := Nat.mul_le_mul_right _ (by omega)
    have h6 : 2 ^ ex P' * 9007199254740992 = 9007199254740992 * 2 ^ ex P' := Nat.mul_comm _ _
    omega

/-- A quotient of two whole numbers, as words. -/
theorem share_num {m e : Nat} (hm : m ≠ 0) (hm' : m < 2 ^ 64) (he : e ≠ 0) (he' : e < 2 ^ 64) :
    ∃ M i N j, Dec M i (wd m) ∧ Dec N j (wd e) ∧ M ≠ 0 ∧ N ≠ 0 ∧ i ≤ 971 ∧ j ≤ 971 ∧ N.log2 ≤ 60 ∧ double.div (wd m) (wd e) = some (double.nearest false (quoQ M N) (i - j - quoM M N - 1)) := by
  obtain ⟨x0, x1⟩ := int_fin hm hm'
  obtain ⟨y0, y1⟩ := int_fin he he'
  obtain ⟨M, i, hr, D⟩ := read_fin x1
  obtain ⟨N, j, hs, D'⟩ := read_fin y1
  have hM := dec_nz D x0
  have hN := dec_nz D' y0
  refine ⟨M, i, N, j, D, D', hM, hN, dec_hi D x1, dec_hi D' y1, ?_, div_eq hr hs hN⟩
  have : N.log2 < 53 := (Nat.log2_lt hN).2 (by rw [p53]; exact D'.hM)
  omega

theorem quoQ_ne {m n : Nat} (hm : m ≠ 0) (hn : n ≠ 0) : quoQ m n ≠ 0 := by have := quoQ_nz hm hn; omega

theorem share_ge {m e : Nat} (hm : m ≠ 0) (hm' : m < 2 ^ 64) (he : e ≠ 0) (he' : e < 2 ^ 64) {t : Nat} {P : Int} {Mc Pc Rc} (Dc : Dec Mc Pc Rc) (hc : Rc ≤ 9218868437227405312) (ht : t ≤ 8) (hP : -1074 ≤ P) (hT : Mc * 2 ^ ex Pc = t * 2 ^ ex P)
    (H : ∀ M i N j, Dec M i (wd m) → Dec N j (wd e) → t * (N * 2 ^ ex j) * 2 ^ ex P ≤ M * 2 ^ ex i * 2 ^ K3) : Rc ≤ share m e := by
  obtain ⟨M, i, N, j, D, D', hM, hN, hi, hj, hl, hd⟩ := share_num hm hm' he he'
  have h1 := D.hP
  have h2 := D'.hP
  have hq : quoM M N ≤ 114 := by unfold quoM; omega
  unfold share
  rw [hd]
  exact le_nearest Dc hc (quoQ_ne hM hN) (by omega) (by rw [hT]; exact le_quot hM hN ht h1 h2 hi hj hP hl (H _ _ _ _ D D'))

theorem share_le {m e : Nat} (hm : m ≠ 0) (hm' : m < 2 ^ 64) (he : e ≠ 0) (he' : e < 2 ^ 64) {t : Nat} {P : Int} {Mc Pc Rc} (Dc : Dec Mc Pc Rc) (ht : t ≤ 8) (hP : -1074 ≤ P) (hT : Mc * 2 ^ ex Pc = t * 2 ^ ex P)
    (H : ∀ M i N j, Dec M i (wd m) → Dec N j (wd e) → M * 2 ^ ex i * 2 ^ K3 ≤ t * (N * 2 ^ ex j) * 2 ^ ex P) : share m e ≤ Rc := by
  obtain ⟨M, i, N, j, D, D', hM, hN, hi, hj, hl, hd⟩ := share_num hm hm' he he'
  have h1 := D.hP
  have h2 := D'.hP
  have hq : quoM M N ≤ 114 := by unfold quoM; omega
  unfold share
  rw [hd]
  exact nearest_le Dc (quoQ_ne hM hN) (by omega) (by rw [hT]; exact quot_le hM hN ht h1 h2 hi hj hP hl (H _ _ _ _ D D'))

theorem wd_zero : wd 0 = 0 := by decide

theorem share_zero {m : Nat} (hm : m ≠ 0) (hm' : m < 2 ^ 64) : double.div (wd m) (wd 0) = some 9218868437227405312 := by
  obtain ⟨x0, x1⟩ := int_fin hm hm'
  obtain ⟨M, i, hr, D⟩ := read_fin x1
  have hM := dec_nz D x0
  unfold Format.div
  have h0 : double.read (wd 0) = .number false 0 (-1074) := by decide
  have hr' : double.read (wd m) = .number false M i := hr
  rw [hr', h0]
  simp only [Datum.quotient, hM, if_true, if_false, Option.map, Format.write, Bool.xor_self]
  rfl

theorem dec_p65 : Dec 4503599627370496 (-117) (958 * 4503599627370496) := ⟨by omega, by omega, by omega, by omega⟩
theorem dec_p130 : Dec 4503599627370496 (-182) (893 * 4503599627370496) := ⟨by omega, by omega, by omega, by omega⟩

/-- The share is a positive word. -/
theorem share_ok {m e : Nat} (hm : m ≠ 0) (hm' : m < 2 ^ 64) (he' : e < 2 ^ 64) : double.div (wd m) (wd e) = some (share m e) ∧ share m e ≤ 9218868437227405312 ∧ 958 * 4503599627370496 ≤ share m e := by
  by_cases he : e = 0
  · subst he
    have h := share_zero hm hm'
    have hs : share m 0 = 9218868437227405312 := by unfold share; rw [h]; rfl
    rw [hs]
    exact ⟨h, Nat.le_refl _, by omega⟩
  · obtain ⟨M, i, N, j, D, D', hM, hN, hi, hj, hl, hd⟩ := share_num hm hm' he he'
    refine ⟨by unfold share; rw [hd]; rfl, ?_, ?_⟩
    · unfold share
      rw [hd]
      exact nearest_inf _ _ (quoQ_ne hM hN)
    · refine share_ge hm hm' he he' dec_p65 (by omega) (t := 1) (P := -65) (by omega) (by omega) (by decide +kernel) ?_
      intro M i N j D D'
      have hy : N * 2 ^ ex j ≤ 2 ^ 64 * 2 ^ ex 0 := by
        have D1 := dec_pow 64 (by omega)
        have h2 : wd e ≤ (64 + 1023) * 4503599627370496 := nearest_le D1 he (by omega) (p := 0) (by rw [pow_val]; exact Nat.mul_le_mul_right _ (Nat.le_of_lt he'))
        rw [← pow_val 64]
        exact val_le D' D1 h2
      have hx : 1 * 2 ^ ex 0 ≤ M * 2 ^ ex i := by
        have D0 := dec_pow 0 (by omega)
        have h1 : (0 + 1023) * 4503599627370496 ≤ wd m := le_nearest D0 (by omega) hm (by omega) (p := 0) (by rw [pow_val]; exact Nat.mul_le_mul_right _ (by omega))
        have := val_le D0 D h1
        rw [pow_val 0, Nat.pow_zero] at this
        exact this
      refine Nat.le_trans (Nat.mul_le_mul_right _ (Nat.mul_le_mul_left 1 hy)) (Nat.le_trans ?_ (Nat.mul_le_mul_right _ hx))
      decide +kernel

/-- So is its square. -/
theorem unh_ok {m e : Nat} (hm : m ≠ 0) (hm' : m < 2 ^ 64) (he' : e < 2 ^ 64) : double.mul (share m e) (share m e) = some (unh m e) ∧ unh m e ≤ 9218868437227405312 ∧ unh m e ≠ 0 := by
  obtain ⟨_, h1, h2⟩ := share_ok hm hm' he'
  obtain ⟨c, hc, hci⟩ := mul_some h1 h1 (by omega) (by omega)
  have hu : unh m e = c := by unfold unh; rw [hc]; rfl
  have := mul_ge h1 h1 (by omega) (by omega) dec_p65 dec_p65 dec_p130 (by omega) h2 h2 (by decide +kernel) hc
  rw [hu]
  exact ⟨hc, hci, by omega⟩

/-- A round's product. -/
theorem ch_ok {u : Nat} (hu : u ≤ 9218868437227405312) (u0 : u ≠ 0) {k : Nat} (hk : ch u k ≤ 9218868437227405312) (hk0 : ch u k ≠ 0) : double.mul (ch u k) u = some (ch u (k + 1)) ∧ ch u (k + 1) ≤ 9218868437227405312 := by
  obtain ⟨c, hc, hci⟩ := mul_some hk hu hk0 u0
  have e : ch u (k + 1) = c := by simp only [ch]; rw [hc]; rfl
  rw [e]
  exact ⟨hc, hci⟩

/-- What the loop's answer is known to be. -/
structure Answer (m e w : Nat) : Prop where
  le : w ≤ 1024
  all : ∀ j, j < w → 4472406533629990549 < ch (unh m e) j
  stop : w = 1024 ∨ ch (unh m e) w ≤ 4472406533629990549

theorem ans_full {m e w : Nat} (A : Answer m e w) (hm : m ≠ 0) (hm' : m < 2 ^ 64) (he' : e < 2 ^ 64) (h : e ≤ m) : w = 1024 := by
  obtain ⟨_, s1, s2⟩ := share_ok hm hm' he'
  have hs : 4607182418800017408 ≤ share m e := by
    by_cases he : e = 0
    · subst he
      have hh := share_zero hm hm'
      unfold share
      rw [hh]
      decide
    · refine share_ge hm hm' he he' dec_one (by omega) (t := 1) (P := 0) (by omega) (by omega) (by decide +kernel) ?_
      intro M i N j D D'
      have := val_le D' D (nearest_mono he h hm')
      rw [ex0, Nat.one_mul]
      exact Nat.mul_le_mul_right _ this
  obtain ⟨u1, u2, u3⟩ := unh_ok hm hm' he'
  have hu : 4607182418800017408 ≤ unh m e := mul_ge s1 s1 (by omega) (by omega) dec_one dec_one dec_one (by omega) hs hs (by decide +kernel) u1
  have hall : ∀ k, 4607182418800017408 ≤ ch (unh m e) k ∧ ch (unh m e) k ≤ 9218868437227405312 := by
    intro k
    induction k with
    | zero => exact ⟨hu, u2⟩
    | succ k ih =>
      obtain ⟨c1, c2⟩ := ch_ok u2 u3 ih.2 (by omega)
      exact ⟨mul_ge ih.2 u2 (by omega) u3 dec_one dec_one dec_one (by omega) ih.1 hu (by decide +kernel) c1, c2⟩
  rcases A.stop with h1 | h1
  · exact h1
  · have := (hall w).1
    omega

theorem ans_zero {m e w : Nat} (A : Answer m e w) (hm : m ≠ 0) (hm' : m ≤ 1099511627776) (he' : e < 2 ^ 64) (h : m * 100000 ≤ e) : w = 0 := by
  have hs : share m e ≤ 4535124824762089472 := by
    refine share_le hm (by omega) (by omega) he' dec_p16 (t := 1) (P := -16) (by omega) (by omega) (by decide +kernel) ?_
    intro M i N j D D'
    have v1 := val_int hm (by omega) D
    have v2 := val_ge hm (by omega) 16 (by omega) (e := e) (Nat.le_trans (Nat.mul_le_mul_left m (by decide : 2 ^ 16 ≤ 100000)) h) D'
    rw [v1]
    refine Nat.le_trans (Nat.le_of_eq ?_) (Nat.mul_le_mul_right _ (Nat.mul_le_mul_left 1 v2))
    have e1 : 2 ^ K3 = 2 ^ 16 * 2 ^ ex (-16) := by decide +kernel
    rw [e1]
    generalize 2 ^ ex (-16) = a
    generalize 2 ^ ex 0 = b
    ac_rfl
  obtain ⟨_, s1, s2⟩ := share_ok hm (by omega) he'
  obtain ⟨u1, u2, u3⟩ := unh_ok hm (by omega) he'
  have hu := mul_le (by omega) (by omega) dec_p16 dec_p16 dec_p32 hs hs (by omega) (by omega) (by decide +kernel) u1
  rcases Nat.eq_zero_or_pos w with h0 | h0
  · exact h0
  · have : 4472406533629990549 < unh m e := A.all 0 h0
    omega

theorem ans_one {m e w : Nat} (A : Answer m e w) (hm : m ≠ 0) (hm' : m ≤ 1099511627776) (he' : e < 2 ^ 64) (h : m * 1000 ≤ e) : w ≤ 1 := by
  have hs : share m e ≤ 4566650022153682944 := by
    refine share_le hm (by omega) (by omega) he' dec_p9 (t := 1) (P := -9) (by omega) (by omega) (by decide +kernel) ?_
    intro M i N j D D'
    have v1 := val_int hm (by omega) D
    have v2 := val_ge hm (by omega) 9 (by omega) (e := e) (Nat.le_trans (Nat.mul_le_mul_left m (by decide : 2 ^ 9 ≤ 1000)) h) D'
    rw [v1]
    refine Nat.le_trans (Nat.le_of_eq ?_) (Nat.mul_le_mul_right _ (Nat.mul_le_mul_left 1 v2))
    have e1 : 2 ^ K3 = 2 ^ 9 * 2 ^ ex (-9) := by decide +kernel
    rw [e1]
    generalize 2 ^ ex (-9) = a
    generalize 2 ^ ex 0 = b
    ac_rfl
  obtain ⟨_, s1, s2⟩ := share_ok hm (by omega) he'
  obtain ⟨u1, u2, u3⟩ := unh_ok hm (by omega) he'
  have hu := mul_le (by omega) (by omega) dec_p9 dec_p9 dec_p18 hs hs (by omega) (by omega) (by decide +kernel) u1
  obtain ⟨c1, _⟩ := ch_ok (u := unh m e) (k := 0) u2 u3 u2 u3
  have hc := mul_le u3 u3 dec_p18 dec_p18 dec_p36 hu hu (by omega) (by omega) (by decide +kernel) c1
  rcases Nat.lt_or_ge 1 w with h0 | h0
  · have := A.all 1 h0
    have e0 : ch (unh m e) (0 + 1) = ch (unh m e) 1 := rfl
    rw [e0] at hc
    omega
  · exact h0

theorem ans_four {m e w : Nat} (A : Answer m e w) (hm : m ≠ 0) (hm' : m ≤ 1099511627776) (he' : e < 2 ^ 64) (he : e ≠ 0) (h : e ≤ 10 * m) : 4 ≤ w := by
  have hs : 4590293920197378048 ≤ share m e := by
    refine share_ge hm (by omega) he he' dec_f1 (by omega) (t := 5) (P := -6) (by omega) (by omega) (by decide +kernel) ?_
    intro M i N j D D'
    have v1 := val_int hm (by omega) D
    have v2 : N * 2 ^ ex j ≤ 12 * m * 2 ^ ex 0 := by
      obtain ⟨M', P', R', D2, hR', hv⟩ := dec_int (m := 12 * m) (by omega) (by omega)
      rw [← hv]
      refine val_le D' D2 (nearest_le D2 he (by omega) ?_)
      rw [hv]
      exact Nat.mul_le_mul_right _ (by omega)
    rw [v1]
    refine Nat.le_trans (Nat.mul_le_mul_right _ (Nat.mul_le_mul_left 5 v2)) ?_
    have e1 : 2 ^ K3 = 64 * 2 ^ ex (-6) := by decide +kernel
    rw [e1]
    generalize 2 ^ ex (-6) = a
    generalize 2 ^ ex 0 = b
    calc 5 * (12 * m * b) * a = 60 * (m * b * a) := by
          rw [show 5 * (12 * m * b) = 60 * (m * b) by rw [Nat.mul_assoc 12, ← Nat.mul_assoc 5]]
          rw [Nat.mul_assoc]
      _ ≤ 64 * (m * b * a) := Nat.mul_le_mul_right _ (by omega)
      _ = m * b * (64 * a) := by ac_rfl
  obtain ⟨_, s1, s2⟩ := share_ok hm (by omega) he'
  obtain ⟨u1, u2, u3⟩ := unh_ok hm (by omega) he'
  have hu := mul_ge s1 s1 (by omega) (by omega) dec_f1 dec_f1 dec_f2 (by omega) hs hs (by decide +kernel) u1
  obtain ⟨c1, i1⟩ := ch_ok (u := unh m e) (k := 0) u2 u3 u2 u3
  have h1 := mul_ge u2 u2 u3 u3 dec_f2 dec_f2 dec_f3 (by omega) hu hu (by decide +kernel) c1
  obtain ⟨c2, i2⟩ := ch_ok (u := unh m e) (k := 0 + 1) u2 u3 i1 (by omega)
  have h2 := mul_ge i1 u2 (by omega) u3 dec_f3 dec_f2 dec_f4 (by omega) h1 hu (by decide +kernel) c2
  obtain ⟨c3, i3⟩ := ch_ok (u := unh m e) (k := 0 + 1 + 1) u2 u3 i2 (by omega)
  have h3 := mul_ge i2 u2 (by omega) u3 dec_f4 dec_f2 dec_f5 (by omega) h2 hu (by decide +kernel) c3
  rcases Nat.lt_or_ge w 4 with h0 | h0
  · exfalso
    rcases A.stop with h4 | h4
    · omega
    · match w, h0, h4 with
      | 0, _, h4 => have e0 : ch (unh m e) 0 = unh m e := rfl; rw [e0] at h4; omega
      | 1, _, h4 => have e0 : ch (unh m e) (0 + 1) = ch (unh m e) 1 := rfl; rw [e0] at h1; omega
      | 2, _, h4 => have e0 : ch (unh m e) (0 + 1 + 1) = ch (unh m e) 2 := rfl; rw [e0] at h2; omega
      | 3, _, h4 => have e0 : ch (unh m e) (0 + 1 + 1 + 1) = ch (unh m e) 3 := rfl; rw [e0] at h3; omega
  · exact h0

end Go.Proofs.Qxb6003798a
