/- waitAfter: its walk. -/
import Derived.Test.Qxb6003798aRows
import Derived.Test.Qxb6003798aBase
import Derived.Test.Qxb6003798aWait
import Derived.Laws.FloatArith
namespace Go.Proofs.Qxb6003798a
open Go.RowKit

theorem conv_eq (m : Nat) : floatOfInt .f64 (m : Int) = wd m := by
  have h : ¬ ((m : Int) < 0) := by omega
  simp [floatOfInt, FloatKind.nearest, FloatKind.encode, FloatKind.format, Ieee.Format.write, wd, h]

/-- It returns such an answer. -/
def Waits (m e : Nat) (en : Ending) : Prop := ∃ a : Nat, en = .returned (.int .u64 (a : Int)) ∧ Answer m e a

set_option maxRecDepth 100000 in
set_option maxHeartbeats 1000000 in
theorem waitAfter_any (m e : Nat) (w : World) (hm : m ≠ 0) (hm' : m < 2 ^ 64) (he' : e < 2 ^ 64) :
    Calls Try.prog 17 #[.int .u64 (m : Int), .int .u64 (e : Int)] w fun en w' => Waits m e en ∧ w' = w := by
  obtain ⟨s1, s2, s3⟩ := share_ok hm hm' he'
  obtain ⟨u1, u2, u3⟩ := unh_ok hm hm' he'
  have z0 : ((m : Int) == 0) = false := by simp; omega
  have hc1 := conv_eq m
  have hc2 := conv_eq e
  have hq := fun w => run_float_arith (P := Try.prog) w .quo 44 .f64 (wd m) (wd e) (share m e) s1
  have hu := fun w => run_float_arith (P := Try.prog) w .mul 44 .f64 (share m e) (share m e) (unh m e) u1
  clear hm hm' he' s1 s2 s3 u1
  go_enter Try.func17, Try.ntmps17
  go_wp2
  clear z0 hc1 hc2 hq hu
  go_loop [7, 8] (fun wt c => ∃ k : Nat, k ≤ 1024 ∧ wt = .int .u64 (k : Int) ∧ c = .float .f64 (ch (unh m e) k) ∧ ch (unh m e) k ≤ 9218868437227405312 ∧ ∀ j, j < k → 4472406533629990549 < ch (unh m e) j) (fun wt _ => 1024 - (intOf wt).toNat)
  case atStart => exact ⟨0, by omega, rfl, rfl, u2, fun j hj => absurd hj (by omega)⟩
  case round =>
    obtain ⟨k, hk, rfl, rfl, hci, hall⟩ := hrel
    have HA : Hid (∀ j, j < k → 4472406533629990549 < ch (unh m e) j) := hall
    clear hall
    have hg := gt_iff hci
    by_cases hc : 4472406533629990549 < ch (unh m e) k
    · obtain ⟨c1, c2⟩ := ch_ok u2 u3 hci (by omega)
      have hmul := fun w => run_float_arith (P := Try.prog) w .mul 44 .f64 (ch (unh m e) k) (unh m e) (ch (unh m e) (k + 1)) c1
      have HC : Hid (4472406533629990549 < ch (unh m e) k ∧ ch (unh m e) (k + 1) ≤ 9218868437227405312) := ⟨hc, c2⟩
      have hgt : (FloatKind.f64.format.order (ch (unh m e) k) 4472406533629990549 == some .gt) = true := by
        show (Ieee.double.order (ch (unh m e) k) 4472406533629990549 == some .gt) = true
        rw [hg]; exact decide_eq_true hc
      clear hg hc c1 c2 hci u2 u3
      by_cases hlt : k < 1024
      · go_wp2
        go_round
        case rel => exact ⟨k + 1, by omega, by go_num, rfl, HC.out.2, fun j hj => by
          by_cases ej : j = k
          · rw [ej]; exact HC.out.1
          · exact HA.out j (by omega)⟩
        case measure => simp [intOf]; omega
      · go_wp2
        go_ret
        exact ⟨⟨k, rfl, ⟨hk, HA.out, .inl (by omega)⟩⟩, rfl⟩
    · have hgt : (FloatKind.f64.format.order (ch (unh m e) k) 4472406533629990549 == some .gt) = false := by
        show (Ieee.double.order (ch (unh m e) k) 4472406533629990549 == some .gt) = false
        rw [hg]; exact decide_eq_false hc
      have HC : Hid (ch (unh m e) k ≤ 4472406533629990549) := by show ch (unh m e) k ≤ _; omega
      clear hg hc hci u2 u3
      go_wp2
      go_ret
      exact ⟨⟨k, rfl, ⟨hk, HA.out, .inr HC.out⟩⟩, rfl⟩

theorem waitAfter_zero (e : Int) (w : World) : Calls Try.prog 17 #[.int .u64 0, .int .u64 e] w fun en w' => en = .returned (.int .u64 0) ∧ w' = w := by
  go_enter Try.func17, Try.ntmps17
  go_wp2
  go_ret
  exact ⟨rfl, rfl⟩

theorem zzWait_any (m e : Nat) (w : World) (hm : m ≠ 0) (hm' : m < 2 ^ 64) (he' : e < 2 ^ 64) :
    Calls Try.prog 6 #[.int .u64 (m : Int), .int .u64 (e : Int)] w fun en w' => Waits m e en ∧ w' = w := by
  go_enter Try.func6, Try.ntmps6
  go_wp2_with fail
  refine (waitAfter_any m e _ hm hm' he').mono ?_
  rintro en w1 ⟨⟨a, rfl, ha⟩, rfl⟩
  go_wp2_with fail
  go_ret
  exact ⟨⟨a, rfl, ha⟩, rfl⟩

theorem zzWait_zero (e : Int) (w : World) : Calls Try.prog 6 #[.int .u64 0, .int .u64 e] w fun en w' => en = .returned (.int .u64 0) ∧ w' = w := by
  go_enter Try.func6, Try.ntmps6
  go_wp2_with fail
  refine (waitAfter_zero e _).mono ?_
  rintro en w1 ⟨rfl, rfl⟩
  go_wp2_with fail
  go_ret
  exact ⟨rfl, rfl⟩

end Go.Proofs.Qxb6003798a
