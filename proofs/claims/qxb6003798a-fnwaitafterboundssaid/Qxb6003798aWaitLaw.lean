/- The law on waitAfter: its walk. -/
import Derived.Test.Qxb6003798aWalk
namespace Go.Proofs.Qxb6003798a
open Go.RowKit
set_option linter.unusedVariables false

set_option maxRecDepth 100000 in
set_option maxHeartbeats 1000000 in
theorem walk_fnWaitAfterBounds (a0 : Int) (a1 : Int) (w : World) (w0 : (Lit.int .u64 a0).wf = true) (w1 : (Lit.int .u64 a1).wf = true) :
    Calls Try.prog 4 #[.int .u64 a0, .int .u64 a1] w fun e w' => e = .returned (.bool true) ∧ Below w.heap.size w w' := by
  have r0 := bounds_u64 w0
  have r1 := bounds_u64 w1
  clear w0 w1
  obtain ⟨m, rfl⟩ := Int.eq_ofNat_of_zero_le r0.1
  obtain ⟨e, rfl⟩ := Int.eq_ofNat_of_zero_le r1.1
  have q0 : m ≤ 18446744073709551615 := by omega
  have q1 : e ≤ 18446744073709551615 := by omega
  clear r0 r1
  have hm' : m < 2 ^ 64 := by omega
  have he' : e < 2 ^ 64 := by omega
  by_cases hm : m = 0
  · subst hm
    go_enter Try.func4, Try.ntmps4
    go_wp2_with fail
    refine (zzWait_zero _ _).mono ?_
    rintro en w1 ⟨rfl, rfl⟩
    go_wp2_with fail
    go_ret
    exact ⟨rfl, Below.refl _ _⟩
  have z0 : ((m : Int) == 0) = false := by simp; omega
  by_cases hme : e ≤ m
  · go_enter Try.func4, Try.ntmps4
    go_wp2_with fail
    refine (zzWait_any m e _ hm hm' he').mono ?_
    rintro en w1 ⟨⟨a, rfl, A⟩, rfl⟩
    have ea := ans_full A hm hm' he' hme
    subst ea
    clear hm' he' A
    go_wp2_with fail
    go_ret
    exact ⟨rfl, Below.refl _ _⟩
  by_cases h40 : m ≤ 1099511627776
  · by_cases p1 : m * 100000 ≤ e
    · go_enter Try.func4, Try.ntmps4
      go_wp2_with fail
      refine (zzWait_any m e _ hm hm' he').mono ?_
      rintro en w1 ⟨⟨a, rfl, A⟩, rfl⟩
      have ea := ans_zero A hm h40 he' p1
      subst ea
      clear hm' he' A
      go_wp2_with fail
      go_ret
      exact ⟨rfl, Below.refl _ _⟩
    · by_cases p2 : m * 1000 ≤ e
      · go_enter Try.func4, Try.ntmps4
        go_wp2_with fail
        refine (zzWait_any m e _ hm hm' he').mono ?_
        rintro en w1 ⟨⟨a, rfl, A⟩, rfl⟩
        have ea := ans_one A hm h40 he' p2
        clear hm' he' A
        go_wp2_with fail
        go_ret
        exact ⟨rfl, Below.refl _ _⟩
      · by_cases p3 : e ≤ 10 * m
        · go_enter Try.func4, Try.ntmps4
          go_wp2_with fail
          refine (zzWait_any m e _ hm hm' he').mono ?_
          rintro en w1 ⟨⟨a, rfl, A⟩, rfl⟩
          have ea := ans_four A hm h40 he' (by omega) p3
          have ale := A.le
          clear hm' he' A
          go_wp2_with fail
          go_ret
          exact ⟨rfl, Below.refl _ _⟩
        · go_enter Try.func4, Try.ntmps4
          go_wp2_with fail
          refine (zzWait_any m e _ hm hm' he').mono ?_
          rintro en w1 ⟨⟨a, rfl, A⟩, rfl⟩
          have ale := A.le
          clear hm' he' A
          go_wp2_with fail
          go_ret
          exact ⟨rfl, Below.refl _ _⟩
  · go_enter Try.func4, Try.ntmps4
    go_wp2_with fail
    refine (zzWait_any m e _ hm hm' he').mono ?_
    rintro en w1 ⟨⟨a, rfl, A⟩, rfl⟩
    have ale := A.le
    clear hm' he' A
    go_wp2_with fail
    go_ret
    exact ⟨rfl, Below.refl _ _⟩

end Go.Proofs.Qxb6003798a
