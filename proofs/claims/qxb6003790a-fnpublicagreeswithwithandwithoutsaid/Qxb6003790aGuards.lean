/- The guards of the laws: contracts that say no more than 'it returns, nothing is written'. -/
import Derived.Test.Qxb6003790aRows
import Derived.Test.Qxb6003790aBase
namespace Go.Proofs.Qxb6003790a
open Go.RowKit

theorem size9 (w : World) : (Go.sizeOf 9).run Try.prog w = .ok 1 w := by kernel_rfl
theorem size22 (w : World) : (Go.sizeOf 22).run Try.prog w = .ok 1 w := by kernel_rfl
theorem size3 (w : World) : (Go.sizeOf 3).run Try.prog w = .ok 1 w := by kernel_rfl

/-- It returns an int. -/
def RetInt (e : Ending) : Prop := ∃ r : Int, e = .returned (.int .i64 r)
/-- It returns a bool. -/
def RetBool (e : Ending) : Prop := ∃ r : Bool, e = .returned (.bool r)

theorem zzAdd_any (a b : Int) (w : World) :
    Calls Try.prog 10 #[.int .i64 a, .int .i64 b] w fun e w' => RetInt e ∧ w' = w := by
  by_cases h1 : a < 0
  · go_enter Try.func10, Try.ntmps10
    go_wp2
    go_ret
    exact ⟨⟨_, rfl⟩, rfl⟩
  by_cases h2 : b < 0
  · go_enter Try.func10, Try.ntmps10
    go_wp2
    go_ret
    exact ⟨⟨_, rfl⟩, rfl⟩
  by_cases h3 : 1048576 < a
  · go_enter Try.func10, Try.ntmps10
    go_wp2
    go_ret
    exact ⟨⟨_, rfl⟩, rfl⟩
  by_cases h4 : 1048576 < b
  · go_enter Try.func10, Try.ntmps10
    go_wp2
    go_ret
    exact ⟨⟨_, rfl⟩, rfl⟩
  · go_enter Try.func10, Try.ntmps10
    go_wp2
    go_ret
    exact ⟨⟨_, rfl⟩, rfl⟩

theorem zzWords_any (a b : Int) (w : World) :
    Calls Try.prog 9 #[.int .i64 a, .int .i64 b] w fun e w' => RetInt e ∧ w' = w := by
  by_cases h1 : b < 0
  · go_enter Try.func9, Try.ntmps9
    go_wp2
    go_ret
    exact ⟨⟨_, rfl⟩, rfl⟩
  by_cases h2 : 4096 < b
  · go_enter Try.func9, Try.ntmps9
    go_wp2
    go_ret
    exact ⟨⟨_, rfl⟩, rfl⟩
  · go_enter Try.func9, Try.ntmps9
    go_wp2_with (go_at_call 10; refine (zzAdd_any _ _ _).mono ?_; rintro e w' ⟨⟨r, rfl⟩, rfl⟩)
    go_ret
    exact ⟨⟨_, rfl⟩, rfl⟩

theorem zzStrBytes_any (t : Int) (a : Option Addr) (n cap b off : Nat) (S : Nat → ByteArray) (w : World) (h : Sl w a n cap b off (fun i => .string (S i))) :
    Calls Try.prog 8 #[.int .i64 t, .slice a n cap] w fun e w' => RetInt e ∧ w' = w := by
  by_cases h1 : 4096 < n
  · go_enter Try.func8, Try.ntmps8
    go_wp2
    go_ret
    exact ⟨⟨_, rfl⟩, rfl⟩
  · go_enter Try.func8, Try.ntmps8
    go_wp2_with (go_at_call 9; refine (zzWords_any _ _ _).mono ?_; rintro e w' ⟨⟨r, rfl⟩, rfl⟩)
    go_loop [0, 5] (fun t i => ∃ (k : Nat) (r : Int), k ≤ n ∧ i = .int .i64 k ∧ t = .int .i64 r) (fun _ i => n - (intOf i).toNat)
    case atStart => exact ⟨0, _, Nat.zero_le _, rfl, rfl⟩
    case round =>
      obtain ⟨k, r, hk, rfl, rfl⟩ := hrel
      by_cases hlt : k < n
      · have hi := h.idx (P := Try.prog) Try.underlying23 size9 hlt .i64
        have hc := h.cell k hlt
        go_wp2_with (go_at_call 10; refine (zzAdd_any _ _ _).mono ?_; rintro e w' ⟨⟨r, rfl⟩, rfl⟩)
        · go_ret
          exact ⟨⟨_, rfl⟩, rfl⟩
        · go_round
          case rel => exact ⟨k + 1, _, by omega, by go_num, rfl⟩
          case measure => simp [intOf]; omega
      · go_wp2
        go_ret
        exact ⟨⟨_, rfl⟩, rfl⟩

end Go.Proofs.Qxb6003790a
