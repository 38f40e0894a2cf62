/- A size guard laid by program ahead of a law: it returns a bool, nothing is written. (Typed by a small program of my own.) -/
import Derived.Test.Qxb6003790aGuards
namespace Go.Proofs.Qxb6003790a
open Go.RowKit

set_option maxRecDepth 100000 in
set_option maxHeartbeats 4000000 in
theorem zzBytesP_any (x0 : ByteArray) (x1 : Int) (x2 : Int) (a3 : Option Addr) (n3 k3 b3 o3 : Nat) (S3 : Nat → ByteArray) (a4 : Option Addr) (n4 k4 b4 o4 : Nat) (S4 : Nat → ByteArray) (a5 : Option Addr) (n5 k5 : Nat) (a6 : Option Addr) (n6 k6 : Nat) (a7 : Option Addr) (n7 k7 : Nat) (x8 : ByteArray) (x9 : ByteArray) (x10 : Int) (x11 : Int) (w : World)
    (h3 : Sl w a3 n3 k3 b3 o3 (fun i => .string (S3 i))) (h4 : Sl w a4 n4 k4 b4 o4 (fun i => .string (S4 i))) :
    Calls Try.prog 26 #[.string x0, .int .u64 x1, .int .u64 x2, .slice a3 n3 k3, .slice a4 n4 k4, .slice a5 n5 k5, .slice a6 n6 k6, .slice a7 n7 k7, .string x8, .string x9, .int .u64 x10, .int .u64 x11] w fun e w' => RetBool e ∧ w' = w := by
  go_enter Try.func26, Try.ntmps26
  go_wp2
  all_goals (try (go_ret; exact ⟨⟨_, rfl⟩, rfl⟩))
  go_loop [25, 26] (fun t i => ∃ (k : Nat) (r : Int), k ≤ n3 ∧ i = .int .i64 k ∧ t = .int .i64 r ∧ 0 ≤ r ∧ r ≤ 1048576) (fun _ i => n3 - (intOf i).toNat)
  case atStart => exact ⟨0, _, Nat.zero_le _, rfl, rfl, by omega, by omega⟩
  case round =>
    obtain ⟨k, r, hk, rfl, rfl, hr0, hr1⟩ := hrel
    by_cases hlt : k < n3
    · have hi := h3.idx (P := Try.prog) Try.underlying23 size9 hlt .i64
      have hc := h3.cell k hlt
      go_wp2
      all_goals (try (go_ret; exact ⟨⟨_, rfl⟩, rfl⟩))
      go_round
      case rel => exact ⟨k + 1, _, by omega, by go_num, rfl, by omega, by omega⟩
      case measure => simp [intOf]; omega
    have hkn : k = n3 := by omega
    subst hkn
    go_wp2
    all_goals (try (go_ret; exact ⟨⟨_, rfl⟩, rfl⟩))
    go_loop [25, 27] (fun t i => ∃ (k : Nat) (r : Int), k ≤ n4 ∧ i = .int .i64 k ∧ t = .int .i64 r ∧ 0 ≤ r ∧ r ≤ 1048576) (fun _ i => n4 - (intOf i).toNat)
    case atStart => exact ⟨0, _, Nat.zero_le _, rfl, rfl, by omega, by omega⟩
    case round =>
      obtain ⟨k, r, hk, rfl, rfl, hr0, hr1⟩ := hrel
      by_cases hlt : k < n4
      · have hi := h4.idx (P := Try.prog) Try.underlying23 size9 hlt .i64
        have hc := h4.cell k hlt
        go_wp2
        all_goals (try (go_ret; exact ⟨⟨_, rfl⟩, rfl⟩))
        go_round
        case rel => exact ⟨k + 1, _, by omega, by go_num, rfl, by omega, by omega⟩
        case measure => simp [intOf]; omega
      have hkn : k = n4 := by omega
      subst hkn
      go_wp2
      all_goals (go_ret; exact ⟨⟨_, rfl⟩, rfl⟩)

end Go.Proofs.Qxb6003790a
