/- A size guard laid by program ahead of a law: it returns a bool, nothing is written. (Typed by a small program of my own.) -/
import Derived.Test.Qxb6003790aGuards
namespace Go.Proofs.Qxb6003790a
open Go.RowKit

set_option maxRecDepth 100000 in
set_option maxHeartbeats 4000000 in
theorem zzBytesE_any (x0 : ByteArray) (x1 : ByteArray) (x2 : Int) (a3 : Option Addr) (n3 k3 b3 o3 : Nat) (S3 : Nat → ByteArray) (x4 : ByteArray) (x5 : ByteArray) (x6 : Int) (a7 : Option Addr) (n7 k7 b7 o7 : Nat) (S7 : Nat → ByteArray) (a8 : Option Addr) (n8 k8 b8 o8 : Nat) (S8 : Nat → ByteArray) (a9 : Option Addr) (n9 k9 b9 o9 : Nat) (S9 : Nat → ByteArray) (x10 : Int) (a11 : Option Addr) (n11 k11 : Nat) (w : World)
    (h3 : Sl w a3 n3 k3 b3 o3 (fun i => .string (S3 i))) (h7 : Sl w a7 n7 k7 b7 o7 (fun i => .string (S7 i))) (h8 : Sl w a8 n8 k8 b8 o8 (fun i => .string (S8 i))) (h9 : Sl w a9 n9 k9 b9 o9 (fun i => .string (S9 i))) :
    Calls Try.prog 7 #[.string x0, .string x1, .int .u64 x2, .slice a3 n3 k3, .string x4, .string x5, .int .u64 x6, .slice a7 n7 k7, .slice a8 n8 k8, .slice a9 n9 k9, .int .u64 x10, .slice a11 n11 k11] w fun e w' => RetBool e ∧ w' = w := by
  go_enter Try.func7, Try.ntmps7
  go_wp2
  all_goals (try (go_ret; exact ⟨⟨_, rfl⟩, rfl⟩))
  go_loop [25, 26] (fun t i => ∃ (k : Nat) (r : Int), k ≤ n3 ∧ i = .int .i64 k ∧ t = .int .i64 r ∧ 0 ≤ r ∧ r ≤ 1048576) (fun _ i => n3 - (intOf i).toNat)
  case atStart => exact ⟨0, _, Nat.zero_le _, rfl, rfl, by omega, by omega⟩
  case round =>
    obtain ⟨k, r, hk, rfl, rfl, hr0, hr1⟩ := hrel
    by_cases hlt : k < n3
    · have hi := h3.idx (P := Try.prog) Try.underlying23 size9 hlt .i64
      have hc := h3.cell k hlt
      go_wp2
      all_goals (try (go_ret; exact ⟨⟨_, rfl⟩, rfl⟩))
      go_round
      case rel => exact ⟨k + 1, _, by omega, by go_num, rfl, by omega, by omega⟩
      case measure => simp [intOf]; omega
    have hkn : k = n3 := by omega
    subst hkn
    go_wp2
    all_goals (try (go_ret; exact ⟨⟨_, rfl⟩, rfl⟩))
    go_loop [25, 27] (fun t i => ∃ (k : Nat) (r : Int), k ≤ n7 ∧ i = .int .i64 k ∧ t = .int .i64 r ∧ 0 ≤ r ∧ r ≤ 1048576) (fun _ i => n7 - (intOf i).toNat)
    case atStart => exact ⟨0, _, Nat.zero_le _, rfl, rfl, by omega, by omega⟩
    case round =>
      obtain ⟨k, r, hk, rfl, rfl, hr0, hr1⟩ := hrel
      by_cases hlt : k < n7
      · have hi := h7.idx (P := Try.prog) Try.underlying23 size9 hlt .i64
        have hc := h7.cell k hlt
        go_wp2
        all_goals (try (go_ret; exact ⟨⟨_, rfl⟩, rfl⟩))
        go_round
        case rel => exact ⟨k + 1, _, by omega, by go_num, rfl, by omega, by omega⟩
        case measure => simp [intOf]; omega
      have hkn : k = n7 := by omega
      subst hkn
      go_wp2
      all_goals (try (go_ret; exact ⟨⟨_, rfl⟩, rfl⟩))
      go_loop [25, 28] (fun t i => ∃ (k : Nat) (r : Int), k ≤ n8 ∧ i = .int .i64 k ∧ t = .int .i64 r ∧ 0 ≤ r ∧ r ≤ 1048576) (fun _ i => n8 - (intOf i).toNat)
      case atStart => exact ⟨0, _, Nat.zero_le _, rfl, rfl, by omega, by omega⟩
      case round =>
        obtain ⟨k, r, hk, rfl, rfl, hr0, hr1⟩ := hrel
        by_cases hlt : k < n8
        · have hi := h8.idx (P := Try.prog) Try.underlying23 size9 hlt .i64
          have hc := h8.cell k hlt
          go_wp2
          all_goals (try (go_ret; exact ⟨⟨_, rfl⟩, rfl⟩))
          go_round
          case rel => exact ⟨k + 1, _, by omega, by go_num, rfl, by omega, by omega⟩
          case measure => simp [intOf]; omega
        have hkn : k = n8 := by omega
        subst hkn
        go_wp2
        all_goals (try (go_ret; exact ⟨⟨_, rfl⟩, rfl⟩))
        go_loop [25, 29] (fun t i => ∃ (k : Nat) (r : Int), k ≤ n9 ∧ i = .int .i64 k ∧ t = .int .i64 r ∧ 0 ≤ r ∧ r ≤ 1048576) (fun _ i => n9 - (intOf i).toNat)
        case atStart => exact ⟨0, _, Nat.zero_le _, rfl, rfl, by omega, by omega⟩
        case round =>
          obtain ⟨k, r, hk, rfl, rfl, hr0, hr1⟩ := hrel
          by_cases hlt : k < n9
          · have hi := h9.idx (P := Try.prog) Try.underlying23 size9 hlt .i64
            have hc := h9.cell k hlt
            go_wp2
            all_goals (try (go_ret; exact ⟨⟨_, rfl⟩, rfl⟩))
            go_round
            case rel => exact ⟨k + 1, _, by omega, by go_num, rfl, by omega, by omega⟩
            case measure => simp [intOf]; omega
          have hkn : k = n9 := by omega
          subst hkn
          go_wp2
          all_goals (go_ret; exact ⟨⟨_, rfl⟩, rfl⟩)

end Go.Proofs.Qxb6003790a
