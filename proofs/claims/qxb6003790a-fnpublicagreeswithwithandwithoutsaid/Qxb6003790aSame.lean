/- Comparing rows of members; cloning them. -/
import Derived.Test.Qxb6003790aWithout
namespace Go.Proofs.Qxb6003790a
open Go.RowKit

/-- Go's '==' on two members. -/
def memEq (m m' : Mem) : Bool := m.name.toList == m'.name.toList && (m.addr.toList == m'.addr.toList && m.inc == m'.inc)

theorem run_eql_mem (m m' : Mem) (w : World) :
    (binOp .eql 43 (.agg #[.string m.name, .string m.addr, .int .u64 m.inc]) (.agg #[.string m'.name, .string m'.addr, .int .u64 m'.inc])).run Try.prog w = .ok (.bool (memEq m m')) w := by
  cases h1 : (m.name.toList == m'.name.toList) <;> cases h2 : (m.addr.toList == m'.addr.toList) <;> cases h3 : (m.inc == m'.inc) <;> simp [go_sem, memEq, h1, h2, h3]
theorem run_neq_mem (m m' : Mem) (w : World) :
    (binOp .neq 43 (.agg #[.string m.name, .string m.addr, .int .u64 m.inc]) (.agg #[.string m'.name, .string m'.addr, .int .u64 m'.inc])).run Try.prog w = .ok (.bool (!memEq m m')) w := by
  cases h1 : (m.name.toList == m'.name.toList) <;> cases h2 : (m.addr.toList == m'.addr.toList) <;> cases h3 : (m.inc == m'.inc) <;> simp [go_sem, memEq, h1, h2, h3]

/-- The two rows are the same, member by member. -/
def sameM (L M : List Mem) : Bool := decide (L.length = M.length ∧ ∀ i, i < L.length → memEq (mAt L i) (mAt M i) = true)

set_option maxRecDepth 100000 in
set_option maxHeartbeats 1000000 in
theorem same_any (a : Option Addr) (n cap b off : Nat) (L : List Mem) (a' : Option Addr) (n' cap' b' off' : Nat) (L' : List Mem) (w : World) (h : MRow w a n cap b off L) (h' : MRow w a' n' cap' b' off' L') :
    Calls Try.prog 24 #[.slice a n cap, .slice a' n' cap'] w fun e w' => e = .returned (.bool (sameM L L')) ∧ Below w.heap.size w w' := by
  have hm : n ≤ maxLen := Nat.le_trans h.le h.max
  unfold maxLen at hm
  by_cases e4 : n = n'
  · subst e4
    have f4 : ((n : Int) != (n : Int)) = false := by simp
    have EV : Hid (sameM L L' = decide (∀ i, i < n → memEq (mAt L i) (mAt L' i) = true)) := by simp [Hid, sameM, h.len, h'.len]
    go_enter Try.func24, Try.ntmps24
    go_wp2
    go_loopw [5] (fun i wr => ∃ (k q : Nat), k ≤ n ∧ i = .int .i64 k ∧ (∀ j, j < k → memEq (mAt L j) (mAt L' j) = true) ∧ wr = w.drewN q) (fun i _ => n - (intOf i).toNat)
    case atStart => exact ⟨0, 0, Nat.zero_le _, rfl, fun j hj => absurd hj (by omega), rfl⟩
    case round =>
      obtain ⟨k, q, hk, rfl, hall, rfl⟩ := hrel
      have HA : Hid (∀ j, j < k → memEq (mAt L j) (mAt L' j) = true) := hall
      clear hall
      by_cases hlt : k < n
      · have hi := h.idx hlt .i64
        have hi' := h'.idx hlt .i64
        have c0 := h.c0 k hlt
        have c1 := h.c1 k hlt
        have c2 := h.c2 k hlt
        have d0 := h'.c0 k hlt
        have d1 := h'.c1 k hlt
        have d2 := h'.c2 k hlt
        have hq := run_neq_mem (mAt L k) (mAt L' k)
        cases es : memEq (mAt L k) (mAt L' k) with
        | true =>
          rw [es] at hq
          go_wp2
          go_quiet (fail)
          go_wp2
          go_roundw
          case rel => exact ⟨k + 1, _, by omega, by go_num, fun j hj => by
            by_cases ej : j = k
            · rw [ej]; exact es
            · exact HA.out j (by omega), rfl⟩
          case measure => simp [intOf]; omega
        | false =>
          rw [es] at hq
          have EF : Hid (sameM L L' = false) := by
            show sameM L L' = false
            rw [EV.out]
            exact decide_eq_false (fun hh => by have := hh k hlt; rw [es] at this; cases this)
          clear es
          go_wp2
          go_quiet (fail)
          go_wp2
          go_ret
          exact ⟨by rw [EF.out]; rfl, below_drewN (below_drewN (Below.refl _ _) _) _⟩
      · have hkn : k = n := by omega
        subst hkn
        have EF : Hid (sameM L L' = true) := by
          show sameM L L' = true
          rw [EV.out]
          exact decide_eq_true HA.out
        go_wp2
        go_ret
        exact ⟨by rw [EF.out]; rfl, below_drewN (Below.refl _ _) _⟩
  · have f4 : ((n : Int) != (n' : Int)) = true := by simp; omega
    have EF : Hid (sameM L L' = false) := by
      show sameM L L' = false
      exact decide_eq_false (fun hh => e4 (by rw [← h.len, ← h'.len]; exact hh.1))
    clear e4
    go_enter Try.func24, Try.ntmps24
    go_wp2
    go_ret
    exact ⟨by rw [EF.out]; rfl, Below.refl _ _⟩

end Go.Proofs.Qxb6003790a
