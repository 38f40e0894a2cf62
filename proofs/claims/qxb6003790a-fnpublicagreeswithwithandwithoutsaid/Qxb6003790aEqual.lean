/- View.Equal: what it answers, and that it writes nothing old. -/
import Derived.Test.Qxb6003790aGuards
import Derived.Deep.QuietTactic
import Derived.BigQuiet
namespace Go.Proofs.Qxb6003790a
open Go.RowKit

/-- What View.Equal compares: cluster, coordinator, id, the members one by one. -/
def eqV (c co : ByteArray) (id : Int) (n : Nat) (S : Nat → ByteArray) (c' co' : ByteArray) (id' : Int) (n' : Nat) (S' : Nat → ByteArray) : Bool :=
  decide (c.toList = c'.toList ∧ co.toList = co'.toList ∧ id = id' ∧ n = n' ∧ ∀ i, i < n → (S i).toList = (S' i).toList)

set_option maxRecDepth 100000 in
set_option maxHeartbeats 1000000 in
theorem equal_any (c co : ByteArray) (id : Int) (a : Option Addr) (n cap b off : Nat) (S : Nat → ByteArray) (x4 x5 x6 : Value)
    (c' co' : ByteArray) (id' : Int) (a' : Option Addr) (n' cap' b' off' : Nat) (S' : Nat → ByteArray) (y4 y5 y6 : Value) (w : World)
    (h : Sl w a n cap b off (fun i => .string (S i))) (h' : Sl w a' n' cap' b' off' (fun i => .string (S' i))) :
    Calls Try.prog 13 #[.agg #[.string c, .string co, .int .u64 id, .slice a n cap, x4, x5, x6], .agg #[.string c', .string co', .int .u64 id', .slice a' n' cap', y4, y5, y6]] w
      fun e w' => e = .returned (.bool (eqV c co id n S c' co' id' n' S')) ∧ Below w.heap.size w w' := by
  by_cases e1 : c.toList = c'.toList
  · by_cases e2 : co.toList = co'.toList
    · by_cases e3 : id = id'
      · by_cases e4 : n = n'
        · subst e4
          have f3 : (id != id') = false := by simp [e3]
          have f4 : ((n : Int) != (n : Int)) = false := by simp
          have hn : n ≤ maxLen := Nat.le_trans h.le h.max
          unfold maxLen at hn
          have EV : Hid (eqV c co id n S c' co' id' n S' = decide (∀ i, i < n → (S i).toList = (S' i).toList)) := by simp [Hid, eqV, e1, e2, e3]
          clear e3
          go_enter Try.func13, Try.ntmps13
          go_wp2
          clear e1 e2
          go_loopw [37] (fun i wr => ∃ (k q : Nat), k ≤ n ∧ i = .int .i64 k ∧ (∀ j, j < k → (S j).toList = (S' j).toList) ∧ wr = (((w.alloc (.cells #[.string c, .string co, .int .u64 id, .slice a n cap, x4, x5, x6] 31)).alloc (.cells #[.string c', .string co', .int .u64 id', .slice a' n cap', y4, y5, y6] 31)).drewN q)) (fun i _ => n - (intOf i).toNat)
          case atStart => exact ⟨0, 0, Nat.zero_le _, rfl, fun j hj => absurd hj (by omega), rfl⟩
          case round =>
            obtain ⟨k, q, hk, rfl, hall, rfl⟩ := hrel
            have HA : Hid (∀ j, j < k → (S j).toList = (S' j).toList) := hall
            clear hall
            by_cases hlt : k < n
            · have hi := h.idx (P := Try.prog) Try.underlying23 size9 hlt .i64
              have hi' := h'.idx (P := Try.prog) Try.underlying23 size9 hlt .i64
              have hb1 : b < w.heap.size := h.lt (by omega)
              have hb2 : b' < w.heap.size := h'.lt (by omega)
              have hc := h.cell k hlt
              have hc' := h'.cell k hlt
              by_cases es : (S k).toList = (S' k).toList
              · have fs : ((S k).toList == (S' k).toList) = true := by simp [es]
                go_wp2
                go_quiet (fail)
                go_wp2
                go_roundw
                case rel => exact ⟨k + 1, _, by omega, by go_num, fun j hj => by
                  by_cases ej : j = k
                  · rw [ej]; exact es
                  · exact HA.out j (by omega), rfl⟩
                case measure => simp [intOf]; omega
              · have fs : ((S k).toList == (S' k).toList) = false := by simp [es]
                have EF : Hid (eqV c co id n S c' co' id' n S' = false) := by
                  show eqV c co id n S c' co' id' n S' = false
                  rw [EV.out]
                  exact decide_eq_false (fun hh => es (hh k hlt))
                go_wp2
                go_quiet (fail)
                go_wp2
                go_ret
                exact ⟨by rw [EF.out]; rfl, by repeat (first | exact Below.refl _ _ | apply below_drewN | refine Below.alloc ?_ (by simp) _)⟩
            · have hkn : k = n := by omega
              subst hkn
              have EF : Hid (eqV c co id k S c' co' id' k S' = true) := by
                show eqV c co id k S c' co' id' k S' = true
                rw [EV.out]
                exact decide_eq_true HA.out
              go_wp2
              go_ret
              exact ⟨by rw [EF.out]; rfl, by repeat (first | exact Below.refl _ _ | apply below_drewN | refine Below.alloc ?_ (by simp) _)⟩
        · have ev : eqV c co id n S c' co' id' n' S' = false := by simp [eqV, e4]
          rw [ev]
          have f3 : (id != id') = false := by simp [e3]
          have f4 : ((n : Int) != (n' : Int)) = true := by simp; omega
          clear e3 e4
          go_enter Try.func13, Try.ntmps13
          go_wp2
          go_ret
          exact ⟨rfl, by repeat (first | exact Below.refl _ _ | refine Below.alloc ?_ (by simp) _)⟩
      · have ev : eqV c co id n S c' co' id' n' S' = false := by simp [eqV, e3]
        rw [ev]
        have f3 : (id != id') = true := by simp [e3]
        clear e3
        go_enter Try.func13, Try.ntmps13
        go_wp2
        go_ret
        exact ⟨rfl, by repeat (first | exact Below.refl _ _ | refine Below.alloc ?_ (by simp) _)⟩
    · have ev : eqV c co id n S c' co' id' n' S' = false := by simp [eqV, e2]
      rw [ev]
      go_enter Try.func13, Try.ntmps13
      go_wp2
      go_ret
      exact ⟨rfl, by repeat (first | exact Below.refl _ _ | refine Below.alloc ?_ (by simp) _)⟩
  · have ev : eqV c co id n S c' co' id' n' S' = false := by simp [eqV, e1]
    rw [ev]
    go_enter Try.func13, Try.ntmps13
    go_wp2
    go_ret
    exact ⟨rfl, by repeat (first | exact Below.refl _ _ | refine Below.alloc ?_ (by simp) _)⟩
end Go.Proofs.Qxb6003790a
