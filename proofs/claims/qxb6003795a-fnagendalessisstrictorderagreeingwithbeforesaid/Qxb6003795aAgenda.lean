import Derived.Test.Qxb6003795aRows
import Derived.Test.Qxb6003795aBase
import Derived.WalkKit
import Derived.WalkLawsBesides
import Derived.WalkSpells
import Derived.Deep.QuietTactic
import Derived.BigQuiet
import Derived.WalkSmall
namespace Go.Proofs.Qxb6003795a
open Go.RowKit

def lessB (a s b t : Int) : Bool := if a = b then decide (s < t) else decide (a < b)

set_option maxHeartbeats 400000 in
theorem agendaLess_any (a s b t : Int) (w : World) :
    Calls Try.prog 13 #[.int .i64 a, .int .u64 s, .int .i64 b, .int .u64 t] w fun e w' => e = .returned (.bool (lessB a s b t)) ∧ Below w.heap.size w w' := by
  by_cases h : a = b
  · subst h
    have e : lessB a s a t = decide (s < t) := by simp [lessB]
    rw [e]
    go_enter Try.func13, Try.ntmps13
    go_wp2
    go_quiet (fail)
    go_wp2
    go_quiet (fail)
    go_wp2
    go_ret
    exact ⟨rfl, by repeat (first | exact Below.refl _ _ | apply below_drewN | refine Below.alloc ?_ (by simp) _)⟩
  · have e : lessB a s b t = decide (a < b) := by simp [lessB, h]
    rw [e]
    have hb : (a != b) = true := by simp [h]
    go_enter Try.func13, Try.ntmps13
    go_wp2
    go_quiet (fail)
    go_wp2
    go_quiet (fail)
    go_wp2
    go_ret
    exact ⟨rfl, by repeat (first | exact Below.refl _ _ | apply below_drewN | refine Below.alloc ?_ (by simp) _)⟩

set_option maxHeartbeats 400000 in
theorem flightBefore_any (a s b t : Int) (w : World) :
    Calls Try.prog 15 #[.int .i64 a, .int .u64 s, .int .i64 b, .int .u64 t] w fun e w' => e = .returned (.bool (lessB a s b t)) ∧ Below w.heap.size w w' := by
  by_cases h : a = b
  · subst h
    have e : lessB a s a t = decide (s < t) := by simp [lessB]
    rw [e]
    have h1 : decide (a < a) = false := by simp
    have h2 : (a == a) = true := by simp
    go_enter Try.func15, Try.ntmps15
    go_wp2
    go_quiet (fail)
    go_wp2
    go_ret
    exact ⟨rfl, by repeat (first | exact Below.refl _ _ | apply below_drewN | refine Below.alloc ?_ (by simp) _)⟩
  · have h2 : (a == b) = false := by simp [h]
    by_cases h3 : a < b
    · have e : lessB a s b t = true := by simp [lessB, h, h3]
      rw [e]
      have h1 : decide (a < b) = true := by simp [h3]
      go_enter Try.func15, Try.ntmps15
      go_wp2
      go_quiet (fail)
      go_wp2
      go_ret
      exact ⟨rfl, by repeat (first | exact Below.refl _ _ | apply below_drewN | refine Below.alloc ?_ (by simp) _)⟩
    · have e : lessB a s b t = false := by simp [lessB, h, h3]
      rw [e]
      have h1 : decide (a < b) = false := by simp [h3]
      go_enter Try.func15, Try.ntmps15
      go_wp2
      go_quiet (fail)
      go_wp2
      go_ret
      exact ⟨rfl, by repeat (first | exact Below.refl _ _ | apply below_drewN | refine Below.alloc ?_ (by simp) _)⟩

def oneB (a b c : Bool) : Bool := match a, b, c with
  | true, false, false => true
  | false, true, false => true
  | false, false, true => true
  | _, _, _ => false

theorem one_any (a b c : Bool) (w : World) :
    Calls Try.prog 14 #[.bool a, .bool b, .bool c] w fun e w' => e = .returned (.bool (oneB a b c)) ∧ w' = w := by
  cases a <;> cases b <;> cases c <;> (go_enter Try.func14, Try.ntmps14; go_wp2; go_ret; exact ⟨rfl, rfl⟩)


end Go.Proofs.Qxb6003795a
