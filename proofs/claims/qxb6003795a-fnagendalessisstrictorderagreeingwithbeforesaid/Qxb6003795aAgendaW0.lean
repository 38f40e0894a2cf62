/- The law's walk, one theorem for each consistent pattern of the three pairs (made by a small program of my own). -/
import Derived.Test.Qxb6003795aAgenda
namespace Go.Proofs.Qxb6003795a
open Go.RowKit

set_option maxRecDepth 100000 in
set_option maxHeartbeats 1000000 in
theorem law_EE_EE_EE (a0 a1 a2 a3 a4 a5 : Int) (w : World) (i0 : lessB a0 a1 a0 a1 = false) (i1 : lessB a2 a3 a2 a3 = false) (i2 : lessB a4 a5 a4 a5 = false)
    (p1 : lessB a0 a1 a2 a3 = false) (p2 : lessB a2 a3 a0 a1 = false) (p3 : (a0 == a2) = true) (p4 : (a1 == a3) = true)
    (q1 : lessB a2 a3 a4 a5 = false) (q2 : lessB a4 a5 a2 a3 = false) (q3 : (a2 == a4) = true) (q4 : (a3 == a5) = true)
    (r1 : lessB a0 a1 a4 a5 = false) (r2 : lessB a4 a5 a0 a1 = false) (r3 : (a0 == a4) = true) (r4 : (a1 == a5) = true) :
    Calls Try.prog 5 #[.int .i64 a0, .int .u64 a1, .int .i64 a2, .int .u64 a3, .int .i64 a4, .int .u64 a5] w fun e w' => e = .returned (.bool true) ∧ Below w.heap.size w w' := by
  go_enter Try.func5, Try.ntmps5
  go_wp2_with (first | (go_at_call 13; refine (agendaLess_any _ _ _ _ _).mono ?_; rintro e w' ⟨rfl, hb⟩) | (go_at_call 15; refine (flightBefore_any _ _ _ _ _).mono ?_; rintro e w' ⟨rfl, hb⟩) | (go_at_call 14; refine (one_any _ _ _ _).mono ?_; rintro e w' ⟨rfl, rfl⟩))
  go_ret
  exact ⟨rfl, by repeat (first | exact Below.refl _ _ | refine below_chain ?_ (by assumption))⟩

set_option maxRecDepth 100000 in
set_option maxHeartbeats 1000000 in
theorem law_EE_EG_EG (a0 a1 a2 a3 a4 a5 : Int) (w : World) (i0 : lessB a0 a1 a0 a1 = false) (i1 : lessB a2 a3 a2 a3 = false) (i2 : lessB a4 a5 a4 a5 = false)
    (p1 : lessB a0 a1 a2 a3 = false) (p2 : lessB a2 a3 a0 a1 = false) (p3 : (a0 == a2) = true) (p4 : (a1 == a3) = true)
    (q1 : lessB a2 a3 a4 a5 = false) (q2 : lessB a4 a5 a2 a3 = true) (q3 : (a2 == a4) = true) (q4 : (a3 == a5) = false)
    (r1 : lessB a0 a1 a4 a5 = false) (r2 : lessB a4 a5 a0 a1 = true) (r3 : (a0 == a4) = true) (r4 : (a1 == a5) = false) :
    Calls Try.prog 5 #[.int .i64 a0, .int .u64 a1, .int .i64 a2, .int .u64 a3, .int .i64 a4, .int .u64 a5] w fun e w' => e = .returned (.bool true) ∧ Below w.heap.size w w' := by
  go_enter Try.func5, Try.ntmps5
  go_wp2_with (first | (go_at_call 13; refine (agendaLess_any _ _ _ _ _).mono ?_; rintro e w' ⟨rfl, hb⟩) | (go_at_call 15; refine (flightBefore_any _ _ _ _ _).mono ?_; rintro e w' ⟨rfl, hb⟩) | (go_at_call 14; refine (one_any _ _ _ _).mono ?_; rintro e w' ⟨rfl, rfl⟩))
  go_ret
  exact ⟨rfl, by repeat (first | exact Below.refl _ _ | refine below_chain ?_ (by assumption))⟩

set_option maxRecDepth 100000 in
set_option maxHeartbeats 1000000 in
theorem law_EE_EL_EL (a0 a1 a2 a3 a4 a5 : Int) (w : World) (i0 : lessB a0 a1 a0 a1 = false) (i1 : lessB a2 a3 a2 a3 = false) (i2 : lessB a4 a5 a4 a5 = false)
    (p1 : lessB a0 a1 a2 a3 = false) (p2 : lessB a2 a3 a0 a1 = false) (p3 : (a0 == a2) = true) (p4 : (a1 == a3) = true)
    (q1 : lessB a2 a3 a4 a5 = true) (q2 : lessB a4 a5 a2 a3 = false) (q3 : (a2 == a4) = true) (q4 : (a3 == a5) = false)
    (r1 : lessB a0 a1 a4 a5 = true) (r2 : lessB a4 a5 a0 a1 = false) (r3 : (a0 == a4) = true) (r4 : (a1 == a5) = false) :
    Calls Try.prog 5 #[.int .i64 a0, .int .u64 a1, .int .i64 a2, .int .u64 a3, .int .i64 a4, .int .u64 a5] w fun e w' => e = .returned (.bool true) ∧ Below w.heap.size w w' := by
  go_enter Try.func5, Try.ntmps5
  go_wp2_with (first | (go_at_call 13; refine (agendaLess_any _ _ _ _ _).mono ?_; rintro e w' ⟨rfl, hb⟩) | (go_at_call 15; refine (flightBefore_any _ _ _ _ _).mono ?_; rintro e w' ⟨rfl, hb⟩) | (go_at_call 14; refine (one_any _ _ _ _).mono ?_; rintro e w' ⟨rfl, rfl⟩))
  go_ret
  exact ⟨rfl, by repeat (first | exact Below.refl _ _ | refine below_chain ?_ (by assumption))⟩

set_option maxRecDepth 100000 in
set_option maxHeartbeats 1000000 in
theorem law_EE_G_G (a0 a1 a2 a3 a4 a5 : Int) (w : World) (i0 : lessB a0 a1 a0 a1 = false) (i1 : lessB a2 a3 a2 a3 = false) (i2 : lessB a4 a5 a4 a5 = false)
    (p1 : lessB a0 a1 a2 a3 = false) (p2 : lessB a2 a3 a0 a1 = false) (p3 : (a0 == a2) = true) (p4 : (a1 == a3) = true)
    (q1 : lessB a2 a3 a4 a5 = false) (q2 : lessB a4 a5 a2 a3 = true) (q3 : (a2 == a4) = false)
    (r1 : lessB a0 a1 a4 a5 = false) (r2 : lessB a4 a5 a0 a1 = true) (r3 : (a0 == a4) = false) :
    Calls Try.prog 5 #[.int .i64 a0, .int .u64 a1, .int .i64 a2, .int .u64 a3, .int .i64 a4, .int .u64 a5] w fun e w' => e = .returned (.bool true) ∧ Below w.heap.size w w' := by
  go_enter Try.func5, Try.ntmps5
  go_wp2_with (first | (go_at_call 13; refine (agendaLess_any _ _ _ _ _).mono ?_; rintro e w' ⟨rfl, hb⟩) | (go_at_call 15; refine (flightBefore_any _ _ _ _ _).mono ?_; rintro e w' ⟨rfl, hb⟩) | (go_at_call 14; refine (one_any _ _ _ _).mono ?_; rintro e w' ⟨rfl, rfl⟩))
  go_ret
  exact ⟨rfl, by repeat (first | exact Below.refl _ _ | refine below_chain ?_ (by assumption))⟩

set_option maxRecDepth 100000 in
set_option maxHeartbeats 1000000 in
theorem law_EE_L_L (a0 a1 a2 a3 a4 a5 : Int) (w : World) (i0 : lessB a0 a1 a0 a1 = false) (i1 : lessB a2 a3 a2 a3 = false) (i2 : lessB a4 a5 a4 a5 = false)
    (p1 : lessB a0 a1 a2 a3 = false) (p2 : lessB a2 a3 a0 a1 = false) (p3 : (a0 == a2) = true) (p4 : (a1 == a3) = true)
    (q1 : lessB a2 a3 a4 a5 = true) (q2 : lessB a4 a5 a2 a3 = false) (q3 : (a2 == a4) = false)
    (r1 : lessB a0 a1 a4 a5 = true) (r2 : lessB a4 a5 a0 a1 = false) (r3 : (a0 == a4) = false) :
    Calls Try.prog 5 #[.int .i64 a0, .int .u64 a1, .int .i64 a2, .int .u64 a3, .int .i64 a4, .int .u64 a5] w fun e w' => e = .returned (.bool true) ∧ Below w.heap.size w w' := by
  go_enter Try.func5, Try.ntmps5
  go_wp2_with (first | (go_at_call 13; refine (agendaLess_any _ _ _ _ _).mono ?_; rintro e w' ⟨rfl, hb⟩) | (go_at_call 15; refine (flightBefore_any _ _ _ _ _).mono ?_; rintro e w' ⟨rfl, hb⟩) | (go_at_call 14; refine (one_any _ _ _ _).mono ?_; rintro e w' ⟨rfl, rfl⟩))
  go_ret
  exact ⟨rfl, by repeat (first | exact Below.refl _ _ | refine below_chain ?_ (by assumption))⟩

set_option maxRecDepth 100000 in
set_option maxHeartbeats 1000000 in
theorem law_EG_EE_EG (a0 a1 a2 a3 a4 a5 : Int) (w : World) (i0 : lessB a0 a1 a0 a1 = false) (i1 : lessB a2 a3 a2 a3 = false) (i2 : lessB a4 a5 a4 a5 = false)
    (p1 : lessB a0 a1 a2 a3 = false) (p2 : lessB a2 a3 a0 a1 = true) (p3 : (a0 == a2) = true) (p4 : (a1 == a3) = false)
    (q1 : lessB a2 a3 a4 a5 = false) (q2 : lessB a4 a5 a2 a3 = false) (q3 : (a2 == a4) = true) (q4 : (a3 == a5) = true)
    (r1 : lessB a0 a1 a4 a5 = false) (r2 : lessB a4 a5 a0 a1 = true) (r3 : (a0 == a4) = true) (r4 : (a1 == a5) = false) :
    Calls Try.prog 5 #[.int .i64 a0, .int .u64 a1, .int .i64 a2, .int .u64 a3, .int .i64 a4, .int .u64 a5] w fun e w' => e = .returned (.bool true) ∧ Below w.heap.size w w' := by
  go_enter Try.func5, Try.ntmps5
  go_wp2_with (first | (go_at_call 13; refine (agendaLess_any _ _ _ _ _).mono ?_; rintro e w' ⟨rfl, hb⟩) | (go_at_call 15; refine (flightBefore_any _ _ _ _ _).mono ?_; rintro e w' ⟨rfl, hb⟩) | (go_at_call 14; refine (one_any _ _ _ _).mono ?_; rintro e w' ⟨rfl, rfl⟩))
  go_ret
  exact ⟨rfl, by repeat (first | exact Below.refl _ _ | refine below_chain ?_ (by assumption))⟩

set_option maxRecDepth 100000 in
set_option maxHeartbeats 1000000 in
theorem law_EG_EG_EG (a0 a1 a2 a3 a4 a5 : Int) (w : World) (i0 : lessB a0 a1 a0 a1 = false) (i1 : lessB a2 a3 a2 a3 = false) (i2 : lessB a4 a5 a4 a5 = false)
    (p1 : lessB a0 a1 a2 a3 = false) (p2 : lessB a2 a3 a0 a1 = true) (p3 : (a0 == a2) = true) (p4 : (a1 == a3) = false)
    (q1 : lessB a2 a3 a4 a5 = false) (q2 : lessB a4 a5 a2 a3 = true) (q3 : (a2 == a4) = true) (q4 : (a3 == a5) = false)
    (r1 : lessB a0 a1 a4 a5 = false) (r2 : lessB a4 a5 a0 a1 = true) (r3 : (a0 == a4) = true) (r4 : (a1 == a5) = false) :
    Calls Try.prog 5 #[.int .i64 a0, .int .u64 a1, .int .i64 a2, .int .u64 a3, .int .i64 a4, .int .u64 a5] w fun e w' => e = .returned (.bool true) ∧ Below w.heap.size w w' := by
  go_enter Try.func5, Try.ntmps5
  go_wp2_with (first | (go_at_call 13; refine (agendaLess_any _ _ _ _ _).mono ?_; rintro e w' ⟨rfl, hb⟩) | (go_at_call 15; refine (flightBefore_any _ _ _ _ _).mono ?_; rintro e w' ⟨rfl, hb⟩) | (go_at_call 14; refine (one_any _ _ _ _).mono ?_; rintro e w' ⟨rfl, rfl⟩))
  go_ret
  exact ⟨rfl, by repeat (first | exact Below.refl _ _ | refine below_chain ?_ (by assumption))⟩

set_option maxRecDepth 100000 in
set_option maxHeartbeats 1000000 in
theorem law_EG_EL_EE (a0 a1 a2 a3 a4 a5 : Int) (w : World) (i0 : lessB a0 a1 a0 a1 = false) (i1 : lessB a2 a3 a2 a3 = false) (i2 : lessB a4 a5 a4 a5 = false)
    (p1 : lessB a0 a1 a2 a3 = false) (p2 : lessB a2 a3 a0 a1 = true) (p3 : (a0 == a2) = true) (p4 : (a1 == a3) = false)
    (q1 : lessB a2 a3 a4 a5 = true) (q2 : lessB a4 a5 a2 a3 = false) (q3 : (a2 == a4) = true) (q4 : (a3 == a5) = false)
    (r1 : lessB a0 a1 a4 a5 = false) (r2 : lessB a4 a5 a0 a1 = false) (r3 : (a0 == a4) = true) (r4 : (a1 == a5) = true) :
    Calls Try.prog 5 #[.int .i64 a0, .int .u64 a1, .int .i64 a2, .int .u64 a3, .int .i64 a4, .int .u64 a5] w fun e w' => e = .returned (.bool true) ∧ Below w.heap.size w w' := by
  go_enter Try.func5, Try.ntmps5
  go_wp2_with (first | (go_at_call 13; refine (agendaLess_any _ _ _ _ _).mono ?_; rintro e w' ⟨rfl, hb⟩) | (go_at_call 15; refine (flightBefore_any _ _ _ _ _).mono ?_; rintro e w' ⟨rfl, hb⟩) | (go_at_call 14; refine (one_any _ _ _ _).mono ?_; rintro e w' ⟨rfl, rfl⟩))
  go_ret
  exact ⟨rfl, by repeat (first | exact Below.refl _ _ | refine below_chain ?_ (by assumption))⟩

set_option maxRecDepth 100000 in
set_option maxHeartbeats 1000000 in
theorem law_EG_EL_EG (a0 a1 a2 a3 a4 a5 : Int) (w : World) (i0 : lessB a0 a1 a0 a1 = false) (i1 : lessB a2 a3 a2 a3 = false) (i2 : lessB a4 a5 a4 a5 = false)
    (p1 : lessB a0 a1 a2 a3 = false) (p2 : lessB a2 a3 a0 a1 = true) (p3 : (a0 == a2) = true) (p4 : (a1 == a3) = false)
    (q1 : lessB a2 a3 a4 a5 = true) (q2 : lessB a4 a5 a2 a3 = false) (q3 : (a2 == a4) = true) (q4 : (a3 == a5) = false)
    (r1 : lessB a0 a1 a4 a5 = false) (r2 : lessB a4 a5 a0 a1 = true) (r3 : (a0 == a4) = true) (r4 : (a1 == a5) = false) :
    Calls Try.prog 5 #[.int .i64 a0, .int .u64 a1, .int .i64 a2, .int .u64 a3, .int .i64 a4, .int .u64 a5] w fun e w' => e = .returned (.bool true) ∧ Below w.heap.size w w' := by
  go_enter Try.func5, Try.ntmps5
  go_wp2_with (first | (go_at_call 13; refine (agendaLess_any _ _ _ _ _).mono ?_; rintro e w' ⟨rfl, hb⟩) | (go_at_call 15; refine (flightBefore_any _ _ _ _ _).mono ?_; rintro e w' ⟨rfl, hb⟩) | (go_at_call 14; refine (one_any _ _ _ _).mono ?_; rintro e w' ⟨rfl, rfl⟩))
  go_ret
  exact ⟨rfl, by repeat (first | exact Below.refl _ _ | refine below_chain ?_ (by assumption))⟩

set_option maxRecDepth 100000 in
set_option maxHeartbeats 1000000 in
theorem law_EG_EL_EL (a0 a1 a2 a3 a4 a5 : Int) (w : World) (i0 : lessB a0 a1 a0 a1 = false) (i1 : lessB a2 a3 a2 a3 = false) (i2 : lessB a4 a5 a4 a5 = false)
    (p1 : lessB a0 a1 a2 a3 = false) (p2 : lessB a2 a3 a0 a1 = true) (p3 : (a0 == a2) = true) (p4 : (a1 == a3) = false)
    (q1 : lessB a2 a3 a4 a5 = true) (q2 : lessB a4 a5 a2 a3 = false) (q3 : (a2 == a4) = true) (q4 : (a3 == a5) = false)
    (r1 : lessB a0 a1 a4 a5 = true) (r2 : lessB a4 a5 a0 a1 = false) (r3 : (a0 == a4) = true) (r4 : (a1 == a5) = false) :
    Calls Try.prog 5 #[.int .i64 a0, .int .u64 a1, .int .i64 a2, .int .u64 a3, .int .i64 a4, .int .u64 a5] w fun e w' => e = .returned (.bool true) ∧ Below w.heap.size w w' := by
  go_enter Try.func5, Try.ntmps5
  go_wp2_with (first | (go_at_call 13; refine (agendaLess_any _ _ _ _ _).mono ?_; rintro e w' ⟨rfl, hb⟩) | (go_at_call 15; refine (flightBefore_any _ _ _ _ _).mono ?_; rintro e w' ⟨rfl, hb⟩) | (go_at_call 14; refine (one_any _ _ _ _).mono ?_; rintro e w' ⟨rfl, rfl⟩))
  go_ret
  exact ⟨rfl, by repeat (first | exact Below.refl _ _ | refine below_chain ?_ (by assumption))⟩

set_option maxRecDepth 100000 in
set_option maxHeartbeats 1000000 in
theorem law_EG_G_G (a0 a1 a2 a3 a4 a5 : Int) (w : World) (i0 : lessB a0 a1 a0 a1 = false) (i1 : lessB a2 a3 a2 a3 = false) (i2 : lessB a4 a5 a4 a5 = false)
    (p1 : lessB a0 a1 a2 a3 = false) (p2 : lessB a2 a3 a0 a1 = true) (p3 : (a0 == a2) = true) (p4 : (a1 == a3) = false)
    (q1 : lessB a2 a3 a4 a5 = false) (q2 : lessB a4 a5 a2 a3 = true) (q3 : (a2 == a4) = false)
    (r1 : lessB a0 a1 a4 a5 = false) (r2 : lessB a4 a5 a0 a1 = true) (r3 : (a0 == a4) = false) :
    Calls Try.prog 5 #[.int .i64 a0, .int .u64 a1, .int .i64 a2, .int .u64 a3, .int .i64 a4, .int .u64 a5] w fun e w' => e = .returned (.bool true) ∧ Below w.heap.size w w' := by
  go_enter Try.func5, Try.ntmps5
  go_wp2_with (first | (go_at_call 13; refine (agendaLess_any _ _ _ _ _).mono ?_; rintro e w' ⟨rfl, hb⟩) | (go_at_call 15; refine (flightBefore_any _ _ _ _ _).mono ?_; rintro e w' ⟨rfl, hb⟩) | (go_at_call 14; refine (one_any _ _ _ _).mono ?_; rintro e w' ⟨rfl, rfl⟩))
  go_ret
  exact ⟨rfl, by repeat (first | exact Below.refl _ _ | refine below_chain ?_ (by assumption))⟩

set_option maxRecDepth 100000 in
set_option maxHeartbeats 1000000 in
theorem law_EG_L_L (a0 a1 a2 a3 a4 a5 : Int) (w : World) (i0 : lessB a0 a1 a0 a1 = false) (i1 : lessB a2 a3 a2 a3 = false) (i2 : lessB a4 a5 a4 a5 = false)
    (p1 : lessB a0 a1 a2 a3 = false) (p2 : lessB a2 a3 a0 a1 = true) (p3 : (a0 == a2) = true) (p4 : (a1 == a3) = false)
    (q1 : lessB a2 a3 a4 a5 = true) (q2 : lessB a4 a5 a2 a3 = false) (q3 : (a2 == a4) = false)
    (r1 : lessB a0 a1 a4 a5 = true) (r2 : lessB a4 a5 a0 a1 = false) (r3 : (a0 == a4) = false) :
    Calls Try.prog 5 #[.int .i64 a0, .int .u64 a1, .int .i64 a2, .int .u64 a3, .int .i64 a4, .int .u64 a5] w fun e w' => e = .returned (.bool true) ∧ Below w.heap.size w w' := by
  go_enter Try.func5, Try.ntmps5
  go_wp2_with (first | (go_at_call 13; refine (agendaLess_any _ _ _ _ _).mono ?_; rintro e w' ⟨rfl, hb⟩) | (go_at_call 15; refine (flightBefore_any _ _ _ _ _).mono ?_; rintro e w' ⟨rfl, hb⟩) | (go_at_call 14; refine (one_any _ _ _ _).mono ?_; rintro e w' ⟨rfl, rfl⟩))
  go_ret
  exact ⟨rfl, by repeat (first | exact Below.refl _ _ | refine below_chain ?_ (by assumption))⟩

set_option maxRecDepth 100000 in
set_option maxHeartbeats 1000000 in
theorem law_EL_EE_EL (a0 a1 a2 a3 a4 a5 : Int) (w : World) (i0 : lessB a0 a1 a0 a1 = false) (i1 : lessB a2 a3 a2 a3 = false) (i2 : lessB a4 a5 a4 a5 = false)
    (p1 : lessB a0 a1 a2 a3 = true) (p2 : lessB a2 a3 a0 a1 = false) (p3 : (a0 == a2) = true) (p4 : (a1 == a3) = false)
    (q1 : lessB a2 a3 a4 a5 = false) (q2 : lessB a4 a5 a2 a3 = false) (q3 : (a2 == a4) = true) (q4 : (a3 == a5) = true)
    (r1 : lessB a0 a1 a4 a5 = true) (r2 : lessB a4 a5 a0 a1 = false) (r3 : (a0 == a4) = true) (r4 : (a1 == a5) = false) :
    Calls Try.prog 5 #[.int .i64 a0, .int .u64 a1, .int .i64 a2, .int .u64 a3, .int .i64 a4, .int .u64 a5] w fun e w' => e = .returned (.bool true) ∧ Below w.heap.size w w' := by
  go_enter Try.func5, Try.ntmps5
  go_wp2_with (first | (go_at_call 13; refine (agendaLess_any _ _ _ _ _).mono ?_; rintro e w' ⟨rfl, hb⟩) | (go_at_call 15; refine (flightBefore_any _ _ _ _ _).mono ?_; rintro e w' ⟨rfl, hb⟩) | (go_at_call 14; refine (one_any _ _ _ _).mono ?_; rintro e w' ⟨rfl, rfl⟩))
  go_ret
  exact ⟨rfl, by repeat (first | exact Below.refl _ _ | refine below_chain ?_ (by assumption))⟩

end Go.Proofs.Qxb6003795a
