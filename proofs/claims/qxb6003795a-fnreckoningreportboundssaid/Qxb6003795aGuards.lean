/- The law's guards, and the exported report. -/
import Derived.Test.Qxb6003795aReport
import Derived.Test.Qxb6003795aRun
namespace Go.Proofs.Qxb6003795a
set_option maxRecDepth 100000
open Go.RowKit Go.Maps
attribute [local go_sem ↓] Go.wp_at_zero Go.wp_at_succ

def RetBool (e : Ending) : Prop := ∃ r : Bool, e = .returned (.bool r)

set_option maxHeartbeats 1000000 in
theorem zzBytes_any (a0 : Option Addr) (n0 c0 : Nat) (a1 : Option Addr) (n1 c1 : Nat) (x2 x3 : Int) (h0 : n0 ≤ maxLen) (h1 : n1 ≤ maxLen) (w : World) :
    Calls Try.prog 6 #[.slice a0 n0 c0, .slice a1 n1 c1, .int .u8 x2, .int .i64 x3] w fun e w' => RetBool e ∧ w' = w := by
  unfold maxLen at h0 h1
  go_enter Try.func6, Try.ntmps6
  go_wp2
  all_goals (go_ret; exact ⟨⟨_, rfl⟩, rfl⟩)

def Fits (n0 n1 : Nat) (V1 : Nat → Int) (un : Int) : Prop := n0 ≤ 4096 ∧ n1 ≤ 4096 ∧ (-1099511627776 ≤ un ∧ un ≤ 1099511627776) ∧ ∀ i, i < n1 → -1099511627776 ≤ V1 i ∧ V1 i ≤ 1099511627776
def FitsTo (n0 n1 : Nat) (V1 : Nat → Int) (un : Int) (e : Ending) : Prop := ∃ r : Bool, e = .returned (.bool r) ∧ (r = true → Fits n0 n1 V1 un)

set_option maxHeartbeats 1000000 in
theorem zzFits_any (a0 : Option Addr) (n0 c0 : Nat) (a1 : Option Addr) (n1 c1 b1 o1 : Nat) (V1 : Nat → Int) (un : Int) (w : World) (s1 : Sl w a1 n1 c1 b1 o1 (fun i => .int .i64 (V1 i))) :
    Calls Try.prog 7 #[.slice a0 n0 c0, .slice a1 n1 c1, .int .i64 un] w fun e w' => FitsTo n0 n1 V1 un e ∧ w' = w := by
  by_cases l0 : 4096 < n0
  · go_enter Try.func7, Try.ntmps7
    go_wp2
    go_ret
    exact ⟨⟨_, rfl, fun h => by cases h⟩, rfl⟩
  by_cases l1 : 4096 < n1
  · go_enter Try.func7, Try.ntmps7
    go_wp2
    go_ret
    exact ⟨⟨_, rfl, fun h => by cases h⟩, rfl⟩
  by_cases l2 : 1099511627776 < un
  · go_enter Try.func7, Try.ntmps7
    go_wp2
    go_ret
    exact ⟨⟨_, rfl, fun h => by cases h⟩, rfl⟩
  by_cases l3 : un < -1099511627776
  · go_enter Try.func7, Try.ntmps7
    go_wp2
    go_ret
    exact ⟨⟨_, rfl, fun h => by cases h⟩, rfl⟩
  go_enter Try.func7, Try.ntmps7
  go_wp2
  go_loop [7] (fun i => ∃ k : Nat, k ≤ n1 ∧ i = .int .i64 k ∧ ∀ j, j < k → -1099511627776 ≤ V1 j ∧ V1 j ≤ 1099511627776) (fun i => n1 - (intOf i).toNat)
  case atStart => exact ⟨0, Nat.zero_le _, rfl, fun j hj => by omega⟩
  case round =>
    obtain ⟨k, hk, rfl, hall⟩ := hrel
    have HA : Hid (∀ j, j < k → -1099511627776 ≤ V1 j ∧ V1 j ≤ 1099511627776) := hall
    clear hall
    by_cases hlt : k < n1
    · have hi := s1.idx (P := Try.prog) Try.underlying23 size2 hlt .i64
      have hc := s1.cell k hlt
      obtain ⟨x, hx⟩ : ∃ x, x = V1 k := ⟨_, rfl⟩
      rw [← hx] at hc
      have HX : Hid (x = V1 k) := hx
      clear hx
      by_cases m1 : 1099511627776 < x
      · go_wp2
        go_ret
        exact ⟨⟨_, rfl, fun h => by cases h⟩, rfl⟩
      by_cases m2 : x < -1099511627776
      · go_wp2
        go_ret
        exact ⟨⟨_, rfl, fun h => by cases h⟩, rfl⟩
      go_wp2
      go_round
      case rel =>
        refine ⟨k + 1, by omega, by go_num, fun j hj => ?_⟩
        by_cases e : j = k
        · rw [e, ← HX.out]; omega
        · exact HA.out j (by omega)
      case measure => simp [intOf]; omega
    · have hkn : k = n1 := by omega
      subst hkn
      go_wp2
      go_ret
      exact ⟨⟨_, rfl, fun _ => ⟨by omega, by omega, by omega, HA.out⟩⟩, rfl⟩

theorem Kept.of_below {a b : World} (h : Below a.heap.size a b) : Kept [] a b := ⟨h.os, h.tape, h.output, h.size, fun k hk _ => h.block k hk⟩

set_option maxHeartbeats 1000000 in
theorem zzReport_any (T M : Nat) (S : St) (B K : Nat) (D : DataW Unit) (al : Nat → Bool) (un : Int) (w : World) (m : Mem T w S) (inv : Inv S M) (hA : w.ownsMap Try.prog 9 (plainElem Try.prog 4) B 8 D) (hD : IsAlive D al 8 K) (hB : S.H + 6 ≤ B)
    (hM : M ≤ 90000) (hL : S.L.length ≤ 4096) (ba : -1099511627776 ≤ un ∧ un ≤ 1099511627776) :
    Calls Try.prog 11 #[.pointer (some ⟨S.H + 5, 0, none⟩), .map (some B), .int .i64 un] w fun e w' => RepTo S.L.length K M e ∧ Below S.H w w' := by
  have hlt := m.lt
  have k1 : Kept [] w (w.alloc (.cells #[.int .i64 0, .int .i64 0, .int .i64 0, .int .i64 0, .int .i64 0, .int .i64 0, .int .i64 0, .int .i64 0] 39)) := (Kept.refl _ _).alloc _
  have HC := report_any T M S S.H rfl B K D al un _ (m.kept k1) inv (k1.owns hA (by simp)) hD hB hM hL ba
  have q1 : (w.alloc (.cells #[.int .i64 0, .int .i64 0, .int .i64 0, .int .i64 0, .int .i64 0, .int .i64 0, .int .i64 0, .int .i64 0] 39)).heap[w.heap.size]? = some (.cells zeros8 39 (0, 0)) := heap_alloc_new _ _
  have hs1 : w.heap.size < (w.alloc (.cells #[.int .i64 0, .int .i64 0, .int .i64 0, .int .i64 0, .int .i64 0, .int .i64 0, .int .i64 0, .int .i64 0] 39)).heap.size := by simp
  have K1 : Hid (Kept [] w (w.alloc (.cells #[.int .i64 0, .int .i64 0, .int .i64 0, .int .i64 0, .int .i64 0, .int .i64 0, .int .i64 0, .int .i64 0] 39))) := k1
  have Q1 : Hid ((w.alloc (.cells #[.int .i64 0, .int .i64 0, .int .i64 0, .int .i64 0, .int .i64 0, .int .i64 0, .int .i64 0, .int .i64 0] 39)).heap[w.heap.size]? = some (.cells zeros8 39 (0, 0))) := q1
  have HS : Hid (w.heap.size < (w.alloc (.cells #[.int .i64 0, .int .i64 0, .int .i64 0, .int .i64 0, .int .i64 0, .int .i64 0, .int .i64 0, .int .i64 0] 39)).heap.size) := hs1
  clear m inv hA hD k1 q1 hs1
  go_enter Try.func11, Try.ntmps11
  go_wp2_with fail
  refine HC.mono ?_
  rintro e w2 ⟨⟨p, u, dm, dx, mc, mm, mx, rfl, hrep⟩, k2⟩
  have q2 : w2.heap[w.heap.size]? = some (.cells zeros8 39 (0, 0)) := (k2.block w.heap.size HS.out (by simp; omega)).trans Q1.out
  have BE : Hid (Below S.H w w2) := (K1.out.below (by omega) (by simp)).trans (k2.below (by have := HS.out; omega) (by simp))
  have HR : Hid (p ≤ (S.L.length : Int) * K ∧ (S.L.length : Int) * ((K : Int) - 1) ≤ p ∧ 0 ≤ u ∧ u ≤ p ∧ 0 ≤ dx ∧ dm ≤ dx ∧ 0 ≤ mx ∧ mm ≤ mx ∧ (u = p → dm = 0 ∧ dx = 0) ∧ 0 ≤ mc ∧ mc ≤ M ∧ (mc = 0 → mm = 0 ∧ mx = 0)) := hrep
  have fz : ∀ j, w2.frozen? ⟨w.heap.size, j, none⟩ = false := by intro j; simp [World.frozen?, q2]
  have c0 : w2.cell? ⟨w.heap.size, 0, none⟩ = some (.int .i64 0) := cell_of_blk q2 0
  have c1 : w2.cell? ⟨w.heap.size, 1, none⟩ = some (.int .i64 0) := cell_of_blk q2 1
  have c2 : w2.cell? ⟨w.heap.size, 2, none⟩ = some (.int .i64 0) := cell_of_blk q2 2
  have c3 : w2.cell? ⟨w.heap.size, 3, none⟩ = some (.int .i64 0) := cell_of_blk q2 3
  have c4 : w2.cell? ⟨w.heap.size, 4, none⟩ = some (.int .i64 0) := cell_of_blk q2 4
  have c5 : w2.cell? ⟨w.heap.size, 5, none⟩ = some (.int .i64 0) := cell_of_blk q2 5
  have c6 : w2.cell? ⟨w.heap.size, 6, none⟩ = some (.int .i64 0) := cell_of_blk q2 6
  have c7 : w2.cell? ⟨w.heap.size, 7, none⟩ = some (.int .i64 0) := cell_of_blk q2 7
  clear HC k2 hrep q2 K1 Q1 HS
  go_wp2_with fail
  refine bodyPost_ret (v := .agg #[.int .i64 S.L.length, .int .i64 p, .int .i64 u, .int .i64 dm, .int .i64 dx, .int .i64 mc, .int .i64 mm, .int .i64 mx]) (by simp [results, Try.results11, go_sem, c0, c1, c2, c3, c4, c5, c6, c7]) rfl ?_
  exact ⟨⟨p, u, dm, dx, mc, mm, mx, rfl, HR.out⟩, ((((((((BE.out.setCell (p := ⟨w.heap.size, 0, none⟩) (by show S.H ≤ w.heap.size; omega) _).setCell (p := ⟨w.heap.size, 1, none⟩) (by show S.H ≤ w.heap.size; omega) _).setCell (p := ⟨w.heap.size, 2, none⟩) (by show S.H ≤ w.heap.size; omega) _).setCell (p := ⟨w.heap.size, 3, none⟩) (by show S.H ≤ w.heap.size; omega) _).setCell (p := ⟨w.heap.size, 4, none⟩) (by show S.H ≤ w.heap.size; omega) _).setCell (p := ⟨w.heap.size, 5, none⟩) (by show S.H ≤ w.heap.size; omega) _).setCell (p := ⟨w.heap.size, 6, none⟩) (by show S.H ≤ w.heap.size; omega) _).setCell (p := ⟨w.heap.size, 7, none⟩) (by show S.H ≤ w.heap.size; omega) _)⟩
end Go.Proofs.Qxb6003795a
