/- lengths: add, merge, mean. -/
import Derived.Test.Qxb6003795aMem
namespace Go.Proofs.Qxb6003795a
set_option maxRecDepth 100000
open Go.RowKit Go.Maps
attribute [local go_sem ↓] Go.wp_at_zero Go.wp_at_succ

set_option maxHeartbeats 1000000 in
theorem add_any (b off : Nat) (n s m d : Int) (cs : Array Value) (t : TypeId) (w : World) (hb : w.heap[b]? = some (.cells cs t (0, 0))) (k0 : cs[off]? = some (.int .i64 n)) (k1 : cs[off + 1]? = some (.int .i64 s)) (k2 : cs[off + 2]? = some (.int .i64 m))
    (hn : 0 ≤ n ∧ n ≤ 1000000) (hs : -4611686018427387904 ≤ s ∧ s ≤ 4611686018427387904) (hd : -4611686018427387904 ≤ d ∧ d ≤ 4611686018427387904 - 1) :
    Calls Try.prog 28 #[.pointer (some ⟨b, off, none⟩), .int .i64 d] w fun e w' => e = .returned (.tuple #[]) ∧ w' = ((w.setCell ⟨b, off, none⟩ (.int .i64 (n + 1))).setCell ⟨b, off + 1, none⟩ (.int .i64 (s + d))).setCell ⟨b, off + 2, none⟩ (.int .i64 (max m d)) := by
  have c0 : w.cell? ⟨b, off, none⟩ = some (.int .i64 n) := by rw [cell_of_blk hb]; exact k0
  have c1 : w.cell? ⟨b, off + 1, none⟩ = some (.int .i64 s) := by rw [cell_of_blk hb]; exact k1
  have c2 : w.cell? ⟨b, off + 2, none⟩ = some (.int .i64 m) := by rw [cell_of_blk hb]; exact k2
  have f : ∀ o, w.frozen? ⟨b, o, none⟩ = false := by intro o; simp [World.frozen?, hb]
  clear hb k0 k1 k2
  go_enter Try.func28, Try.ntmps28
  go_wp2
  · go_end0
    rw [show max m d = d by omega]
    exact ⟨rfl, rfl⟩
  · go_end0
    rw [show max m d = m by omega]
    exact ⟨rfl, rfl⟩

set_option maxHeartbeats 2000000 in
theorem merge_any (b : Nat) (n s m n' s' m' : Int) (w : World) (hb : w.heap[b]? = some (.cells #[.int .i64 n, .int .i64 s, .int .i64 m] 81 (0, 0)))
    (hn : 0 ≤ n ∧ n ≤ 1000000) (hn' : 0 ≤ n' ∧ n' ≤ 1000000) (hs : -4611686018427387904 ≤ s ∧ s ≤ 4611686018427387903) (hs' : -4611686018427387904 ≤ s' ∧ s' ≤ 4611686018427387903) :
    Calls Try.prog 26 #[.pointer (some ⟨b, 0, none⟩), .agg #[.int .i64 n', .int .i64 s', .int .i64 m']] w fun e w' => e = .returned (.tuple #[]) ∧ Kept [b] w w' ∧ w'.heap[b]? = some (.cells #[.int .i64 (n + n'), .int .i64 (s + s'), .int .i64 (max m m')] 81 (0, 0)) := by
  have hlt : b < w.heap.size := (Array.getElem?_eq_some_iff.1 hb).1
  have hne : b ≠ w.heap.size := by omega
  have c0 : w.cell? ⟨b, 0, none⟩ = some (.int .i64 n) := by rw [cell_of_blk hb]; rfl
  have c1 : w.cell? ⟨b, 1, none⟩ = some (.int .i64 s) := by rw [cell_of_blk hb]; rfl
  have c2 : w.cell? ⟨b, 2, none⟩ = some (.int .i64 m) := by rw [cell_of_blk hb]; rfl
  have f : ∀ o, w.frozen? ⟨b, o, none⟩ = false := by intro o; simp [World.frozen?, hb]
  have HB : Hid (w.heap[b]? = some (.cells #[.int .i64 n, .int .i64 s, .int .i64 m] 81 (0, 0))) := hb
  clear hb
  go_enter Try.func26, Try.ntmps26
  go_wp2
  go_region
  go_wp2
  go_region
  go_wp2
  go_region
  go_wp2
  all_goals go_end0
  all_goals refine ⟨rfl, ((((((Kept.refl _ _).setCell (.inl (by simp)) _).setCell (.inl (by simp)) _).setCell (.inl (by simp)) _).alloc _).drew).drew.drew, ?_⟩
  · rw [show max m m' = m' by omega]
    exact (Below.heap_alloc _ _ b (by simpa using hlt)).trans (by simpa using blk_setCell (blk_setCell (blk_setCell HB.out 0 (.int .i64 (n + n'))) 1 (.int .i64 (s + s'))) 2 (.int .i64 m'))
  · rw [show max m m' = m by omega]
    exact (Below.heap_alloc _ _ b (by simpa using hlt)).trans (by simpa using blk_setCell (blk_setCell (blk_setCell HB.out 0 (.int .i64 (n + n'))) 1 (.int .i64 (s + s'))) 2 (.int .i64 m))

set_option maxHeartbeats 1000000 in
theorem mean_any (n s m : Int) (w : World) (hn : 0 ≤ n ∧ n ≤ 1000000) (hs : -4611686018427387904 ≤ s ∧ s ≤ 4611686018427387903) :
    Calls Try.prog 27 #[.agg #[.int .i64 n, .int .i64 s, .int .i64 m]] w fun e w' => e = .returned (.int .i64 (if n = 0 then 0 else s.tdiv n)) ∧ w' = w.alloc (.cells #[.int .i64 n, .int .i64 s, .int .i64 m] 81) := by
  by_cases h0 : n = 0
  · subst h0
    go_enter Try.func27, Try.ntmps27
    go_wp2
    go_ret
    exact ⟨rfl, rfl⟩
  · have hne : (n == 0) = false := by simp [h0]
    go_enter Try.func27, Try.ntmps27
    go_wp2
    go_ret
    exact ⟨rfl, rfl⟩
end Go.Proofs.Qxb6003795a
