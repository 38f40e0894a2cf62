/- view.without: the members of other incarnations, in order, in a new row. -/
import Derived.Test.Qxb6003790aView
namespace Go.Proofs.Qxb6003790a
open Go.RowKit

theorem info43 : (Try.prog.info? 43).map (fun i => (i.zero, i.size, i.bytes)) = some (some (.agg #[.string ByteArray.empty, .string ByteArray.empty, .int .u64 0]), 3, 40) := by kernel_rfl

/-- The members whose incarnation is not inc. -/
def wo (inc : Int) (L : List Mem) : List Mem := L.filter (fun m => !hasInc inc m)

theorem wo_take_hit {inc : Int} {L : List Mem} {k : Nat} (hk : k < L.length) (h : hasInc inc (mAt L k) = true) : wo inc (L.take (k + 1)) = wo inc (L.take k) := by
  rw [take_snoc hk, wo, List.filter_append]
  simp [wo, List.filter, h]
theorem wo_take_miss {inc : Int} {L : List Mem} {k : Nat} (hk : k < L.length) (h : hasInc inc (mAt L k) = false) : wo inc (L.take (k + 1)) = wo inc (L.take k) ++ [mAt L k] := by
  rw [take_snoc hk, wo, List.filter_append]
  simp [wo, List.filter, h]
theorem wo_le (inc : Int) (L : List Mem) : (wo inc L).length ≤ L.length := List.length_filter_le _ _

theorem set5_row {w : World} {a : Option Addr} {n cap b off : Nat} {L : List Mem} (h : MRow w a n cap b off L) {B : Nat} (hne : 0 < n → b ≠ B) {v0 v1 v2 v3 v4 : Value} {j0 j1 j2 j3 j4 : Nat} :
    MRow (((((w.setCell ⟨B, j0, none⟩ v0).setCell ⟨B, j1, none⟩ v1).setCell ⟨B, j2, none⟩ v2).setCell ⟨B, j3, none⟩ v3).setCell ⟨B, j4, none⟩ v4) a n cap b off L :=
  h.block (by simp [World.setCell]) (fun h0 => by
    have := hne h0
    rw [Below.heap_setCell _ _ _ _ this, Below.heap_setCell _ _ _ _ this, Below.heap_setCell _ _ _ _ this, Below.heap_setCell _ _ _ _ this, Below.heap_setCell _ _ _ _ this])
theorem set5_below {w0 w : World} (h : Below w0.heap.size w0 w) {B : Nat} (hB : w0.heap.size ≤ B) {v0 v1 v2 v3 v4 : Value} {j0 j1 j2 j3 j4 : Nat} :
    Below w0.heap.size w0 (((((w.setCell ⟨B, j0, none⟩ v0).setCell ⟨B, j1, none⟩ v1).setCell ⟨B, j2, none⟩ v2).setCell ⟨B, j3, none⟩ v3).setCell ⟨B, j4, none⟩ v4) :=
  ((((h.setCell (p := ⟨B, j0, none⟩) hB _).setCell (p := ⟨B, j1, none⟩) hB _).setCell (p := ⟨B, j2, none⟩) hB _).setCell (p := ⟨B, j3, none⟩) hB _).setCell (p := ⟨B, j4, none⟩) hB _

/-- The empty result of type view, in a later world: its five cells, none frozen. -/
theorem zero40 {w : World} {B : Nat} (Z : w.heap[B]? = some (.cells #[.string ByteArray.empty, .int .u64 0, .slice none 0 0, .int .u64 0, .map none] 40)) :
    w.cell? ⟨B, 0, none⟩ = some (.string ByteArray.empty) ∧ w.cell? ⟨B, 1, none⟩ = some (.int .u64 0) ∧ w.cell? ⟨B, 2, none⟩ = some (.slice none 0 0) ∧ w.cell? ⟨B, 3, none⟩ = some (.int .u64 0) ∧ w.cell? ⟨B, 4, none⟩ = some (.map none) ∧
    w.frozen? ⟨B, 0, none⟩ = false ∧ w.frozen? ⟨B, 1, none⟩ = false ∧ w.frozen? ⟨B, 2, none⟩ = false ∧ w.frozen? ⟨B, 3, none⟩ = false ∧ w.frozen? ⟨B, 4, none⟩ = false := by
  simp [World.cell?, World.frozen?, Z]

/-- It returns a view with these members; nothing old is touched. -/
def RetView (c : ByteArray) (id mg : Int) (r : Option Nat) (L' : List Mem) (w : World) (e : Ending) (w' : World) : Prop :=
  ∃ (a' : Option Addr) (cap' b' off' : Nat), e = .returned (.agg #[.string c, .int .u64 id, .slice a' L'.length cap', .int .u64 mg, .map r]) ∧ MRow w' a' L'.length cap' b' off' L' ∧ (0 < L'.length → w.heap.size ≤ b') ∧ Below w.heap.size w w'

set_option maxRecDepth 100000 in
set_option maxHeartbeats 1000000 in
theorem without_any (c : ByteArray) (id : Int) (a : Option Addr) (n cap : Nat) (mg : Int) (r : Option Nat) (inc : Int) (b off : Nat) (L : List Mem) (w : World) (h : MRow w a n cap b off L) (hn : n ≤ 8192) :
    Calls Try.prog 34 #[.agg #[.string c, .int .u64 id, .slice a n cap, .int .u64 mg, .map r], .int .u64 inc] w
      fun e w' => RetView c id mg r (wo inc L) w e w' := by
  obtain ⟨i0, hi0, hz0, hz1, hz2⟩ := info_parts info43
  go_enter Try.func34, Try.ntmps34
  go_wp2_with (at_make; refine wpList_make_own _ rfl _ _ 37 rfl (w.heap.size + 2) 43 i0 (.agg #[.string ByteArray.empty, .string ByteArray.empty, .int .u64 0]) 3 Try.underlying37 hi0 hz0 hz1 .i64 .i64 _ n rfl rfl rfl (by rw [hz2]; omega) (by unfold maxLen; omega) (by simp) ?_; intro w1 hown hg; have q2 := hg.cell (a := ⟨w.heap.size, 2, none⟩) (v := .slice a n cap) (by simp) (by simp))
  have X0 : w1.heap[w.heap.size]? = some (.cells #[.string c, .int .u64 id, .slice a n cap, .int .u64 mg, .map r] 40) := by
    rw [hg.block _ (by simp <;> omega) (by simp), Below.heap_alloc _ _ _ (by simp)]
    exact heap_alloc_new _ _
  have Z0 : w1.heap[w.heap.size + 1]? = some (.cells #[.string ByteArray.empty, .int .u64 0, .slice none 0 0, .int .u64 0, .map none] 40) := by
    rw [hg.block _ (by simp <;> omega) (by simp), show w.heap.size + 1 = (w.alloc (.cells #[.string c, .int .u64 id, .slice a n cap, .int .u64 mg, .map r] 40)).heap.size by simp]
    exact heap_alloc_new _ _
  have hs0 : w.heap.size + 2 ≤ w1.heap.size := by have := hg.size; simp at this; omega
  have hb0 : Below w.heap.size w w1 := Below.grown (((Below.refl _ _).alloc (Nat.le_refl _) _).alloc (by simp) _) hg (by simp; omega) (by intro k hk; cases hk)
  clear hg q2
  go_loopw [5, 15] (fun v i wr => ∃ k : Nat, k ≤ n ∧ i = .int .i64 k ∧ wr.ownsRow (w.heap.size + 2) 43 3 v (wo inc (L.take k)).length (mCells (wo inc (L.take k))) ∧ Below w.heap.size w wr ∧ w.heap.size + 2 ≤ wr.heap.size ∧
      wr.heap[w.heap.size]? = some (.cells #[.string c, .int .u64 id, .slice a n cap, .int .u64 mg, .map r] 40) ∧ wr.heap[w.heap.size + 1]? = some (.cells #[.string ByteArray.empty, .int .u64 0, .slice none 0 0, .int .u64 0, .map none] 40))
    (fun _ i _ => n - (intOf i).toNat)
  case atStart => exact ⟨0, Nat.zero_le _, rfl, by simpa [wo, mCells] using hown, hb0, hs0, X0, Z0⟩
  case round =>
    clear hown X0 Z0 hs0 hb0
    obtain ⟨k, hk, rfl, hown, hbel, hsz, X, Z⟩ := hrel
    by_cases hlt : k < n
    · have hi := h.idx hlt .i64
      have hblt := h.lt (by omega)
      have hc0 : wr.cell? ⟨b, off + k * 3, none⟩ = _ := (hbel.cell hblt).trans (h.c0 k hlt)
      have hc1 : wr.cell? ⟨b, off + k * 3 + 1, none⟩ = _ := (hbel.cell hblt).trans (h.c1 k hlt)
      have hc2 : wr.cell? ⟨b, off + k * 3 + 2, none⟩ = _ := (hbel.cell hblt).trans (h.c2 k hlt)
      have hkl : k < L.length := by rw [h.len]; exact hlt
      have hwl : (wo inc (L.take k)).length ≤ k := Nat.le_trans (wo_le _ _) (List.length_take_le _ _)
      cases he : hasInc inc (mAt L k) with
      | true =>
        have hb : ((mAt L k).inc != inc) = false := by simpa [hasInc] using he
        have HW : Hid (wo inc (L.take (k + 1)) = wo inc (L.take k)) := wo_take_hit hkl he
        clear he
        go_wp2
        go_roundw
        case rel =>
          refine ⟨k + 1, by omega, by go_num, by rw [HW.out]; exact hown.alloc _, hbel.alloc (by omega) _, by simp; omega, ?_, ?_⟩
          · rw [Below.heap_alloc _ _ _ (by omega)]; exact X
          · rw [Below.heap_alloc _ _ _ (by omega)]; exact Z
        case measure => simp [intOf]; omega
      | false =>
        have hb : ((mAt L k).inc != inc) = true := by simpa [hasInc] using he
        have HW : Hid (wo inc (L.take (k + 1)) = wo inc (L.take k) ++ [mAt L k]) := wo_take_miss hkl he
        clear he
        go_wp2_with (at_builtin; refine wpList_append_own _ rfl _ _ 37 rfl (w.heap.size + 2) 43 i0 (.agg #[.string ByteArray.empty, .string ByteArray.empty, .int .u64 0]) 3 40 Try.underlying37 hi0 hz0 hz1 hz2 rfl (by decide) _ _ _ rfl ((hown.alloc _).alloc _) ⟨wr.heap.size + 1, 0, none⟩ 1 1 [.string (mAt L k).name, .string (mAt L k).addr, .int .u64 (mAt L k).inc] rfl rfl ?c1 ?c2 ?c3 ?c4 ?c5 ?_)
        case c1 =>
          intro j u hj
          match j, hj with
          | 0, hj => simp at hj; subst hj; simp [Addr.add]
          | 1, hj => simp at hj; subst hj; simp [Addr.add]
          | 2, hj => simp at hj; subst hj; simp [Addr.add]
        case c2 => intro u hu; simp at hu; rcases hu with rfl | rfl | rfl <;> rfl
        case c3 => unfold maxLen; omega
        case c4 => omega
        case c5 => simp; omega
        intro v' w2 hown' hgrow _
        have hsz2 : wr.heap.size + 2 ≤ w2.heap.size := by have := hgrow.size; simp at this; omega
        have hrow : ∀ j, u5.ownBlock = some j → w.heap.size + 2 ≤ j := fun j hj => (hown.lt j hj).1
        have R1 : w2.ownsRow (w.heap.size + 2) 43 3 v' (wo inc (L.take (k + 1))).length (mCells (wo inc (L.take (k + 1)))) := by
          rw [HW.out, mCells_append, List.length_append]
          exact hown'
        have R2 : Below w.heap.size w w2 := ((hbel.alloc (by omega) _).alloc (by simp; omega) _).grown hgrow (by simp; omega) (fun j hj => by have := hrow j hj; omega)
        have R3 : w2.heap[w.heap.size]? = some (.cells #[.string c, .int .u64 id, .slice a n cap, .int .u64 mg, .map r] 40) := by
          rw [hgrow.block _ (by simp; omega) (fun e => by have := hrow _ e.symm; omega), Below.heap_alloc _ _ _ (by simp; omega), Below.heap_alloc _ _ _ (by omega)]
          exact X
        have R4 : w2.heap[w.heap.size + 1]? = some (.cells #[.string ByteArray.empty, .int .u64 0, .slice none 0 0, .int .u64 0, .map none] 40) := by
          rw [hgrow.block _ (by simp; omega) (fun e => by have := hrow _ e.symm; omega), Below.heap_alloc _ _ _ (by simp; omega), Below.heap_alloc _ _ _ (by omega)]
          exact Z
        clear hown' hgrow hown X Z hc0 hc1 hc2 hbel hrow
        go_wp2
        go_roundw
        case rel => exact ⟨k + 1, by omega, by go_num, R1, R2, by omega, R3, R4⟩
        case measure => simp [intOf]; omega
    · have hkn : L.take k = L := List.take_of_length_le (by rw [h.len]; omega)
      rw [hkn] at hown
      clear hkn
      obtain ⟨a', cap', b', hv, hrow, hbase⟩ := mrow_of_owns hown
      subst hv
      clear hown
      have x0 : wr.cell? ⟨w.heap.size, 0, none⟩ = some (.string c) := by simp [World.cell?, X]
      have x1 : wr.cell? ⟨w.heap.size, 1, none⟩ = some (.int .u64 id) := by simp [World.cell?, X]
      have x2 : wr.cell? ⟨w.heap.size, 2, none⟩ = some (.slice a n cap) := by simp [World.cell?, X]
      have x3 : wr.cell? ⟨w.heap.size, 3, none⟩ = some (.int .u64 mg) := by simp [World.cell?, X]
      have x4 : wr.cell? ⟨w.heap.size, 4, none⟩ = some (.map r) := by simp [World.cell?, X]
      clear X
      go_wp2_with fail
      refine (of_any _ _ _ _ _ _ _ _ _ _ _).mono ?_
      rintro e w2 ⟨rfl, hb2⟩
      have Z2 : w2.heap[w.heap.size + 1]? = some (.cells #[.string ByteArray.empty, .int .u64 0, .slice none 0 0, .int .u64 0, .map none] 40) := (hb2.block _ (by omega)).trans Z
      obtain ⟨z0, z1, z2, z3, z4, y0, y1, y2, y3, y4⟩ := zero40 Z2
      clear Z2 Z
      go_wp2_with fail
      refine bodyPost_ret (v := .agg #[.string c, .int .u64 id, .slice a' (wo inc L).length cap', .int .u64 mg, .map r]) (by simp [results, Try.results34, go_sem, z0, z1, z2, z3, z4]) rfl ⟨a', cap', b', 0, rfl, set5_row (hrow.keep hb2) (fun h0 => by have := hbase h0; omega), fun h0 => by have := hbase h0; omega, ?_⟩
      exact set5_below (hbel.trans (hb2.mono (by omega))) (by omega)

theorem zzWithout_any (c : ByteArray) (id : Int) (a : Option Addr) (n cap : Nat) (mg : Int) (r : Option Nat) (inc : Int) (b off : Nat) (L : List Mem) (w : World) (h : MRow w a n cap b off L) (hn : n ≤ 8192) :
    Calls Try.prog 23 #[.agg #[.string c, .int .u64 id, .slice a n cap, .int .u64 mg, .map r], .int .u64 inc] w
      fun e w' => RetView c id mg r (wo inc L) w e w' := by
  go_enter Try.func23, Try.ntmps23
  go_wp2_with fail
  refine (without_any _ _ _ _ _ _ _ _ _ _ _ _ (h.keep ?hb0) hn).mono ?_
  case hb0 => repeat (first | assumption | exact Below.refl _ _ | refine Below.alloc ?_ (by first | omega | (simp <;> omega)) _)
  rintro e w2 ⟨a', cap', b', off', rfl, hrow, hnew, hb2⟩
  simp at hnew
  have hs2 := hb2.size
  simp at hs2
  have Z2 : w2.heap[w.heap.size + 1]? = some (.cells #[.string ByteArray.empty, .int .u64 0, .slice none 0 0, .int .u64 0, .map none] 40) := (hb2.block _ (by simp)).trans (by
    rw [show w.heap.size + 1 = (w.alloc (.cells #[.string c, .int .u64 id, .slice a n cap, .int .u64 mg, .map r] 40)).heap.size by simp]
    exact heap_alloc_new _ _)
  obtain ⟨z0, z1, z2, z3, z4, y0, y1, y2, y3, y4⟩ := zero40 Z2
  clear Z2
  go_wp2_with fail
  refine bodyPost_ret (v := .agg #[.string c, .int .u64 id, .slice a' (wo inc L).length cap', .int .u64 mg, .map r]) (by simp [results, Try.results23, go_sem, z0, z1, z2, z3, z4]) rfl ⟨a', cap', b', off', rfl, set5_row hrow (fun h0 => by have := hnew h0; omega), fun h0 => by have := hnew h0; omega, ?_⟩
  exact set5_below (below_chain (by repeat (first | assumption | exact Below.refl _ _ | refine Below.alloc ?_ (by first | omega | (simp <;> omega)) _)) hb2) (by omega)

end Go.Proofs.Qxb6003790a
