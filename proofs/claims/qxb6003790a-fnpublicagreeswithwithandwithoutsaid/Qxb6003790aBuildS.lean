/- The laws' view of plain data, its side table with it. -/
import Derived.Test.Qxb6003790aSides
namespace Go.Proofs.Qxb6003790a
open Go.RowKit Go.Deep Go.Maps

/-- It returns a view with these members and this side table. -/
def RetViewS (c : ByteArray) (id mg : Int) (L : List Mem) (K V : Nat → Int) (k : Nat) (nilk : Bool) (w : World) (e : Ending) (w' : World) : Prop :=
  ∃ r, RetView c id mg r L w e w' ∧ SideMap w' r K V k nilk

set_option maxRecDepth 100000 in
set_option maxHeartbeats 2000000 in
theorem viewMap_any (c : ByteArray) (id mg : Int) (a1 : Option Addr) (n1 k1 b1 o1 : Nat) (S1 : Nat → ByteArray) (a2 : Option Addr) (n2 k2 b2 o2 : Nat) (S2 : Nat → ByteArray) (a3 : Option Addr) (n3 k3 b3 o3 : Nat) (Z : Nat → Int) (a6 : Option Addr) (n6 k6 b6 o6 : Nat) (K : Nat → Int) (a7 : Option Addr) (n7 k7 b7 o7 : Nat) (V : Nat → Int) (w : World)
    (h1 : Sl w a1 n1 k1 b1 o1 (fun i => .string (S1 i))) (h2 : Sl w a2 n2 k2 b2 o2 (fun i => .string (S2 i))) (h3 : Sl w a3 n3 k3 b3 o3 (fun i => .int .u64 (Z i))) (l1 : n1 ≤ 4096)
    (h6 : Sl w a6 n6 k6 b6 o6 (fun i => .int .u64 (K i))) (g6 : ∀ i : Nat, (Lit.int .u64 (K i)).wf = true) (h7 : Sl w a7 n7 k7 b7 o7 (fun i => .int .i64 (V i))) (g7 : ∀ i : Nat, (Lit.int .i64 (V i)).wf = true) (l6 : n6 ≤ 4096) (hnn6 : a6.isNone = false) :
    Calls Try.prog 17 #[.string c, .int .u64 id, .int .u64 mg, .slice a1 n1 k1, .slice a2 n2 k2, .slice a3 n3 k3, .slice a6 n6 k6, .slice a7 n7 k7] w fun e w' => RetViewS c id mg (mkL (mn n1 n2 n3) S1 S2 Z) K V (pr n6 n7) false w e w' := by
  obtain ⟨mle1, mle2, mle3⟩ := mn_le n1 n2 n3
  obtain ⟨m, hm⟩ : ∃ m, m = mn n1 n2 n3 := ⟨_, rfl⟩
  have HM : Hid (m = mn n1 n2 n3) := hm
  rw [← hm] at mle1 mle2 mle3 ⊢
  clear hm
  have hmk := run_make43 m (by omega)
  obtain ⟨F0, hF0⟩ := rowIs_made43 (w.alloc (.cells #[.string ByteArray.empty, .int .u64 0, .slice none 0 0, .int .u64 0, .map none] 40)) m
  rw [show (w.alloc (.cells #[.string ByteArray.empty, .int .u64 0, .slice none 0 0, .int .u64 0, .map none] 40)).heap.size = w.heap.size + 1 by simp] at hF0
  have hnn : ∀ w, (binOp .neq 33 (.slice a6 n6 k6) (.slice none 0 0)).run Try.prog w = .ok (.bool true) w := fun w => by rw [Go.run_neq_slice_nil_any (P := Try.prog) w 33 22 a6 n6 k6 0 0 Try.underlying33, hnn6]; rfl
  have hmm := @run_makeMap Try.prog
  go_enter Try.func17, Try.ntmps17
  go_wp2_with (go_at_call 27; refine (min3_any _ _ _ _).mono ?_; rintro e w' ⟨rfl, rfl⟩; rw [← HM.out])
  have ZB : ((w.alloc (.cells #[.string ByteArray.empty, .int .u64 0, .slice none 0 0, .int .u64 0, .map none] 40)).alloc (.cells (madeCells #[.string ByteArray.empty, .string ByteArray.empty, .int .u64 0] (m * 3)) 43)).heap[w.heap.size]? = some (.cells #[.string ByteArray.empty, .int .u64 0, .slice none 0 0, .int .u64 0, .map none] 40) := by
    rw [Below.heap_alloc _ _ _ (by simp)]
    exact heap_alloc_new _ _
  go_loopw [19] (fun i wr => ∃ (k : Nat) (F : Nat → Value), k ≤ m ∧ i = .int .i64 k ∧ wr.rowIs (w.heap.size + 1) 43 (m * 3) F ∧ Laid (mkL m S1 S2 Z) k F ∧ Below w.heap.size w wr ∧ wr.heap[w.heap.size]? = some (.cells #[.string ByteArray.empty, .int .u64 0, .slice none 0 0, .int .u64 0, .map none] 40)) (fun i _ => m - (intOf i).toNat)
  case atStart => exact ⟨0, F0, Nat.zero_le _, rfl, hF0, fun i hi => absurd hi (by omega), ((Below.refl _ _).alloc (Nat.le_refl _) _).alloc (by simp) _, ZB⟩
  case round =>
    clear hF0 ZB
    obtain ⟨k, F, hk, rfl, hrow, hlaid, hbel, ZB⟩ := hrel
    by_cases hlt : k < m
    · have hi1 := h1.idx (P := Try.prog) Try.underlying23 size9 (k := k) (by omega) .i64
      have hi2 := h2.idx (P := Try.prog) Try.underlying23 size9 (k := k) (by omega) .i64
      have hi3 := h3.idx (P := Try.prog) Try.underlying33 size22 (k := k) (by omega) .i64
      have hc1 : wr.cell? ⟨b1, o1 + k, none⟩ = some (.string (S1 k)) := (hbel.cell (p := ⟨b1, o1 + k, none⟩) (h1.lt (by omega))).trans (h1.cell k (by omega))
      have hc2 : wr.cell? ⟨b2, o2 + k, none⟩ = some (.string (S2 k)) := (hbel.cell (p := ⟨b2, o2 + k, none⟩) (h2.lt (by omega))).trans (h2.cell k (by omega))
      have hc3 : wr.cell? ⟨b3, o3 + k, none⟩ = some (.int .u64 (Z k)) := (hbel.cell (p := ⟨b3, o3 + k, none⟩) (h3.lt (by omega))).trans (h3.cell k (by omega))
      have d0 := hrow.cell (i := k * 3) (by omega)
      have d1 := hrow.cell (i := k * 3 + 1) (by omega)
      have d2 := hrow.cell (i := k * 3 + 2) (by omega)
      have f0 := hrow.frozen (k * 3)
      have f1 := hrow.frozen (k * 3 + 1)
      have f2 := hrow.frozen (k * 3 + 2)
      have b1' : (0 : Int) ≤ (k : Int) := by omega
      have b2' : (k : Int) < (m : Int) := by omega
      obtain ⟨F', R1, R2⟩ := row_step hrow hlaid
      rw [mkL_at S1 S2 Z hlt] at R1
      have R3 := ((hbel.setCell (p := ⟨w.heap.size + 1, k * 3, none⟩) (by simp) (.string (S1 k))).setCell (p := ⟨w.heap.size + 1, k * 3 + 1, none⟩) (by simp) (.string (S2 k))).setCell (p := ⟨w.heap.size + 1, k * 3 + 2, none⟩) (by simp) (.int .u64 (Z k))
      have R4 : (((wr.setCell ⟨w.heap.size + 1, k * 3, none⟩ (.string (S1 k))).setCell ⟨w.heap.size + 1, k * 3 + 1, none⟩ (.string (S2 k))).setCell ⟨w.heap.size + 1, k * 3 + 2, none⟩ (.int .u64 (Z k))).heap[w.heap.size]? = some (.cells #[.string ByteArray.empty, .int .u64 0, .slice none 0 0, .int .u64 0, .map none] 40) := by
        rw [Below.heap_setCell _ _ _ _ (by simp), Below.heap_setCell _ _ _ _ (by simp), Below.heap_setCell _ _ _ _ (by simp)]
        exact ZB
      have HH : Hid _ := And.intro R1 (And.intro R2 (And.intro R3 R4))
      clear hrow hlaid hbel R1 R2 R3 R4 ZB
      go_wp2
      go_region
      go_wp2
      go_roundw
      case rel => exact ⟨k + 1, F', by omega, by go_num, HH.out.1, HH.out.2.1, HH.out.2.2.1.drew, HH.out.2.2.2⟩
      case measure => simp [intOf]; omega
    · have hkm : k = m := by omega
      rw [hkm] at hlaid
      have hrow1 := mrow_of_laid (mkL_length m S1 S2 Z) (by omega) hrow hlaid
      have hrlt := hrow.lt
      clear hrow hlaid hkm
      obtain ⟨q1, q2⟩ := pr_le n6 n7
      obtain ⟨p, hp⟩ : ∃ p, p = pr n6 n7 := ⟨_, rfl⟩
      have HP : Hid (p = pr n6 n7) := hp
      rw [← hp] at q1 q2
      clear hp
      go_wp2_with (go_at_call 30; refine (pairs_any _ _ _ _ _ _ _).mono ?_; rintro e w' ⟨rfl, rfl⟩; rw [← HP.out])
      obtain ⟨wq, hwq⟩ : ∃ x, x = wr := ⟨wr, rfl⟩
      subst hwq
      have h6q := h6.keep hbel
      have h7q := h7.keep hbel
      go_loopw [22] (fun i wr => ∃ k : Nat, k ≤ p ∧ i = .int .i64 k ∧ wr.ownsMap Try.prog 22 (plainElem Try.prog 3) wq.heap.size k (sideD K V k) ∧ Below wq.heap.size wq wr) (fun i _ => p - (intOf i).toNat)
      case atStart => exact ⟨0, Nat.zero_le _, rfl, World.ownsMap_made _ _ _ _, (Below.refl _ _).alloc (Nat.le_refl _) _⟩
      case round =>
        obtain ⟨j, hj, rfl, hown, hbel2⟩ := hrel
        by_cases hlt : j < p
        · have hi1 := h6q.idx (P := Try.prog) Try.underlying33 size22 (k := j) (by omega) .i64
          have hi2 := h7q.idx (P := Try.prog) Try.underlying24 size3 (k := j) (by omega) .i64
          have hc1 : wr.cell? ⟨b6, o6 + j, none⟩ = some (.int .u64 (K j)) := (hbel2.cell (p := ⟨b6, o6 + j, none⟩) (h6q.lt (by omega))).trans (h6q.cell j (by omega))
          have hc2 : wr.cell? ⟨b7, o7 + j, none⟩ = some (.int .i64 (V j)) := (hbel2.cell (p := ⟨b7, o7 + j, none⟩) (h7q.lt (by omega))).trans (h7q.cell j (by omega))
          obtain ⟨w1, hrun, hown1, hg1⟩ := hown.drew.update law22 Try.underlying38 (by unfold maxLen; omega) (keyOf_int_mk Try.underlying22 (g6 j)) (plainElem_int Try.underlying3 (g7 j))
          have R1 := (hbel2.drew).grown hg1 hbel2.size (by intro x hx; cases hx; exact Nat.le_refl _)
          have HH : Hid _ := And.intro hown1 R1
          clear hown hbel2 hown1 R1 hg1
          go_wp2
          go_region
          go_wp2
          go_roundw
          case rel => exact ⟨j + 1, by omega, by go_num, HH.out.1, HH.out.2⟩
          case measure => simp [intOf]; omega
        · have hjp : j = p := by omega
          subst hjp
          have hwlt : w.heap.size < wq.heap.size := (Array.getElem?_eq_some_iff.1 ZB).1
          obtain ⟨z0, z1, z2, z3, z4, y0, y1, y2, y3, y4⟩ := zero40 ((hbel2.block _ hwlt).trans ZB)
          have hrow2 := hrow1.keep hbel2
          clear ZB hrow1 h6q h7q
          go_wp2
          refine bodyPost_ret (v := .agg #[.string c, .int .u64 id, .slice (some ⟨w.heap.size + 1, 0, none⟩) m m, .int .u64 mg, .map (some wq.heap.size)]) (by simp [results, Try.results17, go_sem, z0, z1, z2, z3, z4]) rfl ?_
          have hL := mkL_length m S1 S2 Z
          refine ⟨some wq.heap.size, ⟨_, m, w.heap.size + 1, 0, by rw [hL], by rw [hL]; exact set5_row hrow2 (fun _ => by omega), fun _ => by omega, set5_below (hbel.trans (hbel2.mono hbel.size)) (Nat.le_refl _)⟩, .inr ⟨rfl, wq.heap.size, j, rfl, ?_⟩⟩
          rw [← HP.out]
          exact ((((hown.setCell (by simp; omega) _).setCell (by simp; omega) _).setCell (by simp; omega) _).setCell (by simp; omega) _).setCell (by simp; omega) _

theorem view_any (c : ByteArray) (id mg : Int) (a1 : Option Addr) (n1 k1 b1 o1 : Nat) (S1 : Nat → ByteArray) (a2 : Option Addr) (n2 k2 b2 o2 : Nat) (S2 : Nat → ByteArray) (a3 : Option Addr) (n3 k3 b3 o3 : Nat) (Z : Nat → Int) (a6 : Option Addr) (n6 k6 b6 o6 : Nat) (K : Nat → Int) (a7 : Option Addr) (n7 k7 b7 o7 : Nat) (V : Nat → Int) (w : World)
    (h1 : Sl w a1 n1 k1 b1 o1 (fun i => .string (S1 i))) (h2 : Sl w a2 n2 k2 b2 o2 (fun i => .string (S2 i))) (h3 : Sl w a3 n3 k3 b3 o3 (fun i => .int .u64 (Z i))) (l1 : n1 ≤ 4096)
    (h6 : Sl w a6 n6 n6 b6 o6 (fun i => .int .u64 (K i))) (g6 : ∀ i : Nat, (Lit.int .u64 (K i)).wf = true) (h7 : Sl w a7 n7 k7 b7 o7 (fun i => .int .i64 (V i))) (g7 : ∀ i : Nat, (Lit.int .i64 (V i)).wf = true) (l6 : n6 ≤ 4096) (hk6 : k6 = n6) :
    Calls Try.prog 17 #[.string c, .int .u64 id, .int .u64 mg, .slice a1 n1 k1, .slice a2 n2 k2, .slice a3 n3 k3, .slice a6 n6 k6, .slice a7 n7 k7] w fun e w' => RetViewS c id mg (mkL (mn n1 n2 n3) S1 S2 Z) K V (pr n6 n7) a6.isNone w e w' := by
  subst hk6
  cases ha : a6 with
  | none =>
    have h0 : k6 = 0 := h6.nil ha
    subst h0
    refine (viewNil_any c id mg _ _ _ _ _ _ _ _ _ _ _ _ _ _ _ _ _ _ _ w h1 h2 h3 l1).mono fun e w' hr => ⟨none, hr, .inl ⟨rfl, rfl, ?_⟩⟩
    have := (pr_le 0 n7).1
    omega
  | some x =>
    rw [← ha]
    have hn : a6.isNone = false := by rw [ha]; rfl
    have := viewMap_any c id mg _ _ _ _ _ _ _ _ _ _ _ _ _ _ _ _ _ _ a6 k6 k6 b6 o6 K a7 n7 k7 b7 o7 V w h1 h2 h3 l1 h6 g6 h7 g7 l6 hn
    rw [hn]
    exact this

end Go.Proofs.Qxb6003790a
