/- The laws' view of plain data: its guard, the least of three lengths, the view itself. -/
import Derived.Test.Qxb6003790aMake
import Derived.RegionTactic
import Derived.ChangeAlike
namespace Go.Proofs.Qxb6003790a
open Go.RowKit Go.Deep

def mn (x y z : Nat) : Nat := if z < (if y < x then y else x) then z else if y < x then y else x
theorem mn_le (x y z : Nat) : mn x y z ≤ x ∧ mn x y z ≤ y ∧ mn x y z ≤ z := by
  unfold mn
  split <;> split <;> omega

theorem min3_any (x y z : Nat) (w : World) :
    Calls Try.prog 27 #[.int .i64 (x : Int), .int .i64 (y : Int), .int .i64 (z : Int)] w fun e w' => e = .returned (.int .i64 ((mn x y z : Nat) : Int)) ∧ w' = w := by
  by_cases h1 : y < x
  · by_cases h2 : z < y
    · have hm : mn x y z = z := by simp [mn, h1, h2]
      rw [hm]
      go_enter Try.func27, Try.ntmps27
      go_wp2
      go_ret
      exact ⟨rfl, rfl⟩
    · have hm : mn x y z = y := by simp [mn, h1, h2]
      rw [hm]
      go_enter Try.func27, Try.ntmps27
      go_wp2
      go_ret
      exact ⟨rfl, rfl⟩
  · by_cases h2 : z < x
    · have hm : mn x y z = z := by simp [mn, h1, h2]
      rw [hm]
      go_enter Try.func27, Try.ntmps27
      go_wp2
      go_ret
      exact ⟨rfl, rfl⟩
    · have hm : mn x y z = x := by simp [mn, h1, h2]
      rw [hm]
      go_enter Try.func27, Try.ntmps27
      go_wp2
      go_ret
      exact ⟨rfl, rfl⟩

/-- The guard's answer: a bool; where it is true no slice is longer than 4096. -/
def GuardOK (n1 n2 n3 n4 n5 : Nat) (e : Ending) : Prop := ∃ r : Bool, e = .returned (.bool r) ∧ (r = true → n1 ≤ 4096 ∧ n2 ≤ 4096 ∧ n3 ≤ 4096 ∧ n4 ≤ 4096 ∧ n5 ≤ 4096)

set_option maxRecDepth 100000 in
set_option maxHeartbeats 1000000 in
theorem dataOK_any (c x y : ByteArray) (a1 : Option Addr) (n1 k1 b1 o1 : Nat) (S1 : Nat → ByteArray) (a2 : Option Addr) (n2 k2 b2 o2 : Nat) (S2 : Nat → ByteArray) (a3 : Option Addr) (n3 k3 : Nat) (a4 : Option Addr) (n4 k4 : Nat) (a5 : Option Addr) (n5 k5 : Nat) (w : World)
    (h1 : Sl w a1 n1 k1 b1 o1 (fun i => .string (S1 i))) (h2 : Sl w a2 n2 k2 b2 o2 (fun i => .string (S2 i))) :
    Calls Try.prog 15 #[.string c, .slice a1 n1 k1, .slice a2 n2 k2, .slice a3 n3 k3, .slice a4 n4 k4, .slice a5 n5 k5, .string x, .string y] w fun e w' => GuardOK n1 n2 n3 n4 n5 e ∧ w' = w := by
  by_cases hle : n1 ≤ 4096 ∧ n2 ≤ 4096 ∧ n3 ≤ 4096 ∧ n4 ≤ 4096 ∧ n5 ≤ 4096
  · obtain ⟨l1, l2, l3, l4, l5⟩ := hle
    go_enter Try.func15, Try.ntmps15
    go_wp2_with (first
      | (go_at_call 8; refine (zzStrBytes_any _ _ _ _ _ _ _ _ (by assumption)).mono ?_; rintro e w' ⟨⟨r, rfl⟩, rfl⟩)
      | (go_at_call 9; refine (zzWords_any _ _ _).mono ?_; rintro e w' ⟨⟨r, rfl⟩, rfl⟩)
      | (go_at_call 10; refine (zzAdd_any _ _ _).mono ?_; rintro e w' ⟨⟨r, rfl⟩, rfl⟩))
    go_ret
    exact ⟨⟨_, rfl, fun _ => ⟨l1, l2, l3, l4, l5⟩⟩, rfl⟩
  · by_cases l1 : n1 ≤ 4096
    · by_cases l2 : n2 ≤ 4096
      · by_cases l3 : n3 ≤ 4096
        · by_cases l4 : n4 ≤ 4096
          · have l5 : ¬ n5 ≤ 4096 := fun h => hle ⟨l1, l2, l3, l4, h⟩
            clear hle
            go_enter Try.func15, Try.ntmps15
            go_wp2
            go_ret
            exact ⟨⟨_, rfl, fun h => by cases h⟩, rfl⟩
          · clear hle
            go_enter Try.func15, Try.ntmps15
            go_wp2
            go_ret
            exact ⟨⟨_, rfl, fun h => by cases h⟩, rfl⟩
        · clear hle
          go_enter Try.func15, Try.ntmps15
          go_wp2
          go_ret
          exact ⟨⟨_, rfl, fun h => by cases h⟩, rfl⟩
      · clear hle
        go_enter Try.func15, Try.ntmps15
        go_wp2
        go_ret
        exact ⟨⟨_, rfl, fun h => by cases h⟩, rfl⟩
    · clear hle
      go_enter Try.func15, Try.ntmps15
      go_wp2
      go_ret
      exact ⟨⟨_, rfl, fun h => by cases h⟩, rfl⟩

/-- The members that the three slices tell. -/
def mkL (m : Nat) (S1 S2 : Nat → ByteArray) (Z : Nat → Int) : List Mem := (List.range m).map fun i => ⟨S1 i, S2 i, Z i⟩
theorem mkL_length (m : Nat) (S1 S2 : Nat → ByteArray) (Z : Nat → Int) : (mkL m S1 S2 Z).length = m := by simp [mkL]
theorem mkL_at {m : Nat} (S1 S2 : Nat → ByteArray) (Z : Nat → Int) {i : Nat} (h : i < m) : mAt (mkL m S1 S2 Z) i = ⟨S1 i, S2 i, Z i⟩ := by
  simp [mkL, mAt, List.getD_eq_getElem?_getD, h]

set_option maxRecDepth 100000 in
set_option maxHeartbeats 2000000 in
theorem viewNil_any (c : ByteArray) (id mg : Int) (a1 : Option Addr) (n1 k1 b1 o1 : Nat) (S1 : Nat → ByteArray) (a2 : Option Addr) (n2 k2 b2 o2 : Nat) (S2 : Nat → ByteArray) (a3 : Option Addr) (n3 k3 b3 o3 : Nat) (Z : Nat → Int) (v : Value) (w : World)
    (h1 : Sl w a1 n1 k1 b1 o1 (fun i => .string (S1 i))) (h2 : Sl w a2 n2 k2 b2 o2 (fun i => .string (S2 i))) (h3 : Sl w a3 n3 k3 b3 o3 (fun i => .int .u64 (Z i))) (l1 : n1 ≤ 4096) :
    Calls Try.prog 17 #[.string c, .int .u64 id, .int .u64 mg, .slice a1 n1 k1, .slice a2 n2 k2, .slice a3 n3 k3, .slice none 0 0, v] w fun e w' => RetView c id mg none (mkL (mn n1 n2 n3) S1 S2 Z) w e w' := by
  obtain ⟨mle1, mle2, mle3⟩ := mn_le n1 n2 n3
  obtain ⟨m, hm⟩ : ∃ m, m = mn n1 n2 n3 := ⟨_, rfl⟩
  have HM : Hid (m = mn n1 n2 n3) := hm
  rw [← hm] at mle1 mle2 mle3 ⊢
  clear hm
  have hmk := run_make43 m (by omega)
  obtain ⟨F0, hF0⟩ := rowIs_made43 (w.alloc (.cells #[.string ByteArray.empty, .int .u64 0, .slice none 0 0, .int .u64 0, .map none] 40)) m
  rw [show (w.alloc (.cells #[.string ByteArray.empty, .int .u64 0, .slice none 0 0, .int .u64 0, .map none] 40)).heap.size = w.heap.size + 1 by simp] at hF0
  have hnn := fun w => Go.run_neq_slice_nil_any (P := Try.prog) w 33 22 none 0 0 0 0 Try.underlying33
  go_enter Try.func17, Try.ntmps17
  go_wp2_with (go_at_call 27; refine (min3_any _ _ _ _).mono ?_; rintro e w' ⟨rfl, rfl⟩; rw [← HM.out])
  have ZB : ((w.alloc (.cells #[.string ByteArray.empty, .int .u64 0, .slice none 0 0, .int .u64 0, .map none] 40)).alloc (.cells (madeCells #[.string ByteArray.empty, .string ByteArray.empty, .int .u64 0] (m * 3)) 43)).heap[w.heap.size]? = some (.cells #[.string ByteArray.empty, .int .u64 0, .slice none 0 0, .int .u64 0, .map none] 40) := by
    rw [Below.heap_alloc _ _ _ (by simp)]
    exact heap_alloc_new _ _
  go_loopw [19] (fun i wr => ∃ (k : Nat) (F : Nat → Value), k ≤ m ∧ i = .int .i64 k ∧ wr.rowIs (w.heap.size + 1) 43 (m * 3) F ∧ Laid (mkL m S1 S2 Z) k F ∧ Below w.heap.size w wr ∧ wr.heap[w.heap.size]? = some (.cells #[.string ByteArray.empty, .int .u64 0, .slice none 0 0, .int .u64 0, .map none] 40)) (fun i _ => m - (intOf i).toNat)
  case atStart => exact ⟨0, F0, Nat.zero_le _, rfl, hF0, fun i hi => absurd hi (by omega), ((Below.refl _ _).alloc (Nat.le_refl _) _).alloc (by simp) _, ZB⟩
  case round =>
    clear hF0 ZB
    obtain ⟨k, F, hk, rfl, hrow, hlaid, hbel, ZB⟩ := hrel
    by_cases hlt : k < m
    · have hi1 := h1.idx (P := Try.prog) Try.underlying23 size9 (k := k) (by omega) .i64
      have hi2 := h2.idx (P := Try.prog) Try.underlying23 size9 (k := k) (by omega) .i64
      have hi3 := h3.idx (P := Try.prog) Try.underlying33 size22 (k := k) (by omega) .i64
      have hc1 : wr.cell? ⟨b1, o1 + k, none⟩ = some (.string (S1 k)) := (hbel.cell (p := ⟨b1, o1 + k, none⟩) (h1.lt (by omega))).trans (h1.cell k (by omega))
      have hc2 : wr.cell? ⟨b2, o2 + k, none⟩ = some (.string (S2 k)) := (hbel.cell (p := ⟨b2, o2 + k, none⟩) (h2.lt (by omega))).trans (h2.cell k (by omega))
      have hc3 : wr.cell? ⟨b3, o3 + k, none⟩ = some (.int .u64 (Z k)) := (hbel.cell (p := ⟨b3, o3 + k, none⟩) (h3.lt (by omega))).trans (h3.cell k (by omega))
      have d0 := hrow.cell (i := k * 3) (by omega)
      have d1 := hrow.cell (i := k * 3 + 1) (by omega)
      have d2 := hrow.cell (i := k * 3 + 2) (by omega)
      have f0 := hrow.frozen (k * 3)
      have f1 := hrow.frozen (k * 3 + 1)
      have f2 := hrow.frozen (k * 3 + 2)
      have b1' : (0 : Int) ≤ (k : Int) := by omega
      have b2' : (k : Int) < (m : Int) := by omega
      obtain ⟨F', R1, R2⟩ := row_step hrow hlaid
      rw [mkL_at S1 S2 Z hlt] at R1
      have R3 := ((hbel.setCell (p := ⟨w.heap.size + 1, k * 3, none⟩) (by simp) (.string (S1 k))).setCell (p := ⟨w.heap.size + 1, k * 3 + 1, none⟩) (by simp) (.string (S2 k))).setCell (p := ⟨w.heap.size + 1, k * 3 + 2, none⟩) (by simp) (.int .u64 (Z k))
      have R4 : (((wr.setCell ⟨w.heap.size + 1, k * 3, none⟩ (.string (S1 k))).setCell ⟨w.heap.size + 1, k * 3 + 1, none⟩ (.string (S2 k))).setCell ⟨w.heap.size + 1, k * 3 + 2, none⟩ (.int .u64 (Z k))).heap[w.heap.size]? = some (.cells #[.string ByteArray.empty, .int .u64 0, .slice none 0 0, .int .u64 0, .map none] 40) := by
        rw [Below.heap_setCell _ _ _ _ (by simp), Below.heap_setCell _ _ _ _ (by simp), Below.heap_setCell _ _ _ _ (by simp)]
        exact ZB
      have HH : Hid _ := And.intro R1 (And.intro R2 (And.intro R3 R4))
      clear hrow hlaid hbel R1 R2 R3 R4 ZB
      go_wp2
      go_region
      go_wp2
      go_roundw
      case rel => exact ⟨k + 1, F', by omega, by go_num, HH.out.1, HH.out.2.1, HH.out.2.2.1.drew, HH.out.2.2.2⟩
      case measure => simp [intOf]; omega
    · have hkm : k = m := by omega
      rw [hkm] at hlaid
      obtain ⟨z0, z1, z2, z3, z4, y0, y1, y2, y3, y4⟩ := zero40 ZB
      clear ZB
      go_wp2
      refine bodyPost_ret (v := .agg #[.string c, .int .u64 id, .slice (some ⟨w.heap.size + 1, 0, none⟩) m m, .int .u64 mg, .map none]) (by simp [results, Try.results17, go_sem, z0, z1, z2, z3, z4]) rfl ?_
      have hL := mkL_length m S1 S2 Z
      exact ⟨_, m, w.heap.size + 1, 0, by rw [hL], by rw [hL]; exact set5_row (mrow_of_laid hL (by omega) hrow hlaid) (fun _ => by omega), fun _ => by omega, set5_below hbel (Nat.le_refl _)⟩

end Go.Proofs.Qxb6003790a
