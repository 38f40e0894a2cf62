/- Rows of members that the call makes: cloned, or built from three slices. -/
import Derived.Test.Qxb6003790aSame
import Derived.Test.Qxb6003790aClones
namespace Go.Proofs.Qxb6003790a
open Go.RowKit Go.Deep

theorem run_make43 (n : Nat) (hn : n ≤ 8192) (w : World) :
    (Instr.makeSlice 37 (.int .i64 (n : Int)) (.int .i64 (n : Int))).run Try.prog w = .ok (.slice (some ⟨w.heap.size, 0, none⟩) n n) (w.alloc (.cells (madeCells #[.string ByteArray.empty, .string ByteArray.empty, .int .u64 0] (n * 3)) 43)) := by
  obtain ⟨i, hi, hzz⟩ := Option.map_eq_some_iff.1 info43
  simp only [Prod.mk.injEq] at hzz
  obtain ⟨hz, hs, hb⟩ := hzz
  have hr := run_make (P := Try.prog) w 37 43 i _ Try.underlying37 hi hz .i64 .i64 n n (by omega) (Int.le_refl _) (by rw [hb]; omega) (by omega)
  simp only [Int.toNat_natCast, hs] at hr
  exact hr

theorem rowIs_made43 (w : World) (n : Nat) : ∃ F, (w.alloc (.cells (madeCells #[.string ByteArray.empty, .string ByteArray.empty, .int .u64 0] (n * 3)) 43)).rowIs w.heap.size 43 (n * 3) F := by
  refine ⟨fun i => (madeCells #[.string ByteArray.empty, .string ByteArray.empty, .int .u64 0] (n * 3)).getD i undef, ?_⟩
  have := World.rowIs_alloc w (madeCells #[.string ByteArray.empty, .string ByteArray.empty, .int .u64 0] (n * 3)) 43 (fun i => (madeCells #[.string ByteArray.empty, .string ByteArray.empty, .int .u64 0] (n * 3)).getD i undef) (fun i hi => by simp [Array.getD, hi])
  rwa [size_madeCells] at this

/-- The first k members of L lie in the row's content F. -/
def Laid (L : List Mem) (k : Nat) (F : Nat → Value) : Prop :=
  ∀ i, i < k → F (i * 3) = .string (mAt L i).name ∧ F (i * 3 + 1) = .string (mAt L i).addr ∧ F (i * 3 + 2) = .int .u64 (mAt L i).inc

theorem laid_step {L : List Mem} {k : Nat} {F : Nat → Value} (h : Laid L k F) :
    Laid L (k + 1) (fun j => if j = k * 3 + 2 then .int .u64 (mAt L k).inc else if j = k * 3 + 1 then .string (mAt L k).addr else if j = k * 3 then .string (mAt L k).name else F j) := by
  intro i hi
  by_cases e : i = k
  · subst e
    refine ⟨?_, ?_, ?_⟩
    · show (if i * 3 = i * 3 + 2 then _ else if i * 3 = i * 3 + 1 then _ else if i * 3 = i * 3 then _ else _) = _
      rw [if_neg (by omega), if_neg (by omega), if_pos rfl]
    · show (if i * 3 + 1 = i * 3 + 2 then _ else if i * 3 + 1 = i * 3 + 1 then _ else _) = _
      rw [if_neg (by omega), if_pos rfl]
    · show (if i * 3 + 2 = i * 3 + 2 then _ else _) = _
      rw [if_pos rfl]
  · obtain ⟨h0, h1, h2⟩ := h i (by omega)
    refine ⟨?_, ?_, ?_⟩
    · show (if i * 3 = k * 3 + 2 then _ else if i * 3 = k * 3 + 1 then _ else if i * 3 = k * 3 then _ else _) = _
      rw [if_neg (by omega), if_neg (by omega), if_neg (by omega)]; exact h0
    · show (if i * 3 + 1 = k * 3 + 2 then _ else if i * 3 + 1 = k * 3 + 1 then _ else if i * 3 + 1 = k * 3 then _ else _) = _
      rw [if_neg (by omega), if_neg (by omega), if_neg (by omega)]; exact h1
    · show (if i * 3 + 2 = k * 3 + 2 then _ else if i * 3 + 2 = k * 3 + 1 then _ else if i * 3 + 2 = k * 3 then _ else _) = _
      rw [if_neg (by omega), if_neg (by omega), if_neg (by omega)]; exact h2

theorem row_step {L : List Mem} {k n B : Nat} {F : Nat → Value} {w : World} (hr : w.rowIs B 43 (n * 3) F) (h : Laid L k F) :
    ∃ F', (((w.setCell ⟨B, k * 3, none⟩ (.string (mAt L k).name)).setCell ⟨B, k * 3 + 1, none⟩ (.string (mAt L k).addr)).setCell ⟨B, k * 3 + 2, none⟩ (.int .u64 (mAt L k).inc)).rowIs B 43 (n * 3) F' ∧ Laid L (k + 1) F' :=
  ⟨_, ((hr.set _ _).set _ _).set _ _, laid_step h⟩

theorem mrow_of_laid {L : List Mem} {n B : Nat} {F : Nat → Value} {w : World} (hL : L.length = n) (hn : n ≤ 8192) (hr : w.rowIs B 43 (n * 3) F) (h : Laid L n F) : MRow w (some ⟨B, 0, none⟩) n n B 0 L :=
  ⟨fun h => (by cases h), hL, Nat.le_refl _, by unfold maxLen; omega, fun _ => rfl, fun _ => hr.lt, fun i hi => by rw [Nat.zero_add, hr.cell (by omega), (h i hi).1], fun i hi => by rw [Nat.zero_add, hr.cell (by omega), (h i hi).2.1], fun i hi => by rw [Nat.zero_add, hr.cell (by omega), (h i hi).2.2]⟩

/-- It returns a slice of these members, in new memory. -/
def RetRow (L : List Mem) (w : World) (e : Ending) (w' : World) : Prop :=
  ∃ (a' : Option Addr) (cap' b' off' : Nat), e = .returned (.slice a' L.length cap') ∧ MRow w' a' L.length cap' b' off' L ∧ Below w.heap.size w w'

set_option maxRecDepth 100000 in
set_option maxHeartbeats 1000000 in
theorem cloneMem_any (a : Option Addr) (n cap b off : Nat) (L : List Mem) (w : World) (h : MRow w a n cap b off L) (hn : n ≤ 8192) :
    Calls Try.prog 18 #[.slice a n cap] w fun e w' => RetRow L w e w' := by
  have heq := fun w => Lib.run_eql_slice_nil (P := Try.prog) w 37 43 a n cap 0 0 Try.underlying37
  cases ha : a with
  | none =>
    subst ha
    have h0 : n = 0 := h.nil rfl
    subst h0
    go_enter Try.func18, Try.ntmps18
    go_wp2
    go_ret
    have hL := h.len
    exact ⟨none, 0, 0, 0, by rw [hL]; rfl, by rw [hL]; exact ⟨fun _ => rfl, hL, Nat.le_refl _, Nat.zero_le _, fun h => absurd h (by omega), fun h => absurd h (by omega), fun i h => absurd h (by omega), fun i h => absurd h (by omega), fun i h => absurd h (by omega)⟩, Below.refl _ _⟩
  | some x =>
    have hnone : a.isNone = false := by rw [ha]; rfl
    rw [hnone] at heq
    rw [← ha]
    clear ha hnone
    have hmk := run_make43 n hn
    obtain ⟨F0, hF0⟩ := rowIs_made43 w n
    go_enter Try.func18, Try.ntmps18
    go_wp2
    go_loopw [4] (fun i wr => ∃ (k : Nat) (F : Nat → Value), k ≤ n ∧ i = .int .i64 k ∧ wr.rowIs w.heap.size 43 (n * 3) F ∧ Laid L k F ∧ Below w.heap.size w wr) (fun i _ => n - (intOf i).toNat)
    case atStart => exact ⟨0, F0, Nat.zero_le _, rfl, hF0, fun i hi => absurd hi (by omega), (Below.refl _ _).alloc (Nat.le_refl _) _⟩
    case round =>
      clear hF0
      obtain ⟨k, F, hk, rfl, hrow, hlaid, hbel⟩ := hrel
      by_cases hlt : k < n
      · have hi := h.idx hlt .i64
        have hblt := h.lt (by omega)
        have hc0 : wr.cell? ⟨b, off + k * 3, none⟩ = _ := (hbel.cell hblt).trans (h.c0 k hlt)
        have hc1 : wr.cell? ⟨b, off + k * 3 + 1, none⟩ = _ := (hbel.cell hblt).trans (h.c1 k hlt)
        have hc2 : wr.cell? ⟨b, off + k * 3 + 2, none⟩ = _ := (hbel.cell hblt).trans (h.c2 k hlt)
        have d0 := hrow.cell (i := k * 3) (by omega)
        have d1 := hrow.cell (i := k * 3 + 1) (by omega)
        have d2 := hrow.cell (i := k * 3 + 2) (by omega)
        have f0 := hrow.frozen (k * 3)
        have f1 := hrow.frozen (k * 3 + 1)
        have f2 := hrow.frozen (k * 3 + 2)
        obtain ⟨F', R1, R2⟩ := row_step hrow hlaid
        have R3 := ((hbel.setCell (p := ⟨w.heap.size, k * 3, none⟩) (Nat.le_refl _) (.string (mAt L k).name)).setCell (p := ⟨w.heap.size, k * 3 + 1, none⟩) (Nat.le_refl _) (.string (mAt L k).addr)).setCell (p := ⟨w.heap.size, k * 3 + 2, none⟩) (Nat.le_refl _) (.int .u64 (mAt L k).inc)
        have HR := And.intro R1 (And.intro R2 R3)
        clear hrow hlaid hbel R1 R2 R3
        have HH : Hid _ := HR
        clear HR
        go_wp2
        go_roundw
        case rel => exact ⟨k + 1, F', by omega, by go_num, HH.out.1, HH.out.2.1, HH.out.2.2⟩
        case measure => simp [intOf]; omega
      · have hkn : k = n := by omega
        subst hkn
        go_wp2
        go_ret
        have hL := h.len
        exact ⟨some ⟨w.heap.size, 0, none⟩, k, w.heap.size, 0, by rw [hL]; rfl, by rw [hL]; exact mrow_of_laid hL hn hrow hlaid, hbel⟩

end Go.Proofs.Qxb6003790a
