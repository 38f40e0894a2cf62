/- The clones: a new row of the same elements; nil stays nil. -/
import Derived.Test.Qxb6003790aGuards
import Derived.Deep.OwnRows
namespace Go.Proofs.Qxb6003790a
open Go.RowKit Go.Deep

theorem info9 : (Try.prog.info? 9).map (fun i => (i.zero, i.size, i.bytes)) = some (some (.string ByteArray.empty), 1, 16) := by kernel_rfl
theorem info22 : (Try.prog.info? 22).map (fun i => (i.zero, i.size, i.bytes)) = some (some (.int .u64 0), 1, 8) := by kernel_rfl
theorem info3 : (Try.prog.info? 3).map (fun i => (i.zero, i.size, i.bytes)) = some (some (.int .i64 0), 1, 8) := by kernel_rfl

/-- What a clone leaves: a slice of the same elements in a block that was not there; nothing old is touched. -/
def Cloned (w : World) (a : Option Addr) (n : Nat) (V : Nat → Value) (e : Ending) (w' : World) : Prop :=
  ∃ (a' : Option Addr) (b' : Nat), e = .returned (.slice a' n n) ∧ Sl w' a' n n b' 0 V ∧ Below w.heap.size w w' ∧ (0 < n → w.heap.size ≤ b') ∧ a'.isNone = a.isNone

theorem Cloned.nil (w : World) (V : Nat → Value) : Cloned w none 0 V (.returned (.slice none 0 0)) w :=
  ⟨none, 0, rfl, ⟨fun _ => rfl, Nat.le_refl _, Nat.zero_le _, fun h => absurd h (by omega), fun h => absurd h (by omega), fun i h => absurd h (by omega)⟩, Below.refl _ _, fun h => absurd h (by omega), rfl⟩

theorem Cloned.row {w w' : World} {x : Addr} {n : Nat} {T : TypeId} {V F : Nat → Value} (hm : n ≤ maxLen) (h : w'.rowIs w.heap.size T n F) (hF : ∀ i, i < n → F i = V i) (hb : Below w.heap.size w w') :
    Cloned w (some x) n V (.returned (.slice (some ⟨w.heap.size, 0, none⟩) n n)) w' :=
  ⟨_, w.heap.size, rfl, ⟨fun h => (by cases h), Nat.le_refl _, hm, fun _ => rfl, fun _ => h.lt, fun i hi => by rw [Nat.zero_add, h.cell hi, hF i hi]⟩, hb, fun _ => Nat.le_refl _, rfl⟩

set_option maxRecDepth 100000 in
set_option maxHeartbeats 1000000 in
theorem cloneStrs_any (a : Option Addr) (n cap b off : Nat) (S : Nat → ByteArray) (w : World) (h : Sl w a n cap b off (fun i => .string (S i))) (hn : n ≤ 4096) :
    Calls Try.prog 11 #[.slice a n cap] w fun e w' => Cloned w a n (fun i => .string (S i)) e w' := by
  have heq := fun w => Lib.run_eql_slice_nil (P := Try.prog) w 23 9 a n cap 0 0 Try.underlying23
  have hmax : n ≤ maxLen := Nat.le_trans h.le h.max
  cases ha : a with
  | none =>
    subst ha
    have h0 : n = 0 := h.nil rfl
    subst h0
    go_enter Try.func11, Try.ntmps11
    go_wp2
    go_ret
    exact Cloned.nil w _
  | some x =>
    have hnone : a.isNone = false := by rw [ha]; rfl
    rw [hnone] at heq
    have HA : Hid (a = some x) := ha
    rw [← ha]
    clear ha hnone
    have hmk := run_make_row' (P := Try.prog) 23 9 (.string ByteArray.empty) 16 Try.underlying23 info9 rfl .i64 .i64 n (by omega) (by omega)
    go_enter Try.func11, Try.ntmps11
    go_wp2
    go_loopw [4] (fun i wr => ∃ k : Nat, k ≤ n ∧ i = .int .i64 k ∧ wr.rowIs w.heap.size 9 n (fun j => if j < k then .string (S j) else .string ByteArray.empty) ∧ Below w.heap.size w wr) (fun i _ => n - (intOf i).toNat)
    case atStart => exact ⟨0, Nat.zero_le _, rfl, (World.rowIs_made w _ n 9).congr (fun i _ => by rw [if_neg (by omega)]), (Below.refl _ _).alloc (Nat.le_refl _) _⟩
    case round =>
      obtain ⟨k, hk, rfl, hrow, hbel⟩ := hrel
      by_cases hlt : k < n
      · have hi := h.idx (P := Try.prog) Try.underlying23 size9 hlt .i64
        have hc : wr.cell? ⟨b, off + k, none⟩ = some (.string (S k)) := (hbel.cell (p := ⟨b, off + k, none⟩) (h.lt (by omega))).trans (h.cell k hlt)
        have hd := hrow.cell hlt
        have hf := hrow.frozen k
        have R1 := (hrow.set k (.string (S k))).congr (g := fun j => if j < k + 1 then .string (S j) else .string ByteArray.empty) (fun j hj => by
          show (if j = k then _ else if j < k then _ else _) = _
          by_cases e1 : j = k
          · rw [if_pos e1, if_pos (by omega), e1]
          · by_cases e2 : j < k
            · rw [if_neg e1, if_pos e2, if_pos (by omega)]
            · rw [if_neg e1, if_neg e2, if_neg (by omega)])
        have R2 := hbel.setCell (p := ⟨w.heap.size, k, none⟩) (Nat.le_refl _) (.string (S k))
        rw [if_neg (by omega)] at hd
        clear hrow hbel
        go_wp2
        go_roundw
        case rel => exact ⟨k + 1, by omega, by go_num, R1, R2⟩
        case measure => simp [intOf]; omega
      · have hkn : k = n := by omega
        subst hkn
        go_wp2
        go_ret
        rw [HA.out]
        exact Cloned.row hmax hrow (fun i hi => by rw [if_pos hi]) hbel

set_option maxRecDepth 100000 in
set_option maxHeartbeats 1000000 in
theorem cloneInts_any (a : Option Addr) (n cap b off : Nat) (S : Nat → Int) (w : World) (h : Sl w a n cap b off (fun i => .int .i64 (S i))) (hn : n ≤ 4096) :
    Calls Try.prog 12 #[.slice a n cap] w fun e w' => Cloned w a n (fun i => .int .i64 (S i)) e w' := by
  have heq := fun w => Lib.run_eql_slice_nil (P := Try.prog) w 24 3 a n cap 0 0 Try.underlying24
  have hmax : n ≤ maxLen := Nat.le_trans h.le h.max
  cases ha : a with
  | none =>
    subst ha
    have h0 : n = 0 := h.nil rfl
    subst h0
    go_enter Try.func12, Try.ntmps12
    go_wp2
    go_ret
    exact Cloned.nil w _
  | some x =>
    have hnone : a.isNone = false := by rw [ha]; rfl
    rw [hnone] at heq
    have HA : Hid (a = some x) := ha
    rw [← ha]
    clear ha hnone
    have hmk := run_make_row' (P := Try.prog) 24 3 (.int .i64 0) 8 Try.underlying24 info3 rfl .i64 .i64 n (by omega) (by omega)
    go_enter Try.func12, Try.ntmps12
    go_wp2
    go_loopw [4] (fun i wr => ∃ k : Nat, k ≤ n ∧ i = .int .i64 k ∧ wr.rowIs w.heap.size 3 n (fun j => if j < k then .int .i64 (S j) else .int .i64 0) ∧ Below w.heap.size w wr) (fun i _ => n - (intOf i).toNat)
    case atStart => exact ⟨0, Nat.zero_le _, rfl, (World.rowIs_made w _ n 3).congr (fun i _ => by rw [if_neg (by omega)]), (Below.refl _ _).alloc (Nat.le_refl _) _⟩
    case round =>
      obtain ⟨k, hk, rfl, hrow, hbel⟩ := hrel
      by_cases hlt : k < n
      · have hi := h.idx (P := Try.prog) Try.underlying24 size3 hlt .i64
        have hc : wr.cell? ⟨b, off + k, none⟩ = some (.int .i64 (S k)) := (hbel.cell (p := ⟨b, off + k, none⟩) (h.lt (by omega))).trans (h.cell k hlt)
        have hd := hrow.cell hlt
        have hf := hrow.frozen k
        have R1 := (hrow.set k (.int .i64 (S k))).congr (g := fun j => if j < k + 1 then .int .i64 (S j) else .int .i64 0) (fun j hj => by
          show (if j = k then _ else if j < k then _ else _) = _
          by_cases e1 : j = k
          · rw [if_pos e1, if_pos (by omega), e1]
          · by_cases e2 : j < k
            · rw [if_neg e1, if_pos e2, if_pos (by omega)]
            · rw [if_neg e1, if_neg e2, if_neg (by omega)])
        have R2 := hbel.setCell (p := ⟨w.heap.size, k, none⟩) (Nat.le_refl _) (.int .i64 (S k))
        rw [if_neg (by omega)] at hd
        clear hrow hbel
        go_wp2
        go_roundw
        case rel => exact ⟨k + 1, by omega, by go_num, R1, R2⟩
        case measure => simp [intOf]; omega
      · have hkn : k = n := by omega
        subst hkn
        go_wp2
        go_ret
        rw [HA.out]
        exact Cloned.row hmax hrow (fun i hi => by rw [if_pos hi]) hbel

set_option maxRecDepth 100000 in
set_option maxHeartbeats 1000000 in
theorem cloneU64_any (a : Option Addr) (n cap b off : Nat) (S : Nat → Int) (w : World) (h : Sl w a n cap b off (fun i => .int .u64 (S i))) (hn : n ≤ 4096) :
    Calls Try.prog 16 #[.slice a n cap] w fun e w' => Cloned w a n (fun i => .int .u64 (S i)) e w' := by
  have heq := fun w => Lib.run_eql_slice_nil (P := Try.prog) w 33 22 a n cap 0 0 Try.underlying33
  have hmax : n ≤ maxLen := Nat.le_trans h.le h.max
  cases ha : a with
  | none =>
    subst ha
    have h0 : n = 0 := h.nil rfl
    subst h0
    go_enter Try.func16, Try.ntmps16
    go_wp2
    go_ret
    exact Cloned.nil w _
  | some x =>
    have hnone : a.isNone = false := by rw [ha]; rfl
    rw [hnone] at heq
    have HA : Hid (a = some x) := ha
    rw [← ha]
    clear ha hnone
    have hmk := run_make_row' (P := Try.prog) 33 22 (.int .u64 0) 8 Try.underlying33 info22 rfl .i64 .i64 n (by omega) (by omega)
    go_enter Try.func16, Try.ntmps16
    go_wp2
    go_loopw [4] (fun i wr => ∃ k : Nat, k ≤ n ∧ i = .int .i64 k ∧ wr.rowIs w.heap.size 22 n (fun j => if j < k then .int .u64 (S j) else .int .u64 0) ∧ Below w.heap.size w wr) (fun i _ => n - (intOf i).toNat)
    case atStart => exact ⟨0, Nat.zero_le _, rfl, (World.rowIs_made w _ n 22).congr (fun i _ => by rw [if_neg (by omega)]), (Below.refl _ _).alloc (Nat.le_refl _) _⟩
    case round =>
      obtain ⟨k, hk, rfl, hrow, hbel⟩ := hrel
      by_cases hlt : k < n
      · have hi := h.idx (P := Try.prog) Try.underlying33 size22 hlt .i64
        have hc : wr.cell? ⟨b, off + k, none⟩ = some (.int .u64 (S k)) := (hbel.cell (p := ⟨b, off + k, none⟩) (h.lt (by omega))).trans (h.cell k hlt)
        have hd := hrow.cell hlt
        have hf := hrow.frozen k
        have R1 := (hrow.set k (.int .u64 (S k))).congr (g := fun j => if j < k + 1 then .int .u64 (S j) else .int .u64 0) (fun j hj => by
          show (if j = k then _ else if j < k then _ else _) = _
          by_cases e1 : j = k
          · rw [if_pos e1, if_pos (by omega), e1]
          · by_cases e2 : j < k
            · rw [if_neg e1, if_pos e2, if_pos (by omega)]
            · rw [if_neg e1, if_neg e2, if_neg (by omega)])
        have R2 := hbel.setCell (p := ⟨w.heap.size, k, none⟩) (Nat.le_refl _) (.int .u64 (S k))
        rw [if_neg (by omega)] at hd
        clear hrow hbel
        go_wp2
        go_roundw
        case rel => exact ⟨k + 1, by omega, by go_num, R1, R2⟩
        case measure => simp [intOf]; omega
      · have hkn : k = n := by omega
        subst hkn
        go_wp2
        go_ret
        rw [HA.out]
        exact Cloned.row hmax hrow (fun i hi => by rw [if_pos hi]) hbel

end Go.Proofs.Qxb6003790a
