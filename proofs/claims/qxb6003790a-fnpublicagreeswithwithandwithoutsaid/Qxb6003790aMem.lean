/- Rows of members (struct of two strings and a uint64: three cells each), and what is said of them. -/
import Derived.Test.Qxb6003790aGuards
import Derived.Deep.OwnRows
namespace Go.Proofs.Qxb6003790a
open Go.RowKit

/-- One member. -/
structure Mem where
  name : ByteArray
  addr : ByteArray
  inc : Int

/-- The i-th member of a list. -/
def mAt (L : List Mem) (i : Nat) : Mem := L.getD i ⟨ByteArray.empty, ByteArray.empty, 0⟩

/-- The members' cells. -/
def mCells : List Mem → List Value
  | [] => []
  | m :: L => .string m.name :: .string m.addr :: .int .u64 m.inc :: mCells L

theorem mCells_length : ∀ L : List Mem, (mCells L).length = L.length * 3
  | [] => rfl
  | _ :: L => by simp only [mCells, List.length_cons, mCells_length L]; omega

theorem mCells_append : ∀ L M : List Mem, mCells (L ++ M) = mCells L ++ mCells M
  | [], _ => rfl
  | m :: L, M => by simp [mCells, mCells_append L M]

theorem mAt_zero (m : Mem) (L : List Mem) : mAt (m :: L) 0 = m := rfl
theorem mAt_succ (m : Mem) (L : List Mem) (i : Nat) : mAt (m :: L) (i + 1) = mAt L i := by simp [mAt]

theorem mCells_at : ∀ (L : List Mem) (i : Nat), i < L.length →
    (mCells L)[i * 3]? = some (.string (mAt L i).name) ∧ (mCells L)[i * 3 + 1]? = some (.string (mAt L i).addr) ∧ (mCells L)[i * 3 + 2]? = some (.int .u64 (mAt L i).inc)
  | [], i, h => absurd h (by simp)
  | m :: L, 0, _ => by simp [mCells, mAt_zero]
  | m :: L, i + 1, h => by
    have h' := mCells_at L i (by simpa using h)
    rw [mAt_succ, show (i + 1) * 3 = i * 3 + 3 by omega]
    simpa [mCells] using h'

theorem mAt_take {L : List Mem} {i k : Nat} (h : i < k) : mAt (L.take k) i = mAt L i := by
  simp [mAt, List.getD_eq_getElem?_getD, h]

theorem take_snoc {L : List Mem} {k : Nat} (h : k < L.length) : L.take (k + 1) = L.take k ++ [mAt L k] := by
  rw [List.take_succ_eq_append_getElem h]
  simp [mAt, List.getD_eq_getElem?_getD, h]

/-- What a walk is told of a slice of members. -/
structure MRow (w : World) (a : Option Addr) (n cap b off : Nat) (L : List Mem) : Prop where
  nil : a = none → n = 0
  len : L.length = n
  le : n ≤ cap
  max : cap ≤ maxLen
  adr : 0 < n → a = some ⟨b, off, none⟩
  lt : 0 < n → b < w.heap.size
  c0 : ∀ i, i < n → w.cell? ⟨b, off + i * 3, none⟩ = some (.string (mAt L i).name)
  c1 : ∀ i, i < n → w.cell? ⟨b, off + i * 3 + 1, none⟩ = some (.string (mAt L i).addr)
  c2 : ∀ i, i < n → w.cell? ⟨b, off + i * 3 + 2, none⟩ = some (.int .u64 (mAt L i).inc)

theorem MRow.keep {w w' : World} {a : Option Addr} {n cap b off : Nat} {L : List Mem} (h : MRow w a n cap b off L) (hb : Below w.heap.size w w') : MRow w' a n cap b off L :=
  ⟨h.nil, h.len, h.le, h.max, h.adr, fun hn => Nat.lt_of_lt_of_le (h.lt hn) hb.size, fun i hi => (hb.cell (h.lt (by omega))).trans (h.c0 i hi), fun i hi => (hb.cell (h.lt (by omega))).trans (h.c1 i hi), fun i hi => (hb.cell (h.lt (by omega))).trans (h.c2 i hi)⟩

theorem MRow.block {w w' : World} {a : Option Addr} {n cap b off : Nat} {L : List Mem} (h : MRow w a n cap b off L) (hs : w.heap.size ≤ w'.heap.size) (hb : 0 < n → w'.heap[b]? = w.heap[b]?) : MRow w' a n cap b off L :=
  ⟨h.nil, h.len, h.le, h.max, h.adr, fun hn => Nat.lt_of_lt_of_le (h.lt hn) hs, fun i hi => (World.cell?_of_block (hb (by omega))).trans (h.c0 i hi), fun i hi => (World.cell?_of_block (hb (by omega))).trans (h.c1 i hi), fun i hi => (World.cell?_of_block (hb (by omega))).trans (h.c2 i hi)⟩

theorem MRow.near {W : World} {a : Option Addr} {n cap b off : Nat} {L : List Mem} (h : MRow W a n cap b off L) (m : Near W) : MRow m.w a n cap b off L := h.keep m.bel

theorem size43 (w : World) : (Go.sizeOf 43).run Try.prog w = .ok 3 w := by kernel_rfl

theorem MRow.idx {w : World} {a : Option Addr} {n cap b off : Nat} {L : List Mem} (h : MRow w a n cap b off L) {k : Nat} (hk : k < n) (kd : IntKind) :
    ∀ w', (Instr.indexAt 37 (.slice a n cap) (.int kd (k : Int))).run Try.prog w' = .ok (.pointer (some ⟨b, off + k * 3, none⟩)) w' := by
  intro w'
  rw [h.adr (by omega)]
  have he : Try.prog.elem 37 = 43 := by simp [Program.elem, Try.underlying37]
  rw [run_indexAt_slice (h := by rw [he]; exact Try.underlying37), if_pos (by omega), he, size43]
  simp only [Result.andThen, Int.toNat_natCast, Result.ok.injEq, Value.pointer.injEq, Option.some.injEq, and_true]
  unfold Addr.add
  split
  · rename_i h0
    rw [h0]; rfl
  · rfl

/-- A row that the call owns, read as a row of members. -/
theorem mrow_of_owns {w : World} {base : Nat} {v : Value} {n : Nat} {L : List Mem} (h : w.ownsRow base 43 3 v n (mCells L)) :
    ∃ (a : Option Addr) (cap b : Nat), v = .slice a n cap ∧ MRow w a n cap b 0 L ∧ (0 < n → base ≤ b) := by
  obtain ⟨hl, h2⟩ := h
  rw [mCells_length] at hl
  have hln : L.length = n := by omega
  rcases h2 with ⟨rfl, rfl⟩ | ⟨g, cap, cur, rfl, hg, hh, hle, hmx, hsz, htk⟩
  · exact ⟨none, 0, 0, rfl, ⟨fun _ => rfl, hln, Nat.le_refl _, Nat.zero_le _, fun h => absurd h (by omega), fun h => absurd h (by omega), fun i h => absurd h (by omega), fun i h => absurd h (by omega), fun i h => absurd h (by omega)⟩, fun h => absurd h (by omega)⟩
  · have hcell : ∀ j, j < n * 3 → w.cell? ⟨g, 0 + j, none⟩ = (mCells L)[j]? := fun j hj => by
      rw [Nat.zero_add]
      exact World.ownsRow.cellAt (base := base) (e := 43) (size := 3) (cap := cap) (n := n) ⟨by rw [mCells_length]; omega, .inr ⟨g, cap, cur, rfl, hg, hh, hle, hmx, hsz, htk⟩⟩ j hj
    refine ⟨_, cap, g, rfl, ⟨fun h => (by cases h), hln, hle, hmx, fun _ => rfl, fun _ => ?_, fun i hi => ?_, fun i hi => ?_, fun i hi => ?_⟩, fun _ => hg⟩
    · obtain ⟨hlt, _⟩ := Array.getElem?_eq_some_iff.1 hh
      exact hlt
    · rw [hcell _ (by omega)]; exact (mCells_at L i (by omega)).1
    · rw [Nat.add_assoc, hcell _ (by omega)]; exact (mCells_at L i (by omega)).2.1
    · rw [Nat.add_assoc, hcell _ (by omega)]; exact (mCells_at L i (by omega)).2.2

end Go.Proofs.Qxb6003790a
