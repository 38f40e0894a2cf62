/-
  The seat's common ground: how a slice that came in is told to a walk ('Sl': one letter for nil, empty and full slices alike), its index law, and the chain of 'Below's. No Go program is imported here.
-/
import Derived.WalkKit
import Derived.ProofKit
import Derived.OpenShut
import Derived.ShutString
import Derived.ChangeOld
import Derived.Below
import Derived.SliceStrings
import Derived.WalkLawsBesides
import Derived.WalkSpells
import Derived.WalkSmall
namespace Go.Proofs.Qxb6003795a
open Go.ChangeShapes Go.WideShapes Go.ChangeAt Go.RowKit

/-- What a walk is told of a slice of one-cell elements: whatever its address, cell i (of its n elements) lies at block b, offset off + i, and holds 'V i'. -/
structure Sl (w : World) (a : Option Addr) (n cap b off : Nat) (V : Nat → Value) : Prop where
  nil : a = none → n = 0
  le : n ≤ cap
  max : cap ≤ maxLen
  adr : 0 < n → a = some ⟨b, off, none⟩
  lt : 0 < n → b < w.heap.size
  cell : ∀ i, i < n → w.cell? ⟨b, off + i, none⟩ = some (V i)

theorem below_chain {a b c : World} (h : Below a.heap.size a b) (k : Below b.heap.size b c) : Below a.heap.size a c := h.trans (k.mono h.size)

theorem Sl.keep {w w' : World} {a : Option Addr} {n cap b off : Nat} {V : Nat → Value} (h : Sl w a n cap b off V) (hb : Below w.heap.size w w') : Sl w' a n cap b off V :=
  ⟨h.nil, h.le, h.max, h.adr, fun hn => Nat.lt_of_lt_of_le (h.lt hn) hb.size, fun i hi => (hb.cell (p := ⟨b, off + i, none⟩) (h.lt (by omega))).trans (h.cell i hi)⟩

theorem Sl.idx {P : Program} {w : World} {a : Option Addr} {n cap b off : Nat} {V : Nat → Value} (h : Sl w a n cap b off V) {T E : TypeId} (hT : P.underlying T = some (.slice E)) (hs : ∀ w, (Go.sizeOf E).run P w = .ok 1 w)
    {k : Nat} (hk : k < n) (kd : IntKind) : ∀ w', (Instr.indexAt T (.slice a n cap) (.int kd (k : Int))).run P w' = .ok (.pointer (some ⟨b, off + k, none⟩)) w' := by
  intro w'
  rw [h.adr (by omega)]
  have he : P.elem T = E := by simp [Program.elem, hT]
  rw [run_indexAt_slice (h := by rw [he]; exact hT), if_pos (by omega), he, hs]
  simp [Result.andThen, Addr.add]

theorem sl_of_strs {w : World} {a : Option Addr} {len cap : Nat} (h : (a = none ∧ len = 0 ∧ cap = 0) ∨ ∃ (x : Addr) (ss : List ByteArray), a = some x ∧ len ≤ cap ∧ cap ≤ maxLen ∧ ss.length = cap ∧ (∀ i, i < ss.length → w.cell? (x.add i) = some (.string (ss.getD i ByteArray.empty))) ∧ ∀ s ∈ ss, s.size ≤ maxLen) :
    ∃ (b off : Nat) (S : Nat → ByteArray), Sl w a len cap b off (fun i => .string (S i)) ∧ ∀ i : Nat, (S i).size ≤ maxLen := by
  rcases h with ⟨rfl, rfl, rfl⟩ | ⟨⟨b, off, spot⟩, ss, rfl, hl, hm, hz, hcell, hws⟩
  · exact ⟨0, 0, fun _ => ByteArray.empty, ⟨fun _ => rfl, Nat.le_refl _, Nat.zero_le _, fun h => absurd h (by omega), fun h => absurd h (by omega), fun i h => absurd h (by omega)⟩, fun _ => Nat.zero_le _⟩
  · have hsp : 0 < len → spot = none := fun h0 => by
      have := hcell 0 (by omega)
      simpa [Addr.add] using World.cell?_spot this
    have hS : ∀ i : Nat, (ss.getD i ByteArray.empty).size ≤ maxLen := fun i => by
      by_cases hi : i < ss.length
      · rw [List.getD_eq_getElem?_getD, List.getElem?_eq_getElem hi]
        exact hws _ (List.getElem_mem hi)
      · rw [List.getD_eq_getElem?_getD, List.getElem?_eq_none (by omega)]
        exact Nat.zero_le _
    refine ⟨b, off, fun i => ss.getD i ByteArray.empty, ⟨fun h => (by cases h), hl, hm, fun h0 => by rw [hsp h0], fun h0 => ?_, fun i hi => ?_⟩, hS⟩
    · have := hcell 0 (by omega)
      exact World.block_lt_of_cell? _ _ this
    · have := hcell i (by omega)
      rw [hsp (by omega), add_plain] at this
      exact this

theorem sl_of_ints {k : IntKind} {w : World} {a : Option Addr} {len cap : Nat} (h : (a = none ∧ len = 0 ∧ cap = 0) ∨ ∃ (x : Addr) (zs : List Int), a = some x ∧ len ≤ cap ∧ cap ≤ maxLen ∧ zs.length = cap ∧ (∀ i, i < zs.length → w.cell? (x.add i) = some (.int k (zs.getD i 0))) ∧ ∀ n ∈ zs, (Lit.int k n).wf = true) :
    ∃ (b off : Nat) (Z : Nat → Int), Sl w a len cap b off (fun i => .int k (Z i)) ∧ ∀ i : Nat, (Lit.int k (Z i)).wf = true := by
  have h0 : (Lit.int k 0).wf = true := by cases k <;> decide
  rcases h with ⟨rfl, rfl, rfl⟩ | ⟨⟨b, off, spot⟩, zs, rfl, hl, hm, hz, hcell, hws⟩
  · exact ⟨0, 0, fun _ => 0, ⟨fun _ => rfl, Nat.le_refl _, Nat.zero_le _, fun h => absurd h (by omega), fun h => absurd h (by omega), fun i h => absurd h (by omega)⟩, fun _ => h0⟩
  · have hsp : 0 < len → spot = none := fun h0 => by
      have := hcell 0 (by omega)
      simpa [Addr.add] using World.cell?_spot this
    have hS : ∀ i : Nat, (Lit.int k (zs.getD i 0)).wf = true := fun i => by
      by_cases hi : i < zs.length
      · rw [List.getD_eq_getElem?_getD, List.getElem?_eq_getElem hi]
        exact hws _ (List.getElem_mem hi)
      · rw [List.getD_eq_getElem?_getD, List.getElem?_eq_none (by omega)]
        exact h0
    refine ⟨b, off, fun i => zs.getD i 0, ⟨fun h => (by cases h), hl, hm, fun h0 => by rw [hsp h0], fun h0 => ?_, fun i hi => ?_⟩, hS⟩
    · have := hcell 0 (by omega)
      exact World.block_lt_of_cell? _ _ this
    · have := hcell i (by omega)
      rw [hsp (by omega), add_plain] at this
      exact this

end Go.Proofs.Qxb6003795a
