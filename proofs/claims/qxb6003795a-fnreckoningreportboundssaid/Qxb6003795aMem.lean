/- What lies in memory: blocks that stay, the crashes' row, the reader of 'lengths', the reckoning's block. -/
import Derived.Test.Qxb6003795aKeys
import Derived.Test.Qxb6003795aBase
import Derived.Deep.RegionHeld3
import Derived.Deep.AppendLies
import Derived.Deep.DrawnRows
namespace Go.Proofs.Qxb6003795a
set_option maxRecDepth 100000
open Go.RowKit Go.Maps Go.ChangeMaps

/-- w' is w but for the old blocks of L, and for new ones. -/
structure Kept (L : List Nat) (w w' : World) : Prop where
  os : w'.os = w.os
  tape : w'.tape = w.tape
  output : w'.output = w.output
  size : w.heap.size ≤ w'.heap.size
  block : ∀ k, k < w.heap.size → (∀ l ∈ L, k ≠ l) → w'.heap[k]? = w.heap[k]?

theorem Kept.refl (L : List Nat) (w : World) : Kept L w w := ⟨rfl, rfl, rfl, Nat.le_refl _, fun _ _ _ => rfl⟩
theorem Kept.trans {L : List Nat} {a b c : World} (h : Kept L a b) (k : Kept L b c) : Kept L a c :=
  ⟨k.os.trans h.os, k.tape.trans h.tape, k.output.trans h.output, Nat.le_trans h.size k.size, fun i hi hl => (k.block i (Nat.lt_of_lt_of_le hi h.size) hl).trans (h.block i hi hl)⟩
theorem Kept.mono {L L' : List Nat} {a b : World} (h : Kept L a b) (hl : ∀ l ∈ L, l ∈ L') : Kept L' a b := ⟨h.os, h.tape, h.output, h.size, fun i hi h' => h.block i hi (fun l hm => h' l (hl l hm))⟩
theorem Kept.drew {L : List Nat} {a b : World} (h : Kept L a b) : Kept L a b.drew := ⟨h.os, h.tape, h.output, h.size, h.block⟩
theorem Kept.alloc {L : List Nat} {a b : World} (h : Kept L a b) (o : Obj) : Kept L a (b.alloc o) :=
  h.trans ⟨rfl, rfl, rfl, by simp, fun k hk _ => Below.heap_alloc _ _ _ hk⟩
theorem Kept.setCell {L : List Nat} {a b : World} (h : Kept L a b) {p : Addr} (hp : p.block ∈ L ∨ a.heap.size ≤ p.block) (u : Value) : Kept L a (b.setCell p u) := by
  refine ⟨h.os, h.tape, h.output, by simpa using h.size, fun k hk hl => ?_⟩
  rw [Below.heap_setCell _ _ _ _ (by rcases hp with hp | hp; exact hl _ hp; omega)]
  exact h.block k hk hl
theorem Kept.grown {L : List Nat} {a b c : World} {row : Option Nat} (h : Kept L a b) (hg : b.grownBy c row) (hr : ∀ k, row = some k → k ∈ L ∨ a.heap.size ≤ k) : Kept L a c := by
  refine ⟨hg.os.trans h.os, hg.tape.trans h.tape, hg.output.trans h.output, Nat.le_trans h.size hg.size, fun k hk hl => ?_⟩
  rw [hg.block k (Nat.lt_of_lt_of_le hk h.size) (fun e => by rcases hr k e.symm with h1 | h1; exact hl _ h1 rfl; omega)]
  exact h.block k hk hl
theorem Kept.turned {L : List Nat} {a b c : World} {m : Nat} (h : Kept L a b) (hg : b.mapTurned c m) (hr : m ∈ L ∨ a.heap.size ≤ m) : Kept L a c := h.grown hg.grown (fun k hk => by cases hk; exact hr)
theorem Kept.below {L : List Nat} {a b : World} (h : Kept L a b) {B : Nat} (hB : B ≤ a.heap.size) (hl : ∀ l ∈ L, B ≤ l) : Below B a b :=
  ⟨h.os, h.tape, h.output, h.size, fun k hk => h.block k (by omega) (fun l hm => by have := hl l hm; omega)⟩

section
variable {H : Type} {P : Program} {k : TypeId} {R : Value → Option (DataW H × List MemPlace)} {w w' : World} {b r n : Nat} {D : DataW H} {left : Lit → Bool} {cnt : Nat}
theorem owns_of_block (h : w.ownsMap P k R b n D) (hb : w'.heap[b]? = w.heap[b]?) : w'.ownsMap P k R b n D := by
  obtain ⟨es, c, h1, h2⟩ := h
  exact ⟨es, c, hb.trans h1, h2⟩
theorem Kept.owns {L : List Nat} (hk : Kept L w w') (h : w.ownsMap P k R b n D) (hl : ∀ l ∈ L, b ≠ l) : w'.ownsMap P k R b n D := owns_of_block h (hk.block b h.lt hl)
theorem Kept.ranges {L : List Nat} (hk : Kept L w w') (h : w.ranges P k R b r n D left cnt) (hl : ∀ l ∈ L, b ≠ l) (hr : ∀ l ∈ L, r ≠ l) : w'.ranges P k R b r n D left cnt := by
  have e1 := hk.block b h.owns.lt hl
  have e2 := hk.block r h.lt hr
  obtain ⟨es, clock, since, seen, c0, h1, h2, h3, h4, h5, h6⟩ := h
  exact ⟨es, clock, since, seen, c0, e1.trans h1, h2, h3, h4, e2.trans h5, h6⟩
/-- The bound may be the number of entries. -/
theorem owns_tight (h : w.ownsMap P k R b n D) : w.ownsMap P k R b (Maps.size D) D := by
  obtain ⟨es, c, h1, h2, h3, rfl⟩ := h
  exact ⟨es, c, h1, h2, by simp [Maps.size, length_sorted], rfl⟩
end

theorem Kept.cell {L : List Nat} {w w' : World} (h : Kept L w w') {p : Addr} (hp : p.block < w.heap.size) (hl : ∀ l ∈ L, p.block ≠ l) : w'.cell? p = w.cell? p := World.cell?_of_block (h.block p.block hp hl)

theorem Kept.row {L : List Nat} {w w' : World} (h : Kept L w w') {base : Nat} {e : TypeId} {size : Nat} {v : Value} {n : Nat} {xs : List Value} (ho : w.ownsRow base e size v n xs) (hl : ∀ l ∈ L, ∀ g, v.ownBlock = some g → g ≠ l) : w'.ownsRow base e size v n xs := by
  obtain ⟨h1, h2⟩ := ho
  refine ⟨h1, ?_⟩
  rcases h2 with h2 | ⟨g, cap, cur, rfl, hg, hh, r⟩
  · exact .inl h2
  · exact .inr ⟨g, cap, cur, rfl, hg, (h.block g (Array.getElem?_eq_some_iff.1 hh).1 (fun l hm => hl l hm g rfl)).trans hh, r⟩

/-- A cell of a block that is known whole. -/
theorem cell_of_blk {w : World} {B : Nat} {cs : Array Value} {t : TypeId} {fr : Nat × Nat} (h : w.heap[B]? = some (.cells cs t fr)) (j : Nat) : w.cell? ⟨B, j, none⟩ = cs[j]? := by
  simp [World.cell?, h]

theorem blk_setCell {w : World} {B : Nat} {cs : Array Value} {t : TypeId} {fr : Nat × Nat} (h : w.heap[B]? = some (.cells cs t fr)) (j : Nat) (u : Value) : (w.setCell ⟨B, j, none⟩ u).heap[B]? = some (.cells (cs.setIfInBounds j u) t fr) := by
  simp [World.setCell, Array.getElem?_modify, h]

/-- The crashes' cells. -/
def crCells : List (Int × Nat) → List Value
  | [] => []
  | x :: L => .int .i64 x.1 :: .string (nid x.2) :: crCells L

theorem crCells_append (L M : List (Int × Nat)) : crCells (L ++ M) = crCells L ++ crCells M := by
  induction L with
  | nil => rfl
  | cons x L ih => simp [crCells, ih]
theorem crCells_length (L : List (Int × Nat)) : (crCells L).length = L.length * 2 := by
  induction L with
  | nil => rfl
  | cons x L ih => simp [crCells, ih]; omega
theorem crCells_one (L : List (Int × Nat)) : ∀ u ∈ crCells L, u.oneCell' = true := by
  induction L with
  | nil => intro u hu; cases hu
  | cons x L ih =>
    intro u hu
    simp only [crCells, List.mem_cons] at hu
    rcases hu with rfl | rfl | hu
    · rfl
    · rfl
    · exact ih u hu
theorem crCells_at (L : List (Int × Nat)) (j : Nat) (hj : j < L.length) : (crCells L)[j * 2]? = some (.int .i64 (L[j]'hj).1) ∧ (crCells L)[j * 2 + 1]? = some (.string (nid (L[j]'hj).2)) := by
  induction L generalizing j with
  | nil => cases hj
  | cons x L ih =>
    cases j with
    | zero => simp [crCells]
    | succ j =>
      have := ih j (by simpa using hj)
      rw [show (j + 1) * 2 = j * 2 + 1 + 1 by omega]
      simpa [crCells] using this

/-- What is read of crash j. -/
theorem row_at {w : World} {base : Nat} {v : Value} {L : List (Int × Nat)} (h : w.ownsRow base 93 2 v L.length (crCells L)) (j : Nat) (hj : j < L.length) :
    ∃ g cap, v = .slice (some ⟨g, 0, none⟩) L.length cap ∧ L.length ≤ cap ∧ cap ≤ maxLen ∧ base ≤ g ∧ g < w.heap.size ∧ w.cell? ⟨g, j * 2, none⟩ = some (.int .i64 (L[j]'hj).1) ∧ w.cell? ⟨g, j * 2 + 1, none⟩ = some (.string (nid (L[j]'hj).2)) := by
  rcases h.2 with ⟨_, h0⟩ | ⟨g, cap, cur, rfl, hg, hh, h1, h2, h3, h4⟩
  · omega
  · refine ⟨g, cap, rfl, h1, h2, hg, (Array.getElem?_eq_some_iff.1 hh).1, ?_, ?_⟩
    · rw [cell_of_blk hh, ← (crCells_at L j hj).1, ← h4, List.getElem?_take_of_lt (by omega), Array.getElem?_toList]
    · rw [cell_of_blk hh, ← (crCells_at L j hj).2, ← h4, List.getElem?_take_of_lt (by omega), Array.getElem?_toList]

/-- How an element of type 'lengths' reads. -/
def lenElem : Value → Option (DataW Unit × List MemPlace)
  | .agg cs => match cs.toList with
    | [.int .i64 n, .int .i64 s, .int .i64 m] => some (.agg [.lit (.int .i64 n), .lit (.int .i64 s), .lit (.int .i64 m)], [])
    | _ => none
  | _ => none
def lenD (n s m : Int) : DataW Unit := .agg [.lit (.int .i64 n), .lit (.int .i64 s), .lit (.int .i64 m)]
def lenV (x : Int × Int × Int) : Value := .agg #[.int .i64 x.1, .int .i64 x.2.1, .int .i64 x.2.2]
theorem lenElem_mk (n s m : Int) : lenElem (.agg #[.int .i64 n, .int .i64 s, .int .i64 m]) = some (lenD n s m, []) := rfl
theorem lenElem_inv {v : Value} {y : DataW Unit × List MemPlace} (h : lenElem v = some y) : ∃ n s m, v = .agg #[.int .i64 n, .int .i64 s, .int .i64 m] ∧ y = (lenD n s m, []) := by
  unfold lenElem at h
  split at h
  · rename_i cs
    split at h
    · rename_i n s m hcs
      refine ⟨n, s, m, ?_, by cases h; rfl⟩
      congr 1
      exact Array.toList_inj.1 (by simpa using hcs)
    · cases h
  · cases h
theorem lenD_inj {n s m n' s' m' : Int} (h : lenD n s m = lenD n' s' m') : n = n' ∧ s = s' ∧ m = m' := by
  simpa [lenD] using h
theorem boolElem_inv {v : Value} {z : DataW Unit × List MemPlace} (h : plainElem Try.prog 4 v = some z) : ∃ x : Bool, v = .bool x ∧ z = (.lit (.bool x), []) := by
  unfold plainElem at h
  rw [Try.underlying4] at h
  cases v <;> simp at h
  exact ⟨_, rfl, h.symm⟩

/-- The reckoning's state: H, the first of its six blocks (down, seen, held, since, detected, itself); the crashes' slice and the crashes; the maps' data; mistaken. -/
structure St where
  H : Nat
  v : Value
  L : List (Int × Nat)
  Dd : DataW Unit
  Ds : DataW Unit
  Dh : DataW Unit
  Di : DataW Unit
  De : DataW Unit
  mn : Nat
  ms : Int
  mm : Int

def recCells (S : St) : Array Value := #[S.v, .map (some S.H), .map (some (S.H + 1)), .map (some (S.H + 2)), .map (some (S.H + 3)), .map (some (S.H + 4)), .int .i64 S.mn, .int .i64 S.ms, .int .i64 S.mm]

structure Mem (T : Nat) (w : World) (S : St) : Prop where
  blk : w.heap[S.H + 5]? = some (.cells (recCells S) 83 (0, 0))
  row : w.ownsRow (S.H + 6) 93 2 S.v S.L.length (crCells S.L)
  d : w.ownsMap Try.prog 9 (plainElem Try.prog 3) S.H T S.Dd
  s : w.ownsMap Try.prog 90 (plainElem Try.prog 3) (S.H + 1) T S.Ds
  h : w.ownsMap Try.prog 90 (plainElem Try.prog 4) (S.H + 2) T S.Dh
  i : w.ownsMap Try.prog 90 (plainElem Try.prog 33) (S.H + 3) (Maps.size S.Di) S.Di
  e : w.ownsMap Try.prog 9 lenElem (S.H + 4) T S.De

theorem Mem.lt {T : Nat} {w : World} {S : St} (m : Mem T w S) : S.H + 6 ≤ w.heap.size := (Array.getElem?_eq_some_iff.1 m.blk).1

theorem Mem.mono {T T' : Nat} {w : World} {S : St} (m : Mem T w S) (h : T ≤ T') : Mem T' w S := ⟨m.blk, m.row, m.d.mono h, m.s.mono h, m.h.mono h, m.i, m.e.mono h⟩

theorem Mem.own {T : Nat} {w : World} {S : St} (m : Mem T w S) {g : Nat} (hg : S.v.ownBlock = some g) : S.H + 6 ≤ g ∧ g < w.heap.size := by
  rcases m.row.2 with ⟨h, _⟩ | ⟨g', cap, cur, h, h1, h2, _⟩
  · rw [h] at hg; cases hg
  · rw [h] at hg; cases hg; exact ⟨h1, (Array.getElem?_eq_some_iff.1 h2).1⟩

/-- Nothing of the reckoning's has turned. -/
theorem Mem.kept {T : Nat} {w w' : World} {S : St} (m : Mem T w S) (k : Kept [] w w') : Mem T w' S := by
  have h0 := m.lt
  exact ⟨(k.block _ (by omega) (by simp)).trans m.blk, k.row m.row (by simp), k.owns m.d (by simp), k.owns m.s (by simp), k.owns m.h (by simp), k.owns m.i (by simp), k.owns m.e (by simp)⟩

end Go.Proofs.Qxb6003795a
