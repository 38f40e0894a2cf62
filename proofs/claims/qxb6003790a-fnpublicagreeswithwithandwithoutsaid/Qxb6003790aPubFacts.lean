/- Facts for the law on public. -/
import Derived.Test.Qxb6003790aPubZ
import Derived.Test.Qxb6003790aWithPlain
import Derived.Test.Qxb6003790aEqual
import Derived.Deep.Cut
import Derived.Deep.RegionHeld3
namespace Go.Proofs.Qxb6003790a
open Go.RowKit
set_option linter.unusedVariables false

theorem view_cells2 {W : World} {B : Nat} {c : ByteArray} {id mg : Int} {a : Option Addr} {n cap : Nat} {r : Option Nat} (h : W.heap[B]? = some (.cells #[.string c, .int .u64 id, .slice a n cap, .int .u64 mg, .map r] 40)) :
    (∀ m : Near W, m.w.cell? ⟨B, 0, none⟩ = some (.string c)) ∧ (∀ m : Near W, m.w.cell? ⟨B, 1, none⟩ = some (.int .u64 id)) ∧ (∀ m : Near W, m.w.cell? ⟨B, 2, none⟩ = some (.slice a n cap)) ∧ (∀ m : Near W, m.w.cell? ⟨B, 3, none⟩ = some (.int .u64 mg)) ∧ (∀ m : Near W, m.w.cell? ⟨B, 4, none⟩ = some (.map r)) :=
  ⟨near_cell h 0 _ rfl, near_cell h 1 _ rfl, near_cell h 2 _ rfl, near_cell h 3 _ rfl, near_cell h 4 _ rfl⟩

theorem pub_cells {W : World} {B : Nat} {v0 v1 v2 v3 v4 v5 v6 : Value} (h : W.heap[B]? = some (.cells #[v0, v1, v2, v3, v4, v5, v6] 31)) :
    (∀ m : Near W, m.w.cell? ⟨B, 0, none⟩ = some v0) ∧ (∀ m : Near W, m.w.cell? ⟨B, 1, none⟩ = some v1) ∧ (∀ m : Near W, m.w.cell? ⟨B, 2, none⟩ = some v2) ∧ (∀ m : Near W, m.w.cell? ⟨B, 3, none⟩ = some v3) ∧ (∀ m : Near W, m.w.cell? ⟨B, 4, none⟩ = some v4) ∧ (∀ m : Near W, m.w.cell? ⟨B, 5, none⟩ = some v5) ∧ (∀ m : Near W, m.w.cell? ⟨B, 6, none⟩ = some v6) :=
  ⟨near_cell h 0 _ rfl, near_cell h 1 _ rfl, near_cell h 2 _ rfl, near_cell h 3 _ rfl, near_cell h 4 _ rfl, near_cell h 5 _ rfl, near_cell h 6 _ rfl⟩

theorem wo_kept2 {inc : Int} {L : List Mem} {k : Nat} (hk : k < L.length) (h : hasInc inc (mAt L k) = false) :
    (wo inc (L.take k)).length < (wo inc L).length ∧ mAt (wo inc L) (wo inc (L.take k)).length = mAt L k := by
  have e : wo inc L = wo inc (L.take k) ++ (mAt L k :: wo inc (L.drop (k + 1))) := by
    rw [wo_split inc L k, drop_cons hk]
    simp [wo, h]
  constructor
  · rw [e]; simp
  · rw [e]; exact mAt_append_len _ _ _

theorem sl_at {W : World} {a : Option Addr} {n cap b : Nat} {V : Nat → Value} (h : Sl W a n cap b 0 V) {k : Nat} (hk : k < n) {v : Value} (hv : V k = v) : ∀ m : Near W, m.w.cell? ⟨b, k, none⟩ = some v := fun m => by
  have := (h.near m).cell k hk
  rw [Nat.zero_add, hv] at this
  exact this

theorem sl_idx {w : World} {a : Option Addr} {n cap b : Nat} {V : Nat → Value} (h : Sl w a n cap b 0 V) {T E : TypeId} (hT : Try.prog.underlying T = some (.slice E)) (hs : ∀ w, (Go.sizeOf E).run Try.prog w = .ok 1 w)
    {k : Nat} (hk : k < n) : ∀ w', (Instr.indexAt T (.slice a n cap) (.int .i64 (k : Int))).run Try.prog w' = .ok (.pointer (some ⟨b, k, none⟩)) w' := fun w' => by
  have := h.idx (P := Try.prog) hT hs hk .i64 w'
  rw [Nat.zero_add] at this
  exact this

end Go.Proofs.Qxb6003790a
