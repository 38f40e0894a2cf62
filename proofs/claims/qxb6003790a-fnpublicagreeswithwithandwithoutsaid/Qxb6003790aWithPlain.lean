/- Plain facts on a list of members with one more behind it. -/
import Derived.Test.Qxb6003790aWoLaws
namespace Go.Proofs.Qxb6003790a

theorem fIdx_app (p : Mem → Bool) (L : List Mem) (x : Mem) : fIdx p (L ++ [x]) = if fIdx p L = -1 then (if p x then (L.length : Int) else -1) else fIdx p L := by
  unfold fIdx
  rw [List.findIdx?_append]
  cases h : L.findIdx? p with
  | some i =>
    have : ((i : Nat) : Int) ≠ -1 := by omega
    simp [this]
  | none => cases hp : p x <;> simp [hp, List.findIdx?_cons]

theorem fIdx_found {p : Mem → Bool} {L : List Mem} {k : Nat} (hk : k < L.length) (h : p (mAt L k) = true) : fIdx p L ≠ -1 := by
  unfold fIdx
  cases hf : L.findIdx? p with
  | some i => simp only; omega
  | none =>
    rw [List.findIdx?_eq_none_iff] at hf
    rw [hf _ (mAt_mem hk)] at h
    cases h

theorem fIdx_neg {p : Mem → Bool} {L : List Mem} (h : ¬ (0 ≤ fIdx p L)) : fIdx p L = -1 := by
  unfold fIdx at *
  cases hf : L.findIdx? p with
  | some i => rw [hf] at h; simp only at h; omega
  | none => rfl

theorem fIdx_lt (p : Mem → Bool) (L : List Mem) : fIdx p L < (L.length : Int) ∨ fIdx p L = -1 := by
  unfold fIdx
  cases hf : L.findIdx? p with
  | some i =>
    left
    have := List.findIdx?_eq_some_iff_getElem.1 hf
    obtain ⟨h, _⟩ := this
    simp only
    omega
  | none => right; rfl

theorem mAt_app {L : List Mem} {x : Mem} {i : Nat} (h : i < L.length) : mAt (L ++ [x]) i = mAt L i := by
  simp [mAt, List.getElem?_append_left h]

theorem wo_app {inc : Int} {L : List Mem} {x : Mem} (h : ∀ j, j < L.length → hasInc inc (mAt L j) = false) (hx : hasInc inc x = true) : wo inc (L ++ [x]) = L := by
  have h1 : wo inc L = L := by
    apply List.filter_eq_self.2
    intro a ha
    obtain ⟨j, hj, rfl⟩ := List.getElem_of_mem ha
    have := h j hj
    simp only [mAt, List.getD_eq_getElem?_getD, List.getElem?_eq_getElem hj, Option.getD_some] at this
    rw [this]
    rfl
  have h2 : wo inc (L ++ [x]) = wo inc L ++ wo inc [x] := by simp [wo, List.filter_append]
  rw [h2, h1]
  simp [wo, hx]

end Go.Proofs.Qxb6003790a
