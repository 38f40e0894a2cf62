/- The plain laws on lists of members that the laws on without want: no Go in sight. -/
import Derived.Test.Qxb6003790aSame
namespace Go.Proofs.Qxb6003790a

theorem memEq_refl (m : Mem) : memEq m m = true := by simp [memEq]
theorem sameM_refl (L : List Mem) : sameM L L = true := decide_eq_true ⟨rfl, fun _ _ => memEq_refl _⟩

/-- How many members have that incarnation. -/
def cntInc (inc : Int) (L : List Mem) : Nat := L.countP (hasInc inc)

theorem cnt_take_hit {inc : Int} {L : List Mem} {k : Nat} (hk : k < L.length) (h : hasInc inc (mAt L k) = true) : cntInc inc (L.take (k + 1)) = cntInc inc (L.take k) + 1 := by
  rw [take_snoc hk, cntInc, List.countP_append]
  simp [cntInc, h]
theorem cnt_take_miss {inc : Int} {L : List Mem} {k : Nat} (hk : k < L.length) (h : hasInc inc (mAt L k) = false) : cntInc inc (L.take (k + 1)) = cntInc inc (L.take k) := by
  rw [take_snoc hk, cntInc, List.countP_append]
  simp [cntInc, h]
theorem cnt_le (inc : Int) (L : List Mem) : cntInc inc L ≤ L.length := List.countP_le_length

theorem wo_cnt (inc : Int) (L : List Mem) : (wo inc L).length + cntInc inc L = L.length := by
  induction L with
  | nil => rfl
  | cons m L ih =>
    cases h : hasInc inc m <;> simp [wo, cntInc, h] at * <;> omega

theorem wo_none {inc : Int} {L : List Mem} (h : cntInc inc L = 0) : wo inc L = L := by
  unfold cntInc at h
  unfold wo
  rw [List.filter_eq_self]
  intro m hm
  have := List.countP_eq_zero.1 h m hm
  simpa using this

theorem wo_wo (inc : Int) (L : List Mem) : wo inc (wo inc L) = wo inc L := by simp [wo]
theorem wo_comm (a b : Int) (L : List Mem) : wo b (wo a L) = wo a (wo b L) := by
  unfold wo
  rw [List.filter_filter, List.filter_filter]
  congr 1
  funext m
  exact Bool.and_comm _ _

theorem mAt_mem {L : List Mem} {i : Nat} (h : i < L.length) : mAt L i ∈ L := by
  have : mAt L i = L[i] := by simp [mAt, List.getD_eq_getElem?_getD, h]
  rw [this]
  exact List.getElem_mem h

theorem wo_idx (inc : Int) (L : List Mem) : fIdx (hasInc inc) (wo inc L) = -1 := fIdx_miss (fun j hj => by
  have := mAt_mem hj
  have := (List.mem_filter.1 this).2
  simpa using this)

/-- The place in the filtered list of what is kept at k. -/
theorem wo_split (inc : Int) (L : List Mem) (k : Nat) : wo inc L = wo inc (L.take k) ++ wo inc (L.drop k) := by
  unfold wo
  rw [← List.filter_append, List.take_append_drop]

theorem mAt_append_len (A : List Mem) (m : Mem) (B : List Mem) : mAt (A ++ m :: B) A.length = m := by simp [mAt]

theorem drop_cons {L : List Mem} {k : Nat} (hk : k < L.length) : L.drop k = mAt L k :: L.drop (k + 1) := by
  rw [List.drop_eq_getElem_cons hk]
  simp [mAt, List.getD_eq_getElem?_getD, hk]

theorem wo_kept {inc : Int} {L : List Mem} {k : Nat} (hk : k < L.length) (h : hasInc inc (mAt L k) = false) :
    (wo inc (L.take k)).length < (wo inc L).length ∧ memEq (mAt (wo inc L) (wo inc (L.take k)).length) (mAt L k) = true := by
  have e : wo inc L = wo inc (L.take k) ++ mAt L k :: wo inc (L.drop (k + 1)) := by
    rw [wo_split inc L k, drop_cons hk]
    simp [wo, h]
  have e2 : mAt (wo inc L) (wo inc (L.take k)).length = mAt L k := by
    rw [e]; exact mAt_append_len _ _ _
  refine ⟨?_, by rw [e2]; exact memEq_refl _⟩
  rw [e]; simp

theorem wo_struck {inc : Int} {L : List Mem} {k j : Nat} (hj : j < (wo inc L).length) (h : hasInc inc (mAt L k) = true) : memEq (mAt (wo inc L) j) (mAt L k) = false := by
  have h1 := (List.mem_filter.1 (mAt_mem hj)).2
  have h1' : hasInc inc (mAt (wo inc L) j) = false := by simpa [wo] using h1
  unfold hasInc at h h1'
  have e : (mAt L k).inc = inc := by simpa using h
  have e' : ¬ (mAt (wo inc L) j).inc = inc := by simpa using h1'
  unfold memEq
  have : ((mAt (wo inc L) j).inc == (mAt L k).inc) = false := by simp [e, e']
  rw [this]; simp

theorem wo_take_le (inc : Int) (L : List Mem) (k : Nat) : (wo inc (L.take k)).length ≤ (wo inc L).length := by
  rw [wo_split inc L k]; simp

end Go.Proofs.Qxb6003790a
