/- The methods of view that read: of, index, named. -/
import Derived.Test.Qxb6003790aMem
import Derived.Deep.QuietTactic
import Derived.BigQuiet
namespace Go.Proofs.Qxb6003790a
open Go.RowKit

set_option maxRecDepth 100000 in
set_option maxHeartbeats 1000000 in
theorem of_any (c : ByteArray) (id : Int) (a : Option Addr) (n cap : Nat) (mg : Int) (r : Option Nat) (a' : Option Addr) (n' cap' : Nat) (w : World) :
    Calls Try.prog 36 #[.agg #[.string c, .int .u64 id, .slice a n cap, .int .u64 mg, .map r], .slice a' n' cap'] w
      fun e w' => e = .returned (.agg #[.string c, .int .u64 id, .slice a' n' cap', .int .u64 mg, .map r]) ∧ Below w.heap.size w w' := by
  go_enter Try.func36, Try.ntmps36
  go_wp2
  exact bodyPost_ret (v := .agg #[.string c, .int .u64 id, .slice a' n' cap', .int .u64 mg, .map r]) (by simp [results, Try.results36, go_sem]) rfl ⟨rfl, by repeat (first | exact Below.refl _ _ | refine Below.alloc ?_ (by simp <;> omega) _)⟩

/-- The first place whose member answers yes, else -1. -/
def fIdx (p : Mem → Bool) (L : List Mem) : Int := match L.findIdx? p with
  | some i => (i : Int)
  | none => -1

theorem fIdx_hit {p : Mem → Bool} {L : List Mem} {k : Nat} (hk : k < L.length) (h : p (mAt L k) = true) (hn : ∀ j, j < k → p (mAt L j) = false) : fIdx p L = (k : Int) := by
  have e : L.findIdx? p = some k := by
    rw [List.findIdx?_eq_some_iff_getElem]
    refine ⟨hk, ?_, fun j hj => ?_⟩
    · simpa [mAt, List.getD_eq_getElem?_getD, hk] using h
    · have hj' : j < L.length := by omega
      have := hn j hj
      simpa [mAt, List.getD_eq_getElem?_getD, hj'] using this
  simp [fIdx, e]
theorem fIdx_miss {p : Mem → Bool} {L : List Mem} (hn : ∀ j, j < L.length → p (mAt L j) = false) : fIdx p L = -1 := by
  have e : L.findIdx? p = none := by
    rw [List.findIdx?_eq_none_iff]
    intro x hx
    obtain ⟨j, hj, rfl⟩ := List.getElem_of_mem hx
    have := hn j hj
    simpa [mAt, List.getD_eq_getElem?_getD, hj] using this
  simp [fIdx, e]

def hasInc (inc : Int) (m : Mem) : Bool := m.inc == inc
def hasName (s : ByteArray) (m : Mem) : Bool := m.name.toList == s.toList

set_option maxRecDepth 100000 in
set_option maxHeartbeats 1000000 in
theorem index_any (c : ByteArray) (id : Int) (a : Option Addr) (n cap : Nat) (mg : Int) (r : Option Nat) (inc : Int) (b off : Nat) (L : List Mem) (w : World) (h : MRow w a n cap b off L) :
    Calls Try.prog 32 #[.agg #[.string c, .int .u64 id, .slice a n cap, .int .u64 mg, .map r], .int .u64 inc] w
      fun e w' => e = .returned (.int .i64 (fIdx (hasInc inc) L)) ∧ Below w.heap.size w w' := by
  have hm : n ≤ maxLen := Nat.le_trans h.le h.max
  unfold maxLen at hm
  go_enter Try.func32, Try.ntmps32
  go_wp2
  go_loopw [10] (fun i wr => ∃ k : Nat, k ≤ n ∧ i = .int .i64 k ∧ Below w.heap.size w wr ∧ ∀ j, j < k → hasInc inc (mAt L j) = false) (fun i _ => n - (intOf i).toNat)
  case atStart => exact ⟨0, Nat.zero_le _, rfl, (Below.refl _ _).alloc (Nat.le_refl _) _, fun j hj => absurd hj (by omega)⟩
  case round =>
    obtain ⟨k, hk, rfl, hbel, hno⟩ := hrel
    have HN : Hid (∀ j, j < k → hasInc inc (mAt L j) = false) := hno
    clear hno
    have hsz : w.heap.size ≤ wr.heap.size := hbel.size
    by_cases hlt : k < n
    · have hi := h.idx hlt .i64
      have hblt := h.lt (by omega)
      have hc0 : wr.cell? ⟨b, off + k * 3, none⟩ = _ := (hbel.cell hblt).trans (h.c0 k hlt)
      have hc1 : wr.cell? ⟨b, off + k * 3 + 1, none⟩ = _ := (hbel.cell hblt).trans (h.c1 k hlt)
      have hc2 : wr.cell? ⟨b, off + k * 3 + 2, none⟩ = _ := (hbel.cell hblt).trans (h.c2 k hlt)
      by_cases he : (mAt L k).inc = inc
      · have hb : ((mAt L k).inc == inc) = true := by simp [he]
        have EV : Hid (fIdx (hasInc inc) L = (k : Int)) := fIdx_hit (by rw [h.len]; exact hlt) hb HN.out
        clear he
        go_wp2
        go_ret
        exact ⟨by rw [EV.out]; rfl, by repeat (first | assumption | exact Below.refl _ _ | apply below_drewN | refine Below.alloc ?_ (by first | omega | (simp <;> omega)) _ | refine Below.setCell ?_ (by first | omega | (simp <;> omega)) _)⟩
      · have hb : ((mAt L k).inc == inc) = false := by simp [he]
        clear he
        go_wp2
        go_roundw
        case rel => exact ⟨k + 1, by omega, by go_num, by repeat (first | assumption | exact Below.refl _ _ | apply below_drewN | refine Below.alloc ?_ (by first | omega | (simp <;> omega)) _ | refine Below.setCell ?_ (by first | omega | (simp <;> omega)) _), fun j hj => by
          by_cases ej : j = k
          · rw [ej]; exact hb
          · exact HN.out j (by omega)⟩
        case measure => simp [intOf]; omega
    · have hkn : k = n := by omega
      have EV : Hid (fIdx (hasInc inc) L = -1) := fIdx_miss (fun j hj => HN.out j (by rw [h.len] at hj; omega))
      go_wp2
      go_ret
      exact ⟨by rw [EV.out]; rfl, by repeat (first | assumption | exact Below.refl _ _ | apply below_drewN | refine Below.alloc ?_ (by first | omega | (simp <;> omega)) _ | refine Below.setCell ?_ (by first | omega | (simp <;> omega)) _)⟩

set_option maxRecDepth 100000 in
set_option maxHeartbeats 1000000 in
theorem named_any (c : ByteArray) (id : Int) (a : Option Addr) (n cap : Nat) (mg : Int) (r : Option Nat) (nm : ByteArray) (b off : Nat) (L : List Mem) (w : World) (h : MRow w a n cap b off L) :
    Calls Try.prog 33 #[.agg #[.string c, .int .u64 id, .slice a n cap, .int .u64 mg, .map r], .string nm] w
      fun e w' => e = .returned (.int .i64 (fIdx (hasName nm) L)) ∧ Below w.heap.size w w' := by
  have hm : n ≤ maxLen := Nat.le_trans h.le h.max
  unfold maxLen at hm
  go_enter Try.func33, Try.ntmps33
  go_wp2
  go_loopw [10] (fun i wr => ∃ k : Nat, k ≤ n ∧ i = .int .i64 k ∧ Below w.heap.size w wr ∧ ∀ j, j < k → hasName nm (mAt L j) = false) (fun i _ => n - (intOf i).toNat)
  case atStart => exact ⟨0, Nat.zero_le _, rfl, (Below.refl _ _).alloc (Nat.le_refl _) _, fun j hj => absurd hj (by omega)⟩
  case round =>
    obtain ⟨k, hk, rfl, hbel, hno⟩ := hrel
    have HN : Hid (∀ j, j < k → hasName nm (mAt L j) = false) := hno
    clear hno
    have hsz : w.heap.size ≤ wr.heap.size := hbel.size
    by_cases hlt : k < n
    · have hi := h.idx hlt .i64
      have hblt := h.lt (by omega)
      have hc0 : wr.cell? ⟨b, off + k * 3, none⟩ = _ := (hbel.cell hblt).trans (h.c0 k hlt)
      have hc1 : wr.cell? ⟨b, off + k * 3 + 1, none⟩ = _ := (hbel.cell hblt).trans (h.c1 k hlt)
      have hc2 : wr.cell? ⟨b, off + k * 3 + 2, none⟩ = _ := (hbel.cell hblt).trans (h.c2 k hlt)
      by_cases he : (mAt L k).name.toList = nm.toList
      · have hb : ((mAt L k).name.toList == nm.toList) = true := by simp [he]
        have EV : Hid (fIdx (hasName nm) L = (k : Int)) := fIdx_hit (by rw [h.len]; exact hlt) hb HN.out
        go_wp2
        go_ret
        exact ⟨by rw [EV.out]; rfl, by repeat (first | assumption | exact Below.refl _ _ | apply below_drewN | refine Below.alloc ?_ (by first | omega | (simp <;> omega)) _ | refine Below.setCell ?_ (by first | omega | (simp <;> omega)) _)⟩
      · have hb : ((mAt L k).name.toList == nm.toList) = false := by simp [he]
        go_wp2
        go_roundw
        case rel => exact ⟨k + 1, by omega, by go_num, by repeat (first | assumption | exact Below.refl _ _ | apply below_drewN | refine Below.alloc ?_ (by first | omega | (simp <;> omega)) _ | refine Below.setCell ?_ (by first | omega | (simp <;> omega)) _), fun j hj => by
          by_cases ej : j = k
          · rw [ej]; exact hb
          · exact HN.out j (by omega)⟩
        case measure => simp [intOf]; omega
    · have hkn : k = n := by omega
      have EV : Hid (fIdx (hasName nm) L = -1) := fIdx_miss (fun j hj => HN.out j (by rw [h.len] at hj; omega))
      go_wp2
      go_ret
      exact ⟨by rw [EV.out]; rfl, by repeat (first | assumption | exact Below.refl _ _ | apply below_drewN | refine Below.alloc ?_ (by first | omega | (simp <;> omega)) _ | refine Below.setCell ?_ (by first | omega | (simp <;> omega)) _)⟩


theorem zzIndex_any (c : ByteArray) (id : Int) (a : Option Addr) (n cap : Nat) (mg : Int) (r : Option Nat) (inc : Int) (b off : Nat) (L : List Mem) (w : World) (h : MRow w a n cap b off L) :
    Calls Try.prog 21 #[.agg #[.string c, .int .u64 id, .slice a n cap, .int .u64 mg, .map r], .int .u64 inc] w
      fun e w' => e = .returned (.int .i64 (fIdx (hasInc inc) L)) ∧ Below w.heap.size w w' := by
  go_enter Try.func21, Try.ntmps21
  go_wp2_with fail
  refine (index_any _ _ _ _ _ _ _ _ _ _ _ _ (h.keep ?hb0)).mono ?_
  case hb0 => repeat (first | assumption | exact Below.refl _ _ | apply below_drewN | refine Below.alloc ?_ (by first | omega | (simp <;> omega)) _ | refine Below.setCell ?_ (by first | omega | (simp <;> omega)) _)
  rintro e w1 ⟨rfl, hb1⟩
  go_wp2_with fail
  go_ret
  exact ⟨rfl, below_chain (by repeat (first | assumption | exact Below.refl _ _ | apply below_drewN | refine Below.alloc ?_ (by first | omega | (simp <;> omega)) _ | refine Below.setCell ?_ (by first | omega | (simp <;> omega)) _)) hb1⟩

theorem zzNamed_any (c : ByteArray) (id : Int) (a : Option Addr) (n cap : Nat) (mg : Int) (r : Option Nat) (nm : ByteArray) (b off : Nat) (L : List Mem) (w : World) (h : MRow w a n cap b off L) :
    Calls Try.prog 22 #[.agg #[.string c, .int .u64 id, .slice a n cap, .int .u64 mg, .map r], .string nm] w
      fun e w' => e = .returned (.int .i64 (fIdx (hasName nm) L)) ∧ Below w.heap.size w w' := by
  go_enter Try.func22, Try.ntmps22
  go_wp2_with fail
  refine (named_any _ _ _ _ _ _ _ _ _ _ _ _ (h.keep ?hb0)).mono ?_
  case hb0 => repeat (first | assumption | exact Below.refl _ _ | apply below_drewN | refine Below.alloc ?_ (by first | omega | (simp <;> omega)) _ | refine Below.setCell ?_ (by first | omega | (simp <;> omega)) _)
  rintro e w1 ⟨rfl, hb1⟩
  go_wp2_with fail
  go_ret
  exact ⟨rfl, below_chain (by repeat (first | assumption | exact Below.refl _ _ | apply below_drewN | refine Below.alloc ?_ (by first | omega | (simp <;> omega)) _ | refine Below.setCell ?_ (by first | omega | (simp <;> omega)) _)) hb1⟩

end Go.Proofs.Qxb6003790a
