/- zzAlive: the nodes alive. -/
import Derived.Test.Qxb6003795aSteps
namespace Go.Proofs.Qxb6003795a
set_option maxRecDepth 100000
open Go.RowKit Go.Maps
attribute [local go_sem ↓] Go.wp_at_zero Go.wp_at_succ

structure IsAlive (D : DataW Unit) (al : Nat → Bool) (k K : Nat) : Prop where
  at_ : ∀ o, o < 8 → D.atKey (nk o) (.lit (.bool false)) = .lit (.bool (al o))
  has_ : ∀ o, o < 8 → Maps.has D (nk o) = al o
  late : ∀ o, k ≤ o → al o = false
  size_ : Maps.size D = K
  sum_ : K = sumTo (fun o => if al o then 1 else 0) k

theorem IsAlive.skip {D : DataW Unit} {al : Nat → Bool} {k K : Nat} (h : IsAlive D al k K) : IsAlive D al (k + 1) K :=
  ⟨h.at_, h.has_, fun o ho => h.late o (by omega), h.size_, by simp only [sumTo, h.late k (Nat.le_refl k)]; exact h.sum_⟩

theorem IsAlive.put {D : DataW Unit} {al : Nat → Bool} {k K : Nat} (h : IsAlive D al k K) (ht : Tidy D) (hk : k < 8) : IsAlive (D.put (nk k) (.lit (.bool true))) (fun o => if o = k then true else al o) (k + 1) (K + 1) := by
  have hl := law9.key (keyOf_nid k)
  refine ⟨?_, ?_, ?_, ?_, ?_⟩
  · intro o ho
    by_cases e : o = k
    · subst e
      rw [atKey_put_same ht.isMap hl]; simp
    · rw [atKey_put_other (fun e' => e (nk_inj ho hk e')), h.at_ o ho, if_neg e]
  · intro o ho
    by_cases e : o = k
    · subst e
      rw [has_put_same ht.isMap hl]; simp
    · rw [has_put_other (fun e' => e (nk_inj ho hk e')), h.has_ o ho, if_neg e]
  · intro o ho
    rw [if_neg (by omega)]
    exact h.late o (by omega)
  · rw [size_put ht, h.has_ k hk, h.late k (Nat.le_refl k), h.size_]; rfl
  · simp only [sumTo, if_true]
    rw [h.sum_, sumTo_congr (g := fun o => if (if o = k then true else al o) = true then 1 else 0)]
    intro o ho
    rw [if_neg (show ¬ o = k by omega)]

def AliveTo (w : World) (e : Ending) (w' : World) : Prop := ∃ (D : DataW Unit) (al : Nat → Bool) (K : Nat), e = .returned (.tuple #[.map (some w.heap.size), .int .i64 K]) ∧ w'.ownsMap Try.prog 9 (plainElem Try.prog 4) w.heap.size 8 D ∧ IsAlive D al 8 K ∧ Below w.heap.size w w'

def AliveRel (w wr : World) (k K : Nat) : Prop := ∃ (D : DataW Unit) (al : Nat → Bool), wr.ownsMap Try.prog 9 (plainElem Try.prog 4) w.heap.size k D ∧ IsAlive D al k K ∧ Below w.heap.size w wr ∧ K ≤ k

set_option maxHeartbeats 1000000 in
theorem alive_any (mask : Int) (_hm : 0 ≤ mask ∧ mask ≤ 255) (w : World) : Calls Try.prog 10 #[.int .u8 mask] w fun e w' => AliveTo w e w' := by
  have hmm := @run_makeMap Try.prog
  have R0 : Hid (AliveRel w (w.alloc (.map #[] 0)) 0 0) := by
    refine ⟨.map [], fun _ => false, World.ownsMap_made w _ _ _, ⟨fun o _ => rfl, fun o _ => rfl, fun _ _ => rfl, rfl, rfl⟩, (Kept.refl [] w).alloc _ |>.below (Nat.le_refl _) (by simp), Nat.le_refl _⟩
  go_enter Try.func10, Try.ntmps10
  go_wp2
  clear hmm
  go_loopw [5, 6] (fun c i wr => ∃ (K k : Nat), c = .int .i64 K ∧ i = .int .u8 k ∧ k ≤ 8 ∧ AliveRel w wr k K) (fun _ i _ => 8 - (intOf i).toNat)
  case atStart => exact ⟨0, 0, rfl, rfl, by omega, R0.out⟩
  case round =>
    clear R0
    obtain ⟨K, k, rfl, rfl, hk, rel⟩ := hrel
    obtain ⟨D, al, hown, hal, bel, hKk⟩ := rel
    by_cases hlt : k < 8
    · have HI := zzID_any k hlt k rfl wr
      obtain ⟨w2, hr2, ho2, hg2⟩ := hown.update law9 Try.underlying30 (by unfold maxLen; omega) (keyOf_nid k) (plainElem_bool Try.underlying4 true)
      have R1 : Hid (AliveRel w wr (k + 1) K) := ⟨D, al, hown.mono (Nat.le_succ k), hal.skip, bel, by omega⟩
      have R2 : Hid (AliveRel w w2 (k + 1) (K + 1)) := ⟨_, _, ho2, hal.put (hown.tidy law9) hlt, bel.grown hg2 bel.size (by intro j hj; cases hj; exact Nat.le_refl _), by omega⟩
      clear hown hal bel ho2 hg2
      go_wp2_with fail
      · refine HI.mono ?_
        rintro e w1 ⟨rfl, rfl⟩
        go_wp2
        go_roundw
        case rel => exact ⟨K + 1, k + 1, rfl, rfl, hlt, R2.out⟩
        case measure => simp [intOf]; omega
      · go_roundw
        case rel => exact ⟨K, k + 1, rfl, rfl, hlt, R1.out⟩
        case measure => simp [intOf]; omega
    · have hk8 : k = 8 := by omega
      subst hk8
      have REL : Hid (AliveTo w (.returned (.tuple #[.map (some w.heap.size), .int .i64 K])) wr) := ⟨D, al, K, rfl, hown, hal, bel⟩
      clear hown hal bel
      go_wp2
      go_ret2
      exact REL.out
end Go.Proofs.Qxb6003795a
