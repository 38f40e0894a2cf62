/- The guards of the law, and txState over a map that holds 'unknown' at one key. -/
import Derived.Test.Qxb6605485aClones
import Derived.Maps.Own
import Derived.Maps.OwnSet
import Derived.Maps.RangeWalk
import Derived.Maps.StringElems
namespace Go.Proofs.Qxb6605485a
open Go.RowKit Go.Maps

def RetBool (e : Ending) : Prop := ∃ r : Bool, e = .returned (.bool r)

set_option maxRecDepth 100000 in
set_option maxHeartbeats 1000000 in
theorem zzBytes_any (x0 : Int) (a1 : Option Addr) (n1 k1 b1 o1 : Nat) (S1 : Nat → ByteArray) (a2 : Option Addr) (n2 k2 : Nat) (x3 : ByteArray) (w : World) (h1 : Sl w a1 n1 k1 b1 o1 (fun i => .string (S1 i))) :
    Calls Try.prog 5 #[.int .i64 x0, .slice a1 n1 k1, .slice a2 n2 k2, .string x3] w fun e w' => RetBool e ∧ w' = w := by
  go_enter Try.func5, Try.ntmps5
  go_wp2
  all_goals (try (go_ret; exact ⟨⟨_, rfl⟩, rfl⟩))
  go_loop [9, 10] (fun t i => ∃ (k : Nat) (r : Int), k ≤ n1 ∧ i = .int .i64 k ∧ t = .int .i64 r ∧ 0 ≤ r ∧ r ≤ 1048576) (fun _ i => n1 - (intOf i).toNat)
  case atStart => exact ⟨0, _, Nat.zero_le _, rfl, rfl, by omega, by omega⟩
  case round =>
    obtain ⟨k, r, hk, rfl, rfl, hr0, hr1⟩ := hrel
    by_cases hlt : k < n1
    · have hi := h1.idx (P := Try.prog) Try.underlying22 size9 hlt .i64
      have hc := h1.cell k hlt
      go_wp2
      all_goals (try (go_ret; exact ⟨⟨_, rfl⟩, rfl⟩))
      go_round
      case rel => exact ⟨k + 1, _, by omega, by go_num, rfl, by omega, by omega⟩
      case measure => simp [intOf]; omega
    have hkn : k = n1 := by omega
    subst hkn
    go_wp2
    all_goals (go_ret; exact ⟨⟨_, rfl⟩, rfl⟩)

set_option maxRecDepth 100000 in
set_option maxHeartbeats 1000000 in
theorem zzFit_any (a1 : Option Addr) (n1 k1 b1 o1 : Nat) (S1 : Nat → ByteArray) (t : Int) (w : World) (h1 : Sl w a1 n1 k1 b1 o1 (fun i => .string (S1 i))) (ht : 0 ≤ t) :
    Calls Try.prog 6 #[.slice a1 n1 k1, .int .i64 t] w fun e w' => RetBool e ∧ w' = w := by
  have hn : n1 ≤ maxLen := Nat.le_trans h1.le h1.max
  unfold maxLen at hn
  by_cases hb : 1048576 < t
  · go_enter Try.func6, Try.ntmps6
    go_wp2
    go_ret
    exact ⟨⟨_, rfl⟩, rfl⟩
  go_enter Try.func6, Try.ntmps6
  go_wp2
  go_loop [5, 6] (fun t i => ∃ (k : Nat) (r : Int), k ≤ n1 ∧ i = .int .i64 k ∧ t = .int .i64 r ∧ 0 ≤ r ∧ r ≤ 1048576) (fun _ i => n1 - (intOf i).toNat)
  case atStart => exact ⟨0, _, Nat.zero_le _, rfl, rfl, by omega, by omega⟩
  case round =>
    obtain ⟨k, r, hk, rfl, rfl, hr0, hr1⟩ := hrel
    by_cases hlt : k < n1
    · have hi := h1.idx (P := Try.prog) Try.underlying22 size9 hlt .i64
      have hc := h1.cell k hlt
      go_wp2
      all_goals (try (go_ret; exact ⟨⟨_, rfl⟩, rfl⟩))
      go_round
      case rel => exact ⟨k + 1, _, by omega, by go_num, rfl, by omega, by omega⟩
      case measure => simp [intOf]; omega
    · go_wp2
      go_ret
      exact ⟨⟨_, rfl⟩, rfl⟩

theorem law9 : Keyed Try.prog 9 := string_keyed Try.underlying9

/-- What reads as a key of a string's type IS that string. -/
theorem keyOf_str_inv {key : Value} {kl : Lit} (h : keyOf Try.prog 9 key = some kl) : ∃ s : ByteArray, key = .string s := by
  cases key <;> simp [keyOf, Try.underlying9, mapKey] at h
  exact ⟨_, rfl⟩

set_option maxRecDepth 100000 in
set_option maxHeartbeats 1000000 in
theorem txState_any (o : Int) (B n : Nat) (D : DataW Unit) (kl : Lit) (w : World) (ho : (o == 0) = false) (hown : w.ownsMap Try.prog 9 (plainElem Try.prog 29) B n D)
    (hat : ∀ z, D.atKey kl z = .lit (.int .i64 5)) :
    Calls Try.prog 12 #[.int .i64 o, .map (some B)] w fun e w' => e = .returned (.tuple #[.int .i64 4, .bool true]) ∧ Below w.heap.size w w' := by
  have hhas : Maps.has D kl = true := has_true_of_atKey hat
  go_enter Try.func12, Try.ntmps12
  go_wp2_with (at_range; refine wpList_range_own _ rfl _ 28 rfl 9 29 law9 Try.underlying28 _ B n D rfl hown ?_; intro w0 hrg0 hg0 hs0)
  go_frame
  go_loopw [6, 7] (fun l u wr => ∃ (left : Lit → Bool) (cnt : Nat) (lb ub : Bool), l = .bool lb ∧ u = .bool ub ∧ wr.ranges Try.prog 9 (plainElem Try.prog 29) B w.heap.size n D left cnt ∧ Below w.heap.size w wr ∧ (ub = true ∨ left kl = true)) (fun _ _ wr => wr.rangeLeft B w.heap.size)
  case atStart => exact ⟨_, _, false, false, rfl, rfl, hrg0, (Below.refl _ _).grown hg0 (Nat.le_refl _) (by intro k hk; cases hk), .inr hhas⟩
  case round =>
    clear hrg0 hg0 hs0 hhas hown
    obtain ⟨left, cnt, lb, ub, rfl, rfl, hrg, hbel, hor⟩ := hrel
    have HO : Hid (ub = true ∨ left kl = true) := hor
    clear hor
    have HAT : Hid (∀ z, D.atKey kl z = .lit (.int .i64 5)) := hat
    clear hat
    go_wp2_with (at_next; refine wpList_next_ranges _ rfl _ rfl 9 law9 _ Value.string (Value.int .i64) (fun _ _ h => keyOf_str_inv h) (fun _ _ hv => by obtain ⟨c, rfl, _⟩ := plainElem_int_inv Try.underlying29 hv; exact ⟨c, rfl⟩) B w.heap.size n D left cnt rfl hrg ?_ ?_)
    · intro _ hl0
      have hub : ub = true := by
        rcases HO.out with h | h
        · exact h
        · rw [hl0] at h; cases h
      subst hub
      clear hl0
      go_wp2
      go_ret2
      exact ⟨rfl, hbel⟩
    · intro x c kx y ps w1 cnt1 hkx hlx hv hatx hrg1 hlt hg1 hs1 hen
      have hbel1 : Below w.heap.size w w1 := hbel.grown hg1 hbel.size (by intro k hk; cases hk; exact Nat.le_refl _)
      have hlq : wr.rangeLeft B w.heap.size = cnt := hrg.left_eq
      have hlq1 : w1.rangeLeft B w.heap.size = cnt1 := hrg1.left_eq
      obtain ⟨c', ec, ey, _⟩ := plainElem_int_inv Try.underlying29 hv
      cases ec
      have HQ : Hid (wr.rangeLeft B w.heap.size = cnt ∧ w1.rangeLeft B w.heap.size = cnt1) := ⟨hlq, hlq1⟩
      clear hlq hlq1
      have HK : Hid (kx = kl → c = 5) := fun e => by
        have h1 := hatx .nil
        rw [e, HAT.out] at h1
        cases ey
        injection h1 with h1
        injection h1 with _ h1
        exact h1.symm
      have HL : Hid (kx ≠ kl → left kl = true → (left kl && !kl.sameKey kx) = true) := fun e h => by
        rw [h, sameKey_ne (fun e' => e e'.symm)]; rfl
      clear hatx hv ey
      clear hrg hbel
      have KEEP : Hid (c ≠ 5 → (ub = true ∨ (left kl && !kl.sameKey kx) = true)) := fun h5 => by
        rcases HO.out with h | h
        · exact .inl h
        · by_cases ek : kx = kl
          · exact absurd (HK.out ek) h5
          · exact .inr (HL.out ek h)
      clear HO HK HL HAT
      by_cases h1 : c = 1
      · have c1 : (c == 1) = true := by simp [h1]
        have H5 : Hid (c ≠ 5) := by show c ≠ 5; omega
        clear h1
        go_wp2
        go_roundw
        case rel => exact ⟨_, cnt1, _, _, rfl, rfl, hrg1, hbel1, KEEP.out H5.out⟩
        case measure => rw [HQ.out.1, HQ.out.2]; exact hlt
      · have c1 : (c == 1) = false := by simp [h1]
        by_cases h2 : c = 2
        · have c2 : (c == 2) = true := by simp [h2]
          have H5 : Hid (c ≠ 5) := by show c ≠ 5; omega
          clear h1 h2
          go_wp2
          go_roundw
          case rel => exact ⟨_, cnt1, _, _, rfl, rfl, hrg1, hbel1, KEEP.out H5.out⟩
          case measure => rw [HQ.out.1, HQ.out.2]; exact hlt
        · have c2 : (c == 2) = false := by simp [h2]
          by_cases h5 : c = 5
          · have c5 : (c == 5) = true := by simp [h5]
            clear h1 h2 h5
            go_wp2
            go_roundw
            case rel => exact ⟨_, cnt1, _, _, rfl, rfl, hrg1, hbel1, .inl rfl⟩
            case measure => rw [HQ.out.1, HQ.out.2]; exact hlt
          · have c5 : (c == 5) = false := by simp [h5]
            have H5 : Hid (c ≠ 5) := h5
            clear h1 h2 h5
            go_wp2
            go_roundw
            case rel => exact ⟨_, cnt1, _, _, rfl, rfl, hrg1, hbel1, KEEP.out H5.out⟩
            case measure => rw [HQ.out.1, HQ.out.2]; exact hlt

theorem zzTx_any (o : Int) (B n : Nat) (D : DataW Unit) (kl : Lit) (w : World) (ho : (o == 0) = false) (hown : w.ownsMap Try.prog 9 (plainElem Try.prog 29) B n D)
    (hat : ∀ z, D.atKey kl z = .lit (.int .i64 5)) :
    Calls Try.prog 9 #[.int .i64 o, .map (some B)] w fun e w' => e = .returned (.tuple #[.int .i64 4, .bool true]) ∧ Below w.heap.size w w' := by
  go_enter Try.func9, Try.ntmps9
  go_wp2_with fail
  refine (txState_any _ _ _ _ _ _ ho hown hat).mono ?_
  rintro e w1 ⟨rfl, hb⟩
  go_wp2_with fail
  go_ret2
  exact ⟨rfl, hb⟩

end Go.Proofs.Qxb6605485a
