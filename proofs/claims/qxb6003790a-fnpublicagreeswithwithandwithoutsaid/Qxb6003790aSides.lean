/- The side table: a map from incarnations to sides, told by two slices; and the functions that read it. -/
import Derived.Test.Qxb6003790aBuild
import Derived.Maps.Own
import Derived.Maps.OwnSet
namespace Go.Proofs.Qxb6003790a
open Go.RowKit Go.Maps

theorem law22 : Keyed Try.prog 22 := int_keyed Try.underlying22
theorem zero3 (w : World) : (zeroValue 3).run Try.prog w = .ok (.int .i64 0) w := by kernel_rfl

/-- What the first k pairs make of the map. -/
def sideD (K V : Nat → Int) : Nat → DataW Unit
  | 0 => .map []
  | k + 1 => (sideD K V k).put (.int .u64 (K k)) (.lit (.int .i64 (V k)))

/-- The value of the last pair whose key is inc, among the first k; else -1. -/
def sideV (K V : Nat → Int) (inc : Int) : Nat → Int
  | 0 => -1
  | k + 1 => if K k = inc then V k else sideV K V inc k
/-- Is there such a pair? -/
def sideB (K : Nat → Int) (inc : Int) : Nat → Bool
  | 0 => false
  | k + 1 => if K k = inc then true else sideB K inc k

theorem sideD_isMap (K V : Nat → Int) : ∀ k, IsMap (sideD K V k)
  | 0 => isMap_empty
  | k + 1 => (sideD_isMap K V k).put _ _

theorem sideD_at (K V : Nat → Int) (inc : Int) : ∀ k, (∀ z, (sideD K V k).atKey (.int .u64 inc) z = if sideB K inc k then .lit (.int .i64 (sideV K V inc k)) else z) ∧ Maps.has (sideD K V k) (.int .u64 inc) = sideB K inc k
  | 0 => ⟨fun z => by simp [sideD, sideB, DataW.atKey], by simp [sideD, sideB, Maps.has]⟩
  | k + 1 => by
    obtain ⟨h1, h2⟩ := sideD_at K V inc k
    by_cases e : K k = inc
    · subst e
      refine ⟨fun z => ?_, ?_⟩
      · simp only [sideD, sideB, sideV, if_true]
        exact atKey_put_same (sideD_isMap K V k) (by trivial) _ z
      · simp only [sideD, sideB, if_true]
        exact has_put_same (sideD_isMap K V k) (by trivial) _
    · have hne : (Lit.int .u64 inc) ≠ .int .u64 (K k) := fun h => by injection h with _ h; exact e h.symm
      refine ⟨fun z => ?_, ?_⟩
      · simp only [sideD, sideB, sideV, e, if_false]
        rw [atKey_put_other hne]
        exact h1 z
      · simp only [sideD, sideB, e, if_false]
        rw [has_put_other hne]
        exact h2

theorem sideB_hit {K : Nat → Int} {k i : Nat} (h : i < k) : sideB K (K i) k = true := by
  induction k with
  | zero => omega
  | succ k ih =>
    by_cases e : K k = K i
    · simp [sideB, e]
    · have : i < k := by
        rcases Nat.lt_or_ge i k with h1 | h1
        · exact h1
        · have : i = k := by omega
          subst this
          exact absurd rfl e
      simp [sideB, e, ih this]

theorem sideV_none {K V : Nat → Int} {inc : Int} {k : Nat} (h : sideB K inc k = false) : sideV K V inc k = -1 := by
  induction k with
  | zero => rfl
  | succ k ih =>
    by_cases e : K k = inc
    · simp [sideB, e] at h
    · simp only [sideB, e, if_false] at h
      simp only [sideV, e, if_false]
      exact ih h

/-- The map in a view's Sides: nil where the keys are nil, else what the first k pairs make. -/
def SideMap (w : World) (r : Option Nat) (K V : Nat → Int) (k : Nat) (nilk : Bool) : Prop :=
  (nilk = true ∧ r = none ∧ k = 0) ∨ (nilk = false ∧ ∃ B n, r = some B ∧ w.ownsMap Try.prog 22 (plainElem Try.prog 3) B n (sideD K V k))

theorem SideMap.keep {w w' : World} {r : Option Nat} {K V : Nat → Int} {k : Nat} {nilk : Bool} (h : SideMap w r K V k nilk) (hb : Below w.heap.size w w') : SideMap w' r K V k nilk := by
  rcases h with h | ⟨h1, B, n, h2, es, clock, h3, h4⟩
  · exact .inl h
  · have hlt : B < w.heap.size := (Array.getElem?_eq_some_iff.1 h3).1
    exact .inr ⟨h1, B, n, h2, es, clock, (hb.block B hlt).trans h3, h4⟩

theorem SideMap.near {W : World} {r : Option Nat} {K V : Nat → Int} {k : Nat} {nilk : Bool} (h : SideMap W r K V k nilk) (m : Near W) : SideMap m.w r K V k nilk := h.keep m.bel

theorem SideMap.isNone {w : World} {r : Option Nat} {K V : Nat → Int} {k : Nat} {nilk : Bool} (h : SideMap w r K V k nilk) : r.isNone = nilk := by
  rcases h with ⟨rfl, rfl, _⟩ | ⟨rfl, B, n, rfl, _⟩ <;> rfl

/-- What a look-up yields. -/
def lookV (K V : Nat → Int) (inc : Int) (k : Nat) : Int := if sideB K inc k then sideV K V inc k else 0

theorem SideMap.look {w : World} {r : Option Nat} {K V : Nat → Int} {k : Nat} {nilk : Bool} (h : SideMap w r K V k nilk) {inc : Int} (hi : (Lit.int .u64 inc).wf = true) :
    (Instr.lookup 38 (.map r) (.int .u64 inc) true).run Try.prog w = .ok (.tuple #[.int .i64 (lookV K V inc k), .bool (sideB K inc k)]) w := by
  rcases h with ⟨_, rfl, rfl⟩ | ⟨_, B, n, rfl, hown⟩
  · rw [Maps.look_nil true law22 Try.underlying38 (zero3 w) (keyOf_int_mk Try.underlying22 hi)]
    rfl
  · obtain ⟨h1, h2⟩ := sideD_at K V inc k
    have hw0 : (Lit.int .i64 0).wf = true := by decide
    obtain ⟨v, ps, hrun, hv⟩ := hown.look_ok law22 Try.underlying38 (zero3 w) (plainElem_int Try.underlying3 hw0) (keyOf_int_mk Try.underlying22 hi)
    obtain ⟨c, rfl, hc, _⟩ := plainElem_int_inv Try.underlying3 hv
    rw [hrun, h2]
    simp only [Prod.mk.injEq] at hc
    have h3 := hc.1
    rw [h1] at h3
    unfold lookV
    cases hB : sideB K inc k with
    | true =>
      rw [hB] at h3
      simp only [if_true] at h3 ⊢
      injection h3 with h3
      injection h3 with _ h3
      rw [h3]
    | false =>
      rw [hB] at h3
      simp only [Bool.false_eq_true, if_false] at h3 ⊢
      injection h3 with h3
      injection h3 with _ h3
      rw [h3]

/-- 'len' of the map. -/
def lenD (K V : Nat → Int) (k : Nat) (nilk : Bool) : Nat := if nilk then 0 else Maps.size (sideD K V k)

theorem SideMap.len {w : World} {r : Option Nat} {K V : Nat → Int} {k : Nat} {nilk : Bool} (h : SideMap w r K V k nilk) (ty : TypeId) : (Builtin.len_ #[38] ty #[.map r]).run Try.prog w = .ok (.int .i64 ((lenD K V k nilk : Nat) : Int)) w := by
  rcases h with ⟨rfl, rfl, rfl⟩ | ⟨rfl, B, n, rfl, hown⟩
  · exact Maps.len_nil Try.underlying38 ty
  · exact hown.len Try.underlying38 ty

/-! ### The functions that read it -/

def pr (x y : Nat) : Nat := if y < x then y else x
theorem pr_le (x y : Nat) : pr x y ≤ x ∧ pr x y ≤ y := by unfold pr; split <;> omega

theorem pairs_any (a1 : Option Addr) (n1 k1 : Nat) (a2 : Option Addr) (n2 k2 : Nat) (w : World) :
    Calls Try.prog 30 #[.slice a1 n1 k1, .slice a2 n2 k2] w fun e w' => e = .returned (.int .i64 ((pr n1 n2 : Nat) : Int)) ∧ w' = w := by
  by_cases h1 : n2 < n1
  · have hm : pr n1 n2 = n2 := by simp [pr, h1]
    rw [hm]
    go_enter Try.func30, Try.ntmps30
    go_wp2
    go_ret
    exact ⟨rfl, rfl⟩
  · have hm : pr n1 n2 = n1 := by simp [pr, h1]
    rw [hm]
    go_enter Try.func30, Try.ntmps30
    go_wp2
    go_ret
    exact ⟨rfl, rfl⟩

set_option maxRecDepth 100000 in
set_option maxHeartbeats 1000000 in
theorem sideOf_any (a1 : Option Addr) (n1 k1 b1 o1 : Nat) (K : Nat → Int) (a2 : Option Addr) (n2 k2 b2 o2 : Nat) (V : Nat → Int) (inc : Int) (w : World) (h1 : Sl w a1 n1 k1 b1 o1 (fun i => .int .u64 (K i))) (h2 : Sl w a2 n2 k2 b2 o2 (fun i => .int .i64 (V i))) :
    Calls Try.prog 29 #[.slice a1 n1 k1, .slice a2 n2 k2, .int .u64 inc] w fun e w' => e = .returned (.tuple #[.int .i64 (sideV K V inc (pr n1 n2)), .bool (sideB K inc (pr n1 n2))]) ∧ w' = w := by
  obtain ⟨p1, p2⟩ := pr_le n1 n2
  have hn : n1 ≤ maxLen := Nat.le_trans h1.le h1.max
  unfold maxLen at hn
  obtain ⟨m, hm⟩ : ∃ m, m = pr n1 n2 := ⟨_, rfl⟩
  have HM : Hid (m = pr n1 n2) := hm
  rw [← hm] at p1 p2 ⊢
  clear hm
  go_enter Try.func29, Try.ntmps29
  go_wp2_with (go_at_call 30; refine (pairs_any _ _ _ _ _ _ _).mono ?_; rintro e w' ⟨rfl, rfl⟩; rw [← HM.out])
  rename_i w
  go_loop [9, 10, 11] (fun s f i => ∃ k : Nat, k ≤ m ∧ i = .int .i64 k ∧ s = .int .i64 (sideV K V inc k) ∧ f = .bool (sideB K inc k)) (fun _ _ i => m - (intOf i).toNat)
  case atStart => exact ⟨0, Nat.zero_le _, rfl, rfl, rfl⟩
  case round =>
    obtain ⟨k, hk, rfl, rfl, rfl⟩ := hrel
    by_cases hlt : k < m
    · have hi1 := h1.idx (P := Try.prog) Try.underlying33 size22 (k := k) (by omega) .i64
      have hi2 := h2.idx (P := Try.prog) Try.underlying24 size3 (k := k) (by omega) .i64
      have hc1 := h1.cell k (by omega)
      have hc2 := h2.cell k (by omega)
      by_cases he : K k = inc
      · have hb : (K k == inc) = true := by simp [he]
        have HS : Hid (sideV K V inc (k + 1) = V k ∧ sideB K inc (k + 1) = true) := by simp [Hid, sideV, sideB, he]
        clear he
        go_wp2
        go_round
        case rel => exact ⟨k + 1, by omega, by go_num, by rw [HS.out.1], by rw [HS.out.2]⟩
        case measure => simp [intOf]; omega
      · have hb : (K k == inc) = false := by simp [he]
        have HS : Hid (sideV K V inc (k + 1) = sideV K V inc k ∧ sideB K inc (k + 1) = sideB K inc k) := by simp [Hid, sideV, sideB, he]
        clear he
        go_wp2
        go_round
        case rel => exact ⟨k + 1, by omega, by go_num, by rw [HS.out.1], by rw [HS.out.2]⟩
        case measure => simp [intOf]; omega
    · have hkm : k = m := by omega
      subst hkm
      go_wp2
      go_ret2
      exact ⟨rfl, rfl⟩

set_option maxRecDepth 100000 in
set_option maxHeartbeats 1000000 in
theorem sidesMatch_any (r : Option Nat) (nilk : Bool) (a1 : Option Addr) (n1 k1 b1 o1 : Nat) (K : Nat → Int) (a2 : Option Addr) (n2 k2 b2 o2 : Nat) (V : Nat → Int) (w : World) (h1 : Sl w a1 n1 k1 b1 o1 (fun i => .int .u64 (K i))) (g1 : ∀ i : Nat, (Lit.int .u64 (K i)).wf = true) (h2 : Sl w a2 n2 k2 b2 o2 (fun i => .int .i64 (V i)))
    (hs : SideMap w r K V (pr n1 n2) nilk) (hnil : a1.isNone = nilk) :
    Calls Try.prog 20 #[.map r, .int .i64 ((lenD K V (pr n1 n2) nilk : Nat) : Int), .slice a1 n1 k1, .slice a2 n2 k2] w fun e w' => e = .returned (.bool true) ∧ w' = w := by
  obtain ⟨p1, p2⟩ := pr_le n1 n2
  have hn : n1 ≤ maxLen := Nat.le_trans h1.le h1.max
  unfold maxLen at hn
  obtain ⟨m, hm⟩ : ∃ m, m = pr n1 n2 := ⟨_, rfl⟩
  have HM : Hid (m = pr n1 n2) := hm
  rw [← hm] at p1 p2 hs ⊢
  clear hm
  have q1 : ∀ w, (binOp .eql 38 (.map r) (.map none)).run Try.prog w = .ok (.bool nilk) w := fun w => by rw [run_eql_map_nil w _ _ _ r Try.underlying38, hs.isNone]
  have q2 : ∀ w, (binOp .eql 33 (.slice a1 n1 k1) (.slice none 0 0)).run Try.prog w = .ok (.bool nilk) w := fun w => by rw [Lib.run_eql_slice_nil (P := Try.prog) w 33 22 a1 n1 k1 0 0 Try.underlying33, hnil]
  have q3 := fun ty => hs.len ty
  have q4 : (((lenD K V m nilk : Nat) : Int) != ((lenD K V m nilk : Nat) : Int)) = false := by simp
  go_enter Try.func20, Try.ntmps20
  go_wp2_with (go_at_call 30; refine (pairs_any _ _ _ _ _ _ _).mono ?_; rintro e w' ⟨rfl, rfl⟩; rw [← HM.out])
  clear q1 q2 q3 q4
  go_loop [10] (fun i => ∃ k : Nat, k ≤ m ∧ i = .int .i64 k) (fun i => m - (intOf i).toNat)
  case atStart => exact ⟨0, Nat.zero_le _, rfl⟩
  case round =>
    obtain ⟨k, hk, rfl⟩ := hrel
    by_cases hlt : k < m
    · have hi1 := h1.idx (P := Try.prog) Try.underlying33 size22 (k := k) (by omega) .i64
      have hc1 := h1.cell k (by omega)
      have hB : sideB K (K k) m = true := sideB_hit hlt
      have hl := hs.look (g1 k)
      rw [hB, show lookV K V (K k) m = sideV K V (K k) m by simp [lookV, hB]] at hl
      have hq : (sideV K V (K k) m != sideV K V (K k) m) = false := by simp
      clear hB
      go_wp2_with (go_at_call 29; refine (sideOf_any _ _ _ _ _ _ _ _ _ _ _ _ _ _ h1 h2).mono ?_; rintro e w' ⟨rfl, rfl⟩; rw [← HM.out])
      go_round
      case rel => exact ⟨k + 1, by omega, by go_num⟩
      case measure => simp [intOf]; omega
    · go_wp2
      go_ret
      exact ⟨rfl, rfl⟩

end Go.Proofs.Qxb6003790a
