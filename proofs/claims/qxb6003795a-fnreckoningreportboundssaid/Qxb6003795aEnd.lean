/- (*reckoning).end -/
import Derived.Test.Qxb6003795aAdd
namespace Go.Proofs.Qxb6003795a
set_option maxRecDepth 100000
open Go.RowKit Go.Maps
attribute [local go_sem ↓] Go.wp_at_zero Go.wp_at_succ

theorem zero3 (w : World) : (zeroValue 3).run Try.prog w = .ok (.int .i64 0) w := by kernel_rfl
theorem zero33 (w : World) : (zeroValue 33).run Try.prog w = .ok (.int .i64 0) w := by kernel_rfl
theorem zero4 (w : World) : (zeroValue 4).run Try.prog w = .ok (.bool false) w := by kernel_rfl
theorem zero81 (w : World) : (zeroValue 81).run Try.prog w = .ok (.agg #[.int .i64 0, .int .i64 0, .int .i64 0]) w := by kernel_rfl

/-- What 'v, ok := since[pair]' gives. -/
theorem look33 {w : World} {b n : Nat} {D : DataW Unit} (h : w.ownsMap Try.prog 90 (plainElem Try.prog 33) b n D) {key : Value} {kl : Lit} (hk : keyOf Try.prog 90 key = some kl) :
    ∃ c : Int, (Instr.lookup 77 (.map (some b)) key true).run Try.prog w = .ok (.tuple #[.int .i64 c, .bool (Maps.has D kl)]) w ∧ D.atKey kl (.lit (.int .i64 0)) = .lit (.int .i64 c) := by
  obtain ⟨v, ps, h1, h2⟩ := h.look_ok law90 Try.underlying77 (zero33 w) (plainElem_int Try.underlying33 (by decide)) hk
  obtain ⟨c, rfl, h3, _⟩ := plainElem_int_inv Try.underlying33 h2
  exact ⟨c, h1, (Prod.mk.inj h3).1⟩

def St.push (S : St) (d : Int) : St := { S with mn := S.mn + 1, ms := S.ms + d, mm := max S.mm d }

/-- end, where no mistake of the pair is in progress. -/
theorem end_no (S : St) (a b : ByteArray) (at' : Int) (n : Nat) (w : World) (blk : w.heap[S.H + 5]? = some (.cells (recCells S) 83 (0, 0))) (hi : w.ownsMap Try.prog 90 (plainElem Try.prog 33) (S.H + 3) n S.Di)
    (wa : a.size ≤ maxLen) (wb : b.size ≤ maxLen) (hno : Maps.has S.Di (pkey a b) = false) :
    Calls Try.prog 25 #[.pointer (some ⟨S.H + 5, 0, none⟩), .agg #[.string a, .string b], .int .i64 at'] w fun e w' => e = .returned (.tuple #[]) ∧ Kept [] w w' := by
  have hlt : S.H + 5 < w.heap.size := (Array.getElem?_eq_some_iff.1 blk).1
  have hne : S.H + 5 ≠ w.heap.size := by omega
  have c4 : w.cell? ⟨S.H + 5, 4, none⟩ = some (.map (some (S.H + 3))) := by rw [cell_of_blk blk]; rfl
  obtain ⟨c, hr, _⟩ := look33 (hi.alloc (.cells #[.string a, .string b] 90)).drew (keyOf_pairs wa wb)
  rw [hno] at hr
  clear blk hi hno
  go_enter Try.func25, Try.ntmps25
  go_wp2
  go_region
  go_wp2
  go_end0
  exact ⟨rfl, ((Kept.refl _ _).alloc _).drew⟩

/-- end, where a mistake of the pair has been in progress since c. -/
theorem end_yes (S : St) (a b : ByteArray) (at' : Int) (n : Nat) (w : World) (c : Int) (blk : w.heap[S.H + 5]? = some (.cells (recCells S) 83 (0, 0))) (hi : w.ownsMap Try.prog 90 (plainElem Try.prog 33) (S.H + 3) n S.Di)
    (wa : a.size ≤ maxLen) (wb : b.size ≤ maxLen) (hyes : Maps.has S.Di (pkey a b) = true) (hc : S.Di.atKey (pkey a b) (.lit (.int .i64 0)) = .lit (.int .i64 c))
    (hn : S.mn ≤ 1000000) (hs : -4611686018427387904 ≤ S.ms ∧ S.ms ≤ 4611686018427387904) (bc : -1099511627776 ≤ c ∧ c ≤ 1099511627776) (ba : -1099511627776 ≤ at' ∧ at' ≤ 1099511627776) :
    Calls Try.prog 25 #[.pointer (some ⟨S.H + 5, 0, none⟩), .agg #[.string a, .string b], .int .i64 at'] w fun e w' => e = .returned (.tuple #[]) ∧
      ∃ w5 ty, Kept [S.H + 5] w w5 ∧ w5.heap[S.H + 5]? = some (.cells (recCells (S.push (at' - c))) 83 (0, 0)) ∧ (Builtin.delete_ #[77, 90] ty #[.map (some (S.H + 3)), .agg #[.string a, .string b]]).run Try.prog w5 = .ok (.tuple #[]) w' := by
  have hlt : S.H + 5 < w.heap.size := (Array.getElem?_eq_some_iff.1 blk).1
  have hne : S.H + 5 ≠ w.heap.size := by omega
  have c4 : w.cell? ⟨S.H + 5, 4, none⟩ = some (.map (some (S.H + 3))) := by rw [cell_of_blk blk]; rfl
  obtain ⟨c', hr, hc'⟩ := look33 (hi.alloc (.cells #[.string a, .string b] 90)).drew (keyOf_pairs wa wb)
  rw [hyes] at hr
  rw [hc] at hc'
  injection hc' with hc'
  injection hc' with _ hc'
  subst hc'
  have hk : Kept [] w (w.alloc (.cells #[.string a, .string b] 90)).drew := ((Kept.refl _ _).alloc _).drew
  have hb1 : (w.alloc (.cells #[.string a, .string b] 90)).drew.heap[S.H + 5]? = some (.cells (recCells S) 83 (0, 0)) := (hk.block _ hlt (by simp)).trans blk
  have HC := add_any (S.H + 5) 6 S.mn S.ms S.mm (at' - c) (recCells S) 83 _ hb1 rfl rfl rfl (by omega) hs (by omega)
  have hi1 := hk.owns hi (by simp)
  have hbox : (w.alloc (.cells #[.string a, .string b] 90)).drew.heap[w.heap.size]? = some (.cells #[.string a, .string b] 90 (0, 0)) := heap_alloc_new _ _
  have hsz : w.heap.size < (w.alloc (.cells #[.string a, .string b] 90)).drew.heap.size := by simp
  have H1 : Hid (Kept [] w (w.alloc (.cells #[.string a, .string b] 90)).drew) := hk
  have H2 : Hid ((w.alloc (.cells #[.string a, .string b] 90)).drew.heap[S.H + 5]? = some (.cells (recCells S) 83 (0, 0))) := hb1
  have H3 : Hid ((w.alloc (.cells #[.string a, .string b] 90)).drew.heap[w.heap.size]? = some (.cells #[.string a, .string b] 90 (0, 0))) := hbox
  clear blk hi hyes hc hb1 hk hbox
  go_enter Try.func25, Try.ntmps25
  go_wp2
  go_region
  go_wp2_with fail
  refine HC.mono ?_
  rintro e w4 ⟨rfl, h4⟩
  have K4 : Kept [S.H + 5] (w.alloc (.cells #[.string a, .string b] 90)).drew w4 := by
    rw [h4]
    exact (((Kept.refl _ _).setCell (.inl (by simp)) _).setCell (.inl (by simp)) _).setCell (.inl (by simp)) _
  have B4 : w4.heap[S.H + 5]? = some (.cells (recCells (S.push (at' - c))) 83 (0, 0)) := by
    rw [h4]
    exact blk_setCell (blk_setCell (blk_setCell H2.out 6 _) (6 + 1) _) (6 + 2) _
  have X4 : w4.heap[w.heap.size]? = some (.cells #[.string a, .string b] 90 (0, 0)) := (K4.block _ hsz (by intro l hl; simp at hl; omega)).trans H3.out
  have I4 := K4.owns hi1 (by intro l hl; simp at hl; omega)
  have c4' : w4.cell? ⟨S.H + 5, 4, none⟩ = some (.map (some (S.H + 3))) := by rw [cell_of_blk B4]; rfl
  have x0 : w4.cell? ⟨w.heap.size, 0, none⟩ = some (.string a) := by rw [cell_of_blk X4]; rfl
  have x1 : w4.cell? ⟨w.heap.size, 1, none⟩ = some (.string b) := by rw [cell_of_blk X4]; rfl
  obtain ⟨w6, hdel, _, _⟩ := I4.drew.drop law90 Try.underlying77 (keyOf_pairs wa wb) 0
  have HK : Hid (Kept [S.H + 5] w w4) := (H1.out.mono (by simp)).trans K4
  have HB4 : Hid (w4.heap[S.H + 5]? = some (.cells (recCells (S.push (at' - c))) 83 (0, 0))) := B4
  clear h4 K4 B4 X4 I4 c4 hr HC hi1 hsz H1 H2 H3
  go_wp2
  go_region
  go_wp2
  go_end0
  exact ⟨rfl, w4.drew, 0, HK.out.drew, HB4.out, hdel⟩
end Go.Proofs.Qxb6003795a
