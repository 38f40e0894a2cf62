/- (*reckoning).change keeps the invariant: the subject is down. -/
import Derived.Test.Qxb6003795aChange
namespace Go.Proofs.Qxb6003795a
set_option maxRecDepth 100000
open Go.RowKit Go.Maps
attribute [local go_sem ↓] Go.wp_at_zero Go.wp_at_succ

theorem look75 {w : World} {b n : Nat} {D : DataW Unit} (h : w.ownsMap Try.prog 90 (plainElem Try.prog 3) b n D) {key : Value} {kl : Lit} (hk : keyOf Try.prog 90 key = some kl) {c : Int} (hc : D.atKey kl z0 = iD c) :
    (Instr.lookup 75 (.map (some b)) key false).run Try.prog w = .ok (.int .i64 c) w := by
  obtain ⟨c', h1, h2, _⟩ := h.lookup_int law90 Try.underlying75 Try.underlying3 (zero3 w) hk
  rw [show D.atKey kl (.lit (.int .i64 0)) = iD c from hc] at h2
  injection h2 with h2
  injection h2 with _ h2
  rw [h1, h2]
theorem look78 {w : World} {b n : Nat} {D : DataW Unit} (h : w.ownsMap Try.prog 9 lenElem b n D) {key : Value} {kl : Lit} (hk : keyOf Try.prog 9 key = some kl) {x y z : Int} (hc : D.atKey kl (lenD 0 0 0) = lenD x y z) :
    (Instr.lookup 78 (.map (some b)) key false).run Try.prog w = .ok (.agg #[.int .i64 x, .int .i64 y, .int .i64 z]) w := by
  obtain ⟨v, ps, h1, h2⟩ := h.lookup law9 Try.underlying78 (zero81 w) (lenElem_mk 0 0 0) hk
  rw [hc] at h2
  obtain ⟨x', y', z', rfl, e⟩ := lenElem_inv h2
  obtain ⟨rfl, rfl, rfl⟩ := lenD_inj (Prod.mk.inj e).1
  exact h1

/-- Where the subject is down, and its crash was detected before. -/
theorem change_old (T M : Nat) (S : St) (o s : Nat) (at' : Int) (w : World) (m : Mem T w S) (inv : Inv S M) (hT : T ≤ 100000) (ho : o < 8) (hs : s < 8) (hup : Maps.has S.Dd (nk s) = true)
    (k : Int) (hd : S.Dd.atKey (nk s) z0 = iD k) (hsn : S.Ds.atKey (pk o s) z0 = iD k) :
    Calls Try.prog 24 #[.pointer (some ⟨S.H + 5, 0, none⟩), .agg #[.int .i64 at', .string (nid o), .string (nid s), .bool true]] w fun e w' => e = .returned (.tuple #[]) ∧ Step (T + 1) (M + 1) S.L.length S w w' := by
  have hlt := m.lt
  have M0 : Hid (Mem T w S) := m
  have I0 : Hid (Inv S M) := inv
  have U0 : Hid (Maps.has S.Dd (nk s) = true) := hup
  have D0 : Hid (S.Dd.atKey (nk s) z0 = iD k) := hd
  have S0 : Hid (S.Ds.atKey (pk o s) z0 = iD k) := hsn
  clear m inv hup hd hsn
  go_enter Try.func24, Try.ntmps24
  go_wp2
  obtain ⟨w1, hw1⟩ : ∃ W, W = (w.alloc (.cells #[.int .i64 at', .string (nid o), .string (nid s), .bool true] 89)).alloc (.cells #[.string (nid o), .string (nid s)] 90) := ⟨_, rfl⟩
  rw [← hw1]
  have k1 : Kept [] w w1 := by rw [hw1]; exact ((Kept.refl _ _).alloc _).alloc _
  have x1 : Box w.heap.size w1 at' (nid o) (nid s) true := by rw [hw1]; exact box_new _ _ _ _ _
  have m1 := M0.out.kept k1
  clear hw1
  have K1 : Hid (Kept [] w w1) := k1
  clear k1
  obtain ⟨c, hr1, hc1⟩ := look3 m1.d.drew (keyOf_nid s)
  rw [U0.out] at hr1
  rw [D0.out] at hc1
  injection hc1 with hc1
  injection hc1 with _ hc1
  subst hc1
  obtain ⟨w2, hr2, ho2, ht2⟩ := m1.h.drew.drew.store law90 Try.underlying76 (by unfold maxLen; omega) (keyOf_pk o s) (plainElem_bool Try.underlying4 true)
  have k2 : Kept [S.H + 2] w1 w2 := ((Kept.refl _ _).drew.drew).turned ht2 (.inl (by simp))
  have m2 := (m1.mono (Nat.le_succ T)).heldTo _ k2 ho2
  have x2 := x1.kept k2 (by intro l hl; simp at hl; omega)
  have hr3 := look75 m2.s.drew (keyOf_pk o s) S0.out
  have M3 : Hid (Mem (T + 1) w2.drew { S with Dh := S.Dh.put (pk o s) (.lit (.bool true)) }) := m2.kept ((Kept.refl _ _).drew)
  have KA : Hid (Kept [S.H + 2] w w2.drew) := (K1.out.mono (by simp)).trans ((k2.mono (by simp)).drew)
  have c1 : w1.cell? ⟨S.H + 5, 1, none⟩ = some (.map (some S.H)) := m1.c 1
  have c3 : w1.cell? ⟨S.H + 5, 3, none⟩ = some (.map (some (S.H + 2))) := m1.c 3
  have c2 : w2.cell? ⟨S.H + 5, 2, none⟩ = some (.map (some (S.H + 1))) := m2.c 2
  have a2 : w1.cell? ⟨w.heap.size, 2, none⟩ = some (.string (nid s)) := cell_of_blk x1.b0 2
  have a3 : w1.cell? ⟨w.heap.size, 3, none⟩ = some (.bool true) := cell_of_blk x1.b0 3
  have p0 : w1.cell? ⟨w.heap.size + 1, 0, none⟩ = some (.string (nid o)) := cell_of_blk x1.b1 0
  have p1 : w1.cell? ⟨w.heap.size + 1, 1, none⟩ = some (.string (nid s)) := cell_of_blk x1.b1 1
  have q0 : w2.cell? ⟨w.heap.size + 1, 0, none⟩ = some (.string (nid o)) := cell_of_blk x2.b1 0
  have q1 : w2.cell? ⟨w.heap.size + 1, 1, none⟩ = some (.string (nid s)) := cell_of_blk x2.b1 1
  clear ho2 ht2 k2 m1 m2 x1 x2 K1
  go_region
  go_wp2
  go_region
  go_wp2
  go_region
  go_wp2
  go_end0
  refine ⟨rfl, _, ?_, ?_, M3.out, ⟨I0.out.1.mono (Nat.le_succ M), I0.out.2.1.put ho hs _, I0.out.2.2⟩, KA.out.below (by omega) (by simp)⟩
  · rfl
  · rfl
end Go.Proofs.Qxb6003795a
