/- (*reckoning).change keeps the invariant. -/
import Derived.Test.Qxb6003795aEndMem
namespace Go.Proofs.Qxb6003795a
set_option maxRecDepth 100000
open Go.RowKit Go.Maps
attribute [local go_sem ↓] Go.wp_at_zero Go.wp_at_succ

def Inv (S : St) (M : Nat) : Prop := Fine S.Di S.mn S.ms S.mm M ∧ HKeys S.Dh ∧ ∃ sn dn ds dm, Det S.L S.Dd S.Ds S.De sn dn ds dm

def Step (T M C : Nat) (S : St) (w w' : World) : Prop := ∃ S', S'.H = S.H ∧ S'.L.length = C ∧ Mem T w' S' ∧ Inv S' M ∧ Below S.H w w'

theorem wf64 {a : Int} (h : -1099511627776 ≤ a ∧ a ≤ 1099511627776) : (Lit.int .i64 a).wf = true := by
  have e1 : IntKind.min .i64 = -9223372036854775808 := by decide
  have e2 : IntKind.max .i64 = 9223372036854775807 := by decide
  simp only [Lit.wf, Bool.and_eq_true, decide_eq_true_eq, e1, e2]
  omega

theorem look3 {w : World} {b n : Nat} {D : DataW Unit} (h : w.ownsMap Try.prog 9 (plainElem Try.prog 3) b n D) {key : Value} {kl : Lit} (hk : keyOf Try.prog 9 key = some kl) :
    ∃ c : Int, (Instr.lookup 74 (.map (some b)) key true).run Try.prog w = .ok (.tuple #[.int .i64 c, .bool (Maps.has D kl)]) w ∧ D.atKey kl z0 = iD c := by
  obtain ⟨v, ps, h1, h2⟩ := h.look_ok law9 Try.underlying74 (zero3 w) (plainElem_int Try.underlying3 (by decide)) hk
  obtain ⟨c, rfl, h3, _⟩ := plainElem_int_inv Try.underlying3 h2
  exact ⟨c, h1, (Prod.mk.inj h3).1⟩

theorem Mem.c {T : Nat} {w : World} {S : St} (m : Mem T w S) (j : Nat) : w.cell? ⟨S.H + 5, j, none⟩ = (recCells S)[j]? := cell_of_blk m.blk j

/-- The call's own two blocks. -/
structure Box (A : Nat) (w : World) (at' : Int) (o s : ByteArray) (b : Bool) : Prop where
  b0 : w.heap[A]? = some (.cells #[.int .i64 at', .string o, .string s, .bool b] 89 (0, 0))
  b1 : w.heap[A + 1]? = some (.cells #[.string o, .string s] 90 (0, 0))
theorem Box.kept {A : Nat} {w w' : World} {at' : Int} {o s : ByteArray} {b : Bool} {L : List Nat} (h : Box A w at' o s b) (k : Kept L w w') (hl : ∀ l ∈ L, l < A) : Box A w' at' o s b :=
  ⟨(k.block _ (Array.getElem?_eq_some_iff.1 h.b0).1 (fun l hm => by have := hl l hm; omega)).trans h.b0, (k.block _ (Array.getElem?_eq_some_iff.1 h.b1).1 (fun l hm => by have := hl l hm; omega)).trans h.b1⟩
theorem box_new (w : World) (at' : Int) (o s : ByteArray) (b : Bool) : Box w.heap.size ((w.alloc (.cells #[.int .i64 at', .string o, .string s, .bool b] 89)).alloc (.cells #[.string o, .string s] 90)) at' o s b := by
  refine ⟨?_, ?_⟩
  · rw [Below.heap_alloc _ _ _ (by simp)]
    exact heap_alloc_new _ _
  · have := heap_alloc_new (w.alloc (.cells #[.int .i64 at', .string o, .string s, .bool b] 89)) (.cells #[.string o, .string s] 90)
    simpa using this

/-- Only the map of what is held has turned. -/
theorem Mem.heldTo {T : Nat} {w w' : World} {S : St} (m : Mem T w S) (Dh : DataW Unit) (k : Kept [S.H + 2] w w') (hh : w'.ownsMap Try.prog 90 (plainElem Try.prog 4) (S.H + 2) T Dh) : Mem T w' { S with Dh := Dh } := by
  have h0 := m.lt
  refine ⟨(k.block _ (by dsimp only; omega) (by simp)).trans m.blk, k.row m.row ?_, k.owns m.d ?_, k.owns m.s ?_, hh, k.owns m.i ?_, k.owns m.e ?_⟩
  · intro l hl g hg
    have := m.own hg
    simp at hl
    omega
  all_goals (intro l hl; simp at hl; try dsimp only; subst hl; omega)

set_option maxHeartbeats 2000000 in
theorem change_clear (T M : Nat) (S : St) (o s : Nat) (at' : Int) (w : World) (m : Mem T w S) (inv : Inv S M) (hM : M ≤ 100000) (ba : -1099511627776 ≤ at' ∧ at' ≤ 1099511627776) :
    Calls Try.prog 24 #[.pointer (some ⟨S.H + 5, 0, none⟩), .agg #[.int .i64 at', .string (nid o), .string (nid s), .bool false]] w fun e w' => e = .returned (.tuple #[]) ∧ Step T M S.L.length S w w' := by
  have hlt := m.lt
  have M0 : Hid (Mem T w S) := m
  have I0 : Hid (Inv S M) := inv
  clear m inv
  go_enter Try.func24, Try.ntmps24
  go_wp2
  obtain ⟨w1, hw1⟩ : ∃ W, W = (w.alloc (.cells #[.int .i64 at', .string (nid o), .string (nid s), .bool false] 89)).alloc (.cells #[.string (nid o), .string (nid s)] 90) := ⟨_, rfl⟩
  rw [← hw1]
  have k1 : Kept [] w w1 := by rw [hw1]; exact ((Kept.refl _ _).alloc _).alloc _
  have x1 : Box w.heap.size w1 at' (nid o) (nid s) false := by rw [hw1]; exact box_new _ _ _ _ _
  have m1 := M0.out.kept k1
  clear hw1
  have K1 : Hid (Kept [] w w1) := k1
  clear k1
  obtain ⟨c, hr1, _⟩ := look3 m1.d.drew (keyOf_nid s)
  obtain ⟨w2, hr2, ho2, ht2⟩ := m1.h.drew.drew.drop law90 Try.underlying76 (keyOf_pk o s) 0
  have k2 : Kept [S.H + 2] w1 w2 := ((Kept.refl _ _).drew.drew).turned ht2 (.inl (by simp))
  have m2 := m1.heldTo _ k2 ho2
  have x2 := x1.kept k2 (by intro l hl; simp at hl; omega)
  have HC := end_mem T M { S with Dh := S.Dh.del (pk o s) } (nid o) (nid s) at' w2 m2 I0.out.1 hM (nid_size o) (nid_size s) ba
  have K2 : Hid (Kept [S.H + 2] w1 w2) := k2
  have c1 : w1.cell? ⟨S.H + 5, 1, none⟩ = some (.map (some S.H)) := m1.c 1
  have c3 : w1.cell? ⟨S.H + 5, 3, none⟩ = some (.map (some (S.H + 2))) := m1.c 3
  have a2 : w1.cell? ⟨w.heap.size, 2, none⟩ = some (.string (nid s)) := cell_of_blk x1.b0 2
  have a3 : w1.cell? ⟨w.heap.size, 3, none⟩ = some (.bool false) := cell_of_blk x1.b0 3
  have p0 : w1.cell? ⟨w.heap.size + 1, 0, none⟩ = some (.string (nid o)) := cell_of_blk x1.b1 0
  have p1 : w1.cell? ⟨w.heap.size + 1, 1, none⟩ = some (.string (nid s)) := cell_of_blk x1.b1 1
  have q0 : w2.cell? ⟨w.heap.size + 1, 0, none⟩ = some (.string (nid o)) := cell_of_blk x2.b1 0
  have q1 : w2.cell? ⟨w.heap.size + 1, 1, none⟩ = some (.string (nid s)) := cell_of_blk x2.b1 1
  have d0 : w2.cell? ⟨w.heap.size, 0, none⟩ = some (.int .i64 at') := cell_of_blk x2.b0 0
  clear ho2 ht2 k2 m1 m2 x1 x2
  go_region
  go_wp2
  go_region
  go_wp2_with fail
  refine HC.mono ?_
  rintro e w3 ⟨rfl, h3⟩
  go_wp2
  refine bodyPost_ret (results_none rfl _ _ _) rfl ?_
  obtain ⟨Di, mn, ms, mm, m3, f3, k3, _⟩ := h3
  refine ⟨rfl, _, ?_, ?_, m3, ⟨f3, I0.out.2.1.del _, I0.out.2.2⟩, ?_⟩
  · rfl
  · rfl
  exact (K1.out.below (by omega) (by simp)).trans ((K2.out.below (by have := K1.out.size; omega) (by simp)).trans (k3.below (by have := K1.out.size; have := K2.out.size; omega) (by simp)))

/-- Only the map of the mistakes has turned. -/
theorem Mem.sinceTo {T : Nat} {w w' : World} {S : St} (m : Mem T w S) (Di : DataW Unit) (k : Kept [S.H + 3] w w') {n : Nat} (hh : w'.ownsMap Try.prog 90 (plainElem Try.prog 33) (S.H + 3) n Di) : Mem T w' { S with Di := Di } := by
  have h0 := m.lt
  refine ⟨(k.block _ (by dsimp only; omega) (by simp)).trans m.blk, k.row m.row ?_, k.owns m.d ?_, k.owns m.s ?_, k.owns m.h ?_, owns_tight hh, k.owns m.e ?_⟩
  · intro l hl g hg
    have := m.own hg
    simp at hl
    omega
  all_goals (intro l hl; simp at hl; try dsimp only; subst hl; omega)
theorem Mem.seenTo {T : Nat} {w w' : World} {S : St} (m : Mem T w S) (Ds : DataW Unit) (k : Kept [S.H + 1] w w') (hh : w'.ownsMap Try.prog 90 (plainElem Try.prog 3) (S.H + 1) T Ds) : Mem T w' { S with Ds := Ds } := by
  have h0 := m.lt
  refine ⟨(k.block _ (by dsimp only; omega) (by simp)).trans m.blk, k.row m.row ?_, k.owns m.d ?_, hh, k.owns m.h ?_, k.owns m.i ?_, k.owns m.e ?_⟩
  · intro l hl g hg
    have := m.own hg
    simp at hl
    omega
  all_goals (intro l hl; simp at hl; try dsimp only; subst hl; omega)
theorem Mem.detTo {T : Nat} {w w' : World} {S : St} (m : Mem T w S) (De : DataW Unit) (k : Kept [S.H + 4] w w') (hh : w'.ownsMap Try.prog 9 lenElem (S.H + 4) T De) : Mem T w' { S with De := De } := by
  have h0 := m.lt
  refine ⟨(k.block _ (by dsimp only; omega) (by simp)).trans m.blk, k.row m.row ?_, k.owns m.d ?_, k.owns m.s ?_, k.owns m.h ?_, k.owns m.i ?_, hh⟩
  · intro l hl g hg
    have := m.own hg
    simp at hl
    omega
  all_goals (intro l hl; simp at hl; try dsimp only; subst hl; omega)

/-- Where the subject is up. -/
theorem change_up (T M : Nat) (S : St) (o s : Nat) (at' : Int) (w : World) (m : Mem T w S) (inv : Inv S M) (hT : T ≤ 100000) (hM : M ≤ 100000) (ba : -1099511627776 ≤ at' ∧ at' ≤ 1099511627776) (ho : o < 8) (hs : s < 8) (hup : Maps.has S.Dd (nk s) = false) :
    Calls Try.prog 24 #[.pointer (some ⟨S.H + 5, 0, none⟩), .agg #[.int .i64 at', .string (nid o), .string (nid s), .bool true]] w fun e w' => e = .returned (.tuple #[]) ∧ Step (T + 1) (M + 1) S.L.length S w w' := by
  have hlt := m.lt
  have M0 : Hid (Mem T w S) := m
  have I0 : Hid (Inv S M) := inv
  have U0 : Hid (Maps.has S.Dd (nk s) = false) := hup
  clear m inv hup
  go_enter Try.func24, Try.ntmps24
  go_wp2
  obtain ⟨w1, hw1⟩ : ∃ W, W = (w.alloc (.cells #[.int .i64 at', .string (nid o), .string (nid s), .bool true] 89)).alloc (.cells #[.string (nid o), .string (nid s)] 90) := ⟨_, rfl⟩
  rw [← hw1]
  have k1 : Kept [] w w1 := by rw [hw1]; exact ((Kept.refl _ _).alloc _).alloc _
  have x1 : Box w.heap.size w1 at' (nid o) (nid s) true := by rw [hw1]; exact box_new _ _ _ _ _
  have m1 := M0.out.kept k1
  clear hw1
  have K1 : Hid (Kept [] w w1) := k1
  clear k1
  obtain ⟨c, hr1, _⟩ := look3 m1.d.drew (keyOf_nid s)
  rw [U0.out] at hr1
  obtain ⟨w2, hr2, ho2, ht2⟩ := m1.h.drew.drew.store law90 Try.underlying76 (by unfold maxLen; omega) (keyOf_pk o s) (plainElem_bool Try.underlying4 true)
  have k2 : Kept [S.H + 2] w1 w2 := ((Kept.refl _ _).drew.drew).turned ht2 (.inl (by simp))
  have m2 := (m1.mono (Nat.le_succ T)).heldTo _ k2 ho2
  have x2 := x1.kept k2 (by intro l hl; simp at hl; omega)
  obtain ⟨w3, hr3, ho3, ht3⟩ := m2.i.drew.store law90 Try.underlying77 (by have := I0.out.1.cnt; unfold maxLen; dsimp only; omega) (keyOf_pk o s) (plainElem_int Try.underlying33 (wf64 ba))
  have k3 : Kept [S.H + 3] w2 w3 := ((Kept.refl _ _).drew).turned ht3 (.inl (by simp))
  have M3 : Hid (Mem (T + 1) w3 _) := m2.sinceTo _ k3 ho3
  have TD : Hid (Tidy S.Di) := m1.i.tidy law90
  have KA : Hid (Kept [S.H + 2, S.H + 3] w w3) := (K1.out.mono (by simp)).trans ((k2.mono (by simp)).trans (k3.mono (by simp)))
  have c1 : w1.cell? ⟨S.H + 5, 1, none⟩ = some (.map (some S.H)) := m1.c 1
  have c3 : w1.cell? ⟨S.H + 5, 3, none⟩ = some (.map (some (S.H + 2))) := m1.c 3
  have c4 : w2.cell? ⟨S.H + 5, 4, none⟩ = some (.map (some (S.H + 3))) := m2.c 4
  have a2 : w1.cell? ⟨w.heap.size, 2, none⟩ = some (.string (nid s)) := cell_of_blk x1.b0 2
  have a3 : w1.cell? ⟨w.heap.size, 3, none⟩ = some (.bool true) := cell_of_blk x1.b0 3
  have p0 : w1.cell? ⟨w.heap.size + 1, 0, none⟩ = some (.string (nid o)) := cell_of_blk x1.b1 0
  have p1 : w1.cell? ⟨w.heap.size + 1, 1, none⟩ = some (.string (nid s)) := cell_of_blk x1.b1 1
  have q0 : w2.cell? ⟨w.heap.size + 1, 0, none⟩ = some (.string (nid o)) := cell_of_blk x2.b1 0
  have q1 : w2.cell? ⟨w.heap.size + 1, 1, none⟩ = some (.string (nid s)) := cell_of_blk x2.b1 1
  have d0 : w2.cell? ⟨w.heap.size, 0, none⟩ = some (.int .i64 at') := cell_of_blk x2.b0 0
  clear ho2 ht2 k2 m1 m2 x1 x2 ho3 ht3 k3 K1
  go_region
  go_wp2
  go_region
  go_wp2
  go_region
  go_wp2
  go_end0
  refine ⟨rfl, _, ?_, ?_, M3.out, ⟨I0.out.1.put TD.out (law90.key (keyOf_pk o s)) ba, I0.out.2.1.put ho hs _, I0.out.2.2⟩, KA.out.below (by omega) (by simp)⟩
  · rfl
  · rfl
end Go.Proofs.Qxb6003795a
