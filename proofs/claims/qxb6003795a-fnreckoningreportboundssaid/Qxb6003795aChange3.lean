/- (*reckoning).change keeps the invariant: a crash is detected. -/
import Derived.Test.Qxb6003795aChange2
namespace Go.Proofs.Qxb6003795a
set_option maxRecDepth 100000
open Go.RowKit Go.Maps
attribute [local go_sem ↓] Go.wp_at_zero Go.wp_at_succ

theorem wrap64_of {a : Int} (h : -9223372036854775808 ≤ a ∧ a ≤ 9223372036854775807) : IntKind.i64.wrap a = a := by
  simp [IntKind.wrap, IntKind.bits, IntKind.signed]
  omega

theorem Kept.new {L : List Nat} {w w' : World} (k : Kept L w w') (hl : ∀ l ∈ L, w.heap.size ≤ l) : Kept [] w w' := ⟨k.os, k.tape, k.output, k.size, fun i hi _ => k.block i hi (fun l hm => by have := hl l hm; omega)⟩

theorem Box.kept' {A : Nat} {w w' : World} {at' : Int} {o s : ByteArray} {b : Bool} {L : List Nat} (h : Box A w at' o s b) (k : Kept L w w') (hl : ∀ l ∈ L, A ≠ l ∧ A + 1 ≠ l) : Box A w' at' o s b :=
  ⟨(k.block _ (Array.getElem?_eq_some_iff.1 h.b0).1 (fun l hm => (hl l hm).1)).trans h.b0, (k.block _ (Array.getElem?_eq_some_iff.1 h.b1).1 (fun l hm => (hl l hm).2)).trans h.b1⟩

theorem size93 (w : World) : (Go.sizeOf 93).run Try.prog w = .ok 2 w := by kernel_rfl

theorem idx79 {g n cap k : Nat} (hk : k < n) {c : Int} (hc : c = k) : ∀ w', (Instr.indexAt 79 (.slice (some ⟨g, 0, none⟩) n cap) (.int .i64 c)).run Try.prog w' = .ok (.pointer (some ⟨g, k * 2, none⟩)) w' := by
  intro w'
  subst hc
  have he : Try.prog.elem 79 = 93 := by simp [Program.elem, Try.underlying79]
  rw [run_indexAt_slice (h := by rw [he]; exact Try.underlying79), if_pos (by omega), he, size93]
  by_cases h0 : k * 2 = 0
  · simp [Result.andThen, Addr.add, h0]
  · simp [Result.andThen, Addr.add, h0]

set_option maxHeartbeats 2000000 in
theorem change_new (T M : Nat) (S : St) (o s : Nat) (at' : Int) (w : World) (m : Mem T w S) (f : Fine S.Di S.mn S.ms S.mm M) (hk' : HKeys S.Dh) (sn : Nat → Nat → Nat) (dn : Nat → Nat) (ds dm : Nat → Int) (D : Det S.L S.Dd S.Ds S.De sn dn ds dm)
    (hT : T ≤ 4096) (hL : S.L.length ≤ 4096) (ba : -1099511627776 ≤ at' ∧ at' ≤ 1099511627776) (ho : o < 8) (hs : s < 8) (hos : o ≠ s) (hup : Maps.has S.Dd (nk s) = true)
    (k : Nat) (hk : k < S.L.length) (hd : S.Dd.atKey (nk s) z0 = iD ((k + 1 : Nat) : Int)) (hsn : sn o s ≠ k + 1) :
    Calls Try.prog 24 #[.pointer (some ⟨S.H + 5, 0, none⟩), .agg #[.int .i64 at', .string (nid o), .string (nid s), .bool true]] w fun e w' => e = .returned (.tuple #[]) ∧ Step (T + 1) (M + 1) S.L.length S w w' := by
  have hlt := m.lt
  have M0 : Hid (Mem T w S) := m
  have F0 : Hid (Fine S.Di S.mn S.ms S.mm M) := f
  have D0 : Hid (Det S.L S.Dd S.Ds S.De sn dn ds dm) := D
  have U0 : Hid (Maps.has S.Dd (nk s) = true) := hup
  have A0 : Hid (S.Dd.atKey (nk s) z0 = iD ((k + 1 : Nat) : Int)) := hd
  have N0 : Hid (sn o s ≠ k + 1) := hsn
  have S0 : Hid (S.Ds.atKey (pk o s) z0 = iD (sn o s)) := (D.seen o s ho hs).1
  clear m f D hup hd hsn
  go_enter Try.func24, Try.ntmps24
  go_wp2
  obtain ⟨w1, hw1⟩ : ∃ W, W = (w.alloc (.cells #[.int .i64 at', .string (nid o), .string (nid s), .bool true] 89)).alloc (.cells #[.string (nid o), .string (nid s)] 90) := ⟨_, rfl⟩
  rw [← hw1]
  have k1 : Kept [] w w1 := by rw [hw1]; exact ((Kept.refl _ _).alloc _).alloc _
  have x1 : Box w.heap.size w1 at' (nid o) (nid s) true := by rw [hw1]; exact box_new _ _ _ _ _
  have hs1 : w1.heap.size = w.heap.size + 2 := by rw [hw1]; simp
  have m1 := M0.out.kept k1
  clear hw1
  have K1 : Hid (Kept [] w w1) := k1
  clear k1
  obtain ⟨c, hr1, hc1⟩ := look3 m1.d.drew (keyOf_nid s)
  rw [U0.out] at hr1
  rw [A0.out] at hc1
  injection hc1 with hc1
  injection hc1 with _ hc1
  have C0 : Hid (c = (k : Int) + 1) := by rw [← hc1]; rfl
  clear hc1
  have bc : 1 ≤ c ∧ c ≤ 4096 := by have := C0.out; omega
  obtain ⟨q, Q0⟩ : ∃ q : Int, q = sn o s := ⟨_, rfl⟩
  have hne : (q == c) = false := by
    have := C0.out
    have := N0.out
    simp
    omega
  have Q1 : Hid (q = sn o s) := Q0
  clear Q0
  obtain ⟨w2, hr2, ho2, ht2⟩ := m1.h.drew.drew.store law90 Try.underlying76 (by unfold maxLen; omega) (keyOf_pk o s) (plainElem_bool Try.underlying4 true)
  have k2 : Kept [S.H + 2] w1 w2 := ((Kept.refl _ _).drew.drew).turned ht2 (.inl (by simp))
  have m2 := (m1.mono (Nat.le_succ T)).heldTo _ k2 ho2
  have x2 := x1.kept k2 (by intro l hl; simp at hl; omega)
  have hr3 := look75 m2.s.drew (keyOf_pk o s) S0.out
  rw [← Q1.out] at hr3
  have s2 : w2.ownsMap Try.prog 90 (plainElem Try.prog 3) (S.H + 1) T S.Ds := k2.owns m1.s (by intro l hl; simp at hl; omega)
  obtain ⟨w3, hr4, ho3, ht3⟩ := s2.drew.drew.store law90 Try.underlying75 (by unfold maxLen; omega) (keyOf_pk o s) (plainElem_int Try.underlying3 (a := c) (wf64 (by omega)))
  have k3 : Kept [S.H + 1] w2 w3 := ((Kept.refl _ _).drew.drew).turned ht3 (.inl (by simp))
  have m3 := m2.seenTo _ k3 ho3
  have x3 := x2.kept k3 (by intro l hl; simp at hl; omega)
  have c1 : w1.cell? ⟨S.H + 5, 1, none⟩ = some (.map (some S.H)) := m1.c 1
  have c3 : w1.cell? ⟨S.H + 5, 3, none⟩ = some (.map (some (S.H + 2))) := m1.c 3
  have c2 : w2.cell? ⟨S.H + 5, 2, none⟩ = some (.map (some (S.H + 1))) := m2.c 2
  have a2 : w1.cell? ⟨w.heap.size, 2, none⟩ = some (.string (nid s)) := cell_of_blk x1.b0 2
  have a3 : w1.cell? ⟨w.heap.size, 3, none⟩ = some (.bool true) := cell_of_blk x1.b0 3
  have p0 : w1.cell? ⟨w.heap.size + 1, 0, none⟩ = some (.string (nid o)) := cell_of_blk x1.b1 0
  have p1 : w1.cell? ⟨w.heap.size + 1, 1, none⟩ = some (.string (nid s)) := cell_of_blk x1.b1 1
  have q0 : w2.cell? ⟨w.heap.size + 1, 0, none⟩ = some (.string (nid o)) := cell_of_blk x2.b1 0
  have q1 : w2.cell? ⟨w.heap.size + 1, 1, none⟩ = some (.string (nid s)) := cell_of_blk x2.b1 1
  have e1 : w3.heap.size ≠ w.heap.size := by have := k2.size; have := k3.size; omega
  have X3 : Hid (Box w.heap.size w3 at' (nid o) (nid s) true) := x3
  have M3 : Hid (Mem (T + 1) w3 { S with Dh := S.Dh.put (pk o s) (.lit (.bool true)), Ds := S.Ds.put (pk o s) (iD c) }) := m3
  have E3 : Hid (w3.ownsMap Try.prog 9 lenElem (S.H + 4) T S.De) := k3.owns (k2.owns m1.e (by intro l hl; simp at hl; omega)) (by intro l hl; simp at hl; omega)
  have K3 : Hid (Kept [S.H + 2, S.H + 1] w w3) := (K1.out.mono (by simp)).trans ((k2.mono (by simp)).trans (k3.mono (by simp)))
  have hz3 : w.heap.size + 2 ≤ w3.heap.size := by have := k2.size; have := k3.size; omega
  clear ho2 ht2 k2 m1 m2 m3 x1 x2 x3 K1 s2 ho3 ht3 k3 e1
  go_region
  go_wp2
  go_region
  go_wp2
  go_region
  go_wp2
  go_region
  clear hr1 hr2 hr3 hr4 c1 c3 c2 a2 a3 p0 p1 q0 q1 hne
  go_wp2
  have n5 : S.H + 5 ≠ w3.heap.size := by omega
  have n6 : w.heap.size ≠ w3.heap.size := by omega
  have c5 : w3.cell? ⟨S.H + 5, 5, none⟩ = some (.map (some (S.H + 4))) := M3.out.c 5
  have a1 : w3.cell? ⟨w.heap.size, 1, none⟩ = some (.string (nid o)) := cell_of_blk X3.out.b0 1
  obtain ⟨x, hx⟩ : ∃ x : Int, x = dn o := ⟨_, rfl⟩
  obtain ⟨y, hy⟩ : ∃ y : Int, y = ds o := ⟨_, rfl⟩
  obtain ⟨z, hz⟩ : ∃ z : Int, z = dm o := ⟨_, rfl⟩
  have hr5 := look78 E3.out.drew (keyOf_nid o) (D0.out.det o ho).1
  have hr6 := look78 (E3.out.alloc (.cells #[.int .i64 0, .int .i64 0, .int .i64 0] 81)).drew (keyOf_nid o) (D0.out.det o ho).1
  rw [← hx, ← hy, ← hz] at hr5 hr6
  have Z0 : Hid (x = dn o ∧ y = ds o ∧ z = dm o) := ⟨hx, hy, hz⟩
  clear hx hy hz
  have ka : Kept [] w3 (w3.alloc (.cells #[.int .i64 0, .int .i64 0, .int .i64 0] 81)) := (Kept.refl _ _).alloc _
  have c5' : (w3.alloc (.cells #[.int .i64 0, .int .i64 0, .int .i64 0] 81)).cell? ⟨S.H + 5, 5, none⟩ = some (.map (some (S.H + 4))) := (ka.cell (by show S.H + 5 < _; omega) (by simp)).trans c5
  have a1' : (w3.alloc (.cells #[.int .i64 0, .int .i64 0, .int .i64 0] 81)).cell? ⟨w.heap.size, 1, none⟩ = some (.string (nid o)) := (ka.cell (by show w.heap.size < _; omega) (by simp)).trans a1
  clear ka
  go_region
  all_goals (
    clear hr5 hr6 c5 a1 c5' a1'
    obtain ⟨w4, hw4⟩ : ∃ W, W = (w3.alloc (.cells #[.int .i64 x, .int .i64 y, .int .i64 z] 81)).drew := ⟨_, rfl⟩
    rw [← hw4]
    have k4 : Kept [] w3 w4 := by rw [hw4]; exact ((Kept.refl _ _).alloc _).drew
    have b4 : w4.heap[w3.heap.size]? = some (.cells #[.int .i64 x, .int .i64 y, .int .i64 z] 81 (0, 0)) := by rw [hw4]; exact heap_alloc_new _ _
    clear hw4
    have m4 := M3.out.kept k4
    have x4 := X3.out.kept k4 (by simp)
    obtain ⟨B, hB⟩ : ∃ B, B = w3.heap.size := ⟨_, rfl⟩
    rw [← hB] at b4 ⊢
    have hBl : w.heap.size + 2 ≤ B := by omega
    have HB : Hid (B = w3.heap.size) := hB
    clear hB
    have e4 := k4.owns E3.out (by simp)
    obtain ⟨g, cap, hv, hcap1, hcap2, hg1, hg2, hg3o, _⟩ := row_at M3.out.row k hk
    dsimp only at hv hg1 hcap1
    obtain ⟨aa, haa⟩ : ∃ aa : Option Addr, aa = some ⟨g, 0, none⟩ := ⟨_, rfl⟩
    have hix : ∀ w', (Instr.indexAt 79 (.slice aa S.L.length cap) (.int .i64 (c - 1))).run Try.prog w' = .ok (.pointer (some ⟨g, k * 2, none⟩)) w' := by rw [haa]; exact idx79 hk (by have := C0.out; omega)
    rw [← haa] at hv
    clear haa
    obtain ⟨r, hr⟩ : ∃ r : Int, r = (S.L[k]'hk).1 := ⟨_, rfl⟩
    have br : -1099511627776 ≤ r ∧ r ≤ 1099511627776 := by
      have := D0.out.lok _ (List.getElem_mem hk)
      rw [hr]
      exact ⟨this.1, this.2.1⟩
    have hg3 : w4.cell? ⟨g, k * 2, none⟩ = some (.int .i64 r) := by rw [hr, k4.cell (by exact hg2) (by simp)]; exact hg3o
    have R0 : Hid (r = (S.L[k]'hk).1) := hr
    clear hr hg3o
    have hgB : g ≠ B := by have := HB.out; omega
    have hw1 : IntKind.i64.wrap (c - 1) = c - 1 := wrap64_of (by omega)
    have hw2 : IntKind.i64.wrap (at' - r) = at' - r := wrap64_of (by omega)
    have HC := add_any B 0 x y z (at' - r) #[.int .i64 x, .int .i64 y, .int .i64 z] 81 w4.drew b4 rfl rfl rfl (by have := Z0.out.1; have := D0.out.bound ho; omega) (by have := Z0.out; have := D0.out.bound ho; have h1 := (D0.out.det o ho).2.1.up; have h2 := (D0.out.det o ho).2.1.2.2.2.1; omega) (by omega)
    have c0 : w4.cell? ⟨S.H + 5, 0, none⟩ = some (.slice aa S.L.length cap) := by rw [← hv]; exact m4.c 0
    have a0 : w4.cell? ⟨w.heap.size, 0, none⟩ = some (.int .i64 at') := cell_of_blk x4.b0 0
    go_wp2
    go_region_held3 (fun u => u.cell? ⟨S.H + 5, 0, none⟩ = some (.slice aa S.L.length cap) ∧ u.cell? ⟨w.heap.size, 0, none⟩ = some (.int .i64 at') ∧ u.cell? ⟨g, k * 2, none⟩ = some (.int .i64 r)) (first | exact S5 | go_keep)
      (first | (go_at_call 28; refine HC.mono ?_; rintro e w5 ⟨rfl, h5⟩
                have k5 : Kept [B] w4 w5 := by rw [h5]; exact ((((Kept.refl _ _).drew).setCell (.inl (by simp)) _).setCell (.inl (by simp)) _).setCell (.inl (by simp)) _
                have b5 : w5.heap[B]? = some (.cells #[.int .i64 (x + 1), .int .i64 (y + (at' - r)), .int .i64 (max z (at' - r))] 81 (0, 0)) := by rw [h5]; exact blk_setCell (blk_setCell (blk_setCell (w := w4.drew) b4 0 _) (0 + 1) _) (0 + 2) _
                clear h5
                have S5 : w5.cell? ⟨S.H + 5, 0, none⟩ = some (.slice aa S.L.length cap) ∧ w5.cell? ⟨w.heap.size, 0, none⟩ = some (.int .i64 at') ∧ w5.cell? ⟨g, k * 2, none⟩ = some (.int .i64 r) := by
                  refine ⟨(k5.cell ?_ ?_).trans c0, (k5.cell ?_ ?_).trans a0, (k5.cell ?_ ?_).trans hg3⟩
                  · have := k4.size; have := HB.out; show S.H + 5 < _; omega
                  · intro l hl; simp at hl; show S.H + 5 ≠ l; omega
                  · have := k4.size; have := HB.out; show w.heap.size < _; omega
                  · intro l hl; simp at hl; show w.heap.size ≠ l; omega
                  · have := k4.size; have := HB.out; show g < _; omega
                  · intro l hl; simp at hl; show g ≠ l; omega))
    have m5 := M3.out.kept (((k4.mono (L' := [B]) (by simp)).trans k5).new (by intro l hl; simp at hl; have := HB.out; omega))
    have x5 := x4.kept' k5 (by intro l hl; simp at hl; omega)
    have e5 := k5.owns e4 (by intro l hl; simp at hl; omega)
    obtain ⟨w6, hr6, ho6, ht6⟩ := e5.drew.store law9 Try.underlying78 (by unfold maxLen; omega) (keyOf_nid o) (lenElem_mk (x + 1) (y + (at' - r)) (max z (at' - r)))
    have k6 : Kept [S.H + 4] w5 w6 := ((Kept.refl _ _).drew).turned ht6 (.inl (by simp))
    have M6 : Hid (Mem (T + 1) w6 { S with Dh := S.Dh.put (pk o s) (.lit (.bool true)), Ds := S.Ds.put (pk o s) (iD c), De := S.De.put (nk o) (lenD (x + 1) (y + (at' - r)) (max z (at' - r))) }) := m5.detTo _ k6 ho6
    have BE : Hid (Below S.H w w6) := (K3.out.below (by omega) (by simp)).trans ((k4.below (by omega) (by simp)).trans ((k5.below (by have := k4.size; omega) (by simp; omega)).trans (k6.below (by have := k4.size; have := k5.size; omega) (by simp))))
    have c5 : w5.cell? ⟨S.H + 5, 5, none⟩ = some (.map (some (S.H + 4))) := m5.c 5
    have a1 : w5.cell? ⟨w.heap.size, 1, none⟩ = some (.string (nid o)) := cell_of_blk x5.b0 1
    have y0 : w5.cell? ⟨B, 0, none⟩ = some (.int .i64 (x + 1)) := cell_of_blk b5 0
    have y1 : w5.cell? ⟨B, 1, none⟩ = some (.int .i64 (y + (at' - r))) := cell_of_blk b5 1
    have y2 : w5.cell? ⟨B, 2, none⟩ = some (.int .i64 (max z (at' - r))) := cell_of_blk b5 2
    have DD : Hid (IsMap S.Ds ∧ IsMap S.De) := ⟨M0.out.s.isMap, M0.out.e.isMap⟩
    clear m4 m5 x4 x5 e4 e5 ho6 ht6 k6 k4 k5 b4 b5 c0 a0 hix hg3 HC S5 hv X3 M3 E3 K3
    go_wp2
    go_region
    go_wp2
    go_end0
    obtain ⟨rfl, rfl, rfl⟩ := Z0.out
    obtain rfl : c = ((k + 1 : Nat) : Int) := by have := C0.out; omega
    refine ⟨rfl, _, ?_, ?_, M6.out, ⟨F0.out.mono (Nat.le_succ M), hk'.put ho hs _, _, _, _, _, D0.out.detect DD.out.1 DD.out.2 ho hs hos hk A0.out U0.out N0.out (by omega)⟩, BE.out⟩
    · rfl
    · rfl)
end Go.Proofs.Qxb6003795a
