/- (*reckoning).happen at a restart keeps the invariant. -/
import Derived.Test.Qxb6003795aCrash
namespace Go.Proofs.Qxb6003795a
set_option maxRecDepth 100000
open Go.RowKit Go.Maps
attribute [local go_sem ↓] Go.wp_at_zero Go.wp_at_succ

def RestRel (T M C r A : Nat) (at' : Int) (i : Nat) (S : St) (w wr : World) (S' : St) (left : Lit → Bool) (cnt : Nat) : Prop :=
  S'.L.length = C ∧ Mem T wr S' ∧ (FineP S'.Di S'.mn S'.ms S'.mm i M ∧ HKeys S'.Dh ∧ ∃ sn dn ds dm, Det S'.L S'.Dd S'.Ds S'.De sn dn ds dm) ∧ wr.ranges Try.prog 90 (plainElem Try.prog 4) (S'.H + 2) r T S'.Dh left cnt ∧ wr.heap[A]? = some (.cells #[.int .i64 at', .int .i64 6, .string (nid i), .string ByteArray.empty] 86 (0, 0)) ∧ Below S.H w wr

set_option maxHeartbeats 4000000 in
theorem happen_restart (T M : Nat) (S : St) (H : Nat) (hH : S.H = H) (i : Nat) (at' : Int) (w : World) (m : Mem T w S) (inv : Inv S M) (hM : M ≤ 90000) (ba : -1099511627776 ≤ at' ∧ at' ≤ 1099511627776) (hi : i < 8) :
    Calls Try.prog 23 #[.pointer (some ⟨H + 5, 0, none⟩), .agg #[.int .i64 at', .int .i64 6, .string (nid i), .string ByteArray.empty]] w fun e w' => e = .returned (.tuple #[]) ∧ Step T (M + 8) S.L.length S w w' := by
  have hlt := m.lt
  rw [hH] at hlt
  have M0 : Hid (Mem T w S) := m
  have I0 : Hid (Inv S M) := inv
  have EH : Hid (S.H = H) := hH
  clear m inv hH
  go_enter Try.func23, Try.ntmps23
  go_wp2
  obtain ⟨w1, hw1⟩ : ∃ W, W = w.alloc (.cells #[.int .i64 at', .int .i64 6, .string (nid i), .string ByteArray.empty] 86) := ⟨_, rfl⟩
  rw [← hw1]
  have k1 : Kept [] w w1 := by rw [hw1]; exact (Kept.refl _ _).alloc _
  have x1 : w1.heap[w.heap.size]? = some (.cells #[.int .i64 at', .int .i64 6, .string (nid i), .string ByteArray.empty] 86 (0, 0)) := by rw [hw1]; exact heap_alloc_new _ _
  clear hw1
  obtain ⟨A, hA⟩ : ∃ A, A = w.heap.size := ⟨_, rfl⟩
  rw [← hA] at x1 ⊢
  have hlA : H + 6 ≤ A := by omega
  clear hA
  have m1 := M0.out.kept k1
  obtain ⟨w4, hr4, ho4, ht4⟩ := m1.d.drew.drop law9 Try.underlying74 (keyOf_nid i) 0
  have k4 : Kept [S.H] w1 w4 := ((Kept.refl _ _).drew).turned ht4 (.inl (by simp))
  have m4 := m1.downTo _ k4 ho4
  have x4 : w4.heap[A]? = some (.cells #[.int .i64 at', .int .i64 6, .string (nid i), .string ByteArray.empty] 86 (0, 0)) := (k4.block A (Array.getElem?_eq_some_iff.1 x1).1 (by intro l hl; simp at hl; have := EH.out; omega)).trans x1
  have R4 : Hid (∃ S', S'.H = S.H ∧ S'.L.length = S.L.length ∧ Mem T w4 S' ∧ (FineP S'.Di S'.mn S'.ms S'.mm i (M + 8) ∧ HKeys S'.Dh ∧ ∃ sn dn ds dm, Det S'.L S'.Dd S'.Ds S'.De sn dn ds dm) ∧ Below S.H w w4) := by
    obtain ⟨sn, dn, ds, dm, D⟩ := I0.out.2.2
    refine ⟨_, ?_, ?_, m4, ⟨I0.out.1.begin i, I0.out.2.1, sn, dn, ds, dm, D.restart _⟩, (k1.below (by have := EH.out; omega) (by simp)).trans (k4.below (by have := k1.size; have := EH.out; omega) (by simp))⟩
    · rfl
    · rfl
  have X4 : Hid (w4.heap[A]? = some (.cells #[.int .i64 at', .int .i64 6, .string (nid i), .string ByteArray.empty] 86 (0, 0))) := x4
  have c1 : w1.cell? ⟨H + 5, 1, none⟩ = some (.map (some H)) := by rw [← EH.out]; exact m1.c 1
  have a2 : w1.cell? ⟨A, 2, none⟩ = some (.string (nid i)) := cell_of_blk x1 2
  rw [EH.out] at hr4
  clear k1 x1 m1 ho4 ht4 k4 m4 x4
  go_region
  clear hr4 c1 a2
  obtain ⟨S4, eH, eL, m4, i4, b4⟩ := R4.out
  rw [EH.out] at eH
  have c3 : w4.cell? ⟨H + 5, 3, none⟩ = some (.map (some (H + 2))) := by rw [← eH]; exact m4.c 3
  have mh := m4.h
  rw [eH] at mh
  obtain ⟨C1, hC1⟩ : ∃ C1, C1 = S.L.length := ⟨_, rfl⟩
  have HC1 : Hid (C1 = S.L.length) := hC1
  rw [← hC1] at eL
  obtain ⟨M8, hM8⟩ : ∃ M8, M8 = M + 8 := ⟨_, rfl⟩
  have HM8 : Hid (M8 = M + 8) := hM8
  have hM9 : M8 ≤ 100000 := by omega
  rw [← hM8] at i4
  have HE : Hid (S4.H = H) := eH
  have M4 : Hid (Mem T w4 S4) := m4
  have I4 : Hid ((FineP S4.Di S4.mn S4.ms S4.mm i M8 ∧ HKeys S4.Dh ∧ ∃ sn dn ds dm, Det S4.L S4.Dd S4.Ds S4.De sn dn ds dm) ∧ S4.L.length = C1 ∧ Below S.H w w4) := ⟨i4, eL, b4⟩
  clear eH m4 i4 eL b4 hC1 hM8
  go_wp2_with (at_range; refine wpList_range_own _ rfl _ 76 rfl 90 4 law90 Try.underlying76 _ (H + 2) T S4.Dh rfl mh ?_; intro w0 hrg0 hg0 hs0)
  go_frame
  obtain ⟨rr, hrr⟩ : ∃ rr, rr = w4.heap.size := ⟨_, rfl⟩
  rw [← hrr] at hrg0 ⊢
  have k0 : Kept [] w4 w0 := (Kept.refl _ _).grown hg0 (by intro k hk; cases hk)
  have REL : RestRel T M8 C1 rr A at' i S w w0 S4 (Maps.has S4.Dh) (Maps.size S4.Dh) :=
    ⟨I4.out.2.1, M4.out.kept k0, I4.out.1, by rw [HE.out]; exact hrg0, (k0.block A (Array.getElem?_eq_some_iff.1 X4.out).1 (by simp)).trans X4.out, I4.out.2.2.trans (k0.below (by have := M4.out.lt; have := HE.out; have := EH.out; omega) (by simp))⟩
  have hAr : A < rr := by rw [hrr]; exact (Array.getElem?_eq_some_iff.1 X4.out).1
  have hlA4 : H + 6 ≤ rr := by omega
  clear c3 mh hrg0 hg0 hs0 hrr k0 X4
  go_loopw [] (fun wr => ∃ S' left cnt, S'.H = H ∧ RestRel T M8 C1 rr A at' i S w wr S' left cnt) (fun wr => wr.rangeLeft (H + 2) rr)
  case atStart => exact ⟨S4, _, _, HE.out, REL⟩
  case round =>
    clear REL I4 M4 HE R4
    obtain ⟨S', left, cnt, eH, hrel⟩ := hrel
    obtain rfl := eH
    obtain ⟨eL, m, inv, hrg, xA, bel⟩ := hrel
    have EL : Hid (S'.L.length = C1) := eL
    have MM : Hid (Mem T wr S') := m
    have II : Hid (FineP S'.Di S'.mn S'.ms S'.mm i M8 ∧ HKeys S'.Dh ∧ ∃ sn dn ds dm, Det S'.L S'.Dd S'.Ds S'.De sn dn ds dm) := inv
    have XA : Hid (wr.heap[A]? = some (.cells #[.int .i64 at', .int .i64 6, .string (nid i), .string ByteArray.empty] 86 (0, 0))) := xA
    have BB : Hid (Below S.H w wr) := bel
    clear eL m inv xA bel
    go_wp2_with (at_next; refine wpList_next_ranges _ rfl _ rfl 90 law90 _ mkPair asIs (fun _ _ h => by obtain ⟨a, b, rfl, _⟩ := keyOf_pair_inv h; exact ⟨⟨a, b⟩, rfl⟩) (fun v _ _ => ⟨v, rfl⟩) (S'.H + 2) rr T S'.Dh left cnt rfl hrg ?_ ?_)
    · intro _ _
      go_wp2
      go_end0
      refine ⟨rfl, S', EH.out.symm, by rw [EL.out]; exact HC1.out, MM.out, ⟨?_, II.out.2.1, II.out.2.2⟩, BB.out⟩
      rw [← HM8.out]
      exact II.out.1.over
    · intro p c kl y ps w5 cnt1 hkx hlx hv hatx hrg1 hlt1 hg1 hs5 hen
      obtain ⟨o, s, ho, hs, rfl, rfl⟩ := pair_of II.out.2.1 hkx hatx
      clear hkx hlx hv hatx
      have k5 : Kept [rr] wr w5 := (Kept.refl _ _).grown hg1 (by intro k hk; cases hk; exact .inl (by simp))
      have hen' : (Instr.entry (.pointer (some ⟨rr, 0, none⟩))).run Try.prog w5 = .ok (.tuple #[.agg #[.string (nid o), .string (nid s)], c]) w5 := hen
      have HQ : Hid (wr.rangeLeft (S'.H + 2) rr = cnt) := hrg.left_eq
      have HM5 : Hid (Mem T w5 S') := MM.out.keptIter hrg hlA4 k5
      have hrwr := hrg.lt
      have HR5 : Hid (w5.ranges Try.prog 90 (plainElem Try.prog 4) (S'.H + 2) rr T S'.Dh (fun x => left x && !x.sameKey (pk o s)) cnt1) := hrg1
      have x5 : w5.heap[A]? = some (.cells #[.int .i64 at', .int .i64 6, .string (nid i), .string ByteArray.empty] 86 (0, 0)) := (k5.block A (by omega) (by simp; omega)).trans XA.out
      have BE5 : Hid (Below S.H w w5) := BB.out.trans (k5.below (by have := MM.out.lt; have := EH.out; omega) (by simp; have := EH.out; omega))
      clear hen hrg hrg1 hg1 hs5 k5
      go_upto_region 17 with fail
      obtain ⟨w6, hw6⟩ : ∃ W, W = w5.alloc (.cells #[.string (nid o), .string (nid s)] 90) := ⟨_, rfl⟩
      rw [← hw6]
      have k6 : Kept [] w5 w6 := by rw [hw6]; exact (Kept.refl _ _).alloc _
      have p6 : w6.heap[w5.heap.size]? = some (.cells #[.string (nid o), .string (nid s)] 90 (0, 0)) := by rw [hw6]; exact heap_alloc_new _ _
      clear hw6 hen'
      have hrr5 := HR5.out.lt
      have x6 := (k6.block A (Array.getElem?_eq_some_iff.1 x5).1 (by simp)).trans x5
      have m6 := HM5.out.kept k6
      have rg6 := k6.ranges HR5.out (by simp) (by simp)
      have b6 : Below S.H w w6 := BE5.out.trans (k6.below (by have := HM5.out.lt; have := EH.out; omega) (by simp))
      obtain ⟨P, hP⟩ : ∃ P, P = w5.heap.size := ⟨_, rfl⟩
      rw [← hP] at p6 hrr5 ⊢
      clear hP k6 HM5 HR5 BE5 x5
      have pc0 : w6.cell? ⟨P, 0, none⟩ = some (.string (nid o)) := cell_of_blk p6 0
      have pc1 : w6.cell? ⟨P, 1, none⟩ = some (.string (nid s)) := cell_of_blk p6 1
      have a0 : w6.cell? ⟨A, 0, none⟩ = some (.int .i64 at') := cell_of_blk x6 0
      have a2 : w6.cell? ⟨A, 2, none⟩ = some (.string (nid i)) := cell_of_blk x6 2
      by_cases es : s = i
      · subst es
        have hsz : Maps.size S'.Di < maxLen := by have := II.out.1.cnt; unfold maxLen; omega
        obtain ⟨w7, hr7, ho7, ht7⟩ := m6.i.drew.store law90 Try.underlying77 hsz (keyOf_pk o s) (plainElem_int Try.underlying33 (wf64 ba))
        have k7 : Kept [S'.H + 3] w6 w7 := ((Kept.refl _ _).drew).turned ht7 (.inl (by simp))
        have rg7 := k7.ranges rg6 (by simp) (by simp; omega)
        have R7 : Hid (RestRel T M8 C1 rr A at' s S w w7 { S' with Di := S'.Di.put (pk o s) (iD at') } _ cnt1) :=
          ⟨EL.out, m6.sinceTo _ k7 ho7, ⟨II.out.1.put (m6.i.tidy law90) ho hs ba, II.out.2.1, II.out.2.2⟩, rg7, (k7.block A (Array.getElem?_eq_some_iff.1 x6).1 (by simp; omega)).trans x6, b6.trans (k7.below (by have := m6.lt; have := EH.out; omega) (by simp; have := EH.out; omega))⟩
        have L7 : Hid (w7.rangeLeft (S'.H + 2) rr = cnt1) := rg7.left_eq
        have c4 : w6.cell? ⟨S'.H + 5, 4, none⟩ = some (.map (some (S'.H + 3))) := m6.c 4
        clear ho7 ht7 k7 rg7 m6 rg6 b6 x6 p6
        go_wp2
        go_region
        go_wp2
        go_roundw
        case rel =>
          refine ⟨_, _, _, ?_, R7.out⟩
          rfl
        case measure => rw [HQ.out, L7.out]; omega
      · obtain ⟨hbs, hbs'⟩ := nid_ne hs hi es
        have R6 : Hid (RestRel T M8 C1 rr A at' i S w w6 S' _ cnt1) := ⟨EL.out, m6, II.out, rg6, x6, b6⟩
        have L6 : Hid (w6.rangeLeft (S'.H + 2) rr = cnt1) := rg6.left_eq
        clear m6 rg6 b6 x6 p6
        go_wp2
        go_roundw
        case rel =>
          refine ⟨_, _, _, ?_, R6.out⟩
          rfl
        case measure => rw [HQ.out, L6.out]; omega
end Go.Proofs.Qxb6003795a
