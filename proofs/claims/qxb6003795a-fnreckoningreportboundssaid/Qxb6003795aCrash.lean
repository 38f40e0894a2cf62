/- (*reckoning).happen at a crash keeps the invariant. -/
import Derived.Test.Qxb6003795aChange3
import Derived.OwnWalk
import Derived.Deep.RegionLaw
import Derived.Deep.CutRange
namespace Go.Proofs.Qxb6003795a
set_option maxRecDepth 100000
open Go.RowKit Go.Maps
attribute [local go_sem ↓] Go.wp_at_zero Go.wp_at_succ

theorem info93 : (Try.prog.info? 93).map (fun i => (i.zero, i.size, i.bytes)) = some (some (.agg #[.int .i64 0, .string ByteArray.empty]), 2, 24) := by kernel_rfl

/-- append(r.crashes, crash{..}). -/
theorem append_crash {T : Nat} {w : World} {S : St} (m : Mem T w S) (hL : S.L.length ≤ 4096) (at' : Int) (i : Nat) :
    ∃ g cap w2, (Builtin.append_ #[79, 79] 79 #[S.v, .slice (some ⟨w.heap.size, 0, none⟩) 1 1]).run Try.prog (w.alloc (.cells #[.int .i64 at', .string (nid i)] 93)).drew = .ok (.slice (some ⟨g, 0, none⟩) (S.L.length + 1) cap) w2 ∧
      w2.ownsRow (S.H + 6) 93 2 (.slice (some ⟨g, 0, none⟩) (S.L.length + 1) cap) (S.L ++ [(at', i)]).length (crCells (S.L ++ [(at', i)])) ∧ (w.alloc (.cells #[.int .i64 at', .string (nid i)] 93)).drew.grownBy w2 S.v.ownBlock := by
  obtain ⟨i0, hi0, hz0, hz1, hz2⟩ := info_parts info93
  have k : Kept [] w (w.alloc (.cells #[.int .i64 at', .string (nid i)] 93)).drew := ((Kept.refl _ _).alloc _).drew
  have hrow := k.row m.row (by simp)
  have hlit := World.news_of_block (heap_alloc_new w (.cells #[.int .i64 at', .string (nid i)] 93))
  obtain ⟨g, cap, w2, h1, h2, h3, _⟩ := run_append_lies (P := Try.prog) _ 79 79 (S.H + 6) 93 i0 (.agg #[.int .i64 0, .string ByteArray.empty]) 2 24 Try.underlying79 hi0 hz0 hz1 hz2 rfl (by decide) S.v S.L.length (crCells S.L) hrow ⟨w.heap.size, 0, none⟩ 1 1 [.int .i64 at', .string (nid i)] rfl hlit
    (by intro u hu; simp at hu; rcases hu with rfl | rfl <;> rfl) (by decide) (by unfold maxLen; omega) (by omega) (by have := m.lt; simp; omega) _ rfl
  exact ⟨g, cap, w2, h1, by simpa [crCells_append, crCells] using h2, h3⟩

theorem step_append_eq (w : World) {ops : Array Oper} {o : Oper} {a : Act} {K : Act → World → Prop} {Q : Exit → Act → World → Prop} {E : Prop} (hgd : o.guard = none) (s x : Operand)
    (ho : o.op = .call { callee := .builtin .append, args := #[s, x], argTypes := #[79, 79] }) (hty : o.type = 79) {v vx v' : Value} {w2 : World} (hs : a.eval s = v) (hx : a.eval x = vx) (hr : (Builtin.append_ #[79, 79] 79 #[v, vx]).run Try.prog w = .ok v' w2)
    (hK : K (a.put o.dst v') w2) : if Region.wanted o (yielded ops a.tmps) = true then Oper.wp Try.prog o a w K Q else E := by
  have hw : Region.wanted o (yielded ops a.tmps) = true := by simp [Region.wanted, hgd]
  rw [if_pos hw]
  unfold Oper.wp execOp
  simp only [ho, hty, resolve, invoke, builtin, Sem.run_bind, Sem.run_pure, Result.andThen_ok, List.map_toArray, List.map_cons, List.map_nil, hs, hx, hr]
  exact hK

/-- Behind the append: the reckoning's block and the row have turned. -/
theorem Mem.crashTo {T : Nat} {w w' : World} {S : St} (m : Mem T w S) (v : Value) (x : Int × Nat) {L : List Nat} (k : Kept L w w') (hl : ∀ l ∈ L, l = S.H + 5 ∨ S.H + 6 ≤ l) (hr : w'.ownsRow (S.H + 6) 93 2 v (S.L ++ [x]).length (crCells (S.L ++ [x])))
    (hb : w'.heap[S.H + 5]? = some (.cells (recCells { S with v := v }) 83 (0, 0))) : Mem T w' { S with v := v, L := S.L ++ [x] } := by
  refine ⟨hb, hr, k.owns m.d ?_, k.owns m.s ?_, k.owns m.h ?_, k.owns m.i ?_, k.owns m.e ?_⟩
  all_goals (intro l hm; have := hl l hm; try dsimp only; omega)

theorem Mem.downTo {T : Nat} {w w' : World} {S : St} (m : Mem T w S) (Dd : DataW Unit) (k : Kept [S.H] w w') (hh : w'.ownsMap Try.prog 9 (plainElem Try.prog 3) S.H T Dd) : Mem T w' { S with Dd := Dd } := by
  have h0 := m.lt
  refine ⟨(k.block _ (by dsimp only; omega) (by simp)).trans m.blk, k.row m.row ?_, hh, k.owns m.s ?_, k.owns m.h ?_, k.owns m.i ?_, k.owns m.e ?_⟩
  · intro l hl g hg
    have := m.own hg
    simp at hl
    omega
  all_goals (intro l hl; simp at hl; try dsimp only; subst hl; omega)

theorem Mem.frozen {T : Nat} {w : World} {S : St} (m : Mem T w S) (j : Nat) : w.frozen? ⟨S.H + 5, j, none⟩ = false := by simp [World.frozen?, m.blk]

/-- An iterator has turned, no more. -/
theorem Mem.keptIter {T : Nat} {w w' : World} {S : St} (m : Mem T w S) {P : Program} {k : TypeId} {R : Value → Option (DataW Unit × List MemPlace)} {b r n : Nat} {D : DataW Unit} {left : Lit → Bool} {cnt : Nat} (hrg : w.ranges P k R b r n D left cnt) (hr : S.H + 6 ≤ r) (kp : Kept [r] w w') : Mem T w' S := by
  have h0 := m.lt
  have hit : ∃ b s e c, w.heap[r]? = some (.mapIter b s e c) := by
    obtain ⟨_, _, _, _, _, _, _, _, _, h, _⟩ := hrg
    exact ⟨_, _, _, _, h⟩
  obtain ⟨_, _, _, _, hit⟩ := hit
  refine ⟨(kp.block _ (by omega) (by simp; omega)).trans m.blk, kp.row m.row ?_, kp.owns m.d (by simp; omega), kp.owns m.s (by simp; omega), kp.owns m.h (by simp; omega), kp.owns m.i (by simp; omega), kp.owns m.e (by simp; omega)⟩
  intro l hl g hg e
  simp at hl
  subst hl
  subst e
  rcases m.row.2 with ⟨h, _⟩ | ⟨g', cap, cur, h, _, h2, _⟩
  · rw [h] at hg; cases hg
  · rw [h] at hg
    injection hg with hg
    rw [show g' = g from hg] at h2
    rw [hit] at h2
    cases h2

structure PK where
  a : ByteArray
  b : ByteArray
def mkPair (p : PK) : Value := .agg #[.string p.a, .string p.b]
def asIs (v : Value) : Value := v

/-- The next pair that is held is one of ids. -/
theorem pair_of {D : DataW Unit} (hk : HKeys D) {p : PK} {kl : Lit} {y : DataW Unit} (h1 : keyOf Try.prog 90 (mkPair p) = some kl) (h2 : ∀ zd, D.atKey kl zd = y) : ∃ o s, o < 8 ∧ s < 8 ∧ kl = pk o s ∧ p = ⟨nid o, nid s⟩ := by
  obtain ⟨o, s, ho, hs, rfl⟩ := hk kl (has_true_of_atKey h2)
  refine ⟨o, s, ho, hs, rfl, ?_⟩
  have := law90.inj h1 (keyOf_pk o s)
  obtain ⟨p1, p2⟩ := p
  simpa [mkPair] using this

theorem nid_ne {o i : Nat} (ho : o < 8) (hi : i < 8) (h : o ≠ i) : ((nid o).toList == (nid i).toList) = false ∧ ¬ (nid o).toList = (nid i).toList := by
  have : ¬ (nid o).toList = (nid i).toList := fun e => h (nid_inj ho hi (bytes_eq_of_toList (by rw [← ByteArray.toList_eq, ← ByteArray.toList_eq]; exact e)))
  exact ⟨by simp [this], this⟩

def CrashRel (T M C r A : Nat) (at' : Int) (i : Nat) (S : St) (w wr : World) (S' : St) (left : Lit → Bool) (cnt : Nat) : Prop :=
  S'.L.length = C ∧ Mem T wr S' ∧ Inv S' M ∧ wr.ranges Try.prog 90 (plainElem Try.prog 4) (S'.H + 2) r T S'.Dh left cnt ∧ wr.heap[A]? = some (.cells #[.int .i64 at', .int .i64 0, .string (nid i), .string ByteArray.empty] 86 (0, 0)) ∧ Below S.H w wr

set_option maxHeartbeats 4000000 in
theorem happen_crash (T M : Nat) (S : St) (H : Nat) (hH : S.H = H) (i : Nat) (at' : Int) (w : World) (m : Mem T w S) (inv : Inv S M) (hT : T ≤ 4096) (hM : M ≤ 100000) (hL : S.L.length ≤ 4096) (ba : -1099511627776 ≤ at' ∧ at' ≤ 1099511627776) (hi : i < 8) :
    Calls Try.prog 23 #[.pointer (some ⟨H + 5, 0, none⟩), .agg #[.int .i64 at', .int .i64 0, .string (nid i), .string ByteArray.empty]] w fun e w' => e = .returned (.tuple #[]) ∧ Step (T + 1) M (S.L.length + 1) S w w' := by
  have hlt := m.lt
  rw [hH] at hlt
  have M0 : Hid (Mem T w S) := m
  have I0 : Hid (Inv S M) := inv
  have EH : Hid (S.H = H) := hH
  clear m inv hH
  go_enter Try.func23, Try.ntmps23
  go_wp2
  obtain ⟨w1, hw1⟩ : ∃ W, W = w.alloc (.cells #[.int .i64 at', .int .i64 0, .string (nid i), .string ByteArray.empty] 86) := ⟨_, rfl⟩
  rw [← hw1]
  have k1 : Kept [] w w1 := by rw [hw1]; exact (Kept.refl _ _).alloc _
  have x1 : w1.heap[w.heap.size]? = some (.cells #[.int .i64 at', .int .i64 0, .string (nid i), .string ByteArray.empty] 86 (0, 0)) := by rw [hw1]; exact heap_alloc_new _ _
  have hs1 : w.heap.size < w1.heap.size := by rw [hw1]; simp
  clear hw1
  obtain ⟨A, hA⟩ : ∃ A, A = w.heap.size := ⟨_, rfl⟩
  rw [← hA] at x1 hs1 ⊢
  have HA : Hid (A = w.heap.size) := hA
  have hlA : H + 6 ≤ A := by omega
  clear hA
  have m1 := M0.out.kept k1
  obtain ⟨g, cap, w2, hr1, ho1, hg1⟩ := append_crash m1 hL at' i
  obtain ⟨C1, hC1⟩ : ∃ C1, C1 = S.L.length + 1 := ⟨_, rfl⟩
  rw [← hC1] at hr1 ho1
  have HC1 : Hid (C1 = S.L.length + 1) := hC1
  have hC2 : C1 ≤ 4097 := by omega
  clear hC1
  obtain ⟨Z, hZ⟩ : ∃ Z, Z = w1.alloc (.cells #[.int .i64 at', .string (nid i)] 93) := ⟨_, rfl⟩
  have kZ : Kept [] w1 Z := by rw [hZ]; exact (Kept.refl _ _).alloc _
  have zc0 : Z.cell? ⟨H + 5, 0, none⟩ = some S.v := by rw [← EH.out]; exact (m1.kept kZ).c 0
  have za0 : Z.cell? ⟨A, 0, none⟩ = some (.int .i64 at') := (kZ.cell hs1 (by simp)).trans (cell_of_blk x1 0)
  have za2 : Z.cell? ⟨A, 2, none⟩ = some (.string (nid i)) := (kZ.cell hs1 (by simp)).trans (cell_of_blk x1 2)
  rw [hZ] at zc0 za0 za2
  have c0 : w1.cell? ⟨H + 5, 0, none⟩ = some S.v := by rw [← EH.out]; exact m1.c 0
  have a0 : w1.cell? ⟨A, 0, none⟩ = some (.int .i64 at') := cell_of_blk x1 0
  have a2 : w1.cell? ⟨A, 2, none⟩ = some (.string (nid i)) := cell_of_blk x1 2
  have hb2 : w2.heap[H + 5]? = some (.cells (recCells S) 83 (0, 0)) := by
    rw [hg1.block (H + 5) (by simp; omega) (by intro e; have := m1.own e.symm; have := EH.out; omega), ← hZ, ← EH.out]
    exact (m1.kept kZ).blk
  have c02 : w2.cell? ⟨H + 5, 0, none⟩ = some S.v := cell_of_blk hb2 0
  have f02 : w2.frozen? ⟨H + 5, 0, none⟩ = false := by simp [World.frozen?, hb2]
  have kA : Hid (Kept [] w1 Z) := kZ
  have HG : Hid (Z.drew.grownBy w2 S.v.ownBlock) := by rw [hZ]; exact hg1
  have HO : Hid (w2.ownsRow (S.H + 6) 93 2 (.slice (some ⟨g, 0, none⟩) C1 cap) (S.L ++ [(at', i)]).length (crCells (S.L ++ [(at', i)]))) := ho1
  have HB : Hid (w2.heap[H + 5]? = some (.cells (recCells S) 83 (0, 0))) := hb2
  have K1 : Hid (Kept [] w w1) := k1
  have X1 : Hid (w1.heap[A]? = some (.cells #[.int .i64 at', .int .i64 0, .string (nid i), .string ByteArray.empty] 86 (0, 0))) := x1
  have M1 : Hid (Mem T w1 S) := m1
  clear hb2 ho1 hg1 kZ hZ k1 x1 m1
  go_cut [] from 10 to 23 (fun wx => wx = w2.setCell ⟨H + 5, 0, none⟩ (.slice (some ⟨g, 0, none⟩) C1 cap))
  case first =>
    go_region_law (refine step_append_eq _ rfl (.tmp 14) (.tmp 20) rfl rfl (by simp [Act.eval]) (by simp [Act.eval]) hr1 ?_)
    all_goals (go_wp2_with fail; go_meet; exact rfl)
  case rest =>
    clear hr1 zc0 za0 za2 c0 a0 a2 c02 f02
    have k3 : Kept ((S.H + 5) :: S.v.ownBlock.toList) w1 wc := by
      rw [hcut]
      refine Kept.setCell (Kept.grown ((kA.out.mono (by simp)).drew) HG.out ?_) (.inl (by simp [EH.out])) _
      intro k hk
      rw [hk]
      exact .inl (by simp)
    have b3 : wc.heap[H + 5]? = some (.cells (recCells { S with v := .slice (some ⟨g, 0, none⟩) C1 cap }) 83 (0, 0)) := by
      rw [hcut]
      exact blk_setCell HB.out 0 _
    have o3 : wc.ownsRow (S.H + 6) 93 2 (.slice (some ⟨g, 0, none⟩) C1 cap) (S.L ++ [(at', i)]).length (crCells (S.L ++ [(at', i)])) := by
      rw [hcut]
      refine ((Kept.refl [S.H + 5] w2).setCell (.inl (by simp [EH.out])) _).row HO.out ?_
      intro l hl g' hg'
      simp at hl
      have := (HO.out.2)
      rcases this with ⟨h, _⟩ | ⟨g2, c2, cur, h, h1, _⟩
      · rw [h] at hg'; cases hg'
      · rw [h] at hg'; cases hg'; show g2 ≠ l; omega
    rw [← EH.out] at b3
    have m3 := M1.out.crashTo (.slice (some ⟨g, 0, none⟩) C1 cap) (at', i) k3 (by
      intro l hl
      simp at hl
      rcases hl with rfl | hl
      · exact .inl rfl
      · exact .inr (M1.out.own hl).1) o3 b3
    have x3 : wc.heap[A]? = some (.cells #[.int .i64 at', .int .i64 0, .string (nid i), .string ByteArray.empty] 86 (0, 0)) := by
      refine (k3.block A hs1 ?_).trans X1.out
      intro l hl
      simp at hl
      rcases hl with rfl | hl
      · have := EH.out; omega
      · have := (M0.out.own hl).2; have := HA.out; omega
    obtain ⟨w4, hr4, ho4, ht4⟩ := m3.d.drew.store law9 Try.underlying74 (by unfold maxLen; omega) (keyOf_nid i) (plainElem_int Try.underlying3 (a := (C1 : Int)) (wf64 (by omega)))
    have k4 : Kept [S.H] wc w4 := ((Kept.refl _ _).drew).turned ht4 (.inl (by simp))
    have m4 := (m3.mono (Nat.le_succ T)).downTo _ k4 ho4
    have BE4 : Below S.H w w4 := (K1.out.below (by have := EH.out; omega) (by simp)).trans ((k3.below (by have := EH.out; omega) (by
      intro l hl
      simp at hl
      rcases hl with rfl | hl
      · omega
      · have := (M1.out.own hl).1; omega)).trans (k4.below (by have := k3.size; have := EH.out; omega) (by simp)))
    have x4 : w4.heap[A]? = some (.cells #[.int .i64 at', .int .i64 0, .string (nid i), .string ByteArray.empty] 86 (0, 0)) := (k4.block A (by have := k3.size; omega) (by intro l hl; simp at hl; have := EH.out; omega)).trans x3
    have R4 : Hid (Step (T + 1) M C1 S w w4) := by
      refine ⟨_, ?_, ?_, m4, ⟨I0.out.1, I0.out.2.1, ?_⟩, BE4⟩
      · rfl
      · simp [HC1.out]
      · obtain ⟨sn, dn, ds, dm, D⟩ := I0.out.2.2
        rw [HC1.out]
        exact ⟨sn, dn, ds, dm, D.crash M0.out.d.isMap ba hi⟩
    have X4 : Hid (w4.heap[A]? = some (.cells #[.int .i64 at', .int .i64 0, .string (nid i), .string ByteArray.empty] 86 (0, 0))) := x4
    have c1 : wc.cell? ⟨H + 5, 1, none⟩ = some (.map (some H)) := by rw [← EH.out]; exact m3.c 1
    have c0 : wc.cell? ⟨H + 5, 0, none⟩ = some (.slice (some ⟨g, 0, none⟩) C1 cap) := by rw [← EH.out]; exact m3.c 0
    have a2 : wc.cell? ⟨A, 2, none⟩ = some (.string (nid i)) := cell_of_blk x3 2
    rw [EH.out] at hr4
    clear k3 b3 o3 m3 x3 ho4 ht4 k4 m4 BE4 x4 hcut hs1
    go_wp2
    go_region
    clear hr4 c1 c0 a2
    obtain ⟨S4, eH, eL, m4, i4, b4⟩ := R4.out
    rw [EH.out] at eH
    have c3 : w4.cell? ⟨H + 5, 3, none⟩ = some (.map (some (H + 2))) := by rw [← eH]; exact m4.c 3
    have mh := m4.h
    rw [eH] at mh
    have HE : Hid (S4.H = H) := eH
    have M4 : Hid (Mem (T + 1) w4 S4) := m4
    have I4 : Hid (Inv S4 M ∧ S4.L.length = C1 ∧ Below S.H w w4) := ⟨i4, eL, b4⟩
    clear eH m4 i4 eL b4
    go_wp2_with (at_range; refine wpList_range_own _ rfl _ 76 rfl 90 4 law90 Try.underlying76 _ (H + 2) (T + 1) S4.Dh rfl mh ?_; intro w0 hrg0 hg0 hs0)
    go_frame
    obtain ⟨rr, hrr⟩ : ∃ rr, rr = w4.heap.size := ⟨_, rfl⟩
    rw [← hrr] at hrg0 ⊢
    have k0 : Kept [] w4 w0 := (Kept.refl _ _).grown hg0 (by intro k hk; cases hk)
    have REL : CrashRel (T + 1) M C1 rr A at' i S w w0 S4 (Maps.has S4.Dh) (Maps.size S4.Dh) :=
      ⟨I4.out.2.1, M4.out.kept k0, I4.out.1, by rw [HE.out]; exact hrg0, (k0.block A (Array.getElem?_eq_some_iff.1 X4.out).1 (by simp)).trans X4.out, I4.out.2.2.trans (k0.below (by have := M4.out.lt; have := HE.out; have := EH.out; omega) (by simp))⟩
    have hAr : A < rr := by rw [hrr]; exact (Array.getElem?_eq_some_iff.1 X4.out).1
    have hlA4 : H + 6 ≤ rr := by omega
    clear c3 mh hrg0 hg0 hs0 hrr k0 X4 M1 X1 K1 HB HO HG kA
    go_loopw [] (fun wr => ∃ S' left cnt, S'.H = H ∧ CrashRel (T + 1) M C1 rr A at' i S w wr S' left cnt) (fun wr => wr.rangeLeft (H + 2) rr)
    case atStart => exact ⟨S4, _, _, HE.out, REL⟩
    case round =>
      clear REL I4 M4 HE R4
      obtain ⟨S', left, cnt, eH, hrel⟩ := hrel
      obtain rfl := eH
      obtain ⟨eL, m, inv, hrg, xA, bel⟩ := hrel
      have EL : Hid (S'.L.length = C1) := eL
      have MM : Hid (Mem (T + 1) wr S') := m
      have II : Hid (Inv S' M) := inv
      have XA : Hid (wr.heap[A]? = some (.cells #[.int .i64 at', .int .i64 0, .string (nid i), .string ByteArray.empty] 86 (0, 0))) := xA
      have BB : Hid (Below S.H w wr) := bel
      clear eL m inv xA bel
      go_wp2_with (at_next; refine wpList_next_ranges _ rfl _ rfl 90 law90 _ mkPair asIs (fun _ _ h => by obtain ⟨a, b, rfl, _⟩ := keyOf_pair_inv h; exact ⟨⟨a, b⟩, rfl⟩) (fun v _ _ => ⟨v, rfl⟩) (S'.H + 2) rr (T + 1) S'.Dh left cnt rfl hrg ?_ ?_)
      · intro _ _
        go_wp2
        go_end0
        exact ⟨rfl, S', EH.out.symm, by rw [EL.out]; exact HC1.out, MM.out, II.out, BB.out⟩
      · intro p c kl y ps w5 cnt1 hkx hlx hv hatx hrg1 hlt1 hg1 hs5 hen
        obtain ⟨o, s, ho, hs, rfl, rfl⟩ := pair_of II.out.2.1 hkx hatx
        clear hkx hlx hv hatx
        have k5 : Kept [rr] wr w5 := (Kept.refl _ _).grown hg1 (by intro k hk; cases hk; exact .inl (by simp))
        have hen' : (Instr.entry (.pointer (some ⟨rr, 0, none⟩))).run Try.prog w5 = .ok (.tuple #[.agg #[.string (nid o), .string (nid s)], c]) w5 := hen
        have HQ : Hid (wr.rangeLeft (S'.H + 2) rr = cnt) := hrg.left_eq
        have HM5 : Hid (Mem (T + 1) w5 S') := MM.out.keptIter hrg hlA4 k5
        have hrwr := hrg.lt
        have HR5 : Hid (w5.ranges Try.prog 90 (plainElem Try.prog 4) (S'.H + 2) rr (T + 1) S'.Dh (fun x => left x && !x.sameKey (pk o s)) cnt1) := hrg1
        have x5 : w5.heap[A]? = some (.cells #[.int .i64 at', .int .i64 0, .string (nid i), .string ByteArray.empty] 86 (0, 0)) := (k5.block A (by omega) (by simp; omega)).trans XA.out
        have BE5 : Hid (Below S.H w w5) := BB.out.trans (k5.below (by have := MM.out.lt; have := EH.out; omega) (by simp; have := EH.out; omega))
        clear hen hrg hrg1 hg1 hs5 k5
        go_upto_region 8 with fail
        obtain ⟨w6, hw6⟩ : ∃ W, W = w5.alloc (.cells #[.string (nid o), .string (nid s)] 90) := ⟨_, rfl⟩
        rw [← hw6]
        have k6 : Kept [] w5 w6 := by rw [hw6]; exact (Kept.refl _ _).alloc _
        have p6 : w6.heap[w5.heap.size]? = some (.cells #[.string (nid o), .string (nid s)] 90 (0, 0)) := by rw [hw6]; exact heap_alloc_new _ _
        clear hw6 hen'
        have hrr5 := HR5.out.lt
        have x6 := (k6.block A (Array.getElem?_eq_some_iff.1 x5).1 (by simp)).trans x5
        have m6 := HM5.out.kept k6
        have rg6 := k6.ranges HR5.out (by simp) (by simp)
        have b6 : Below S.H w w6 := BE5.out.trans (k6.below (by have := HM5.out.lt; have := EH.out; omega) (by simp))
        obtain ⟨P, hP⟩ : ∃ P, P = w5.heap.size := ⟨_, rfl⟩
        rw [← hP] at p6 hrr5 ⊢
        clear hP k6 HM5 HR5 BE5 x5
        have pc0 : w6.cell? ⟨P, 0, none⟩ = some (.string (nid o)) := cell_of_blk p6 0
        have pc1 : w6.cell? ⟨P, 1, none⟩ = some (.string (nid s)) := cell_of_blk p6 1
        have a0 : w6.cell? ⟨A, 0, none⟩ = some (.int .i64 at') := cell_of_blk x6 0
        have a2 : w6.cell? ⟨A, 2, none⟩ = some (.string (nid i)) := cell_of_blk x6 2
        have HP6 : Hid (w6.heap[P]? = some (.cells #[.string (nid o), .string (nid s)] 90 (0, 0))) := p6
        have HX6 : Hid (w6.heap[A]? = some (.cells #[.int .i64 at', .int .i64 0, .string (nid i), .string ByteArray.empty] 86 (0, 0))) := x6
        have HM6 : Hid (Mem (T + 1) w6 S') := m6
        have HR6 : Hid (w6.ranges Try.prog 90 (plainElem Try.prog 4) (S'.H + 2) rr (T + 1) S'.Dh (fun x => left x && !x.sameKey (pk o s)) cnt1) := rg6
        have HB6 : Hid (Below S.H w w6) := b6
        have HC := end_mem (T + 1) M S' (nid o) (nid s) at' w6 m6 II.out.1 hM (nid_size o) (nid_size s) ba
        clear p6 x6 m6 rg6 b6
        by_cases eo : o = i
        · subst eo
          go_wp2_with fail
          refine HC.mono ?_
          rintro e w7 ⟨rfl, Di, mn, ms, mm, m7, f7, k7, -⟩
          have p7 := (k7.block P (Array.getElem?_eq_some_iff.1 HP6.out).1 (by simp; omega)).trans HP6.out
          have x7 := (k7.block A (Array.getElem?_eq_some_iff.1 HX6.out).1 (by simp; omega)).trans HX6.out
          have rg7 : w7.drew.ranges Try.prog 90 (plainElem Try.prog 4) (S'.H + 2) rr (T + 1) S'.Dh (fun x => left x && !x.sameKey (pk o s)) cnt1 := k7.ranges HR6.out (by simp) (by simp; omega)
          obtain ⟨w8, cnt8, hr8, rg8, hle8, ht8⟩ := rg7.drop law90 Try.underlying76 (keyOf_pk o s) 0
          have k8 : Kept [S'.H + 2] w7 w8 := ((Kept.refl _ _).drew).turned ht8 (.inl (by simp))
          have R8 : Hid (CrashRel (T + 1) M C1 rr A at' o S w w8 { S' with Di := Di, mn := mn, ms := ms, mm := mm, Dh := S'.Dh.del (pk o s) } _ cnt8) :=
            ⟨EL.out, m7.heldTo _ k8 rg8.owns, ⟨f7, II.out.2.1.del _, II.out.2.2⟩, rg8, (k8.block A (Array.getElem?_eq_some_iff.1 x7).1 (by simp; omega)).trans x7,
              HB6.out.trans ((k7.below (by have := HM6.out.lt; have := EH.out; omega) (by simp; have := EH.out; omega)).trans (k8.below (by have h7 : S'.H + 6 ≤ w7.heap.size := m7.lt; have := EH.out; omega) (by simp; have := EH.out; omega)))⟩
          have L8 : Hid (w8.rangeLeft (S'.H + 2) rr = cnt8) := rg8.left_eq
          have c3 : w7.cell? ⟨S'.H + 5, 3, none⟩ = some (.map (some (S'.H + 2))) := m7.c 3
          have q0 : w7.cell? ⟨P, 0, none⟩ = some (.string (nid o)) := cell_of_blk p7 0
          have q1 : w7.cell? ⟨P, 1, none⟩ = some (.string (nid s)) := cell_of_blk p7 1
          have d2 : w7.cell? ⟨A, 2, none⟩ = some (.string (nid o)) := cell_of_blk x7 2
          clear m7 f7 k7 p7 x7 rg7 rg8 ht8 k8 HC pc0 pc1 a0 a2
          go_wp2
          go_region
          go_wp2
          go_roundw
          case rel =>
            refine ⟨_, _, _, ?_, R8.out⟩
            rfl
          case measure => rw [HQ.out, L8.out]; omega
        · obtain ⟨hbo, hbo'⟩ := nid_ne ho hi eo
          by_cases es : s = i
          · subst es
            go_wp2_with fail
            refine HC.mono ?_
            rintro e w7 ⟨rfl, Di, mn, ms, mm, m7, f7, k7, -⟩
            have p7 := (k7.block P (Array.getElem?_eq_some_iff.1 HP6.out).1 (by simp; omega)).trans HP6.out
            have x7 := (k7.block A (Array.getElem?_eq_some_iff.1 HX6.out).1 (by simp; omega)).trans HX6.out
            have rg7 := k7.ranges HR6.out (by simp) (by simp; omega)
            have R7 : Hid (CrashRel (T + 1) M C1 rr A at' s S w w7 { S' with Di := Di, mn := mn, ms := ms, mm := mm } _ cnt1) :=
              ⟨EL.out, m7, ⟨f7, II.out.2.1, II.out.2.2⟩, rg7, x7, HB6.out.trans (k7.below (by have := HM6.out.lt; have := EH.out; omega) (by simp; have := EH.out; omega))⟩
            have L7 : Hid (w7.rangeLeft (S'.H + 2) rr = cnt1) := rg7.left_eq
            have q0 : w7.cell? ⟨P, 0, none⟩ = some (.string (nid o)) := cell_of_blk p7 0
            have d2 : w7.cell? ⟨A, 2, none⟩ = some (.string (nid s)) := cell_of_blk x7 2
            clear m7 f7 k7 p7 x7 rg7 HC pc0 pc1 a0 a2
            go_wp2
            go_roundw
            case rel =>
              refine ⟨_, _, _, ?_, R7.out⟩
              rfl
            case measure => rw [HQ.out, L7.out]; omega
          · obtain ⟨hbs, hbs'⟩ := nid_ne hs hi es
            have R6 : Hid (CrashRel (T + 1) M C1 rr A at' i S w w6 S' _ cnt1) := ⟨EL.out, HM6.out, II.out, HR6.out, HX6.out, HB6.out⟩
            have L6 : Hid (w6.rangeLeft (S'.H + 2) rr = cnt1) := HR6.out.left_eq
            clear HC
            go_wp2
            go_roundw
            case rel =>
              refine ⟨_, _, _, ?_, R6.out⟩
              rfl
            case measure => rw [HQ.out, L6.out]; omega
end Go.Proofs.Qxb6003795a
