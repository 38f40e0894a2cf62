/- (*reckoning).report -/
import Derived.Test.Qxb6003795aAlive
namespace Go.Proofs.Qxb6003795a
set_option maxRecDepth 100000
open Go.RowKit Go.Maps
attribute [local go_sem ↓] Go.wp_at_zero Go.wp_at_succ

def RepTo (C K M : Nat) (e : Ending) : Prop := ∃ p u dm dx mc mm mx : Int, e = .returned (.agg #[.int .i64 C, .int .i64 p, .int .i64 u, .int .i64 dm, .int .i64 dx, .int .i64 mc, .int .i64 mm, .int .i64 mx]) ∧
  (p ≤ (C : Int) * K ∧ (C : Int) * ((K : Int) - 1) ≤ p ∧ 0 ≤ u ∧ u ≤ p ∧ 0 ≤ dx ∧ dm ≤ dx ∧ 0 ≤ mx ∧ mm ≤ mx ∧ (u = p → dm = 0 ∧ dx = 0) ∧ 0 ≤ mc ∧ mc ≤ M ∧ (mc = 0 → mm = 0 ∧ mx = 0))

def zeros8 : Array Value := #[.int .i64 0, .int .i64 0, .int .i64 0, .int .i64 0, .int .i64 0, .int .i64 0, .int .i64 0, .int .i64 0]

theorem Kept.chain {L L' : List Nat} {a b c : World} (h : Kept L a b) (k : Kept L' b c) (hl : ∀ l ∈ L', l ∈ L ∨ a.heap.size ≤ l) : Kept L a c :=
  ⟨k.os.trans h.os, k.tape.trans h.tape, k.output.trans h.output, Nat.le_trans h.size k.size, fun i hi hn => (k.block i (Nat.lt_of_lt_of_le hi h.size) (fun l hm e => by
    rcases hl l hm with h1 | h1
    · exact hn l h1 e
    · omega)).trans (h.block i hi hn)⟩

/-- The first loop: what is known besides the range. -/
def Rep0 (T M : Nat) (S : St) (B Q : Nat) (D : DataW Unit) (w wr : World) (S' : St) : Prop :=
  S'.L = S.L ∧ Mem T wr S' ∧ Inv S' M ∧ wr.ownsMap Try.prog 9 (plainElem Try.prog 4) B 8 D ∧ wr.heap[Q]? = some (.cells zeros8 39 (0, 0)) ∧ Kept [S.H + 5, S.H + 3] w wr

/-- The crashes' slice, nil or not. -/
theorem Mem.slice {T : Nat} {w : World} {S : St} (m : Mem T w S) : ∃ (aa : Option Addr) (cap : Nat), S.v = .slice aa S.L.length cap ∧
    ∀ j, (hj : j < S.L.length) → ∃ g, (∀ w', (Instr.indexAt 79 (.slice aa S.L.length cap) (.int .i64 (j : Int))).run Try.prog w' = .ok (.pointer (some ⟨g, j * 2, none⟩)) w') ∧ S.H + 6 ≤ g ∧ g < w.heap.size ∧
      w.cell? ⟨g, j * 2, none⟩ = some (.int .i64 (S.L[j]'hj).1) ∧ w.cell? ⟨g, j * 2 + 1, none⟩ = some (.string (nid (S.L[j]'hj).2)) := by
  rcases m.row.2 with ⟨h, h0⟩ | ⟨g, cap, cur, h, _⟩
  · refine ⟨none, 0, by rw [h, h0], fun j hj => by omega⟩
  · refine ⟨some ⟨g, 0, none⟩, cap, h, fun j hj => ?_⟩
    obtain ⟨g', cap', hv, _, _, h1, h2, h3, h4⟩ := row_at m.row j hj
    rw [h] at hv
    injection hv with hv _ hv2
    injection hv with hv
    injection hv with hv
    subst hv
    exact ⟨g, idx79 hj rfl, h1, h2, h3, h4⟩

theorem pairsOf_append (K : Nat) (al : Nat → Bool) (L M : List (Int × Nat)) : pairsOf K al (L ++ M) = pairsOf K al L + pairsOf K al M := by
  induction L with
  | nil => simp [pairsOf]
  | cons x L ih => simp only [List.cons_append, pairsOf, ih]; omega

theorem pairsOf_take (K : Nat) (al : Nat → Bool) (L : List (Int × Nat)) {k : Nat} (hk : k < L.length) : pairsOf K al (L.take (k + 1)) = pairsOf K al (L.take k) + (K - (if al (L[k]'hk).2 then 1 else 0)) := by
  rw [List.take_succ_eq_append_getElem hk, pairsOf_append]
  simp [pairsOf]

theorem look30 {w : World} {b n : Nat} {D : DataW Unit} (h : w.ownsMap Try.prog 9 (plainElem Try.prog 4) b n D) {key : Value} {kl : Lit} (hk : keyOf Try.prog 9 key = some kl) {x : Bool} (hx : D.atKey kl (.lit (.bool false)) = .lit (.bool x)) :
    (Instr.lookup 30 (.map (some b)) key false).run Try.prog w = .ok (.bool x) w := by
  obtain ⟨v, ps, h1, h2⟩ := h.lookup law9 Try.underlying30 (zero4 w) (plainElem_bool Try.underlying4 false) hk
  obtain ⟨y, rfl, h3⟩ := boolElem_inv h2
  rw [hx] at h3
  have := (Prod.mk.inj h3).1
  injection this with this
  injection this with this
  rw [h1, this]

theorem alive_le {D : DataW Unit} {al : Nat → Bool} {K : Nat} (h : IsAlive D al 8 K) {o : Nat} (ho : o < 8) (hal : al o = true) : 1 ≤ K := by
  rw [h.sum_]
  have := sumTo_more (f := fun _ => 0) (g := fun o => if al o then 1 else 0) (c := 1) ho (fun i _ => Nat.zero_le _) (by simp [hal])
  omega
theorem alive_le8 {D : DataW Unit} {al : Nat → Bool} {K : Nat} (h : IsAlive D al 8 K) : K ≤ 8 := by
  rw [h.sum_]
  have := sumTo_le (f := fun o => if al o then 1 else 0) (g := fun _ => 1) (n := 8) (fun i _ => by split <;> omega)
  rw [sumTo_const] at this
  exact this

theorem Mem.keptFar {T : Nat} {w w' : World} {S : St} {L : List Nat} (m : Mem T w S) (k : Kept L w w') (hl : ∀ l ∈ L, S.H + 6 ≤ l ∧ S.v.ownBlock ≠ some l) : Mem T w' S := by
  have h0 := m.lt
  refine ⟨(k.block _ (by omega) ?_).trans m.blk, k.row m.row ?_, k.owns m.d ?_, k.owns m.s ?_, k.owns m.h ?_, k.owns m.i ?_, k.owns m.e ?_⟩
  case refine_2 =>
    intro l hm g hg e
    subst e
    exact (hl g hm).2 hg
  all_goals (intro l hm; have := (hl l hm).1; omega)

theorem Rep0.far {T M : Nat} {S : St} {B Q : Nat} {D : DataW Unit} {w wr wz : World} {S' : St} {L : List Nat} (h : Rep0 T M S B Q D w wr S') (k : Kept L wr wz) (hl : ∀ l ∈ L, S'.H + 6 ≤ l ∧ S'.v.ownBlock ≠ some l ∧ B ≠ l ∧ Q ≠ l ∧ w.heap.size ≤ l) : Rep0 T M S B Q D w wz S' := by
  obtain ⟨eL, mm, ii, aa, qq, bb⟩ := h
  refine ⟨eL, mm.keptFar k (fun l hm => ⟨(hl l hm).1, (hl l hm).2.1⟩), ii, k.owns aa (fun l hm => (hl l hm).2.2.1), (k.block Q (Array.getElem?_eq_some_iff.1 qq).1 (fun l hm => (hl l hm).2.2.2.1)).trans qq, bb.chain k (fun l hm => .inr (hl l hm).2.2.2.2)⟩

/-- Of what is left one is taken. -/
theorem sum_strike {al : Nat → Bool} {left : Lit → Bool} {dn : Nat → Nat} {o : Nat} (ho : o < 8) (hl : left (nk o) = true) :
    sumTo (fun i => if (al i && left (nk i)) = true then dn i else 0) 8 = sumTo (fun i => if (al i && (left (nk i) && !(nk i).sameKey (nk o))) = true then dn i else 0) 8 + (if al o = true then dn o else 0) := by
  have h1 : sumTo (fun i => if (al i && left (nk i)) = true then dn i else 0) 8 = sumTo (fun i => (if (al i && (left (nk i) && !(nk i).sameKey (nk o))) = true then dn i else 0) + (if i = o then (if al o = true then dn o else 0) else 0)) 8 := by
    refine sumTo_congr fun i hi => ?_
    by_cases e : i = o
    · subst e
      rw [WideAt.sameKey_self (law9.key (keyOf_nid i)), hl]
      cases al i <;> simp
    · rw [sameKey_ne (fun e' => e (nk_inj hi ho e')), if_neg e]
      simp
  rw [h1, sumTo_add, sumTo_one _ ho]

/-- The third loop. -/
def Rep3 (T : Nat) (S' : St) (J Lq Tot : Nat) (al : Nat → Bool) (dn : Nat → Nat) (w7 wr : World) (left : Lit → Bool) (cnt : Nat) : Prop := ∃ (n : Nat) (s mx : Int), wr.heap[Lq]? = some (.cells #[.int .i64 n, .int .i64 s, .int .i64 mx] 81 (0, 0)) ∧ Sound n s mx ∧
  n + sumTo (fun i => if (al i && left (nk i)) = true then dn i else 0) 8 = Tot ∧ wr.ranges Try.prog 9 lenElem (S'.H + 4) J T S'.De left cnt ∧ Kept [Lq, J] w7 wr

/-- Behind d.Mean, d.Max = .. -/
def Rep4 (Dq k PP n : Nat) (mv mx : Int) (w12 wx : World) : Prop := Kept [Dq] w12 wx ∧ wx.heap[Dq]? = some (.cells #[.int .i64 k, .int .i64 PP, .int .i64 ((PP : Int) - n), .int .i64 mv, .int .i64 mx] 35 (0, 0))

/-- Behind the last store. -/
def Rep5 (Q k PP n : Nat) (mv mx : Int) (S' : St) (mv2 : Int) (wc wx : World) : Prop := Kept [Q] wc wx ∧ wx.heap[Q]? = some (.cells #[.int .i64 k, .int .i64 PP, .int .i64 ((PP : Int) - n), .int .i64 mv, .int .i64 mx, .int .i64 S'.mn, .int .i64 mv2, .int .i64 S'.mm] 39 (0, 0))

theorem rep5_mk {wc : World} {Q : Nat} (h : wc.heap[Q]? = some (.cells zeros8 39 (0, 0))) (v0 v1 v2 v3 v4 v5 v6 v7 : Value) (o : Obj) :
    Kept [Q] wc (((((((((wc.setCell ⟨Q, 0, none⟩ v0).setCell ⟨Q, 1, none⟩ v1).setCell ⟨Q, 2, none⟩ v2).setCell ⟨Q, 3, none⟩ v3).setCell ⟨Q, 4, none⟩ v4).setCell ⟨Q, 5, none⟩ v5).setCell ⟨Q, 6, none⟩ v6).setCell ⟨Q, 7, none⟩ v7).alloc o).drew ∧ (((((((((wc.setCell ⟨Q, 0, none⟩ v0).setCell ⟨Q, 1, none⟩ v1).setCell ⟨Q, 2, none⟩ v2).setCell ⟨Q, 3, none⟩ v3).setCell ⟨Q, 4, none⟩ v4).setCell ⟨Q, 5, none⟩ v5).setCell ⟨Q, 6, none⟩ v6).setCell ⟨Q, 7, none⟩ v7).alloc o).drew.heap[Q]? = some (.cells #[v0, v1, v2, v3, v4, v5, v6, v7] 39 (0, 0)) := by
  have hQz : Q < wc.heap.size := (Array.getElem?_eq_some_iff.1 h).1
  refine ⟨((((((((((Kept.refl _ _).setCell (.inl (by simp)) _).setCell (.inl (by simp)) _).setCell (.inl (by simp)) _).setCell (.inl (by simp)) _).setCell (.inl (by simp)) _).setCell (.inl (by simp)) _).setCell (.inl (by simp)) _).setCell (.inl (by simp)) _).alloc _).drew, ?_⟩
  have e0 := blk_setCell h 0 v0
  have e1 := blk_setCell e0 1 v1
  have e2 := blk_setCell e1 2 v2
  have e3 := blk_setCell e2 3 v3
  have e4 := blk_setCell e3 4 v4
  have e5 := blk_setCell e4 5 v5
  have e6 := blk_setCell e5 6 v6
  have e7 := blk_setCell e6 7 v7
  show (((((((((wc.setCell ⟨Q, 0, none⟩ v0).setCell ⟨Q, 1, none⟩ v1).setCell ⟨Q, 2, none⟩ v2).setCell ⟨Q, 3, none⟩ v3).setCell ⟨Q, 4, none⟩ v4).setCell ⟨Q, 5, none⟩ v5).setCell ⟨Q, 6, none⟩ v6).setCell ⟨Q, 7, none⟩ v7).alloc o).heap[Q]? = _
  rw [Below.heap_alloc _ _ Q (by simpa using hQz), e7]
  simp [zeros8]

/-- The second loop. -/
def Rep2 (C K k Dq : Nat) (al : Nat → Bool) (L : List (Int × Nat)) (w3 wx : World) : Prop := k ≤ C ∧ Kept [Dq] w3 wx ∧ wx.heap[Dq]? = some (.cells #[.int .i64 C, .int .i64 (pairsOf K al (L.take k)), .int .i64 0, .int .i64 0, .int .i64 0] 35 (0, 0))

set_option maxHeartbeats 8000000 in
theorem report_any (T M : Nat) (S : St) (H : Nat) (hH : S.H = H) (B K : Nat) (D : DataW Unit) (al : Nat → Bool) (un : Int) (w : World) (m : Mem T w S) (inv : Inv S M) (hA : w.ownsMap Try.prog 9 (plainElem Try.prog 4) B 8 D) (hD : IsAlive D al 8 K) (hB : H + 6 ≤ B)
    (hM : M ≤ 90000) (hL : S.L.length ≤ 4096) (ba : -1099511627776 ≤ un ∧ un ≤ 1099511627776) :
    Calls Try.prog 20 #[.pointer (some ⟨H + 5, 0, none⟩), .map (some B), .int .i64 un] w fun e w' => RepTo S.L.length K M e ∧ Kept [S.H + 5, S.H + 3] w w' := by
  have hlt := m.lt
  rw [hH] at hlt
  have M0 : Hid (Mem T w S) := m
  have I0 : Hid (Inv S M) := inv
  have EH : Hid (S.H = H) := hH
  have A0 : Hid (w.ownsMap Try.prog 9 (plainElem Try.prog 4) B 8 D) := hA
  have D0 : Hid (IsAlive D al 8 K) := hD
  clear m inv hH hA hD
  go_enter Try.func20, Try.ntmps20
  go_upto_region 1 with fail
  obtain ⟨w1, hw1⟩ : ∃ W, W = w.alloc (.cells #[.int .i64 0, .int .i64 0, .int .i64 0, .int .i64 0, .int .i64 0, .int .i64 0, .int .i64 0, .int .i64 0] 39) := ⟨_, rfl⟩
  rw [← hw1]
  have k1 : Kept [] w w1 := by rw [hw1]; exact (Kept.refl _ _).alloc _
  have q1 : w1.heap[w.heap.size]? = some (.cells zeros8 39 (0, 0)) := by rw [hw1]; exact heap_alloc_new _ _
  have hs1 : w1.heap.size = w.heap.size + 1 := by rw [hw1]; simp
  clear hw1
  have hBw := A0.out.lt
  obtain ⟨Q, hQ⟩ : ∃ Q, Q = w.heap.size := ⟨_, rfl⟩
  rw [← hQ] at q1 hs1 hBw ⊢
  have hQH : H + 6 ≤ Q := by omega
  have hQw : w.heap.size ≤ Q := by omega
  have m1 := M0.out.kept k1
  have R1 : Hid (Rep0 T M S B Q D w w1 S) := ⟨rfl, m1, I0.out, k1.owns A0.out (by simp), q1, k1.mono (by simp)⟩
  have c4 : w1.cell? ⟨H + 5, 4, none⟩ = some (.map (some (H + 3))) := by rw [← EH.out]; exact m1.c 4
  have mi := m1.i
  rw [EH.out] at mi
  clear hQ k1 q1 m1
  go_wp2_with (at_range; refine wpList_range_own _ rfl _ 77 rfl 90 33 law90 Try.underlying77 _ (H + 3) (Maps.size S.Di) S.Di rfl mi ?_; intro w0 hrg0 hg0 hs0)
  go_frame
  rw [hs1] at hrg0 hs0 ⊢
  have k0 : Kept [] w1 w0 := (Kept.refl _ _).grown hg0 (by intro k hk; cases hk)
  have R0 : Hid (Rep0 T M S B Q D w w0 S) := ⟨rfl, R1.out.2.1.kept k0, I0.out, k0.owns R1.out.2.2.2.1 (by simp), (k0.block Q (by omega) (by simp)).trans R1.out.2.2.2.2.1, R1.out.2.2.2.2.2.chain k0 (by simp)⟩
  have HR0 : Hid (w0.ranges Try.prog 90 (plainElem Try.prog 33) (H + 3) (Q + 1) (Maps.size S.Di) S.Di (Maps.has S.Di) (Maps.size S.Di)) := hrg0
  clear c4 mi hrg0 hg0 hs0 k0 hs1 R1
  obtain ⟨nn, hnn⟩ : ∃ nn, nn = Maps.size S.Di := ⟨_, rfl⟩
  rw [← hnn] at HR0
  clear hnn
  go_loopw [] (fun wr => ∃ S' left cnt, S'.H = H ∧ Rep0 T M S B Q D w wr S' ∧ wr.ranges Try.prog 90 (plainElem Try.prog 33) (H + 3) (Q + 1) nn S'.Di left cnt) (fun wr => wr.rangeLeft (H + 3) (Q + 1))
  case atStart => exact ⟨S, _, _, EH.out, R0.out, HR0.out⟩
  case round =>
    clear R0 HR0
    obtain ⟨S', left, cnt, eH, rel, hrg⟩ := hrel
    obtain rfl := eH
    have REL : Hid (Rep0 T M S B Q D w wr S') := rel
    clear rel
    go_wp2_with (at_next; refine wpList_next_ranges _ rfl _ rfl 90 law90 _ mkPair asIs (fun _ _ h => by obtain ⟨a, b, rfl, _⟩ := keyOf_pair_inv h; exact ⟨⟨a, b⟩, rfl⟩) (fun v _ _ => ⟨v, rfl⟩) (S'.H + 3) (Q + 1) nn S'.Di left cnt rfl hrg ?_ ?_)
    · intro _ _
      clear hrg
      obtain ⟨eL, m2, i2, a2, q2, b2⟩ := REL.out
      obtain ⟨aa, cap, hv, hrow⟩ := m2.slice
      rw [eL] at hv
      have c0 : wr.cell? ⟨S'.H + 5, 0, none⟩ = some (.slice aa S.L.length cap) := by rw [← hv]; exact m2.c 0
      have hz2 := m2.lt
      obtain ⟨C, hC⟩ : ∃ C, C = S.L.length := ⟨_, rfl⟩
      rw [← hC] at c0 hv hL
      have HV : Hid (S'.v = .slice aa C cap ∧ C = S.L.length) := ⟨hv, hC⟩
      clear hv hC hrow a2 q2 b2 m2 i2 eL
      go_upto_region 6 with fail
      obtain ⟨w3, hw3⟩ : ∃ W, W = wr.alloc (.cells #[.int .i64 C, .int .i64 0, .int .i64 0, .int .i64 0, .int .i64 0] 35) := ⟨_, rfl⟩
      rw [← hw3]
      have k3 : Kept [] wr w3 := by rw [hw3]; exact (Kept.refl _ _).alloc _
      have d3 : w3.heap[wr.heap.size]? = some (.cells #[.int .i64 C, .int .i64 0, .int .i64 0, .int .i64 0, .int .i64 0] 35 (0, 0)) := by rw [hw3]; exact heap_alloc_new _ _
      clear hw3 c0
      have R3 : Hid (Rep0 T M S B Q D w w3 S') := by
        obtain ⟨eL, mm, ii, aa, qq, bb⟩ := REL.out
        exact ⟨eL, mm.kept k3, ii, k3.owns aa (by simp), (k3.block Q (Array.getElem?_eq_some_iff.1 qq).1 (by simp)).trans qq, bb.chain k3 (by simp)⟩
      have hBl : B < wr.heap.size := REL.out.2.2.2.1.lt
      have hQl : Q < wr.heap.size := (Array.getElem?_eq_some_iff.1 REL.out.2.2.2.2.1).1
      have HG : Hid (∀ g, S'.v.ownBlock = some g → g < wr.heap.size) := fun g hg => (REL.out.2.1.own hg).2
      obtain ⟨Dq, hDq⟩ : ∃ Dq, Dq = wr.heap.size := ⟨_, rfl⟩
      rw [← hDq] at d3 hBl hQl HG hz2 ⊢
      have hD3 : Dq < w3.heap.size := (Array.getElem?_eq_some_iff.1 d3).1
      have P0 : Hid (Rep2 C K 0 Dq al S.L w3 w3) := ⟨Nat.zero_le _, Kept.refl _ _, by simpa [pairsOf] using d3⟩
      have c03 : w3.cell? ⟨S'.H + 5, 0, none⟩ = some (.slice aa C cap) := by rw [← HV.out.1]; exact R3.out.2.1.c 0
      have HROW : Hid (∀ j, j < C → ∃ g x i, (∀ w', (Instr.indexAt 79 (.slice aa C cap) (.int .i64 (j : Int))).run Try.prog w' = .ok (.pointer (some ⟨g, j * 2, none⟩)) w') ∧ g < Dq ∧ w3.cell? ⟨g, j * 2, none⟩ = some (.int .i64 x) ∧ w3.cell? ⟨g, j * 2 + 1, none⟩ = some (.string (nid i)) ∧ i < 8 ∧
          pairsOf K al (S.L.take (j + 1)) = pairsOf K al (S.L.take j) + (K - (if al i then 1 else 0))) := by
        intro j hj
        have eL := REL.out.1
        obtain ⟨aa', cap', hv', hrow⟩ := REL.out.2.1.slice
        have hC := HV.out.2
        have hjS : j < S.L.length := by omega
        have hjS' : j < S'.L.length := by rw [eL]; exact hjS
        rw [HV.out.1] at hv'
        injection hv' with e1 e2 e3
        subst e1
        subst e3
        obtain ⟨g, h1, h2, h3, h4, h5⟩ := hrow j hjS'
        rw [← e2] at h1
        have hge : (S'.L[j]'hjS') = (S.L[j]'hjS) := by simp only [eL]
        rw [hge] at h4 h5
        obtain ⟨_, _, sn, dn, ds, dm, Dt⟩ := REL.out.2.2.1
        refine ⟨g, (S.L[j]'hjS).1, (S.L[j]'hjS).2, h1, by omega, (k3.cell (by exact h3) (by simp)).trans h4, (k3.cell (by exact h3) (by simp)).trans h5, ?_, pairsOf_take K al S.L hjS⟩
        exact (Dt.lok _ (by rw [eL]; exact List.getElem_mem hjS)).2.2
      clear hDq k3 d3 REL
      go_wp2
      clear c03
      go_loopw [38] (fun i wx => ∃ k : Nat, i = .int .i64 k ∧ Rep2 C K k Dq al S.L w3 wx) (fun i _ => C - (intOf i).toNat)
      case atStart => exact ⟨0, rfl, P0.out⟩
      case round =>
        clear P0
        obtain ⟨k, rfl, hk, kx, dx⟩ := hrel
        by_cases hkC : k < C
        · obtain ⟨g, x, i, hix, hgD, hg1, hg2, hi, hpair⟩ := HROW.out k hkC
          have g1 : wr.cell? ⟨g, k * 2, none⟩ = some (.int .i64 x) := (kx.cell (by show g < _; omega) (by simp; omega)).trans hg1
          have g2 : wr.cell? ⟨g, k * 2 + 1, none⟩ = some (.string (nid i)) := (kx.cell (by show g < _; omega) (by simp; omega)).trans hg2
          have KX : Hid (Kept [Dq] w3 wr) := kx
          obtain ⟨pp, hpp⟩ : ∃ pp, pp = pairsOf K al (S.L.take k) := ⟨_, rfl⟩
          rw [← hpp] at dx hpair
          have HP : Hid (pairsOf K al (S.L.take (k + 1)) = pp + (K - (if al i then 1 else 0))) := hpair
          have hp1 : pp ≤ 40000 := by
            have h1 := (pairsOf_le K al (S.L.take k)).1
            have h2 : (S.L.take k).length ≤ 4096 := by simp; omega
            have h3 := alive_le8 D0.out
            have h4 : (S.L.take k).length * K ≤ 4096 * 8 := Nat.mul_le_mul h2 h3
            omega
          have hK8 := alive_le8 D0.out
          have DX : Hid (wr.heap[Dq]? = some (.cells #[.int .i64 C, .int .i64 pp, .int .i64 0, .int .i64 0, .int .i64 0] 35 (0, 0))) := dx
          have hxz : Dq < wr.heap.size := (Array.getElem?_eq_some_iff.1 dx).1
          have AX : Hid (wr.ownsMap Try.prog 9 (plainElem Try.prog 4) B 8 D) := kx.owns R3.out.2.2.2.1 (by simp; omega)
          clear hpp hpair hg1 hg2 kx dx
          go_upto_region 9 with fail
          obtain ⟨w5, hw5⟩ : ∃ W, W = wr.alloc (.cells #[.int .i64 x, .string (nid i)] 93) := ⟨_, rfl⟩
          rw [← hw5]
          have k5 : Kept [] wr w5 := by rw [hw5]; exact (Kept.refl _ _).alloc _
          have p5 : w5.heap[wr.heap.size]? = some (.cells #[.int .i64 x, .string (nid i)] 93 (0, 0)) := by rw [hw5]; exact heap_alloc_new _ _
          clear hw5 hix g1 g2
          have d5 := (k5.block Dq hxz (by simp)).trans DX.out
          have a5 := k5.owns AX.out (by simp)
          obtain ⟨P, hPq⟩ : ∃ P, P = wr.heap.size := ⟨_, rfl⟩
          rw [← hPq] at p5 hxz ⊢
          have K5 : Hid (Kept [Dq] w3 w5) := KX.out.trans (k5.mono (by simp))
          clear hPq k5 KX
          have y1 : w5.cell? ⟨Dq, 1, none⟩ = some (.int .i64 pp) := cell_of_blk d5 1
          have f1 : w5.frozen? ⟨Dq, 1, none⟩ = false := by simp [World.frozen?, d5]
          have z1 : w5.cell? ⟨P, 1, none⟩ = some (.string (nid i)) := cell_of_blk p5 1
          have hsz : Maps.size D = K := D0.out.size_
          have hl := look30 (a5.setCell (a := ⟨Dq, 1, none⟩) (by show B ≠ Dq; omega) (.int .i64 ((pp : Int) + K))) (keyOf_nid i) (D0.out.at_ i hi)
          have D5 : Hid (w5.heap[Dq]? = some (.cells #[.int .i64 C, .int .i64 pp, .int .i64 0, .int .i64 0, .int .i64 0] 35 (0, 0))) := d5
          clear d5 p5
          cases hal : al i with
          | false =>
            rw [hal] at hl
            have P5 : Hid (Rep2 C K (k + 1) Dq al S.L w3 (w5.setCell ⟨Dq, 1, none⟩ (.int .i64 ((pp : Int) + K)))) := by
              refine ⟨hkC, K5.out.setCell (.inl (by simp)) _, ?_⟩
              rw [HP.out, hal]
              exact blk_setCell D5.out 1 _
            go_wp2_with (at_len; refine wpList_len_own _ rfl _ 30 rfl 9 4 Try.underlying30 _ B 8 D rfl a5 ?_)
            go_roundw
            case rel => exact ⟨k + 1, rfl, P5.out⟩
            case measure => simp [intOf]; omega
          | true =>
            rw [hal] at hl
            have hK1 := alive_le D0.out hi hal
            have P5 : Hid (Rep2 C K (k + 1) Dq al S.L w3 ((w5.setCell ⟨Dq, 1, none⟩ (.int .i64 ((pp : Int) + K))).setCell ⟨Dq, 1, none⟩ (.int .i64 ((pp : Int) + K - 1)))) := by
              refine ⟨hkC, (K5.out.setCell (.inl (by simp)) _).setCell (.inl (by simp)) _, ?_⟩
              rw [HP.out, hal]
              have := blk_setCell (blk_setCell D5.out 1 (.int .i64 ((pp : Int) + K))) 1 (.int .i64 ((pp : Int) + K - 1))
              rw [show ((pp + (K - if true = true then 1 else 0) : Nat) : Int) = (pp : Int) + K - 1 by simp; omega]
              exact this
            go_wp2_with (at_len; refine wpList_len_own _ rfl _ 30 rfl 9 4 Try.underlying30 _ B 8 D rfl a5 ?_)
            go_roundw
            case rel => exact ⟨k + 1, rfl, P5.out⟩
            case measure => simp [intOf]; omega
        · have hkk : k = C := by omega
          subst hkk
          have hpp : pairsOf K al (S.L.take k) = pairsOf K al S.L := by rw [HV.out.2, List.take_length]
          rw [hpp] at dx
          have R4 : Hid (Rep0 T M S B Q D w wr S') := R3.out.far kx (by
            intro l hl
            simp at hl
            subst hl
            refine ⟨by omega, fun e => ?_, by omega, by omega, by omega⟩
            have := HG.out _ e
            omega)
          have DX : Hid (wr.heap[Dq]? = some (.cells #[.int .i64 k, .int .i64 (pairsOf K al S.L), .int .i64 0, .int .i64 0, .int .i64 0] 35 (0, 0))) := dx
          have hDl : Dq < wr.heap.size := (Array.getElem?_eq_some_iff.1 dx).1
          clear kx dx HROW R3 hkC
          go_upto_region 14 with fail
          obtain ⟨w6, hw6⟩ : ∃ W, W = wr.alloc (.cells #[.int .i64 0, .int .i64 0, .int .i64 0] 81) := ⟨_, rfl⟩
          rw [← hw6]
          have k6 : Kept [] wr w6 := by rw [hw6]; exact (Kept.refl _ _).alloc _
          have l6 : w6.heap[wr.heap.size]? = some (.cells #[.int .i64 0, .int .i64 0, .int .i64 0] 81 (0, 0)) := by rw [hw6]; exact heap_alloc_new _ _
          have hs6 : w6.heap.size = wr.heap.size + 1 := by rw [hw6]; simp
          clear hw6
          have R6 : Hid (Rep0 T M S B Q D w w6 S') := R4.out.far k6 (by simp)
          have d6 := (k6.block Dq hDl (by simp)).trans DX.out
          obtain ⟨Lq, hLq⟩ : ∃ Lq, Lq = wr.heap.size := ⟨_, rfl⟩
          rw [← hLq] at l6 hs6 hDl ⊢
          have c5 : w6.cell? ⟨S'.H + 5, 5, none⟩ = some (.map (some (S'.H + 4))) := R6.out.2.1.c 5
          have me := R6.out.2.1.e
          clear k6 R4 DX hLq
          go_wp2_with (at_range; refine wpList_range_own _ rfl _ 78 rfl 9 81 law9 Try.underlying78 _ (S'.H + 4) T S'.De rfl me ?_; intro w7 hrg7 hg7 hs7)
          go_frame
          rw [hs6] at hrg7 ⊢
          have k7 : Kept [] w6 w7 := (Kept.refl _ _).grown hg7 (by intro k hk; cases hk)
          have R7 : Hid (Rep0 T M S B Q D w w7 S') := R6.out.far k7 (by simp)
          have d7 : Hid (w7.heap[Dq]? = some (.cells #[.int .i64 k, .int .i64 (pairsOf K al S.L), .int .i64 0, .int .i64 0, .int .i64 0] 35 (0, 0))) := (k7.block Dq (by omega) (by simp)).trans d6
          have l7 := (k7.block Lq (by omega) (by simp)).trans l6
          obtain ⟨_, _, sn, dn, ds, dm, Dt⟩ := R7.out.2.2.1
          have DT : Hid (Det S'.L S'.Dd S'.Ds S'.De sn dn ds dm) := Dt
          obtain ⟨Tot, hTot⟩ : ∃ Tot, Tot = sumTo (fun i => if (al i && Maps.has S'.De (nk i)) = true then dn i else 0) 8 := ⟨_, rfl⟩
          have P7 : Hid (Rep3 T S' (Lq + 1) Lq Tot al dn w7 w7 (Maps.has S'.De) (Maps.size S'.De)) := ⟨0, 0, 0, l7, Sound.zero, by rw [hTot]; omega, hrg7, Kept.refl _ _⟩
          have TT : Hid (Tot ≤ pairsOf K al S.L) := by
            rw [hTot, D0.out.sum_]
            refine Nat.le_trans (sumTo_le fun o ho => ?_) (pairs_bound al S.L (fun x hx => (Dt.lok x (by rw [R7.out.1]; exact hx)).2.2))
            have := Dt.few ho
            rw [R7.out.1] at this
            cases al o <;> simp
            split
            · exact this
            · exact Nat.zero_le _
          have hz7 : w7.heap.size = Lq + 2 := by omega
          clear hTot Dt l7 l6 d6 k7 hrg7 hg7 hs7 me c5 hs6 R6
          go_loopw [] (fun wz => ∃ left cnt, Rep3 T S' (Lq + 1) Lq Tot al dn w7 wz left cnt) (fun wz => wz.rangeLeft (S'.H + 4) (Lq + 1))
          case atStart => exact ⟨_, _, P7.out⟩
          case round =>
            clear P7
            obtain ⟨left, cnt, n, sm, mx, hl8, hsd, hsum, hrg, k8⟩ := hrel
            have HL8 : Hid (wr.heap[Lq]? = some (.cells #[.int .i64 n, .int .i64 sm, .int .i64 mx] 81 (0, 0))) := hl8
            have HS8 : Hid (Sound n sm mx) := hsd
            have HU8 : Hid (n + sumTo (fun i => if (al i && left (nk i)) = true then dn i else 0) 8 = Tot) := hsum
            have K8 : Hid (Kept [Lq, Lq + 1] w7 wr) := k8
            have hz8 : Lq + 2 ≤ wr.heap.size := by have := k8.size; omega
            clear hl8 hsd hsum k8
            go_wp2_with (at_next; refine wpList_next_ranges _ rfl _ rfl 9 law9 _ Value.string asIs (fun _ _ h => by obtain ⟨a, rfl, _⟩ := keyOf_str_inv h; exact ⟨a, rfl⟩) (fun v _ _ => ⟨v, rfl⟩) (S'.H + 4) (Lq + 1) T S'.De left cnt rfl hrg ?_ ?_)
            · intro _ hl0
              have HN : Hid (n = Tot) := by
                have h1 := HU8.out
                rw [sumTo_congr (g := fun _ => 0) (fun i _ => by rw [hl0]; simp), sumTo_const] at h1
                show n = Tot
                simpa using h1
              clear hrg hl0
              have R8 : Hid (Rep0 T M S B Q D w wr S') := R7.out.far K8.out (by
                intro l hl
                simp at hl
                refine ⟨by omega, fun e => ?_, by omega, by omega, by omega⟩
                have := HG.out _ e
                omega)
              have d8 : wr.heap[Dq]? = some (.cells #[.int .i64 k, .int .i64 (pairsOf K al S.L), .int .i64 0, .int .i64 0, .int .i64 0] 35 (0, 0)) := (K8.out.block Dq (by omega) (by simp; omega)).trans d7.out
              obtain ⟨PP, hPP⟩ : ∃ PP, PP = pairsOf K al S.L := ⟨_, rfl⟩
              rw [← hPP] at d8
              have HPP : Hid (PP = pairsOf K al S.L) := hPP
              have hb1 : PP ≤ 40000 ∧ n ≤ PP := by
                have h1 := TT.out
                have h2 := (pairsOf_le K al S.L).1
                have h3 := alive_le8 D0.out
                have h4 : S.L.length * K ≤ 4096 * 8 := Nat.mul_le_mul (by have := HV.out.2; omega) h3
                have h5 := HN.out
                omega
              have y1 : wr.cell? ⟨Dq, 1, none⟩ = some (.int .i64 PP) := cell_of_blk d8 1
              have y2 : wr.cell? ⟨Dq, 2, none⟩ = some (.int .i64 0) := cell_of_blk d8 2
              have f2 : wr.frozen? ⟨Dq, 2, none⟩ = false := by simp [World.frozen?, d8]
              have x0 : wr.cell? ⟨Lq, 0, none⟩ = some (.int .i64 n) := cell_of_blk HL8.out 0
              have D8 : Hid (wr.heap[Dq]? = some (.cells #[.int .i64 k, .int .i64 PP, .int .i64 0, .int .i64 0, .int .i64 0] 35 (0, 0))) := d8
              clear hPP d8 R7 d7 K8 HU8 DT
              go_upto_region 20 with fail
              obtain ⟨w12, hw12⟩ : ∃ W, W = wr.setCell ⟨Dq, 2, none⟩ (.int .i64 ((PP : Int) - n)) := ⟨_, rfl⟩
              rw [← hw12]
              have k12 : Kept [Dq] wr w12 := by rw [hw12]; exact (Kept.refl _ _).setCell (.inl (by simp)) _
              have d12 : w12.heap[Dq]? = some (.cells #[.int .i64 k, .int .i64 PP, .int .i64 ((PP : Int) - n), .int .i64 0, .int .i64 0] 35 (0, 0)) := by rw [hw12]; exact blk_setCell D8.out 2 _
              clear hw12 y1 y2 f2 x0
              have l12 := (k12.block Lq (Array.getElem?_eq_some_iff.1 HL8.out).1 (by simp; omega)).trans HL8.out
              have R12 : Hid (Rep0 T M S B Q D w w12 S') := R8.out.far k12 (by
                intro l hl
                simp at hl
                subst hl
                refine ⟨by omega, fun e => ?_, by omega, by omega, by omega⟩
                have := HG.out _ e
                omega)
              have x0 : w12.cell? ⟨Lq, 0, none⟩ = some (.int .i64 n) := cell_of_blk l12 0
              have x1 : w12.cell? ⟨Lq, 1, none⟩ = some (.int .i64 sm) := cell_of_blk l12 1
              have x2 : w12.cell? ⟨Lq, 2, none⟩ = some (.int .i64 mx) := cell_of_blk l12 2
              have y3 : w12.cell? ⟨Dq, 3, none⟩ = some (.int .i64 0) := cell_of_blk d12 3
              have y4 : w12.cell? ⟨Dq, 4, none⟩ = some (.int .i64 0) := cell_of_blk d12 4
              have fz : ∀ j, w12.frozen? ⟨Dq, j, none⟩ = false := by intro j; simp [World.frozen?, d12]
              have D12 : Hid (w12.heap[Dq]? = some (.cells #[.int .i64 k, .int .i64 PP, .int .i64 ((PP : Int) - n), .int .i64 0, .int .i64 0] 35 (0, 0))) := d12
              have hDz : Dq < w12.heap.size := (Array.getElem?_eq_some_iff.1 d12).1
              have hLz : Lq < w12.heap.size := (Array.getElem?_eq_some_iff.1 l12).1
              have hb2 : -4611686018427387904 ≤ sm ∧ sm ≤ 4611686018427387903 := by
                have h1 := HS8.out.up
                have h2 := HS8.out.2.2.2.1
                omega
              obtain ⟨mv, hmv⟩ : ∃ mv : Int, mv = if (n : Int) = 0 then 0 else sm.tdiv n := ⟨_, rfl⟩
              have HC : ∀ u, Calls Try.prog 27 #[.agg #[.int .i64 n, .int .i64 sm, .int .i64 mx]] u fun e w' => e = .returned (.int .i64 mv) ∧ w' = u.alloc (.cells #[.int .i64 n, .int .i64 sm, .int .i64 mx] 81) := by
                intro u
                rw [hmv]
                exact mean_any n sm mx u (by omega) hb2
              have HMV : Hid (mv = if (n : Int) = 0 then 0 else sm.tdiv n) := hmv
              clear hmv k12 d12 l12 HL8 R8 D8
              go_cut [] from 78 to 83 (fun wx => Rep4 Dq k PP n mv mx w12 wx)
              case first =>
                go_region_with (first | (go_at_call 27; refine (HC _).mono ?_; rintro e w' ⟨rfl, rfl⟩))
                all_goals (go_wp2_with fail; go_meet; exact ⟨((((Kept.refl _ _).setCell (.inl (by simp)) _).setCell (.inl (by simp)) _).alloc _).drew, (Below.heap_alloc _ _ Dq (by simpa using hDz)).trans (blk_setCell (blk_setCell D12.out 3 _) 4 _)⟩)
              case rest =>
                obtain ⟨kc, dc⟩ := hcut
                have RC : Hid (Rep0 T M S B Q D w wc S') := R12.out.far kc (by
                  intro l hl
                  simp at hl
                  subst hl
                  refine ⟨by omega, fun e => ?_, by omega, by omega, by omega⟩
                  have := HG.out _ e
                  omega)
                have y0 : wc.cell? ⟨Dq, 0, none⟩ = some (.int .i64 k) := cell_of_blk dc 0
                have y1 : wc.cell? ⟨Dq, 1, none⟩ = some (.int .i64 PP) := cell_of_blk dc 1
                have y2 : wc.cell? ⟨Dq, 2, none⟩ = some (.int .i64 ((PP : Int) - n)) := cell_of_blk dc 2
                have y3 : wc.cell? ⟨Dq, 3, none⟩ = some (.int .i64 mv) := cell_of_blk dc 3
                have y4 : wc.cell? ⟨Dq, 4, none⟩ = some (.int .i64 mx) := cell_of_blk dc 4
                have hDz' : Dq < wc.heap.size := (Array.getElem?_eq_some_iff.1 dc).1
                clear kc dc x0 x1 x2 fz HC D12 R12 hDz hLz
                obtain ⟨_, mc, ic, _, qc, bc⟩ := RC.out
                have c6 : wc.cell? ⟨S'.H + 5, 6, none⟩ = some (.int .i64 S'.mn) := mc.c 6
                have c7 : wc.cell? ⟨S'.H + 5, 7, none⟩ = some (.int .i64 S'.ms) := mc.c 7
                have c8 : wc.cell? ⟨S'.H + 5, 8, none⟩ = some (.int .i64 S'.mm) := mc.c 8
                have hcl := mc.lt
                have hQz : Q < wc.heap.size := (Array.getElem?_eq_some_iff.1 qc).1
                have fz : ∀ j, wc.frozen? ⟨Q, j, none⟩ = false := by intro j; simp [World.frozen?, qc]
                have q0 : wc.cell? ⟨Q, 0, none⟩ = some (.int .i64 0) := cell_of_blk qc 0
                have q1 : wc.cell? ⟨Q, 1, none⟩ = some (.int .i64 0) := cell_of_blk qc 1
                have q2 : wc.cell? ⟨Q, 2, none⟩ = some (.int .i64 0) := cell_of_blk qc 2
                have q3 : wc.cell? ⟨Q, 3, none⟩ = some (.int .i64 0) := cell_of_blk qc 3
                have q4 : wc.cell? ⟨Q, 4, none⟩ = some (.int .i64 0) := cell_of_blk qc 4
                have q5 : wc.cell? ⟨Q, 5, none⟩ = some (.int .i64 0) := cell_of_blk qc 5
                have q6 : wc.cell? ⟨Q, 6, none⟩ = some (.int .i64 0) := cell_of_blk qc 6
                have q7 : wc.cell? ⟨Q, 7, none⟩ = some (.int .i64 0) := cell_of_blk qc 7
                have hFn := ic.1
                have hb3 : (0 : Int) ≤ S'.mn ∧ (S'.mn : Int) ≤ 1000000 := by have := hFn.cnt; omega
                have hb4 : -4611686018427387904 ≤ S'.ms ∧ S'.ms ≤ 4611686018427387903 := by
                  have h1 := hFn.snd.up
                  have h2 := hFn.snd.2.2.2.1
                  omega
                obtain ⟨mv2, hmv2⟩ : ∃ mv2 : Int, mv2 = if (S'.mn : Int) = 0 then 0 else S'.ms.tdiv S'.mn := ⟨_, rfl⟩
                have HC : ∀ u, Calls Try.prog 27 #[.agg #[.int .i64 S'.mn, .int .i64 S'.ms, .int .i64 S'.mm]] u fun e w' => e = .returned (.int .i64 mv2) ∧ w' = u.alloc (.cells #[.int .i64 S'.mn, .int .i64 S'.ms, .int .i64 S'.mm] 81) := by
                  intro u
                  rw [hmv2]
                  exact mean_any S'.mn S'.ms S'.mm u hb3 hb4
                have HF : Hid (mv2 = (if (S'.mn : Int) = 0 then 0 else S'.ms.tdiv S'.mn) ∧ Fine S'.Di S'.mn S'.ms S'.mm M) := ⟨hmv2, hFn⟩
                have QC : Hid (wc.heap[Q]? = some (.cells zeros8 39 (0, 0)) ∧ Kept [S.H + 5, S.H + 3] w wc) := ⟨qc, bc⟩
                clear hmv2 hFn mc ic qc bc hb3 hb4 hb2
                have hH5 : S'.H + 5 < wc.heap.size := by omega
                have n1 : Q ≠ Dq := by omega
                have n2 : Q ≠ S'.H + 5 := by omega
                have hS : ∀ x, Kept [Q] wc x → (x.cell? ⟨Dq, 0, none⟩ = some (.int .i64 k) ∧ x.cell? ⟨Dq, 1, none⟩ = some (.int .i64 PP) ∧ x.cell? ⟨Dq, 2, none⟩ = some (.int .i64 ((PP : Int) - n)) ∧ x.cell? ⟨Dq, 3, none⟩ = some (.int .i64 mv) ∧ x.cell? ⟨Dq, 4, none⟩ = some (.int .i64 mx) ∧ x.cell? ⟨S'.H + 5, 6, none⟩ = some (.int .i64 S'.mn) ∧ x.cell? ⟨S'.H + 5, 7, none⟩ = some (.int .i64 S'.ms) ∧ x.cell? ⟨S'.H + 5, 8, none⟩ = some (.int .i64 S'.mm)) := by
                  intro x hx
                  have e1 : ∀ j, x.cell? ⟨Dq, j, none⟩ = wc.cell? ⟨Dq, j, none⟩ := fun j => hx.cell hDz' (by intro l hl; simp at hl; show Dq ≠ l; omega)
                  have e2 : ∀ j, x.cell? ⟨S'.H + 5, j, none⟩ = wc.cell? ⟨S'.H + 5, j, none⟩ := fun j => hx.cell (by show S'.H + 5 < _; omega) (by intro l hl; simp at hl; show S'.H + 5 ≠ l; omega)
                  rw [e1, e1, e1, e1, e1, e2, e2, e2]
                  exact ⟨y0, y1, y2, y3, y4, c6, c7, c8⟩
                go_upto_region 21 with fail
                go_cut [] from 84 to 101 (fun wx => Rep5 Q k PP n mv mx S' mv2 wc wx)
                case first =>
                  go_region_held3 (fun x => x.cell? ⟨Dq, 0, none⟩ = some (.int .i64 k) ∧ x.cell? ⟨Dq, 1, none⟩ = some (.int .i64 PP) ∧ x.cell? ⟨Dq, 2, none⟩ = some (.int .i64 ((PP : Int) - n)) ∧ x.cell? ⟨Dq, 3, none⟩ = some (.int .i64 mv) ∧ x.cell? ⟨Dq, 4, none⟩ = some (.int .i64 mx) ∧ x.cell? ⟨S'.H + 5, 6, none⟩ = some (.int .i64 S'.mn) ∧ x.cell? ⟨S'.H + 5, 7, none⟩ = some (.int .i64 S'.ms) ∧ x.cell? ⟨S'.H + 5, 8, none⟩ = some (.int .i64 S'.mm))
                    ((refine hS _ ?_; (repeat (first | (with_reducible exact Kept.refl _ _) | (with_reducible apply Kept.drew) | (with_reducible apply Kept.alloc) | (with_reducible refine Kept.setCell ?_ ?_ _; rotate_left; exact Or.inl (by simp))))))
                    (first | (go_at_call 27; refine (HC _).mono ?_; rintro e w' ⟨rfl, rfl⟩))
                  go_wp2_with fail
                  go_meet
                  exact rep5_mk QC.out.1 _ _ _ _ _ _ _ _ _
                case rest =>
                  have CUT : Hid (Rep5 Q k PP n mv mx S' mv2 _ wc) := hcut
                  have z0 : wc.cell? ⟨Q, 0, none⟩ = some (.int .i64 k) := cell_of_blk hcut.2 0
                  have z1 : wc.cell? ⟨Q, 1, none⟩ = some (.int .i64 PP) := cell_of_blk hcut.2 1
                  have z2 : wc.cell? ⟨Q, 2, none⟩ = some (.int .i64 ((PP : Int) - n)) := cell_of_blk hcut.2 2
                  have z3 : wc.cell? ⟨Q, 3, none⟩ = some (.int .i64 mv) := cell_of_blk hcut.2 3
                  have z4 : wc.cell? ⟨Q, 4, none⟩ = some (.int .i64 mx) := cell_of_blk hcut.2 4
                  have z5 : wc.cell? ⟨Q, 5, none⟩ = some (.int .i64 S'.mn) := cell_of_blk hcut.2 5
                  have z6 : wc.cell? ⟨Q, 6, none⟩ = some (.int .i64 mv2) := cell_of_blk hcut.2 6
                  have z7 : wc.cell? ⟨Q, 7, none⟩ = some (.int .i64 S'.mm) := cell_of_blk hcut.2 7
                  have BE : Hid (Kept [S.H + 5, S.H + 3] w wc) := QC.out.2.chain hcut.1 (by intro l hl; simp at hl; exact .inr (by omega))
                  clear hcut hS HC y0 y1 y2 y3 y4 c6 c7 c8 fz q0 q1 q2 q3 q4 q5 q6 q7
                  go_wp2
                  refine bodyPost_ret (v := .agg #[.int .i64 k, .int .i64 PP, .int .i64 ((PP : Int) - n), .int .i64 mv, .int .i64 mx, .int .i64 S'.mn, .int .i64 mv2, .int .i64 S'.mm]) (by simp [results, Try.results20, go_sem, z0, z1, z2, z3, z4, z5, z6, z7]) rfl ?_
                  refine ⟨⟨PP, (PP : Int) - n, mv, mx, S'.mn, mv2, S'.mm, by rw [HV.out.2], ?_⟩, BE.out⟩
                  have h1 := pairsOf_le K al S.L
                  rw [← HPP.out] at h1
                  have h2 := HS8.out.mean
                  rw [← HMV.out] at h2
                  have h3 := HF.out.2.snd.mean
                  rw [← HF.out.1] at h3
                  have h4 := HF.out.2.cnt
                  refine ⟨by have := h1.1; exact_mod_cast this, h1.2, by omega, by omega, HS8.out.1, h2, HF.out.2.snd.1, h3, ?_, by omega, by omega, ?_⟩
                  · intro he
                    have := HS8.out.none (by omega)
                    rw [← HMV.out] at this
                    exact this
                  · intro he
                    have := HF.out.2.snd.none (by omega)
                    rw [← HF.out.1] at this
                    exact this
            · intro p c kl y ps w9 cnt1 hkx hlx hv hatx hrg1 hlt1 hg1 hs9 hen
              obtain ⟨o, ho, rfl⟩ := DT.out.keys kl (has_true_of_atKey hatx)
              have hp : p = nid o := by
                have := law9.inj hkx (keyOf_nid o)
                injection this
              subst hp
              obtain ⟨n', s', m', hc, hy⟩ := lenElem_inv hv
              obtain ⟨e1, e2, e3⟩ : (dn o : Int) = n' ∧ ds o = s' ∧ dm o = m' := by
                have h1 := hatx (lenD 0 0 0)
                rw [(DT.out.det o ho).1] at h1
                exact lenD_inj (h1.trans (Prod.mk.inj hy).1)
              have hc' : c = .agg #[.int .i64 n', .int .i64 s', .int .i64 m'] := hc
              subst hc'
              have hen' : (Instr.entry (.pointer (some ⟨Lq + 1, 0, none⟩))).run Try.prog w9 = .ok (.tuple #[.string (nid o), .agg #[.int .i64 n', .int .i64 s', .int .i64 m']]) w9 := hen
              have SD : Hid (Sound (dn o) s' m') := by rw [← e2, ← e3]; exact (DT.out.det o ho).2.1
              have E1 : Hid ((dn o : Int) = n') := e1
              have ST : Hid (n + (sumTo (fun i => if (al i && (left (nk i) && !(nk i).sameKey (nk o))) = true then dn i else 0) 8 + (if al o = true then dn o else 0)) = Tot) := by
                rw [← sum_strike ho hlx]; exact HU8.out
              have k9 : Kept [Lq + 1] wr w9 := (Kept.refl _ _).grown hg1 (by intro k hk; cases hk; exact .inl (by simp))
              have HQ : Hid (wr.rangeLeft (S'.H + 4) (Lq + 1) = cnt) := hrg.left_eq
              have HR9 : Hid (w9.ranges Try.prog 9 lenElem (S'.H + 4) (Lq + 1) T S'.De (fun x => left x && !x.sameKey (nk o)) cnt1) := hrg1
              have HL9 : Hid (w9.heap[Lq]? = some (.cells #[.int .i64 n, .int .i64 sm, .int .i64 mx] 81 (0, 0))) := (k9.block Lq (by omega) (by simp)).trans HL8.out
              have K9 : Hid (Kept [Lq, Lq + 1] w7 w9) := K8.out.trans (k9.mono (by simp))
              clear hkx hlx hv hatx hrg1 hg1 hs9 hen hc hy e1 e2 e3 hrg k9 HL8 HU8 K8
              go_upto_region 17 with fail
              obtain ⟨w10, hw10⟩ : ∃ W, W = w9.alloc (.cells #[.int .i64 n', .int .i64 s', .int .i64 m'] 81) := ⟨_, rfl⟩
              rw [← hw10]
              have k10 : Kept [] w9 w10 := by rw [hw10]; exact (Kept.refl _ _).alloc _
              have p10 : w10.heap[w9.heap.size]? = some (.cells #[.int .i64 n', .int .i64 s', .int .i64 m'] 81 (0, 0)) := by rw [hw10]; exact heap_alloc_new _ _
              clear hw10 hen'
              have l10 := (k10.block Lq (Array.getElem?_eq_some_iff.1 HL9.out).1 (by simp)).trans HL9.out
              have rg10 := k10.ranges HR9.out (by simp) (by simp)
              have K10 := K9.out.trans (k10.mono (by simp))
              have a10 : w10.ownsMap Try.prog 9 (plainElem Try.prog 4) B 8 D := K10.owns R7.out.2.2.2.1 (by simp; omega)
              have hl := look30 a10 (keyOf_nid o) (D0.out.at_ o ho)
              obtain ⟨P, hPq⟩ : ∃ P, P = w9.heap.size := ⟨_, rfl⟩
              have hPz : Lq + 2 ≤ P := by have := K9.out.size; omega
              rw [← hPq] at p10 ⊢
              have z0 : w10.cell? ⟨P, 0, none⟩ = some (.int .i64 n') := cell_of_blk p10 0
              have z1 : w10.cell? ⟨P, 1, none⟩ = some (.int .i64 s') := cell_of_blk p10 1
              have z2 : w10.cell? ⟨P, 2, none⟩ = some (.int .i64 m') := cell_of_blk p10 2
              have hb1 : (n : Int) ≤ 1000000 ∧ 0 ≤ n' ∧ n' ≤ 1000000 := by
                have h1 := TT.out
                have h2 := (pairsOf_le K al S.L).1
                have h3 := alive_le8 D0.out
                have h4 : S.L.length * K ≤ 4096 * 8 := Nat.mul_le_mul (by have := HV.out.2; omega) h3
                have h5 := ST.out
                have h6 := E1.out
                have h7 := DT.out.bound ho
                rw [R7.out.1] at h7
                have := HV.out.2
                omega
              have hb2 : -4611686018427387904 ≤ sm ∧ sm ≤ 4611686018427387903 := by
                have h1 := HS8.out.up
                have h2 := HS8.out.2.2.2.1
                omega
              have hb3 : -4611686018427387904 ≤ s' ∧ s' ≤ 4611686018427387903 := by
                have h1 := SD.out.up
                have h2 := SD.out.2.2.2.1
                have := E1.out
                omega
              have HC := merge_any Lq n sm mx n' s' m' w10 l10 (by omega) (by omega) hb2 hb3
              have L10 : Hid (w10.heap[Lq]? = some (.cells #[.int .i64 n, .int .i64 sm, .int .i64 mx] 81 (0, 0))) := l10
              have HR10 : Hid (w10.ranges Try.prog 9 lenElem (S'.H + 4) (Lq + 1) T S'.De (fun x => left x && !x.sameKey (nk o)) cnt1) := rg10
              have HK10 : Hid (Kept [Lq, Lq + 1] w7 w10) := K10
              clear hPq k10 p10 l10 rg10 K10 a10 HR9 HL9 K9 hb1 hb2 hb3
              cases hal : al o with
              | false =>
                rw [hal] at hl
                have R10 : Hid (Rep3 T S' (Lq + 1) Lq Tot al dn w7 w10 (fun x => left x && !x.sameKey (nk o)) cnt1) := by
                  have h1 := ST.out
                  rw [hal] at h1
                  exact ⟨n, sm, mx, L10.out, HS8.out, by simpa using h1, HR10.out, HK10.out⟩
                have L11 : Hid (w10.rangeLeft (S'.H + 4) (Lq + 1) = cnt1) := HR10.out.left_eq
                clear HC
                go_wp2
                go_roundw
                case rel => exact ⟨_, _, R10.out⟩
                case measure => rw [HQ.out, L11.out]; omega
              | true =>
                rw [hal] at hl
                go_wp2_with fail
                refine HC.mono ?_
                rintro e w11 ⟨rfl, k11, l11⟩
                have rg11 := k11.ranges HR10.out (by simp; omega) (by simp)
                have R11 : Hid (Rep3 T S' (Lq + 1) Lq Tot al dn w7 w11 (fun x => left x && !x.sameKey (nk o)) cnt1) := by
                  have h1 := ST.out
                  rw [hal] at h1
                  refine ⟨n + dn o, sm + s', max mx m', ?_, HS8.out.merge SD.out, by rw [if_pos rfl] at h1; show n + dn o + sumTo (fun i => if (al i && (left (nk i) && !(nk i).sameKey (nk o))) = true then dn i else 0) 8 = Tot; omega, rg11, HK10.out.trans (k11.mono (by simp))⟩
                  rw [l11, ← E1.out]
                  rfl
                have L11 : Hid (w11.rangeLeft (S'.H + 4) (Lq + 1) = cnt1) := rg11.left_eq
                clear HC k11 l11 rg11 z0 z1 z2 hl
                go_wp2
                go_roundw
                case rel => exact ⟨_, _, R11.out⟩
                case measure => rw [HQ.out, L11.out]; omega
    · intro p c kl y ps w5 cnt1 hkx hlx hv hatx hrg1 hlt1 hg1 hs5 hen
      obtain ⟨a, b, hp, wa, wb, _⟩ := keyOf_pair_inv hkx
      obtain ⟨p1, p2⟩ := p
      obtain ⟨rfl, rfl⟩ : p1 = a ∧ p2 = b := by simpa [mkPair] using hp
      clear hkx hlx hv hatx hp
      have k5 : Kept [Q + 1] wr w5 := (Kept.refl _ _).grown hg1 (by intro k hk; cases hk; exact .inl (by simp))
      have hen' : (Instr.entry (.pointer (some ⟨Q + 1, 0, none⟩))).run Try.prog w5 = .ok (.tuple #[.agg #[.string p1, .string p2], c]) w5 := hen
      have HQ : Hid (wr.rangeLeft (S'.H + 3) (Q + 1) = cnt) := hrg.left_eq
      have hrwr := hrg.lt
      have HR5 : Hid (w5.ranges Try.prog 90 (plainElem Try.prog 33) (S'.H + 3) (Q + 1) nn S'.Di (fun x => left x && !x.sameKey kl) cnt1) := hrg1
      have R5 : Hid (Rep0 T M S B Q D w w5 S') := by
        obtain ⟨eL, mm, ii, aa, qq, bb⟩ := REL.out
        exact ⟨eL, mm.keptIter hrg (by omega) k5, ii, k5.owns aa (by simp; omega), (k5.block Q (by omega) (by simp)).trans qq, bb.chain k5 (by intro l hl; simp at hl; exact .inr (by omega))⟩
      clear hen hrg hrg1 hg1 hs5 k5 REL
      go_upto_region 4 with fail
      obtain ⟨w6, hw6⟩ : ∃ W, W = w5.alloc (.cells #[.string p1, .string p2] 90) := ⟨_, rfl⟩
      rw [← hw6]
      have k6 : Kept [] w5 w6 := by rw [hw6]; exact (Kept.refl _ _).alloc _
      have p6 : w6.heap[w5.heap.size]? = some (.cells #[.string p1, .string p2] 90 (0, 0)) := by rw [hw6]; exact heap_alloc_new _ _
      clear hw6 hen'
      obtain ⟨eL, m5, ii, a5, q5, b5⟩ := R5.out
      have m6 := m5.kept k6
      have rg6 := k6.ranges HR5.out (by simp) (by simp)
      have a6 := k6.owns a5 (by simp)
      have q6 := (k6.block Q (Array.getElem?_eq_some_iff.1 q5).1 (by simp)).trans q5
      have b6 := b5.chain k6 (by simp)
      obtain ⟨P, hP⟩ : ∃ P, P = w5.heap.size := ⟨_, rfl⟩
      rw [← hP] at p6 ⊢
      have pc0 : w6.cell? ⟨P, 0, none⟩ = some (.string p1) := cell_of_blk p6 0
      have pc1 : w6.cell? ⟨P, 1, none⟩ = some (.string p2) := cell_of_blk p6 1
      have HC := end_mem T M S' p1 p2 un w6 m6 ii.1 (by omega) wa wb ba
      have H6 : Hid (S'.L = S.L ∧ Mem T w6 S' ∧ Inv S' M ∧ w6.ownsMap Try.prog 9 (plainElem Try.prog 4) B 8 D ∧ w6.heap[Q]? = some (.cells zeros8 39 (0, 0)) ∧ Kept [S.H + 5, S.H + 3] w w6) := ⟨eL, m6, ii, a6, q6, b6⟩
      have HR6 : Hid (w6.ranges Try.prog 90 (plainElem Try.prog 33) (S'.H + 3) (Q + 1) nn S'.Di (fun x => left x && !x.sameKey kl) cnt1) := rg6
      clear hP k6 p6 eL m5 ii a5 q5 b5 m6 rg6 a6 q6 b6 R5 HR5
      go_wp2_with fail
      refine HC.mono ?_
      rintro e w7 ⟨rfl, h7⟩
      obtain ⟨Di, mn, ms, mm, m7, f7, k7, r7⟩ := h7
      obtain ⟨left7, cnt7, hle7, rg7⟩ := r7 _ _ _ _ (by omega) HR6.out
      have R7 : Hid (Rep0 T M S B Q D w w7 { S' with Di := Di, mn := mn, ms := ms, mm := mm }) := by
        obtain ⟨eL, m6, ii, a6, q6, b6⟩ := H6.out
        exact ⟨eL, m7, ⟨f7, ii.2.1, ii.2.2⟩, k7.owns a6 (by simp; omega), (k7.block Q (Array.getElem?_eq_some_iff.1 q6).1 (by simp; omega)).trans q6, b6.chain k7 (by intro l hl; simp at hl; exact .inl (by simp [EH.out, hl]))⟩
      have HR7 : Hid (w7.ranges Try.prog 90 (plainElem Try.prog 33) (S'.H + 3) (Q + 1) nn Di left7 cnt7) := rg7
      have L7 : Hid (w7.rangeLeft (S'.H + 3) (Q + 1) = cnt7) := rg7.left_eq
      clear m7 f7 k7 r7 rg7 H6 HR6 HC pc0 pc1
      go_wp2
      go_roundw
      case rel =>
        refine ⟨_, left7, cnt7, ?_, R7.out, HR7.out⟩
        rfl
      case measure => rw [HQ.out, L7.out]; omega
end Go.Proofs.Qxb6003795a
