/- The law on the report's bounds: its walk. -/
import Derived.Test.Qxb6003795aGuards
import Derived.Deep.OwnRows
namespace Go.Proofs.Qxb6003795a
set_option maxRecDepth 100000
open Go.RowKit Go.Maps Go.Deep
attribute [local go_sem ↓] Go.wp_at_zero Go.wp_at_succ

theorem info5 : (Try.prog.info? 5).map (fun i => (i.zero, i.size, i.bytes)) = some (some (.int .u8 0), 1, 1) := by kernel_rfl
theorem info2 : (Try.prog.info? 2).map (fun i => (i.zero, i.size, i.bytes)) = some (some (.int .i64 0), 1, 8) := by kernel_rfl

/-- Behind a clone: the slice, or a new one of the same elements. -/
def CutRel (w wx : World) (n : Nat) (V : Nat → Value) (s : Value) : Prop := ∃ (a : Option Addr) (c b o : Nat), s = .slice a n c ∧ Sl wx a n c b o V ∧ Below w.heap.size w wx

theorem CutRel.row {w w' : World} {n : Nat} {T : TypeId} {V F : Nat → Value} (hm : n ≤ maxLen) (h : w'.rowIs w.heap.size T n F) (hF : ∀ i, i < n → F i = V i) (hb : Below w.heap.size w w') :
    CutRel w w' n V (.slice (some ⟨w.heap.size, 0, none⟩) n n) :=
  ⟨_, n, w.heap.size, 0, rfl, ⟨fun h => (by cases h), Nat.le_refl _, hm, fun _ => rfl, fun _ => h.lt, fun i hi => by rw [Nat.zero_add, h.cell hi, hF i hi]⟩, hb⟩

set_option maxHeartbeats 8000000 in
theorem walk_fnReckoningReportBounds (a0 : Option Addr) (n0 c0 b0 o0 : Nat) (V0 : Nat → Int) (a1 : Option Addr) (n1 c1 b1 o1 : Nat) (V1 : Nat → Int) (x2 x3 : Int) (w : World) (w0 : Sl w a0 n0 c0 b0 o0 (fun i => .int .u8 (V0 i))) (g0 : ∀ i : Nat, (Lit.int .u8 (V0 i)).wf = true)
    (w1 : Sl w a1 n1 c1 b1 o1 (fun i => .int .i64 (V1 i))) (_g1 : ∀ i : Nat, (Lit.int .i64 (V1 i)).wf = true) (w2 : (Lit.int .u8 x2).wf = true) (_w3 : (Lit.int .i64 x3).wf = true) :
    Calls Try.prog 3 #[.slice a0 n0 c0, .slice a1 n1 c1, .int .u8 x2, .int .i64 x3] w fun e w' => e = .returned (.bool true) ∧ Below w.heap.size w w' := by
  have hm0 : n0 ≤ maxLen := Nat.le_trans w0.le w0.max
  have hm1 : n1 ≤ maxLen := Nat.le_trans w1.le w1.max
  have W0 : Hid (Sl w a0 n0 c0 b0 o0 (fun i => .int .u8 (V0 i))) := w0
  have W1 : Hid (Sl w a1 n1 c1 b1 o1 (fun i => .int .i64 (V1 i))) := w1
  have G0 : Hid (∀ i : Nat, 0 ≤ V0 i ∧ V0 i ≤ 255) := fun i => by
    have := g0 i
    simpa [Lit.wf, IntKind.min, IntKind.max, IntKind.signed, IntKind.bits] using this
  have hx2 : 0 ≤ x2 ∧ x2 ≤ 255 := by simpa [Lit.wf, IntKind.min, IntKind.max, IntKind.signed, IntKind.bits] using w2
  have HB := zzBytes_any a0 n0 c0 a1 n1 c1 x2 x3 hm0 hm1 w
  have HF := zzFits_any a0 n0 c0 a1 n1 c1 b1 o1 V1 x3 w w1
  clear w0 w1 g0 _g1 w2 _w3
  go_enter Try.func3, Try.ntmps3
  go_wp2_with fail
  refine HB.mono ?_
  rintro e w' ⟨⟨r, rfl⟩, rfl⟩
  cases r with
  | false =>
    go_wp2_with fail
    go_ret
    exact ⟨rfl, Below.refl _ _⟩
  | true =>
  go_wp2_with fail
  refine HF.mono ?_
  rintro e w ⟨⟨r, rfl, hfit⟩, rfl⟩
  cases r with
  | false =>
    go_wp2_with fail
    go_ret
    exact ⟨rfl, Below.refl _ _⟩
  | true =>
  have FT : Hid (Fits n0 n1 V1 x3) := hfit rfl
  have hn0 : n0 ≤ 4096 := FT.out.1
  have hn1 : n1 ≤ 4096 := FT.out.2.1
  clear hfit HB HF
  have heq0 := fun w => Lib.run_eql_slice_nil (P := Try.prog) w 22 5 a0 n0 c0 0 0 Try.underlying22
  have heq1 := fun w => Lib.run_eql_slice_nil (P := Try.prog) w 23 2 a1 n1 c1 0 0 Try.underlying23
  go_upto_if 34 with fail
  go_cut [0, 9, 10] from 34 to 51 (fun s c i wx => CutRel w wx n0 (fun i => .int .u8 (V0 i)) s)
  case first =>
    cases hsome : a0.isSome with
    | false =>
      go_wp2
      go_meet
      exact ⟨a0, c0, b0, o0, rfl, W0.out, Below.refl _ _⟩
    | true =>
      have hmk := run_make_row' (P := Try.prog) 22 5 (.int .u8 0) 1 Try.underlying22 info5 rfl .i64 .i64 n0 (by omega) (by omega)
      go_wp2
      go_loopw [10] (fun i wr => ∃ k : Nat, k ≤ n0 ∧ i = .int .i64 k ∧ wr.rowIs w.heap.size 5 n0 (fun j => if j < k then .int .u8 (V0 j) else .int .u8 0) ∧ Below w.heap.size w wr) (fun i _ => n0 - (intOf i).toNat)
      case atStart => exact ⟨0, Nat.zero_le _, rfl, (World.rowIs_made w _ n0 5).congr (fun i _ => by rw [if_neg (by omega)]), (Below.refl _ _).alloc (Nat.le_refl _) _⟩
      case round =>
        obtain ⟨k, hk, rfl, hrow, hbel⟩ := hrel
        by_cases hlt : k < n0
        · have hi := W0.out.idx (P := Try.prog) Try.underlying22 size5 hlt .i64
          have hc : wr.cell? ⟨b0, o0 + k, none⟩ = some (.int .u8 (V0 k)) := (hbel.cell (p := ⟨b0, o0 + k, none⟩) (W0.out.lt (by omega))).trans (W0.out.cell k hlt)
          have hd := hrow.cell hlt
          have hf := hrow.frozen k
          have R1 := (hrow.set k (.int .u8 (V0 k))).congr (g := fun j => if j < k + 1 then .int .u8 (V0 j) else .int .u8 0) (fun j hj => by
            show (if j = k then _ else if j < k then _ else _) = _
            by_cases e1 : j = k
            · rw [if_pos e1, if_pos (by omega), e1]
            · by_cases e2 : j < k
              · rw [if_neg e1, if_pos e2, if_pos (by omega)]
              · rw [if_neg e1, if_neg e2, if_neg (by omega)])
          have R2 := hbel.setCell (p := ⟨w.heap.size, k, none⟩) (Nat.le_refl _) (.int .u8 (V0 k))
          rw [if_neg (by omega)] at hd
          clear hrow hbel
          go_wp2
          go_roundw
          case rel => exact ⟨k + 1, by omega, by go_num, R1, R2⟩
          case measure => simp [intOf]; omega
        · have hkn : k = n0 := by omega
          subst hkn
          go_wp2
          go_meet
          exact CutRel.row hm0 hrow (fun i hi => by rw [if_pos hi]) hbel
  case rest =>
  obtain ⟨p0, d0, e0, f0, rfl, s0, bel0⟩ := hcut
  have S0 : Hid (Sl wc p0 n0 d0 e0 f0 (fun i => .int .u8 (V0 i))) := s0
  have S1 : Hid (Sl wc a1 n1 c1 b1 o1 (fun i => .int .i64 (V1 i))) := W1.out.keep bel0
  have B0 : Hid (Below w.heap.size w wc) := bel0
  obtain ⟨wa, hwa⟩ : ∃ wa, wa = wc := ⟨_, rfl⟩
  rw [← hwa] at S0 S1 B0 ⊢
  clear s0 bel0 W0 W1 hwa heq0
  go_upto_if 53 with fail
  go_cut [1, 11, 12] from 53 to 70 (fun s c i wx => CutRel wa wx n1 (fun i => .int .i64 (V1 i)) s)
  case first =>
    cases hsome : a1.isSome with
    | false =>
      go_wp2
      go_meet
      exact ⟨a1, c1, b1, o1, rfl, S1.out, Below.refl _ _⟩
    | true =>
      have hmk := run_make_row' (P := Try.prog) 23 2 (.int .i64 0) 8 Try.underlying23 info2 rfl .i64 .i64 n1 (by omega) (by omega)
      go_wp2
      go_loopw [12] (fun i wr => ∃ k : Nat, k ≤ n1 ∧ i = .int .i64 k ∧ wr.rowIs wa.heap.size 2 n1 (fun j => if j < k then .int .i64 (V1 j) else .int .i64 0) ∧ Below wa.heap.size wa wr) (fun i _ => n1 - (intOf i).toNat)
      case atStart => exact ⟨0, Nat.zero_le _, rfl, (World.rowIs_made wa _ n1 2).congr (fun i _ => by rw [if_neg (by omega)]), (Below.refl _ _).alloc (Nat.le_refl _) _⟩
      case round =>
        obtain ⟨k, hk, rfl, hrow, hbel⟩ := hrel
        by_cases hlt : k < n1
        · have hi := S1.out.idx (P := Try.prog) Try.underlying23 size2 hlt .i64
          have hc : wr.cell? ⟨b1, o1 + k, none⟩ = some (.int .i64 (V1 k)) := (hbel.cell (p := ⟨b1, o1 + k, none⟩) (S1.out.lt (by omega))).trans (S1.out.cell k hlt)
          have hd := hrow.cell hlt
          have hf := hrow.frozen k
          have R1 := (hrow.set k (.int .i64 (V1 k))).congr (g := fun j => if j < k + 1 then .int .i64 (V1 j) else .int .i64 0) (fun j hj => by
            show (if j = k then _ else if j < k then _ else _) = _
            by_cases e1 : j = k
            · rw [if_pos e1, if_pos (by omega), e1]
            · by_cases e2 : j < k
              · rw [if_neg e1, if_pos e2, if_pos (by omega)]
              · rw [if_neg e1, if_neg e2, if_neg (by omega)])
          have R2 := hbel.setCell (p := ⟨wa.heap.size, k, none⟩) (Nat.le_refl _) (.int .i64 (V1 k))
          rw [if_neg (by omega)] at hd
          clear hrow hbel
          go_wp2
          go_roundw
          case rel => exact ⟨k + 1, by omega, by go_num, R1, R2⟩
          case measure => simp [intOf]; omega
        · have hkn : k = n1 := by omega
          subst hkn
          go_wp2
          go_meet
          exact CutRel.row hm1 hrow (fun i hi => by rw [if_pos hi]) hbel
  case rest =>
  obtain ⟨p1, d1, e1, f1, rfl, s1, bel1⟩ := hcut
  obtain ⟨wb, hwb⟩ : ∃ wb, wb = wc := ⟨_, rfl⟩
  rw [← hwb] at s1 bel1 ⊢
  have S0b := S0.out.keep bel1
  have B1 : Hid (Below w.heap.size w wb) := below_chain B0.out bel1
  have T0 : Hid (Sl wb p0 n0 d0 e0 f0 (fun i => .int .u8 (V0 i))) := S0b
  have T1 : Hid (Sl wb p1 n1 d1 e1 f1 (fun i => .int .i64 (V1 i))) := s1
  clear s1 bel1 S0b S0 S1 B0 hwb heq1
  have HN := zzNew_any wb
  go_wp2_with fail
  refine HN.mono ?_
  rintro e w3 ⟨rfl, m3, b3⟩
  have HR := run_any wb.heap.size wb w3 p0 n0 d0 e0 f0 V0 p1 n1 d1 e1 f1 V1 rfl T0.out T1.out G0.out FT.out.2.2.2 hn0 m3 b3
  obtain ⟨H, hH⟩ : ∃ H, H = wb.heap.size := ⟨_, rfl⟩
  rw [← hH] at HR ⊢
  have HH : Hid (H = wb.heap.size) := hH
  clear m3 b3 hH T0 T1 G0 HN
  go_wp2_with fail
  refine HR.mono ?_
  rintro e w4 ⟨cr, su, re, rfl, S, rfl, eL, m4, i4, b4, hcnt⟩
  have EL : Hid (S.L.length = cr) := eL
  have M4 : Hid (Mem n0 w4 S) := m4
  have I4 : Hid (Inv S (su + 8 * re)) := i4
  have B4 : Hid (Below S.H wb w4) := b4
  have HA := alive_any x2 hx2 w4
  clear eL m4 i4 b4 HR
  go_wp2_with fail
  refine HA.mono ?_
  rintro e w5 ⟨D, al, K, rfl, a5, d5, b5⟩
  have k5 := Kept.of_below b5
  have m5 := M4.out.kept k5
  have hlt4 := M4.out.lt
  have HR := zzReport_any n0 (su + 8 * re) S w4.heap.size K D al x3 w5 m5 I4.out a5 d5 hlt4 (by omega) (by have := EL.out; omega) FT.out.2.2.1
  have hK8 := alive_le8 d5
  have B5 : Hid (Below S.H wb w5) := B4.out.trans (b5.mono (by omega))
  clear a5 d5 b5 k5 m5 HA
  go_wp2_with fail
  refine HR.mono ?_
  rintro e w6 ⟨⟨p, u, dm, dx, mc, mm, mx, rfl, q1, q2, q3, q4, q5, q6, q7, q8, q9, q10, q11, q12⟩, b6⟩
  have B6 : Hid (Below w.heap.size w w6) := by
    have h1 : w.heap.size ≤ wb.heap.size := B1.out.size
    have h2 : Below wb.heap.size wb w6 := by rw [← HH.out]; exact B5.out.trans b6
    exact below_chain B1.out h2
  have SZ : Hid (w.heap.size ≤ w6.heap.size) := B6.out.size
  rw [EL.out] at q1 q2 ⊢
  clear b6 HR B5 B4 I4 M4 EL hlt4 B1 HH FT
  have hcr : cr ≤ 4096 ∧ su ≤ 4096 ∧ re ≤ 4096 := by omega
  obtain ⟨X, hX⟩ : ∃ X : Int, X = (cr : Int) * K := ⟨_, rfl⟩
  obtain ⟨Y, hY⟩ : ∃ Y : Int, Y = (cr : Int) * ((K : Int) - 1) := ⟨_, rfl⟩
  have hXb : 0 ≤ X ∧ X ≤ 32768 := by
    rw [hX]
    have h1 : cr * K ≤ 4096 * 8 := Nat.mul_le_mul hcr.1 hK8
    constructor
    · exact_mod_cast Nat.zero_le _
    · exact_mod_cast h1
  have hYX : Y = X - cr := by rw [hX, hY, Int.mul_sub, Int.mul_one]
  have hw1 : IntKind.i64.wrap ((cr : Int) * K) = X := by rw [← hX]; exact wrap64_of (by omega)
  have hw2 : IntKind.i64.wrap ((cr : Int) * ((K : Int) - 1)) = Y := by rw [← hY]; exact wrap64_of (by omega)
  rw [← hX] at q1
  rw [← hY] at q2
  have r1 : ¬ X < p := by omega
  have r2 : ¬ p < Y := by omega
  have r3 : ¬ u < 0 := by omega
  have r4 : ¬ p < u := by omega
  have r5 : ¬ dx < 0 := by omega
  have r6 : ¬ dx < dm := by omega
  have r7 : ¬ mx < 0 := by omega
  have r8 : ¬ mx < mm := by omega
  have r9 : ¬ mc < 0 := by omega
  have r10 : ¬ (su : Int) + 8 * (re : Int) < mc := by push_cast at q11; omega
  clear hX hY hXb hYX q1 q2 q3 q4 q5 q6 q7 q8 q10 q11
  by_cases hup : u = p
  · obtain ⟨rfl, rfl⟩ := q9 hup
    subst hup
    clear q9
    by_cases hmc : mc = 0
    · obtain ⟨rfl, rfl⟩ := q12 hmc
      subst hmc
      clear q12
      go_wp2_with fail
      go_ret
      exact ⟨rfl, ((B6.out.alloc SZ.out _).alloc (by have := SZ.out; simp; omega) _).alloc (by have := SZ.out; simp; omega) _⟩
    · have hb : (mc == 0) = false := by simp [hmc]
      clear q12
      go_wp2_with fail
      go_ret
      exact ⟨rfl, ((B6.out.alloc SZ.out _).alloc (by have := SZ.out; simp; omega) _).alloc (by have := SZ.out; simp; omega) _⟩
  · have hb0 : (u == p) = false := by simp [hup]
    clear q9
    by_cases hmc : mc = 0
    · obtain ⟨rfl, rfl⟩ := q12 hmc
      subst hmc
      clear q12
      go_wp2_with fail
      go_ret
      exact ⟨rfl, ((B6.out.alloc SZ.out _).alloc (by have := SZ.out; simp; omega) _).alloc (by have := SZ.out; simp; omega) _⟩
    · have hb : (mc == 0) = false := by simp [hmc]
      clear q12
      go_wp2_with fail
      go_ret
      exact ⟨rfl, ((B6.out.alloc SZ.out _).alloc (by have := SZ.out; simp; omega) _).alloc (by have := SZ.out; simp; omega) _⟩

end Go.Proofs.Qxb6003795a
