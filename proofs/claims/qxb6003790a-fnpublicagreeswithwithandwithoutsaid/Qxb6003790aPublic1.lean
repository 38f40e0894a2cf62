/- The law on public: its walk (behind a merge). -/
import Derived.Test.Qxb6003790aBytesP
import Derived.Test.Qxb6003790aPubFacts
import Derived.Test.Qxb6003790aWithPlain
import Derived.Test.Qxb6003790aEqual
import Derived.Deep.Cut
import Derived.Deep.RegionHeld3
namespace Go.Proofs.Qxb6003790a
open Go.RowKit
set_option linter.unusedVariables false

set_option maxRecDepth 100000 in
set_option maxHeartbeats 4000000 in
theorem walk_pub1 (a0 : ByteArray) (a1 : Int) (a2 : Int) (a3 : Option Addr) (len3 cap3 b3 o3 : Nat) (S3 : Nat → ByteArray) (a4 : Option Addr) (len4 cap4 b4 o4 : Nat) (S4 : Nat → ByteArray) (a5 : Option Addr) (len5 cap5 b5 o5 : Nat) (S5 : Nat → Int) (a6 : Option Addr) (len6 cap6 b6 o6 : Nat) (S6 : Nat → Int) (a7 : Option Addr) (len7 cap7 b7 o7 : Nat) (S7 : Nat → Int) (a8 : ByteArray) (a9 : ByteArray) (a10 : Int) (a11 : Int) (w : World) (w0 : a0.size ≤ maxLen) (w1 : (Lit.int .u64 a1).wf = true) (w2 : (Lit.int .u64 a2).wf = true) (w3 : Sl w a3 len3 cap3 b3 o3 (fun i => .string (S3 i))) (g3 : ∀ i : Nat, (S3 i).size ≤ maxLen) (w4 : Sl w a4 len4 cap4 b4 o4 (fun i => .string (S4 i))) (g4 : ∀ i : Nat, (S4 i).size ≤ maxLen) (w5 : Sl w a5 len5 cap5 b5 o5 (fun i => .int .u64 (S5 i))) (g5 : ∀ i : Nat, (Lit.int .u64 (S5 i)).wf = true) (w6 : Sl w a6 len6 cap6 b6 o6 (fun i => .int .u64 (S6 i))) (g6 : ∀ i : Nat, (Lit.int .u64 (S6 i)).wf = true) (w7 : Sl w a7 len7 cap7 b7 o7 (fun i => .int .i64 (S7 i))) (g7 : ∀ i : Nat, (Lit.int .i64 (S7 i)).wf = true) (w8 : a8.size ≤ maxLen) (w9 : a9.size ≤ maxLen) (w10 : (Lit.int .u64 a10).wf = true) (w11 : (Lit.int .u64 a11).wf = true) (hmz : a2 ≠ 0) :
    Calls Try.prog 6 #[.string a0, .int .u64 a1, .int .u64 a2, .slice a3 len3 cap3, .slice a4 len4 cap4, .slice a5 len5 cap5, .slice a6 len6 cap6, .slice a7 len7 cap7, .string a8, .string a9, .int .u64 a10, .int .u64 a11] w fun e w' => e = .returned (.bool true) ∧ Below w.heap.size w w' := by
  clear w0 w1 w2 g3 g4 w8 w9
  have HZ : Hid (a2 ≠ 0) := hmz
  clear hmz
  go_enter Try.func6, Try.ntmps6
  go_wp2_with fail
  refine (zzBytesP_any _ _ _ _ _ _ _ _ _ _ _ _ _ _ _ _ _ _ _ _ _ _ _ _ _ _ _ _ _ w3 w4).mono ?_
  rintro e w' ⟨⟨r, rfl⟩, rfl⟩
  cases r with
  | false =>
    go_wp2_with fail
    go_ret
    exact ⟨rfl, Below.refl _ _⟩
  | true =>
  go_wp2_with fail
  refine (dataOK_any _ _ _ _ _ _ _ _ _ _ _ _ _ _ _ _ _ _ _ _ _ _ _ _ _ w3 w4).mono ?_
  rintro e w ⟨⟨r, rfl, hok⟩, rfl⟩
  cases r with
  | false =>
    go_wp2_with fail
    go_ret
    exact ⟨rfl, Below.refl _ _⟩
  | true =>
  obtain ⟨l3, l4, l5, l6, l7⟩ := hok rfl
  clear hok
  obtain ⟨N, hN⟩ : ∃ N, N = mn len3 len4 len5 := ⟨_, rfl⟩
  go_wp2_with fail
  refine (min3_any _ _ _ _).mono ?_
  rintro e w ⟨rfl, rfl⟩
  rw [← hN]
  by_cases hN0 : N = 0
  · have hNb : ((N : Int) == 0) = true := by simp [hN0]
    go_wp2_with fail
    go_ret
    exact ⟨rfl, Below.refl _ _⟩
  have hNb : ((N : Int) == 0) = false := by simp; omega
  go_wp2_with fail
  refine (cloneStrs_any _ _ _ _ _ _ _ w3 l3).mono ?_
  rintro e w1 ⟨p3, d3, rfl, s3, bel1, -, -⟩
  replace w4 := w4.keep bel1
  replace w5 := w5.keep bel1
  replace w6 := w6.keep bel1
  replace w7 := w7.keep bel1
  go_wp2_with fail
  refine (cloneStrs_any _ _ _ _ _ _ _ w4 l4).mono ?_
  rintro e w2 ⟨p4, d4, rfl, s4, bel2, -, -⟩
  replace s3 := s3.keep bel2
  replace w5 := w5.keep bel2
  replace w6 := w6.keep bel2
  replace w7 := w7.keep bel2
  go_wp2_with fail
  refine (cloneU64_any _ _ _ _ _ _ _ w5 l5).mono ?_
  rintro e wc ⟨p5, d5, rfl, s5, bel3, -, -⟩
  replace s3 := s3.keep bel3
  replace s4 := s4.keep bel3
  replace w6 := w6.keep bel3
  replace w7 := w7.keep bel3
  go_wp2_with fail
  refine (cloneU64_any _ _ _ _ _ _ _ w6 l6).mono ?_
  rintro e wd ⟨p6, d6, rfl, s6, bel4, -, -⟩
  replace s3 := s3.keep bel4
  replace s4 := s4.keep bel4
  replace s5 := s5.keep bel4
  replace w7 := w7.keep bel4
  go_wp2_with fail
  refine (cloneInts_any _ _ _ _ _ _ _ w7 l7).mono ?_
  rintro e we ⟨p7, d7, rfl, s7, bel5, -, -⟩
  replace s3 := s3.keep bel5
  replace s4 := s4.keep bel5
  replace s5 := s5.keep bel5
  replace s6 := s6.keep bel5
  go_wp2_with fail
  refine (view_any _ _ _ _ _ _ _ _ _ _ _ _ _ _ _ _ _ _ _ _ _ _ _ _ _ _ _ _ _ _ _ _ _ _ s3 s4 s5 l3 s6 g6 s7 g7 l6 rfl).mono ?_
  rintro e wv ⟨rs0, ⟨av, kv, bv, ov, rfl, rv, -, belv⟩, sm⟩
  have BEL : Below w.heap.size w wv := below_chain (below_chain (below_chain (below_chain (below_chain bel1 bel2) bel3) bel4) bel5) belv
  replace s6 := s6.keep belv
  replace s7 := s7.keep belv
  replace s3 := s3.keep belv
  replace s4 := s4.keep belv
  replace s5 := s5.keep belv
  clear bel1 bel2 bel3 bel4 bel5 belv w3 w4 w5 w6 w7
  rw [← hN] at rv ⊢
  obtain ⟨hn3, hn4, hn5⟩ := mn_le len3 len4 len5
  rw [← hN] at hn3 hn4 hn5
  have hl := mkL_length N S3 S4 S5
  have HA : Hid (∀ i, i < N → mAt (mkL N S3 S4 S5) i = ⟨S3 i, S4 i, S5 i⟩) := fun i hi => mkL_at S3 S4 S5 hi
  generalize mkL N S3 S4 S5 = L at rv hl HA ⊢
  rw [hl] at rv ⊢
  clear hN hNb
  generalize hnl : p6.isNone = nilk at sm
  go_upto_region 13 with fail
  obtain ⟨W1, hW1⟩ : ∃ W, W = wv.alloc (.cells #[.string a0, .int .u64 a1, .slice av N kv, .int .u64 a2, .map rs0] 40) := ⟨_, rfl⟩
  rw [← hW1]
  have bwW1 : Below wv.heap.size wv W1 := by rw [hW1]; exact (Below.refl _ _).alloc (Nat.le_refl _) _
  have qv : W1.heap[wv.heap.size]? = some (.cells #[.string a0, .int .u64 a1, .slice av N kv, .int .u64 a2, .map rs0] 40) := by rw [hW1]; exact heap_alloc_new _ _
  replace rv := rv.keep bwW1
  replace s3 := s3.keep bwW1
  replace s4 := s4.keep bwW1
  replace s5 := s5.keep bwW1
  replace s6 := s6.keep bwW1
  replace s7 := s7.keep bwW1
  replace sm := sm.keep bwW1
  replace BEL := below_chain BEL bwW1
  clear hW1 bwW1  
  generalize wv.heap.size = Bv at qv ⊢
  obtain ⟨mW1, hm⟩ : ∃ m : Near W1, W1 = m.w := ⟨⟨W1, Below.refl _ _⟩, rfl⟩
  rw [hm]
  clear hm
  obtain ⟨cv0, cv1, cv2, cv3, cv4⟩ := view_cells2 qv
  have hwf : Hid (∀ i, i < N → (Lit.int .u64 (mAt L i).inc).wf = true) := fun i hi => by rw [HA.out i hi]; exact g5 i
  go_wp2_with fail
  refine (zzPublic_any _ _ _ _ _ _ _ _ _ L S6 S7 (pr len6 len7) nilk _ (rv.near _) (by omega) (by omega) (sm.near _) hwf.out).mono ?_
  rintro e wp ⟨an, aa, as_, bn, ba, bs, rfl, sn, sa, ss, hnn, hb, -, -, -⟩
  rw [hl] at sn sa ss ⊢
  rw [show (mAt L 0).name = S3 0 by rw [HA.out 0 (by omega)]]
  obtain ⟨mp, rfl⟩ := near_of _ hb
  clear hb
  have hmz := HZ.out
  clear HZ
  obtain ⟨hm1, hm2, hm3, hm4⟩ : (a2 != 0) = true ∧ (a2 == 0) = (!true) ∧ Hid (decide (a2 = 0) = (!true)) ∧ Hid (∀ x, nsOf a2 x = (if true then x else 0)) :=
    ⟨by simp [hmz], by simp [hmz], (by simp [hmz] : decide (a2 = 0) = (!true)), (fun x => by simp [nsOf, hmz] : ∀ x, nsOf a2 x = (if true then x else 0))⟩
  clear hmz
  rw [hm3.out] at hnn
  rw [hm4.out] at ss ⊢
  simp only [Bool.not_true, if_true] at hnn ss hm2 ⊢
  go_upto_region 15 with fail
  obtain ⟨W2, hW2⟩ : ∃ W, W = mp.w.alloc (.cells #[.string a0, .string (S3 0), .int .u64 a1, .slice an N N, .slice aa N N, .int .u64 a2, .slice as_ N N] 31) := ⟨_, rfl⟩
  rw [← hW2]
  have bwW2 : Below mp.w.heap.size mp.w W2 := by rw [hW2]; exact (Below.refl _ _).alloc (Nat.le_refl _) _
  have qp : W2.heap[mp.w.heap.size]? = some (.cells #[.string a0, .string (S3 0), .int .u64 a1, .slice an N N, .slice aa N N, .int .u64 a2, .slice as_ N N] 31) := by rw [hW2]; exact heap_alloc_new _ _
  have hszW2 : W1.heap.size ≤ mp.w.heap.size := mp.bel.size
  have hltqv : Bv < W1.heap.size := (Array.getElem?_eq_some_iff.1 qv).1
  replace qv : W2.heap[Bv]? = _ := (bwW2.block _ (by omega)).trans ((mp.bel.block _ hltqv).trans qv)
  clear hltqv
  replace rv := (rv.near mp).keep bwW2
  replace s3 := (s3.near mp).keep bwW2
  replace s4 := (s4.near mp).keep bwW2
  replace s5 := (s5.near mp).keep bwW2
  replace s6 := (s6.near mp).keep bwW2
  replace s7 := (s7.near mp).keep bwW2
  replace sm := (sm.near mp).keep bwW2
  replace sn := sn.keep bwW2
  replace sa := sa.keep bwW2
  replace ss := ss.keep bwW2
  replace BEL := below_chain (below_chain BEL mp.bel) bwW2
  clear hW2 bwW2 hszW2 cv0 cv1 cv2 cv3 cv4
  generalize mp.w.heap.size = Bp at qp ⊢
  obtain ⟨mW2, hm⟩ : ∃ m : Near W2, W2 = m.w := ⟨⟨W2, Below.refl _ _⟩, rfl⟩
  rw [hm]
  clear hm
  obtain ⟨cv0, cv1, cv2, cv3, cv4⟩ := view_cells2 qv
  obtain ⟨cp0, cp1, cp2, cp3, cp4, cp5, cp6⟩ := pub_cells qp
  have hne : Nonempty (Near W2) := ⟨mW2⟩
  have hi3 : ∀ w', (Instr.indexAt 23 (.slice p3 len3 len3) (.int .i64 0)).run Try.prog w' = .ok (.pointer (some ⟨d3, 0, none⟩)) w' := sl_idx s3 Try.underlying23 size9 (k := 0) (by omega)
  have hc3 := sl_at s3 (k := 0) (by omega) (v := .string (S3 0)) rfl
  have hNN : ((N : Int) != (N : Int)) = false := by simp
  have hnil := fun w => Lib.run_eql_slice_nil (P := Try.prog) w 24 3 as_ N N 0 0 Try.underlying24
  rw [hnn] at hnil
  have heqr : eqV a0 (S3 0) a1 N (fun i => (mAt L i).name) a0 (S3 0) a1 N (fun i => (mAt L i).name) = true := by simp [eqV]
  all_goals
    go_wp2_with fail
    refine wp_region_near (by kernel_rfl) (by kernel_rfl) ?_
    repeat (go_big_quiet_step (fail))
    refine wpQuiet_nil ?_
    intro _ hz
    obtain ⟨m2, hz⟩ := hz
    subst hz
    clear hi3 hc3
    go_wp2_with (go_at_call 13; refine (equal_any _ _ _ _ _ _ _ _ _ _ _ _ _ _ _ _ _ _ _ _ _ _ _ _ _ (sn.near _) (sn.near _)).mono ?_; rintro e wz ⟨rfl, hz⟩; obtain ⟨m3, hz⟩ := near_of _ hz; subst hz)
    clear heqr
    go_loopw [28] (fun i wr => ∃ (k : Nat) (mm : Near W2), k ≤ N ∧ i = .int .i64 k ∧ wr = mm.w) (fun i _ => N - (intOf i).toNat)
    case atStart => exact ⟨0, _, Nat.zero_le _, rfl, rfl⟩
    case round =>
      obtain ⟨k, mm, hk, rfl, rfl⟩ := hrel
      by_cases hlt : k < N
      · have hin := sl_idx sn Try.underlying23 size9 hlt
        have hia := sl_idx sa Try.underlying23 size9 hlt
        have hi3 := sl_idx s3 Try.underlying23 size9 (k := k) (by omega)
        have hi4 := sl_idx s4 Try.underlying23 size9 (k := k) (by omega)
        have hi5 := sl_idx s5 Try.underlying33 size22 (k := k) (by omega)
        have hcn := sl_at sn hlt (v := .string (S3 k)) (by rw [nameV, HA.out k hlt])
        have hca := sl_at sa hlt (v := .string (S4 k)) (by rw [addrV, HA.out k hlt])
        have hc3 := sl_at s3 (k := k) (by omega) (v := .string (S3 k)) rfl
        have hc4 := sl_at s4 (k := k) (by omega) (v := .string (S4 k)) rfl
        have hc5 := sl_at s5 (k := k) (by omega) (v := .int .u64 (S5 k)) rfl
        have his := sl_idx ss Try.underlying24 size3 hlt
        have hcs := sl_at ss hlt (v := .int .i64 (sideV S6 S7 (S5 k) (pr len6 len7))) (by rw [sdV, HA.out k hlt])
        go_wp2_with fail
        refine wp_region_near (by kernel_rfl) (by kernel_rfl) ?_
        repeat (go_big_quiet_step (fail))
        refine wpQuiet_nil ?_
        intro _ hz
        obtain ⟨mm, hz⟩ := hz
        subst hz
        go_wp2_with (go_at_call 29; refine (sideOf_any _ _ _ _ _ _ _ _ _ _ _ _ _ _ (s6.near _) (s7.near _)).mono ?_; rintro e wz ⟨rfl, rfl⟩)
        go_roundw
        case rel => exact ⟨k + 1, mm, by omega, by go_num, rfl⟩
        case measure => simp [intOf]; omega
      have hkn : N = k := by omega
      subst hkn
      clear hlt
      go_upto_region 35 with fail
      obtain ⟨W3, hW3⟩ : ∃ W, W = mm.w.alloc (.cells #[.string a8, .string a9, .int .u64 a10] 43) := ⟨_, rfl⟩
      rw [← hW3]
      have bwW3 : Below mm.w.heap.size mm.w W3 := by rw [hW3]; exact (Below.refl _ _).alloc (Nat.le_refl _) _
      have qm : W3.heap[mm.w.heap.size]? = some (.cells #[.string a8, .string a9, .int .u64 a10] 43) := by rw [hW3]; exact heap_alloc_new _ _
      have hszW3 : W2.heap.size ≤ mm.w.heap.size := mm.bel.size
      have hltqv : Bv < W2.heap.size := (Array.getElem?_eq_some_iff.1 qv).1
      replace qv : W3.heap[Bv]? = _ := (bwW3.block _ (by omega)).trans ((mm.bel.block _ hltqv).trans qv)
      clear hltqv
      have hltqp : Bp < W2.heap.size := (Array.getElem?_eq_some_iff.1 qp).1
      replace qp : W3.heap[Bp]? = _ := (bwW3.block _ (by omega)).trans ((mm.bel.block _ hltqp).trans qp)
      clear hltqp
      replace rv := (rv.near mm).keep bwW3
      replace s6 := (s6.near mm).keep bwW3
      replace s7 := (s7.near mm).keep bwW3
      replace sm := (sm.near mm).keep bwW3
      replace sn := (sn.near mm).keep bwW3
      replace sa := (sa.near mm).keep bwW3
      replace ss := (ss.near mm).keep bwW3
      replace BEL := below_chain (below_chain BEL mm.bel) bwW3
      clear hW3 bwW3 hszW3 cv0 cv1 cv2 cv3 cv4 cp0 cp1 cp2 cp3 cp4 cp5 cp6 s3 s4 s5 hne
      generalize mm.w.heap.size = Bm at qm ⊢
      obtain ⟨mW3, hm⟩ : ∃ m : Near W3, W3 = m.w := ⟨⟨W3, Below.refl _ _⟩, rfl⟩
      rw [hm]
      clear hm
      obtain ⟨cv0, cv1, cv2, cv3, cv4⟩ := view_cells2 qv
      obtain ⟨cp0, cp1, cp2, cp3, cp4, cp5, cp6⟩ := pub_cells qp
      have cm0 := near_cell qm 0 _ rfl
      have cm1 := near_cell qm 1 _ rfl
      have cm2 := near_cell qm 2 _ rfl
      go_wp2_with fail
      refine (zzWith_any _ _ _ _ _ _ _ _ _ _ ⟨a8, a9, a10⟩ _ (rv.near _) (by omega)).mono ?_
      obtain ⟨M, hM⟩ : ∃ M, M = L ++ [(⟨a8, a9, a10⟩ : Mem)] := ⟨_, rfl⟩
      rw [← hM]
      have hml : M.length = N + 1 := by rw [hM]; simp [hl]
      have HM : Hid (M = L ++ [(⟨a8, a9, a10⟩ : Mem)]) := hM
      have hw2 : ∀ i, i < N + 1 → (Lit.int .u64 (mAt M i).inc).wf = true := by
        intro i hi
        by_cases h : i < N
        · rw [hM, mAt_app (by omega)]; exact hwf.out i h
        · have : i = L.length := by omega
          rw [hM, this, mAt_append_len L _ []]; exact w10
      clear hM
      rintro e wa ⟨ab, kb, bb, ob, rfl, rb, -, hb⟩
      rw [hml] at rb ⊢
      obtain ⟨ma, rfl⟩ := near_of _ hb
      clear hb
      go_wp2_with fail
      refine (zzPublic_any _ _ _ _ _ _ _ _ _ M S6 S7 (pr len6 len7) nilk _ rb (by omega) (by omega) (sm.near _) hw2).mono ?_
      rintro e wq ⟨an2, aa2, as2, bn2, ba2, bs2, rfl, sn2, sa2, ss2, hnn2, hb, -, -, -⟩
      rw [hml] at sn2 sa2 ss2 ⊢
      rw [show (mAt M 0).name = S3 0 by rw [HM.out, mAt_app (by omega), HA.out 0 (by omega)]]
      obtain ⟨mq, rfl⟩ := near_of _ hb
      clear hb hw2 hml rb
      rw [hm3.out] at hnn2
      obtain ⟨nq, hnq⟩ : ∃ nq, nq = nsOf a2 (N + 1) := ⟨_, rfl⟩
      rw [← hnq] at ss2 ⊢
      rw [hm4.out] at hnq
      have HNQ : Hid (_ = _) := hnq
      clear hnq
      go_upto_region 36 with fail
      obtain ⟨W4, hW4⟩ : ∃ W, W = mq.w.alloc (.cells #[.string a0, .string (S3 0), .int .u64 a1, .slice an2 (N + 1) (N + 1), .slice aa2 (N + 1) (N + 1), .int .u64 a2, .slice as2 nq nq] 31) := ⟨_, rfl⟩
      rw [← hW4]
      have bwW4 : Below mq.w.heap.size mq.w W4 := by rw [hW4]; exact (Below.refl _ _).alloc (Nat.le_refl _) _
      have qq : W4.heap[mq.w.heap.size]? = some (.cells #[.string a0, .string (S3 0), .int .u64 a1, .slice an2 (N + 1) (N + 1), .slice aa2 (N + 1) (N + 1), .int .u64 a2, .slice as2 nq nq] 31) := by rw [hW4]; exact heap_alloc_new _ _
      have hszW4 : W3.heap.size ≤ mq.w.heap.size := mq.bel.size
      have hltqv : Bv < W3.heap.size := (Array.getElem?_eq_some_iff.1 qv).1
      replace qv : W4.heap[Bv]? = _ := (bwW4.block _ (by omega)).trans ((mq.bel.block _ hltqv).trans qv)
      clear hltqv
      have hltqp : Bp < W3.heap.size := (Array.getElem?_eq_some_iff.1 qp).1
      replace qp : W4.heap[Bp]? = _ := (bwW4.block _ (by omega)).trans ((mq.bel.block _ hltqp).trans qp)
      clear hltqp
      replace rv := (rv.near mq).keep bwW4
      replace s6 := (s6.near mq).keep bwW4
      replace s7 := (s7.near mq).keep bwW4
      replace sm := (sm.near mq).keep bwW4
      replace sn := (sn.near mq).keep bwW4
      replace sa := (sa.near mq).keep bwW4
      replace ss := (ss.near mq).keep bwW4
      replace sn2 := sn2.keep bwW4
      replace sa2 := sa2.keep bwW4
      replace ss2 := ss2.keep bwW4
      replace BEL := below_chain (below_chain BEL mq.bel) bwW4
      clear hW4 bwW4 hszW4 cv0 cv1 cv2 cv3 cv4 cp0 cp1 cp2 cp3 cp4 cp5 cp6 cm0 cm1 cm2 qm
      generalize mq.w.heap.size = Bq at qq ⊢
      obtain ⟨mW4, hm⟩ : ∃ m : Near W4, W4 = m.w := ⟨⟨W4, Below.refl _ _⟩, rfl⟩
      rw [hm]
      clear hm
      obtain ⟨cv0, cv1, cv2, cv3, cv4⟩ := view_cells2 qv
      obtain ⟨cp0, cp1, cp2, cp3, cp4, cp5, cp6⟩ := pub_cells qp
      obtain ⟨cq0, cq1, cq2, cq3, cq4, cq5, cq6⟩ := pub_cells qq
      have hne : Nonempty (Near W4) := ⟨mW4⟩
      have hnil2 := fun w => Go.run_neq_slice_nil_any (P := Try.prog) w 24 3 as2 nq nq 0 0 Try.underlying24
      rw [hnn2] at hnil2
      clear hnil
      have hnq := HNQ.out
      clear HNQ
      simp only [Bool.not_true, Bool.not_false, if_true] at hnn2 hnil2 hnq
      subst hnq
      have hb1 : (((N : Int) + 1) != ((N : Int) + 1)) = false := by simp
      go_wp2_with fail
      clear hb1 hnil2
      go_loopw [33] (fun i wr => ∃ (k : Nat) (mm : Near W4), k ≤ N ∧ i = .int .i64 k ∧ wr = mm.w) (fun i _ => N - (intOf i).toNat)
      case atStart => exact ⟨0, _, Nat.zero_le _, rfl, rfl⟩
      case round =>
        obtain ⟨k, mm, hk, rfl, rfl⟩ := hrel
        by_cases hlt : k < N
        · have hin := sl_idx sn Try.underlying23 size9 hlt
          have hia := sl_idx sa Try.underlying23 size9 hlt
          have hin2 := sl_idx sn2 Try.underlying23 size9 (k := k) (by omega)
          have hia2 := sl_idx sa2 Try.underlying23 size9 (k := k) (by omega)
          have hcn := sl_at sn hlt (v := .string (S3 k)) (by rw [nameV, HA.out k hlt])
          have hca := sl_at sa hlt (v := .string (S4 k)) (by rw [addrV, HA.out k hlt])
          have hcn2 := sl_at sn2 (k := k) (by omega) (v := .string (S3 k)) (by rw [nameV, HM.out, mAt_app (by omega), HA.out k hlt])
          have hca2 := sl_at sa2 (k := k) (by omega) (v := .string (S4 k)) (by rw [addrV, HM.out, mAt_app (by omega), HA.out k hlt])
          have his := sl_idx ss Try.underlying24 size3 hlt
          have hcs := sl_at ss hlt (v := .int .i64 (sideV S6 S7 (S5 k) (pr len6 len7))) (by rw [sdV, HA.out k hlt])
          have his2 := sl_idx ss2 Try.underlying24 size3 (k := k) (by omega)
          have hcs2 := sl_at ss2 (k := k) (by omega) (v := .int .i64 (sideV S6 S7 (S5 k) (pr len6 len7))) (by rw [sdV, HM.out, mAt_app (by omega), HA.out k hlt])
          go_wp2_with fail
          refine wp_region_near (by kernel_rfl) (by kernel_rfl) ?_
          repeat (go_big_quiet_step (fail))
          refine wpQuiet_nil ?_
          intro _ hz
          obtain ⟨mm, hz⟩ := hz
          subst hz
          go_wp2_with fail
          refine wp_region_near (by kernel_rfl) (by kernel_rfl) ?_
          repeat (go_big_quiet_step (fail))
          refine wpQuiet_nil ?_
          intro _ hz
          obtain ⟨mm, hz⟩ := hz
          subst hz
          go_wp2_with fail
          go_roundw
          case rel => exact ⟨k + 1, mm, by omega, by go_num, rfl⟩
          case measure => simp [intOf]; omega
        have hkn : N = k := by omega
        subst hkn
        clear hlt
        have hmx : mAt M N = ⟨a8, a9, a10⟩ := by rw [HM.out, ← hl]; exact mAt_append_len L _ []
        have hin2 := sl_idx sn2 Try.underlying23 size9 (k := N) (by omega)
        have hia2 := sl_idx sa2 Try.underlying23 size9 (k := N) (by omega)
        have hcn2 := sl_at sn2 (k := N) (by omega) (v := .string a8) (by rw [nameV, hmx])
        have hca2 := sl_at sa2 (k := N) (by omega) (v := .string a9) (by rw [addrV, hmx])
        have his2 := sl_idx ss2 Try.underlying24 size3 (k := N) (by omega)
        have hcs2 := sl_at ss2 (k := N) (by omega) (v := .int .i64 (sideV S6 S7 a10 (pr len6 len7))) (by rw [sdV, hmx])
        clear hmx
        have ev1 : eqV a0 (S3 0) a1 (N + 1) (fun i => (mAt M i).name) a0 (S3 0) a1 N (fun i => (mAt L i).name) = false := by simp [eqV]
        have ev2 : eqV a0 (S3 0) a1 N (fun i => (mAt L i).name) a0 (S3 0) a1 (N + 1) (fun i => (mAt M i).name) = false := by simp [eqV]
        go_upto_region 57 with (go_at_call 29; refine (sideOf_any _ _ _ _ _ _ _ _ _ _ _ _ _ _ (s6.near _) (s7.near _)).mono ?_; rintro e wz ⟨rfl, rfl⟩)
        clear hin2 hia2 hcn2 hca2
        clear his2 hcs2
        go_wp2_with (go_at_call 13; refine (equal_any _ _ _ _ _ _ _ _ (fun i => _) _ _ _ _ _ _ _ _ _ _ _ (fun i => _) _ _ _ _ (by first | exact sn.near _ | exact sn2.near _) (by first | exact sn2.near _ | exact sn.near _)).mono ?_; rintro e wz ⟨rfl, hz⟩; obtain ⟨m3, hz⟩ := near_of _ hz; subst hz)
        clear ev1 ev2
        refine (zzWithout_any _ _ _ _ _ _ _ _ _ _ _ _ (rv.near _) (by omega)).mono ?_
        have hwol : (wo a11 L).length ≤ N := by rw [← hl]; exact wo_le _ _
        rintro e wr0 ⟨ar, kr, br, or_, rfl, rr, -, hb⟩
        obtain ⟨mr, rfl⟩ := near_of _ hb
        clear hb
        go_upto_region 60 with fail
        obtain ⟨W5, hW5⟩ : ∃ W, W = mr.w.alloc (.cells #[.string a0, .int .u64 a1, .slice ar (wo a11 L).length kr, .int .u64 a2, .map rs0] 40) := ⟨_, rfl⟩
        rw [← hW5]
        have bwW5 : Below mr.w.heap.size mr.w W5 := by rw [hW5]; exact (Below.refl _ _).alloc (Nat.le_refl _) _
        have qr : W5.heap[mr.w.heap.size]? = some (.cells #[.string a0, .int .u64 a1, .slice ar (wo a11 L).length kr, .int .u64 a2, .map rs0] 40) := by rw [hW5]; exact heap_alloc_new _ _
        have hszW5 : W4.heap.size ≤ mr.w.heap.size := mr.bel.size
        have hltqv : Bv < W4.heap.size := (Array.getElem?_eq_some_iff.1 qv).1
        replace qv : W5.heap[Bv]? = _ := (bwW5.block _ (by omega)).trans ((mr.bel.block _ hltqv).trans qv)
        clear hltqv
        have hltqp : Bp < W4.heap.size := (Array.getElem?_eq_some_iff.1 qp).1
        replace qp : W5.heap[Bp]? = _ := (bwW5.block _ (by omega)).trans ((mr.bel.block _ hltqp).trans qp)
        clear hltqp
        replace rv := (rv.near mr).keep bwW5
        replace sm := (sm.near mr).keep bwW5
        replace sn := (sn.near mr).keep bwW5
        replace sa := (sa.near mr).keep bwW5
        replace ss := (ss.near mr).keep bwW5
        replace rr := rr.keep bwW5
        replace BEL := below_chain (below_chain BEL mr.bel) bwW5
        clear hW5 bwW5 hszW5 cv0 cv1 cv2 cv3 cv4 cp0 cp1 cp2 cp3 cp4 cp5 cp6 cq0 cq1 cq2 cq3 cq4 cq5 cq6 qq sn2 sa2 ss2 s6 s7 hne
        generalize mr.w.heap.size = Br at qr ⊢
        obtain ⟨mW5, hm⟩ : ∃ m : Near W5, W5 = m.w := ⟨⟨W5, Below.refl _ _⟩, rfl⟩
        rw [hm]
        clear hm
        obtain ⟨cv0, cv1, cv2, cv3, cv4⟩ := view_cells2 qv
        obtain ⟨cp0, cp1, cp2, cp3, cp4, cp5, cp6⟩ := pub_cells qp
        obtain ⟨cr0, cr1, cr2, cr3, cr4⟩ := view_cells2 qr
        by_cases hR0 : 0 < (wo a11 L).length
        · have hR1 : (0 : Int) < ((wo a11 L).length : Int) := by omega
          have hw3 : ∀ i, i < (wo a11 L).length → (Lit.int .u64 (mAt (wo a11 L) i).inc).wf = true := by
            intro i hi
            have hmem : mAt (wo a11 L) i ∈ L := (List.mem_filter.1 (mAt_mem hi)).1
            obtain ⟨q, hq, hqe⟩ := List.getElem_of_mem hmem
            have := hwf.out q (by omega)
            rw [show mAt L q = L[q] by simp [mAt, hq], hqe] at this
            exact this
          go_wp2_with fail
          refine (zzPublic_any _ _ _ _ _ _ _ _ _ (wo a11 L) S6 S7 (pr len6 len7) nilk _ (rr.near _) (by omega) hR0 (sm.near _) hw3).mono ?_
          rintro e wq ⟨an2, aa2, as2, bn2, ba2, bs2, rfl, sn2, sa2, ss2, hnn2, hb, -, -, -⟩
          obtain ⟨mq, rfl⟩ := near_of _ hb
          clear hb hw3
          rw [hm3.out] at hnn2
          obtain ⟨nq, hnq⟩ : ∃ nq, nq = nsOf a2 (wo a11 L).length := ⟨_, rfl⟩
          rw [← hnq] at ss2 ⊢
          rw [hm4.out] at hnq
          have HNQ : Hid (_ = _) := hnq
          clear hnq
          go_upto_region 62 with fail
          obtain ⟨W6, hW6⟩ : ∃ W, W = mq.w.alloc (.cells #[.string a0, .string (mAt (wo a11 L) 0).name, .int .u64 a1, .slice an2 (wo a11 L).length (wo a11 L).length, .slice aa2 (wo a11 L).length (wo a11 L).length, .int .u64 a2, .slice as2 nq nq] 31) := ⟨_, rfl⟩
          rw [← hW6]
          have bwW6 : Below mq.w.heap.size mq.w W6 := by rw [hW6]; exact (Below.refl _ _).alloc (Nat.le_refl _) _
          have qq : W6.heap[mq.w.heap.size]? = some (.cells #[.string a0, .string (mAt (wo a11 L) 0).name, .int .u64 a1, .slice an2 (wo a11 L).length (wo a11 L).length, .slice aa2 (wo a11 L).length (wo a11 L).length, .int .u64 a2, .slice as2 nq nq] 31) := by rw [hW6]; exact heap_alloc_new _ _
          have hszW6 : W5.heap.size ≤ mq.w.heap.size := mq.bel.size
          have hltqv : Bv < W5.heap.size := (Array.getElem?_eq_some_iff.1 qv).1
          replace qv : W6.heap[Bv]? = _ := (bwW6.block _ (by omega)).trans ((mq.bel.block _ hltqv).trans qv)
          clear hltqv
          have hltqp : Bp < W5.heap.size := (Array.getElem?_eq_some_iff.1 qp).1
          replace qp : W6.heap[Bp]? = _ := (bwW6.block _ (by omega)).trans ((mq.bel.block _ hltqp).trans qp)
          clear hltqp
          replace rv := (rv.near mq).keep bwW6
          replace sn := (sn.near mq).keep bwW6
          replace sa := (sa.near mq).keep bwW6
          replace ss := (ss.near mq).keep bwW6
          replace sn2 := sn2.keep bwW6
          replace sa2 := sa2.keep bwW6
          replace ss2 := ss2.keep bwW6
          replace BEL := below_chain (below_chain BEL mq.bel) bwW6
          clear hW6 bwW6 hszW6 cv0 cv1 cv2 cv3 cv4 cp0 cp1 cp2 cp3 cp4 cp5 cp6 cr0 cr1 cr2 cr3 cr4 qr rr sm
          generalize mq.w.heap.size = Bq at qq ⊢
          obtain ⟨mW6, hm⟩ : ∃ m : Near W6, W6 = m.w := ⟨⟨W6, Below.refl _ _⟩, rfl⟩
          rw [hm]
          clear hm
          obtain ⟨cv0, cv1, cv2, cv3, cv4⟩ := view_cells2 qv
          obtain ⟨cp0, cp1, cp2, cp3, cp4, cp5, cp6⟩ := pub_cells qp
          obtain ⟨cq0, cq1, cq2, cq3, cq4, cq5, cq6⟩ := pub_cells qq
          have hne : Nonempty (Near W6) := ⟨mW6⟩
          have hnq := HNQ.out
          clear HNQ
          have hnil2 := fun w => Lib.run_eql_slice_nil (P := Try.prog) w 24 3 as2 nq nq 0 0 Try.underlying24
          rw [hnn2] at hnil2
          simp only [Bool.not_true, if_true] at hnn2 hnil2 hnq
          subst hnq
          go_wp2_with fail
          go_loopw [38, 39] (fun j i wr => ∃ (k : Nat) (mm : Near W6), k ≤ N ∧ i = .int .i64 k ∧ j = .int .i64 (((wo a11 (L.take k)).length : Nat) : Int) ∧ wr = mm.w) (fun _ i _ => N - (intOf i).toNat)
          case atStart => exact ⟨0, _, Nat.zero_le _, rfl, rfl, rfl⟩
          case round =>
            obtain ⟨k, mm, hk, rfl, rfl, rfl⟩ := hrel
            have hjl := wo_take_le a11 L k
            by_cases hlt : k < N
            · have hltL : k < L.length := by omega
              have hi := rv.idx hlt .i64
              have hc2 : ∀ m : Near W6, m.w.cell? ⟨bv, ov + k * 3 + 2, none⟩ = _ := fun m => (rv.near m).c2 k hlt
              cases he : hasInc a11 (mAt L k) with
              | true =>
                have hb : ((mAt L k).inc == a11) = true := he
                have HC : Hid (wo a11 (L.take (k + 1)) = wo a11 (L.take k)) := wo_take_hit hltL he
                clear he
                go_wp2_with fail
                go_roundw
                case rel => exact ⟨k + 1, mm, by omega, by go_num, by rw [HC.out], rfl⟩
                case measure => simp [intOf]; omega
              | false =>
                have hb : ((mAt L k).inc == a11) = false := he
                have HC : Hid (wo a11 (L.take (k + 1)) = wo a11 (L.take k) ++ [mAt L k]) := wo_take_miss hltL he
                obtain ⟨hj, hme⟩ := wo_kept2 hltL he
                clear he
                have hjn : ¬ (((wo a11 L).length : Int) ≤ ((wo a11 (L.take k)).length : Int)) := by omega
                have hjd : decide (((wo a11 L).length : Int) ≤ ((wo a11 (L.take k)).length : Int)) = false := by simp; omega
                have hin := sl_idx sn Try.underlying23 size9 hlt
                have hia := sl_idx sa Try.underlying23 size9 hlt
                have hin2 := sl_idx sn2 Try.underlying23 size9 hj
                have hia2 := sl_idx sa2 Try.underlying23 size9 hj
                have hcn := sl_at sn hlt (v := .string (mAt L k).name) rfl
                have hca := sl_at sa hlt (v := .string (mAt L k).addr) rfl
                have hcn2 := sl_at sn2 hj (v := .string (mAt L k).name) (by rw [nameV, hme])
                have hca2 := sl_at sa2 hj (v := .string (mAt L k).addr) (by rw [addrV, hme])
                have his := sl_idx ss Try.underlying24 size3 hlt
                have hcs := sl_at ss hlt (v := .int .i64 (sideV S6 S7 (mAt L k).inc (pr len6 len7))) rfl
                have his2 := sl_idx ss2 Try.underlying24 size3 hj
                have hcs2 := sl_at ss2 hj (v := .int .i64 (sideV S6 S7 (mAt L k).inc (pr len6 len7))) (by rw [sdV, hme])
                clear hme hltL
                go_wp2_with fail
                refine wp_region_near (by kernel_rfl) (by kernel_rfl) ?_
                repeat (go_big_quiet_step (fail))
                refine wpQuiet_nil ?_
                intro _ hz
                obtain ⟨mm, hz⟩ := hz
                subst hz
                go_wp2_with fail
                have hjm : ¬ ((wo a11 L).length ≤ (wo a11 (L.take k)).length) := by omega
                have hjd2 : decide ((wo a11 L).length ≤ (wo a11 (L.take k)).length) = false := by simp; omega
                refine wp_region_near (by kernel_rfl) (by kernel_rfl) ?_
                repeat (go_big_quiet_step (fail))
                refine wpQuiet_nil ?_
                intro _ hz
                obtain ⟨mm, hz⟩ := hz
                subst hz
                go_wp2_with fail
                go_roundw
                case rel => exact ⟨k + 1, _, by omega, by go_num, by rw [HC.out, List.length_append]; go_num, rfl⟩
                case measure => simp [intOf]; omega
            have hkn : N = k := by omega
            subst hkn
            have htk : L.take N = L := List.take_of_length_le (by omega)
            rw [htk]
            clear hlt htk hjl
            have hjq : (((wo a11 L).length : Int) != ((wo a11 L).length : Int)) = false := by simp
            have hin2 : ∀ w', (Instr.indexAt 23 (.slice an2 (wo a11 L).length (wo a11 L).length) (.int .i64 0)).run Try.prog w' = .ok (.pointer (some ⟨bn2, 0, none⟩)) w' := sl_idx sn2 Try.underlying23 size9 (k := 0) hR0
            have hcn2 := sl_at sn2 (k := 0) hR0 (v := .string (mAt (wo a11 L) 0).name) rfl
            go_wp2_with fail
            refine wp_region_near (by kernel_rfl) (by kernel_rfl) ?_
            repeat (go_big_quiet_step (fail))
            refine wpQuiet_nil ?_
            intro _ hz
            obtain ⟨mm, hz⟩ := hz
            subst hz
            go_wp2_with fail
            go_ret
            exact ⟨rfl, below_chain BEL (Near.bel _)⟩
        · have hR1 : ¬ ((0 : Int) < ((wo a11 L).length : Int)) := by omega
          go_wp2_with fail
          go_ret
          exact ⟨rfl, below_chain BEL (Near.bel _)⟩

end Go.Proofs.Qxb6003790a
