/- The law on with and without: its walk. -/
import Derived.Test.Qxb6003790aBytesW
import Derived.Test.Qxb6003790aWith
import Derived.Test.Qxb6003790aWithPlain
import Derived.Deep.Cut
import Derived.Deep.RegionHeld3
namespace Go.Proofs.Qxb6003790a
open Go.RowKit
set_option linter.unusedVariables false

theorem view_cells' {W : World} {B : Nat} {c : ByteArray} {id mg : Int} {a : Option Addr} {n cap : Nat} {r : Option Nat} (h : W.heap[B]? = some (.cells #[.string c, .int .u64 id, .slice a n cap, .int .u64 mg, .map r] 40)) :
    (∀ m : Near W, m.w.cell? ⟨B, 0, none⟩ = some (.string c)) ∧ (∀ m : Near W, m.w.cell? ⟨B, 1, none⟩ = some (.int .u64 id)) ∧ (∀ m : Near W, m.w.cell? ⟨B, 2, none⟩ = some (.slice a n cap)) ∧ (∀ m : Near W, m.w.cell? ⟨B, 3, none⟩ = some (.int .u64 mg)) ∧ (∀ m : Near W, m.w.cell? ⟨B, 4, none⟩ = some (.map r)) :=
  ⟨near_cell h 0 _ rfl, near_cell h 1 _ rfl, near_cell h 2 _ rfl, near_cell h 3 _ rfl, near_cell h 4 _ rfl⟩

set_option maxRecDepth 100000 in
set_option maxHeartbeats 4000000 in
theorem walk_fnWithThenWithoutRestores (a0 : ByteArray) (a1 : Int) (a2 : Int) (a3 : Option Addr) (len3 cap3 b3 o3 : Nat) (S3 : Nat → ByteArray) (a4 : Option Addr) (len4 cap4 b4 o4 : Nat) (S4 : Nat → ByteArray) (a5 : Option Addr) (len5 cap5 b5 o5 : Nat) (S5 : Nat → Int) (a6 : Option Addr) (len6 cap6 b6 o6 : Nat) (S6 : Nat → Int) (a7 : Option Addr) (len7 cap7 b7 o7 : Nat) (S7 : Nat → Int) (a8 : ByteArray) (a9 : ByteArray) (a10 : Int) (w : World) (w0 : a0.size ≤ maxLen) (w1 : (Lit.int .u64 a1).wf = true) (w2 : (Lit.int .u64 a2).wf = true) (w3 : Sl w a3 len3 cap3 b3 o3 (fun i => .string (S3 i))) (g3 : ∀ i : Nat, (S3 i).size ≤ maxLen) (w4 : Sl w a4 len4 cap4 b4 o4 (fun i => .string (S4 i))) (g4 : ∀ i : Nat, (S4 i).size ≤ maxLen) (w5 : Sl w a5 len5 cap5 b5 o5 (fun i => .int .u64 (S5 i))) (g5 : ∀ i : Nat, (Lit.int .u64 (S5 i)).wf = true) (w6 : Sl w a6 len6 cap6 b6 o6 (fun i => .int .u64 (S6 i))) (g6 : ∀ i : Nat, (Lit.int .u64 (S6 i)).wf = true) (w7 : Sl w a7 len7 cap7 b7 o7 (fun i => .int .i64 (S7 i))) (g7 : ∀ i : Nat, (Lit.int .i64 (S7 i)).wf = true) (w8 : a8.size ≤ maxLen) (w9 : a9.size ≤ maxLen) (w10 : (Lit.int .u64 a10).wf = true) :
    Calls Try.prog 4 #[.string a0, .int .u64 a1, .int .u64 a2, .slice a3 len3 cap3, .slice a4 len4 cap4, .slice a5 len5 cap5, .slice a6 len6 cap6, .slice a7 len7 cap7, .string a8, .string a9, .int .u64 a10] w fun e w' => e = .returned (.bool true) ∧ Below w.heap.size w w' := by
  clear w0 w1 w2 g3 g4 g5 w8 w9
  go_enter Try.func4, Try.ntmps4
  go_wp2_with fail
  refine (zzBytesW_any _ _ _ _ _ _ _ _ _ _ _ _ _ _ _ _ _ _ _ _ _ _ _ _ _ _ _ _ w3 w4).mono ?_
  rintro e w' ⟨⟨r, rfl⟩, rfl⟩
  cases r with
  | false =>
    go_wp2_with fail
    go_ret
    exact ⟨rfl, Below.refl _ _⟩
  | true =>
  go_wp2_with fail
  refine (dataOK_any _ _ _ _ _ _ _ _ _ _ _ _ _ _ _ _ _ _ _ _ _ _ _ _ _ w3 w4).mono ?_
  rintro e w ⟨⟨r, rfl, hok⟩, rfl⟩
  cases r with
  | false =>
    go_wp2_with fail
    go_ret
    exact ⟨rfl, Below.refl _ _⟩
  | true =>
  obtain ⟨l3, l4, l5, l6, l7⟩ := hok rfl
  clear hok
  go_wp2_with fail
  refine (cloneStrs_any _ _ _ _ _ _ _ w3 l3).mono ?_
  rintro e w1 ⟨p3, d3, rfl, s3, bel1, -, -⟩
  replace w4 := w4.keep bel1
  replace w5 := w5.keep bel1
  replace w6 := w6.keep bel1
  replace w7 := w7.keep bel1
  go_wp2_with fail
  refine (cloneStrs_any _ _ _ _ _ _ _ w4 l4).mono ?_
  rintro e w2 ⟨p4, d4, rfl, s4, bel2, -, -⟩
  replace s3 := s3.keep bel2
  replace w5 := w5.keep bel2
  replace w6 := w6.keep bel2
  replace w7 := w7.keep bel2
  go_wp2_with fail
  refine (cloneU64_any _ _ _ _ _ _ _ w5 l5).mono ?_
  rintro e wc ⟨p5, d5, rfl, s5, bel3, -, -⟩
  replace s3 := s3.keep bel3
  replace s4 := s4.keep bel3
  replace w6 := w6.keep bel3
  replace w7 := w7.keep bel3
  go_wp2_with fail
  refine (cloneU64_any _ _ _ _ _ _ _ w6 l6).mono ?_
  rintro e wd ⟨p6, d6, rfl, s6, bel4, -, -⟩
  replace s3 := s3.keep bel4
  replace s4 := s4.keep bel4
  replace s5 := s5.keep bel4
  replace w7 := w7.keep bel4
  go_wp2_with fail
  refine (cloneInts_any _ _ _ _ _ _ _ w7 l7).mono ?_
  rintro e we ⟨p7, d7, rfl, s7, bel5, -, -⟩
  replace s3 := s3.keep bel5
  replace s4 := s4.keep bel5
  replace s5 := s5.keep bel5
  replace s6 := s6.keep bel5
  go_wp2_with fail
  refine (view_any _ _ _ _ _ _ _ _ _ _ _ _ _ _ _ _ _ _ _ _ _ _ _ _ _ _ _ _ _ _ _ _ _ _ s3 s4 s5 l3 s6 g6 s7 g7 l6 rfl).mono ?_
  rintro e wv ⟨rs0, ⟨av, kv, bv, ov, rfl, rv, -, belv⟩, sm⟩
  have BEL : Below w.heap.size w wv := below_chain (below_chain (below_chain (below_chain (below_chain bel1 bel2) bel3) bel4) bel5) belv
  replace s6 := s6.keep belv
  replace s7 := s7.keep belv
  clear bel1 bel2 bel3 bel4 bel5 belv s3 s4 s5 w3 w4 w5 w6 w7
  have hn := (mn_le len3 len4 len5).1
  have hl := mkL_length (mn len3 len4 len5) S3 S4 S5
  generalize mkL (mn len3 len4 len5) S3 S4 S5 = L at rv hl ⊢
  have hn : L.length ≤ 4096 := by omega
  clear hl
  have hnk : p6.isNone = p6.isNone := rfl
  generalize hnl : p6.isNone = nilk at sm hnk
  clear hnk
  go_wp2_with fail
  obtain ⟨W1, hW1⟩ : ∃ W, W = wv.alloc (.cells #[.string a0, .int .u64 a1, .slice av L.length kv, .int .u64 a2, .map rs0] 40) := ⟨_, rfl⟩
  rw [← hW1]
  have bw1 : Below wv.heap.size wv W1 := by rw [hW1]; exact (Below.refl _ _).alloc (Nat.le_refl _) _
  have qv : W1.heap[wv.heap.size]? = some (.cells #[.string a0, .int .u64 a1, .slice av L.length kv, .int .u64 a2, .map rs0] 40) := by rw [hW1]; exact heap_alloc_new _ _
  replace rv := rv.keep bw1
  replace s6 := s6.keep bw1
  replace s7 := s7.keep bw1
  replace sm := sm.keep bw1
  replace BEL := below_chain BEL bw1
  clear bw1 hW1
  generalize wv.heap.size = Bv at qv ⊢
  obtain ⟨m, hm⟩ : ∃ m : Near W1, W1 = m.w := ⟨⟨W1, Below.refl _ _⟩, rfl⟩
  rw [hm]
  clear hm
  obtain ⟨cv0, cv1, cv2, cv3, cv4⟩ := view_cells' qv
  go_loop [25] (fun i => ∃ k : Nat, k ≤ L.length ∧ i = .int .i64 k ∧ ∀ j, j < k → hasInc a10 (mAt L j) = false) (fun i => L.length - (intOf i).toNat)
  case atStart => exact ⟨0, Nat.zero_le _, rfl, fun j hj => absurd hj (by omega)⟩
  case round =>
    obtain ⟨k, hk, rfl, hall⟩ := hrel
    by_cases hlt : k < L.length
    · have hi := rv.idx hlt .i64
      have hc2 : ∀ m : Near W1, m.w.cell? ⟨bv, ov + k * 3 + 2, none⟩ = _ := fun m => (rv.near m).c2 k hlt
      have HA : Hid (∀ j, j < k → hasInc a10 (mAt L j) = false) := hall
      clear hall
      cases he : hasInc a10 (mAt L k) with
      | true =>
        have hb : ((mAt L k).inc == a10) = true := he
        clear he
        go_wp2
        go_ret
        exact ⟨rfl, below_chain BEL m.bel⟩
      | false =>
        have hb : ((mAt L k).inc == a10) = false := he
        have HE : Hid (hasInc a10 (mAt L k) = false) := he
        clear he
        go_wp2
        go_round
        case rel =>
          refine ⟨k + 1, by omega, by go_num, fun j hj => ?_⟩
          rcases Nat.lt_or_ge j k with h | h
          · exact HA.out j h
          · have : j = k := by omega
            subst this
            exact HE.out
        case measure => simp [intOf]; omega
    have hkn : k = L.length := by omega
    subst hkn
    have HA : Hid (∀ j, j < L.length → hasInc a10 (mAt L j) = false) := hall
    clear hall hlt
    have hlen : ∀ (m : Near W1) (ty : TypeId), (Builtin.len_ #[38] ty #[.map rs0]).run Try.prog m.w = .ok (.int .i64 ((lenD S6 S7 (pr len6 len7) nilk : Nat) : Int)) m.w := fun m ty => (sm.near m).len ty
    go_wp2_with fail
    refine (cloneMem_any _ _ _ _ _ _ _ (rv.near m) (by omega)).mono ?_
    rintro e ws ⟨as_, ks, bs, os_, rfl, rs, hb⟩
    obtain ⟨ms, rfl⟩ := near_of _ hb
    clear hb
    go_upto_region 20 with fail
    obtain ⟨W2, hW2⟩ : ∃ W, W = ms.w.alloc (.cells #[.string a8, .string a9, .int .u64 a10] 43) := ⟨_, rfl⟩
    rw [← hW2]
    have bwW2 : Below ms.w.heap.size ms.w W2 := by rw [hW2]; exact (Below.refl _ _).alloc (Nat.le_refl _) _
    have qm : W2.heap[ms.w.heap.size]? = some (.cells #[.string a8, .string a9, .int .u64 a10] 43) := by rw [hW2]; exact heap_alloc_new _ _
    have hszW2 : W1.heap.size ≤ ms.w.heap.size := ms.bel.size
    have hltqv : Bv < W1.heap.size := (Array.getElem?_eq_some_iff.1 qv).1
    replace qv : W2.heap[Bv]? = _ := (bwW2.block _ (by omega)).trans ((ms.bel.block _ hltqv).trans qv)
    clear hltqv
    replace rv := (rv.near ms).keep bwW2
    replace s6 := (s6.near ms).keep bwW2
    replace s7 := (s7.near ms).keep bwW2
    replace sm := (sm.near ms).keep bwW2
    replace rs := rs.keep bwW2
    replace BEL := below_chain (below_chain BEL ms.bel) bwW2
    clear hW2 bwW2 hszW2 cv0 cv1 cv2 cv3 cv4 hlen
    generalize ms.w.heap.size = Bm at qm ⊢
    obtain ⟨mW2, hm⟩ : ∃ m : Near W2, W2 = m.w := ⟨⟨W2, Below.refl _ _⟩, rfl⟩
    rw [hm]
    clear hm
    obtain ⟨cv0, cv1, cv2, cv3, cv4⟩ := view_cells' qv
    have cm0 := near_cell qm 0 _ rfl
    have cm1 := near_cell qm 1 _ rfl
    have cm2 := near_cell qm 2 _ rfl
    go_wp2_with fail
    refine (zzWith_any _ _ _ _ _ _ _ _ _ _ ⟨a8, a9, a10⟩ _ (rv.near _) (by omega)).mono ?_
    obtain ⟨M, hM⟩ : ∃ M, M = L ++ [(⟨a8, a9, a10⟩ : Mem)] := ⟨_, rfl⟩
    rw [← hM]
    have hml : M.length = L.length + 1 := by rw [hM]; simp
    have HM : Hid (M = L ++ [(⟨a8, a9, a10⟩ : Mem)]) := hM
    clear hM
    rintro e wa ⟨aa, ka, ba, oa, rfl, ra, -, hb⟩
    rw [hml] at ra ⊢
    clear hml
    obtain ⟨ma, rfl⟩ := near_of _ hb
    clear hb
    go_upto_region 21 with fail
    obtain ⟨W3, hW3⟩ : ∃ W, W = ma.w.alloc (.cells #[.string a0, .int .u64 a1, .slice aa (L.length + 1) ka, .int .u64 a2, .map rs0] 40) := ⟨_, rfl⟩
    rw [← hW3]
    have bwW3 : Below ma.w.heap.size ma.w W3 := by rw [hW3]; exact (Below.refl _ _).alloc (Nat.le_refl _) _
    have qa : W3.heap[ma.w.heap.size]? = some (.cells #[.string a0, .int .u64 a1, .slice aa (L.length + 1) ka, .int .u64 a2, .map rs0] 40) := by rw [hW3]; exact heap_alloc_new _ _
    have hszW3 : W2.heap.size ≤ ma.w.heap.size := ma.bel.size
    have hltqv : Bv < W2.heap.size := (Array.getElem?_eq_some_iff.1 qv).1
    replace qv : W3.heap[Bv]? = _ := (bwW3.block _ (by omega)).trans ((ma.bel.block _ hltqv).trans qv)
    clear hltqv
    have hltqm : Bm < W2.heap.size := (Array.getElem?_eq_some_iff.1 qm).1
    replace qm : W3.heap[Bm]? = _ := (bwW3.block _ (by omega)).trans ((ma.bel.block _ hltqm).trans qm)
    clear hltqm
    replace rv := (rv.near ma).keep bwW3
    replace s6 := (s6.near ma).keep bwW3
    replace s7 := (s7.near ma).keep bwW3
    replace sm := (sm.near ma).keep bwW3
    replace rs := (rs.near ma).keep bwW3
    replace ra := ra.keep bwW3
    replace BEL := below_chain (below_chain BEL ma.bel) bwW3
    clear hW3 bwW3 hszW3 cv0 cv1 cv2 cv3 cv4 cm0 cm1 cm2
    generalize ma.w.heap.size = Ba at qa ⊢
    obtain ⟨mW3, hm⟩ : ∃ m : Near W3, W3 = m.w := ⟨⟨W3, Below.refl _ _⟩, rfl⟩
    rw [hm]
    clear hm
    obtain ⟨cv0, cv1, cv2, cv3, cv4⟩ := view_cells' qv
    obtain ⟨ca0, ca1, ca2, ca3, ca4⟩ := view_cells' qa
    have cm0 := near_cell qm 0 _ rfl
    have cm1 := near_cell qm 1 _ rfl
    have cm2 := near_cell qm 2 _ rfl
    have hne : Nonempty (Near W3) := ⟨mW3⟩
    have hia := ra.idx (k := L.length) (by omega) .i64
    have hc0 : ∀ m : Near W3, m.w.cell? ⟨ba, oa + L.length * 3, none⟩ = _ := fun m => (ra.near m).c0 L.length (by omega)
    have hc1 : ∀ m : Near W3, m.w.cell? ⟨ba, oa + L.length * 3 + 1, none⟩ = _ := fun m => (ra.near m).c1 L.length (by omega)
    have hc2 : ∀ m : Near W3, m.w.cell? ⟨ba, oa + L.length * 3 + 2, none⟩ = _ := fun m => (ra.near m).c2 L.length (by omega)
    have hmx : mAt M L.length = ⟨a8, a9, a10⟩ := by rw [HM.out]; exact mAt_append_len L _ []
    rw [hmx] at hc0 hc1 hc2
    clear hmx
    have hq := run_neq_mem ⟨a8, a9, a10⟩ ⟨a8, a9, a10⟩
    rw [memEq_refl] at hq
    have hb1 : (((L.length : Int) + 1) != ((L.length : Int) + 1)) = false := by simp
    refine wp_region_near (by kernel_rfl) (by kernel_rfl) ?_
    repeat (go_big_quiet_step (fail))
    refine wpQuiet_nil ?_
    intro _ hz
    obtain ⟨mW3, hz⟩ := hz
    subst hz
    clear hia hc0 hc1 hc2 hq hb1
    have fi : fIdx (hasInc a10) M = (L.length : Int) := by
      rw [HM.out, fIdx_app, if_pos (fIdx_miss HA.out), if_pos (by simp [hasInc])]
    have fn : fIdx (hasName a8) M = if fIdx (hasName a8) L = -1 then (L.length : Int) else fIdx (hasName a8) L := by
      rw [HM.out, fIdx_app]
      have : hasName a8 ⟨a8, a9, a10⟩ = true := by simp [hasName]
      rw [if_pos this]
    have hbi : ((L.length : Int) != (L.length : Int)) = false := by simp
    go_wp2_with fail
    refine (sidesMatch_any _ nilk _ _ _ _ _ _ _ _ _ _ _ _ _ (s6.near _) g6 (s7.near _) (sm.near _) hnl).mono ?_
    rintro e wz ⟨rfl, rfl⟩
    go_wp2_with fail
    refine (zzIndex_any _ _ _ _ _ _ _ _ _ _ _ _ (ra.near _)).mono ?_
    rintro e wz ⟨rfl, hz⟩
    obtain ⟨mW3, rfl⟩ := near_of _ hz
    clear hz
    rw [fi]
    clear fi
    go_wp2_with fail
    refine (zzNamed_any _ _ _ _ _ _ _ _ _ _ _ _ (rv.near _)).mono ?_
    rintro e wz ⟨rfl, hz⟩
    obtain ⟨mW3, rfl⟩ := near_of _ hz
    clear hz
    obtain ⟨x, hx⟩ : ∃ x, x = fIdx (hasName a8) L := ⟨_, rfl⟩
    rw [← hx] at fn ⊢
    have hxn := fun h => fIdx_neg (p := hasName a8) (L := L) h
    rw [← hx] at hxn
    have HX : Hid (x = fIdx (hasName a8) L) := hx
    clear hx
    by_cases hk0 : 0 ≤ x
    all_goals
      first
        | have hx1 : x ≠ -1 := by omega
          rw [if_neg hx1] at fn
          clear hx1
        | rw [if_pos (hxn hk0)] at fn
      clear hxn
      have hxx : (x != x) = false := by simp
      go_wp2_with fail
      refine (zzNamed_any _ _ _ _ _ _ _ _ _ _ _ _ (ra.near _)).mono ?_
      rintro e wz ⟨rfl, hz⟩
      obtain ⟨mW3, rfl⟩ := near_of _ hz
      clear hz
      rw [fn]
      clear fn
      go_wp2_with fail
      clear hk0 hxx
      go_loopw [31] (fun i wr => ∃ (k : Nat) (mm : Near W3), k ≤ L.length ∧ i = .int .i64 k ∧ wr = mm.w) (fun i _ => L.length - (intOf i).toNat)
      case atStart => exact ⟨0, _, Nat.zero_le _, rfl, rfl⟩
      case round =>
        obtain ⟨k, mm, hk, rfl, rfl⟩ := hrel
        by_cases hlt : k < L.length
        · have hi := rv.idx hlt .i64
          have hc0 : ∀ m : Near W3, m.w.cell? ⟨bv, ov + k * 3, none⟩ = _ := fun m => (rv.near m).c0 k hlt
          have hc1 : ∀ m : Near W3, m.w.cell? ⟨bv, ov + k * 3 + 1, none⟩ = _ := fun m => (rv.near m).c1 k hlt
          have hc2 : ∀ m : Near W3, m.w.cell? ⟨bv, ov + k * 3 + 2, none⟩ = _ := fun m => (rv.near m).c2 k hlt
          have hi' := ra.idx (k := k) (by omega) .i64
          have hd0 : ∀ m : Near W3, m.w.cell? ⟨ba, oa + k * 3, none⟩ = _ := fun m => (ra.near m).c0 k (by omega)
          have hd1 : ∀ m : Near W3, m.w.cell? ⟨ba, oa + k * 3 + 1, none⟩ = _ := fun m => (ra.near m).c1 k (by omega)
          have hd2 : ∀ m : Near W3, m.w.cell? ⟨ba, oa + k * 3 + 2, none⟩ = _ := fun m => (ra.near m).c2 k (by omega)
          have hmx : mAt M k = mAt L k := by rw [HM.out]; exact mAt_app hlt
          rw [hmx] at hd0 hd1 hd2
          clear hmx
          have hq := run_neq_mem (mAt L k) (mAt L k)
          rw [memEq_refl] at hq
          have e1 : fIdx (hasInc (mAt L k).inc) M = fIdx (hasInc (mAt L k).inc) L := by rw [HM.out, fIdx_app, if_neg (fIdx_found hlt (by simp [hasInc]))]
          have e2 : fIdx (hasName (mAt L k).name) M = fIdx (hasName (mAt L k).name) L := by rw [HM.out, fIdx_app, if_neg (fIdx_found hlt (by simp [hasName]))]
          have q1 : (fIdx (hasInc (mAt L k).inc) M != fIdx (hasInc (mAt L k).inc) L) = false := by rw [e1]; simp
          have q2 : (fIdx (hasName (mAt L k).name) M != fIdx (hasName (mAt L k).name) L) = false := by rw [e2]; simp
          clear e1 e2
          go_wp2_with fail
          refine wp_region_near (by kernel_rfl) (by kernel_rfl) ?_
          repeat (go_big_quiet_step (fail))
          refine wpQuiet_nil ?_
          intro _ hz
          obtain ⟨mm, hz⟩ := hz
          subst hz
          go_wp2_with fail
          refine wp_region_near (by kernel_rfl) (by kernel_rfl) ?_
          repeat (go_big_quiet_step ((go_at_call 21; exact near_calls (zzIndex_any _ _ _ _ _ _ _ _ _ _ _ _ (by first | exact ra.near _ | exact rv.near _)))))
          refine wpQuiet_nil ?_
          intro _ hz
          obtain ⟨mm, hz⟩ := hz
          subst hz
          go_wp2_with fail
          refine wp_region_near (by kernel_rfl) (by kernel_rfl) ?_
          repeat (go_big_quiet_step ((go_at_call 22; exact near_calls (zzNamed_any _ _ _ _ _ _ _ _ _ _ _ _ (by first | exact ra.near _ | exact rv.near _)))))
          refine wpQuiet_nil ?_
          intro _ hz
          obtain ⟨mm, hz⟩ := hz
          subst hz
          go_wp2
          go_roundw
          case rel => exact ⟨k + 1, mm, by omega, by go_num, rfl⟩
          case measure => simp [intOf]; omega
        have hkn : k = L.length := by omega
        subst hkn
        clear hlt
        go_wp2_with fail
        refine (zzWithout_any _ _ _ _ _ _ _ _ _ _ _ _ (ra.near mm) (by omega)).mono ?_
        rintro e wb ⟨ab, kb, bb, ob, rfl, rb, -, hb⟩
        have hwo : wo a10 M = L := by rw [HM.out]; exact wo_app HA.out (by simp [hasInc])
        rw [hwo] at rb ⊢
        clear hwo
        obtain ⟨mb, rfl⟩ := near_of _ hb
        clear hb
        go_upto_region 45 with fail
        obtain ⟨W4, hW4⟩ : ∃ W, W = mb.w.alloc (.cells #[.string a0, .int .u64 a1, .slice ab L.length kb, .int .u64 a2, .map rs0] 40) := ⟨_, rfl⟩
        rw [← hW4]
        have bwW4 : Below mb.w.heap.size mb.w W4 := by rw [hW4]; exact (Below.refl _ _).alloc (Nat.le_refl _) _
        have qu : W4.heap[mb.w.heap.size]? = some (.cells #[.string a0, .int .u64 a1, .slice ab L.length kb, .int .u64 a2, .map rs0] 40) := by rw [hW4]; exact heap_alloc_new _ _
        have hszW4 : W3.heap.size ≤ mb.w.heap.size := mb.bel.size
        have hltqv : Bv < W3.heap.size := (Array.getElem?_eq_some_iff.1 qv).1
        replace qv : W4.heap[Bv]? = _ := (bwW4.block _ (by omega)).trans ((mb.bel.block _ hltqv).trans qv)
        clear hltqv
        replace rv := (rv.near mb).keep bwW4
        replace s6 := (s6.near mb).keep bwW4
        replace s7 := (s7.near mb).keep bwW4
        replace sm := (sm.near mb).keep bwW4
        replace rs := (rs.near mb).keep bwW4
        replace rb := rb.keep bwW4
        replace BEL := below_chain (below_chain BEL mb.bel) bwW4
        clear hW4 bwW4 hszW4 cv0 cv1 cv2 cv3 cv4 cm0 cm1 cm2 ca0 ca1 ca2 ca3 ca4 qa qm ra
        generalize mb.w.heap.size = Bu at qu ⊢
        obtain ⟨mW4, hm⟩ : ∃ m : Near W4, W4 = m.w := ⟨⟨W4, Below.refl _ _⟩, rfl⟩
        rw [hm]
        clear hm
        obtain ⟨cv0, cv1, cv2, cv3, cv4⟩ := view_cells' qv
        obtain ⟨cb0, cb1, cb2, cb3, cb4⟩ := view_cells' qu
        have s4 : sameM L L = true := sameM_refl _
        go_wp2_with (first | (go_at_call 24; refine (same_any _ _ _ _ _ _ _ _ _ _ _ _ _ (by first | exact rb.near _ | exact rv.near _) (by first | exact rv.near _ | exact rs.near _)).mono ?_; rintro e wz ⟨rfl, hz⟩; obtain ⟨mz, hz⟩ := near_of _ hz; subst hz) | (go_at_call 20; refine (sidesMatch_any _ nilk _ _ _ _ _ _ _ _ _ _ _ _ _ (s6.near _) g6 (s7.near _) (sm.near _) hnl).mono ?_; rintro e wz ⟨rfl, rfl⟩))
        go_ret
        exact ⟨rfl, below_chain BEL (Near.bel _)⟩

end Go.Proofs.Qxb6003790a
