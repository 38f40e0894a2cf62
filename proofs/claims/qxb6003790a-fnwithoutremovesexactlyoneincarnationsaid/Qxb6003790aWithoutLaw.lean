/- The law on without: its walk. -/
import Derived.Test.Qxb6003790aBytesO
import Derived.Test.Qxb6003790aBuild
import Derived.Test.Qxb6003790aWoLaws
import Derived.Deep.Cut
import Derived.Deep.RegionHeld3
namespace Go.Proofs.Qxb6003790a
open Go.RowKit
set_option linter.unusedVariables false

theorem field40_2 (x0 x1 : Value) (a : Option Addr) (n c : Nat) (x3 x4 : Value) (w : World) : (Instr.field 40 (.agg #[x0, x1, .slice a n c, x3, x4]) 2).run Try.prog w = .ok (.slice a n c) w := by kernel_rfl

theorem view_cells {W : World} {B : Nat} {c : ByteArray} {id mg : Int} {a : Option Addr} {n cap : Nat} {r : Option Nat} (h : W.heap[B]? = some (.cells #[.string c, .int .u64 id, .slice a n cap, .int .u64 mg, .map r] 40)) :
    (∀ m : Near W, m.w.cell? ⟨B, 0, none⟩ = some (.string c)) ∧ (∀ m : Near W, m.w.cell? ⟨B, 1, none⟩ = some (.int .u64 id)) ∧ (∀ m : Near W, m.w.cell? ⟨B, 2, none⟩ = some (.slice a n cap)) ∧ (∀ m : Near W, m.w.cell? ⟨B, 3, none⟩ = some (.int .u64 mg)) ∧ (∀ m : Near W, m.w.cell? ⟨B, 4, none⟩ = some (.map r)) :=
  ⟨near_cell h 0 _ rfl, near_cell h 1 _ rfl, near_cell h 2 _ rfl, near_cell h 3 _ rfl, near_cell h 4 _ rfl⟩

set_option maxRecDepth 100000 in
set_option maxHeartbeats 4000000 in
theorem walk_fnWithoutRemovesExactlyOneIncarnation (a0 : ByteArray) (a1 : Int) (a2 : Int) (a3 : Option Addr) (len3 cap3 b3 o3 : Nat) (S3 : Nat → ByteArray) (a4 : Option Addr) (len4 cap4 b4 o4 : Nat) (S4 : Nat → ByteArray) (a5 : Option Addr) (len5 cap5 b5 o5 : Nat) (S5 : Nat → Int) (a6 : Int) (a7 : Int) (w : World) (w0 : a0.size ≤ maxLen) (w1 : (Lit.int .u64 a1).wf = true) (w2 : (Lit.int .u64 a2).wf = true) (w3 : Sl w a3 len3 cap3 b3 o3 (fun i => .string (S3 i))) (g3 : ∀ i : Nat, (S3 i).size ≤ maxLen) (w4 : Sl w a4 len4 cap4 b4 o4 (fun i => .string (S4 i))) (g4 : ∀ i : Nat, (S4 i).size ≤ maxLen) (w5 : Sl w a5 len5 cap5 b5 o5 (fun i => .int .u64 (S5 i))) (g5 : ∀ i : Nat, (Lit.int .u64 (S5 i)).wf = true) (w6 : (Lit.int .u64 a6).wf = true) (w7 : (Lit.int .u64 a7).wf = true) :
    Calls Try.prog 5 #[.string a0, .int .u64 a1, .int .u64 a2, .slice a3 len3 cap3, .slice a4 len4 cap4, .slice a5 len5 cap5, .int .u64 a6, .int .u64 a7] w fun e w' => e = .returned (.bool true) ∧ Below w.heap.size w w' := by
  clear w0 w1 w2 g3 g4 g5 w6 w7
  go_enter Try.func5, Try.ntmps5
  go_wp2_with fail
  refine (zzBytesO_any _ _ _ _ _ _ _ _ _ _ _ _ _ _ _ _ _ _ _ _ _ w3 w4).mono ?_
  rintro e w' ⟨⟨r, rfl⟩, rfl⟩
  cases r with
  | false =>
    go_wp2_with fail
    go_ret
    exact ⟨rfl, Below.refl _ _⟩
  | true =>
  go_wp2_with fail
  refine (dataOK_any _ _ _ _ _ _ _ _ _ _ _ _ _ _ _ _ _ _ _ _ _ _ _ _ _ w3 w4).mono ?_
  rintro e w ⟨⟨r, rfl, hok⟩, rfl⟩
  cases r with
  | false =>
    go_wp2_with fail
    go_ret
    exact ⟨rfl, Below.refl _ _⟩
  | true =>
  obtain ⟨l3, l4, l5, -, -⟩ := hok rfl
  clear hok
  go_wp2_with fail
  refine (cloneStrs_any _ _ _ _ _ _ _ w3 l3).mono ?_
  rintro e w1 ⟨p3, d3, rfl, s3, bel1, -, -⟩
  replace w4 := w4.keep bel1
  replace w5 := w5.keep bel1
  go_wp2_with fail
  refine (cloneStrs_any _ _ _ _ _ _ _ w4 l4).mono ?_
  rintro e w2 ⟨p4, d4, rfl, s4, bel2, -, -⟩
  replace s3 := s3.keep bel2
  replace w5 := w5.keep bel2
  go_wp2_with fail
  refine (cloneU64_any _ _ _ _ _ _ _ w5 l5).mono ?_
  rintro e wc ⟨p5, d5, rfl, s5, bel3, -, -⟩
  replace s3 := s3.keep bel3
  replace s4 := s4.keep bel3
  go_wp2_with fail
  refine (viewNil_any _ _ _ _ _ _ _ _ _ _ _ _ _ _ _ _ _ _ _ _ _ _ _ s3 s4 s5 l3).mono ?_
  rintro e wv ⟨av, kv, bv, ov, rfl, rv, -, belv⟩
  have BEL : Below w.heap.size w wv := below_chain (below_chain (below_chain bel1 bel2) bel3) belv
  clear bel1 bel2 bel3 belv s3 s4 s5 w3 w4 w5
  have hn := (mn_le len3 len4 len5).1
  have hl := mkL_length (mn len3 len4 len5) S3 S4 S5
  generalize mkL (mn len3 len4 len5) S3 S4 S5 = L at rv hl ⊢
  have hn : L.length ≤ 4096 := by omega
  clear hl
  go_upto_region 9 with fail
  obtain ⟨W1, hW1⟩ : ∃ W, W = wv.alloc (.cells #[.string a0, .int .u64 a1, .slice av L.length kv, .int .u64 a2, .map none] 40) := ⟨_, rfl⟩
  rw [← hW1]
  have bw1 : Below wv.heap.size wv W1 := by rw [hW1]; exact (Below.refl _ _).alloc (Nat.le_refl _) _
  have qv : W1.heap[wv.heap.size]? = some (.cells #[.string a0, .int .u64 a1, .slice av L.length kv, .int .u64 a2, .map none] 40) := by rw [hW1]; exact heap_alloc_new _ _
  replace rv := rv.keep bw1
  replace BEL := below_chain BEL bw1
  obtain ⟨m, hm⟩ : ∃ m : Near W1, W1 = m.w := ⟨⟨W1, Below.refl _ _⟩, rfl⟩
  rw [hm]
  clear hm bw1 hW1
  obtain ⟨cv0, cv1, cv2, cv3, cv4⟩ := view_cells qv
  go_wp2_with fail
  refine (cloneMem_any _ _ _ _ _ _ _ (rv.near m) (by omega)).mono ?_
  rintro e ws ⟨as_, ks, bs, os_, rfl, rs, hb⟩
  obtain ⟨ms, rfl⟩ := near_of _ hb
  clear hb
  go_wp2_with fail
  refine (zzWithout_any _ _ _ _ _ _ _ _ _ _ _ _ (rv.near ms) (by omega)).mono ?_
  rintro e wa ⟨aa, ka, ba, oa, rfl, ra, -, hb⟩
  replace rs := rs.keep hb
  obtain ⟨ma, rfl⟩ := near_of _ hb
  clear hb
  go_upto_region 11 with fail
  obtain ⟨W2, hW2⟩ : ∃ W, W = ma.w.alloc (.cells #[.string a0, .int .u64 a1, .slice aa (wo a6 L).length ka, .int .u64 a2, .map none] 40) := ⟨_, rfl⟩
  rw [← hW2]
  have bw2 : Below ma.w.heap.size ma.w W2 := by rw [hW2]; exact (Below.refl _ _).alloc (Nat.le_refl _) _
  have qa : W2.heap[ma.w.heap.size]? = some (.cells #[.string a0, .int .u64 a1, .slice aa (wo a6 L).length ka, .int .u64 a2, .map none] 40) := by rw [hW2]; exact heap_alloc_new _ _
  have hlt1 : wv.heap.size < W1.heap.size := (Array.getElem?_eq_some_iff.1 qv).1
  have hlt2 : W1.heap.size ≤ ma.w.heap.size := ma.bel.size
  have qv2 : W2.heap[wv.heap.size]? = _ := (bw2.block _ (by omega)).trans ((ma.bel.block _ hlt1).trans qv)
  replace rv := (rv.near ma).keep bw2
  replace rs := rs.keep bw2
  replace ra := ra.keep bw2
  replace BEL := below_chain (below_chain BEL ma.bel) bw2
  clear hW2 bw2 cv0 cv1 cv2 cv3 cv4 qv hlt1 hlt2
  generalize wv.heap.size = Bv at qv2 ⊢
  generalize ma.w.heap.size = Ba at qa ⊢
  obtain ⟨m2, hm⟩ : ∃ m : Near W2, W2 = m.w := ⟨⟨W2, Below.refl _ _⟩, rfl⟩
  rw [hm]
  clear hm
  obtain ⟨cv0, cv1, cv2, cv3, cv4⟩ := view_cells qv2
  obtain ⟨ca0, ca1, ca2, ca3, ca4⟩ := view_cells qa
  have ix := wo_idx a6 L
  go_wp2_with (go_at_call 21; refine (zzIndex_any _ _ _ _ _ _ _ _ _ _ _ _ (ra.near _)).mono ?_; rintro e wz ⟨rfl, hz⟩; obtain ⟨mz, hz⟩ := near_of _ hz; subst hz)
  clear ix
  go_loop [20, 21] (fun c i => ∃ k : Nat, k ≤ L.length ∧ i = .int .i64 k ∧ c = .int .i64 ((cntInc a6 (L.take k) : Nat) : Int)) (fun _ i => L.length - (intOf i).toNat)
  case atStart => exact ⟨0, Nat.zero_le _, rfl, rfl⟩
  case round =>
    obtain ⟨k, hk, rfl, rfl⟩ := hrel
    have hcl := cnt_le a6 (L.take k)
    have htl : (L.take k).length ≤ k := List.length_take_le _ _
    by_cases hlt : k < L.length
    · have hi := rv.idx hlt .i64
      have hc2 : ∀ m : Near W2, m.w.cell? ⟨bv, ov + k * 3 + 2, none⟩ = _ := fun m => (rv.near m).c2 k hlt
      cases he : hasInc a6 (mAt L k) with
      | true =>
        have hb : ((mAt L k).inc == a6) = true := he
        have HC : Hid (cntInc a6 (L.take (k + 1)) = cntInc a6 (L.take k) + 1) := cnt_take_hit hlt he
        clear he
        go_wp2
        go_round
        case rel => exact ⟨k + 1, by omega, by go_num, by rw [HC.out]; go_num⟩
        case measure => simp [intOf]; omega
      | false =>
        have hb : ((mAt L k).inc == a6) = false := he
        have HC : Hid (cntInc a6 (L.take (k + 1)) = cntInc a6 (L.take k)) := cnt_take_miss hlt he
        clear he
        go_wp2
        go_round
        case rel => exact ⟨k + 1, by omega, by go_num, by rw [HC.out]⟩
        case measure => simp [intOf]; omega
    have hkn : k = L.length := by omega
    subst hkn
    rw [List.take_length] at hcl ⊢
    clear htl hlt
    have hwc := wo_cnt a6 L
    have hq : (((wo a6 L).length : Int) + ((cntInc a6 L : Nat) : Int) != (L.length : Int)) = false := by simp; omega
    have HWC : Hid ((wo a6 L).length + cntInc a6 L = L.length) := hwc
    have hwl : (wo a6 L).length ≤ 4096 := by omega
    clear hwc
    have hne : Nonempty (Near W2) := ⟨m2⟩
    go_wp2
    go_loopw [22, 23] (fun j i wr => ∃ (k : Nat) (mm : Near W2), k ≤ L.length ∧ i = .int .i64 k ∧ j = .int .i64 (((wo a6 (L.take k)).length : Nat) : Int) ∧ wr = mm.w) (fun _ i _ => L.length - (intOf i).toNat)
    case atStart => exact ⟨0, _, Nat.zero_le _, rfl, rfl, rfl⟩
    case round =>
      obtain ⟨k, mm, hk, rfl, rfl, rfl⟩ := hrel
      have hjl := wo_take_le a6 L k
      by_cases hlt : k < L.length
      · have hi := rv.idx hlt .i64
        have hc0 : ∀ m : Near W2, m.w.cell? ⟨bv, ov + k * 3, none⟩ = _ := fun m => (rv.near m).c0 k hlt
        have hc1 : ∀ m : Near W2, m.w.cell? ⟨bv, ov + k * 3 + 1, none⟩ = _ := fun m => (rv.near m).c1 k hlt
        have hc2 : ∀ m : Near W2, m.w.cell? ⟨bv, ov + k * 3 + 2, none⟩ = _ := fun m => (rv.near m).c2 k hlt
        cases he : hasInc a6 (mAt L k) with
        | true =>
          have HC : Hid (wo a6 (L.take (k + 1)) = wo a6 (L.take k)) := wo_take_hit hlt he
          by_cases hj : (wo a6 (L.take k)).length < (wo a6 L).length
          · have hq := run_eql_mem (mAt (wo a6 L) (wo a6 (L.take k)).length) (mAt L k)
            rw [wo_struck hj he] at hq
            have hi' := ra.idx hj .i64
            have hd0 : ∀ m : Near W2, m.w.cell? ⟨ba, oa + (wo a6 (L.take k)).length * 3, none⟩ = _ := fun m => (ra.near m).c0 _ hj
            have hd1 : ∀ m : Near W2, m.w.cell? ⟨ba, oa + (wo a6 (L.take k)).length * 3 + 1, none⟩ = _ := fun m => (ra.near m).c1 _ hj
            have hd2 : ∀ m : Near W2, m.w.cell? ⟨ba, oa + (wo a6 (L.take k)).length * 3 + 2, none⟩ = _ := fun m => (ra.near m).c2 _ hj
            have hj' : (((wo a6 (L.take k)).length : Nat) : Int) < (((wo a6 L).length : Nat) : Int) := by omega
            clear he
            go_wp2
            refine wp_region_near (by kernel_rfl) (by kernel_rfl) ?_
            repeat (go_big_quiet_step (fail))
            refine wpQuiet_nil ?_
            intro _ hz
            obtain ⟨mq, hz⟩ := hz
            subst hz
            go_wp2
            go_roundw
            case rel => exact ⟨k + 1, mq, by omega, by go_num, by rw [HC.out], rfl⟩
            case measure => simp [intOf]; omega
          · have hj' : decide ((((wo a6 (L.take k)).length : Nat) : Int) < (((wo a6 L).length : Nat) : Int)) = false := by simp; omega
            clear he
            go_wp2
            refine wp_region_near (by kernel_rfl) (by kernel_rfl) ?_
            repeat (go_big_quiet_step (fail))
            refine wpQuiet_nil ?_
            intro _ hz
            obtain ⟨mq, hz⟩ := hz
            subst hz
            go_wp2
            go_roundw
            case rel => exact ⟨k + 1, mq, by omega, by go_num, by rw [HC.out], rfl⟩
            case measure => simp [intOf]; omega
        | false =>
          have HC : Hid (wo a6 (L.take (k + 1)) = wo a6 (L.take k) ++ [mAt L k]) := wo_take_miss hlt he
          obtain ⟨hj, hme⟩ := wo_kept hlt he
          have hq := run_eql_mem (mAt (wo a6 L) (wo a6 (L.take k)).length) (mAt L k)
          rw [hme] at hq
          have hi' := ra.idx hj .i64
          have hd0 : ∀ m : Near W2, m.w.cell? ⟨ba, oa + (wo a6 (L.take k)).length * 3, none⟩ = _ := fun m => (ra.near m).c0 _ hj
          have hd1 : ∀ m : Near W2, m.w.cell? ⟨ba, oa + (wo a6 (L.take k)).length * 3 + 1, none⟩ = _ := fun m => (ra.near m).c1 _ hj
          have hd2 : ∀ m : Near W2, m.w.cell? ⟨ba, oa + (wo a6 (L.take k)).length * 3 + 2, none⟩ = _ := fun m => (ra.near m).c2 _ hj
          have hj' : (((wo a6 (L.take k)).length : Nat) : Int) < (((wo a6 L).length : Nat) : Int) := by omega
          clear he hme
          go_wp2
          refine wp_region_near (by kernel_rfl) (by kernel_rfl) ?_
          repeat (go_big_quiet_step (fail))
          refine wpQuiet_nil ?_
          intro _ hz
          obtain ⟨mq, hz⟩ := hz
          subst hz
          go_wp2
          go_roundw
          case rel => exact ⟨k + 1, mq, by omega, by go_num, by rw [HC.out, List.length_append]; go_num, rfl⟩
          case measure => simp [intOf]; omega
      have hkn : k = L.length := by omega
      subst hkn
      rw [List.take_length]
      clear hjl hlt
      have hjq : ((((wo a6 L).length : Nat) : Int) != (((wo a6 L).length : Nat) : Int)) = false := by simp
      have hfld := field40_2
      have hww := wo_wo a6 L
      have sww : sameM (wo a6 (wo a6 L)) (wo a6 L) = true := by rw [hww]; exact sameM_refl _
      clear hww
      by_cases hc0 : cntInc a6 L = 0
      · have hcz : (((cntInc a6 L : Nat) : Int) == 0) = true := by simp [hc0]
        have hs : sameM (wo a6 L) L = true := by rw [wo_none hc0]; exact sameM_refl _
        clear hc0
        go_wp2_with fail
        refine (same_any _ _ _ _ _ _ _ _ _ _ _ _ _ (ra.near mm) (rv.near mm)).mono ?_
        rintro e wz ⟨rfl, hz⟩
        obtain ⟨mm, rfl⟩ := near_of _ hz
        rw [hs]
        go_wp2_with fail
        go_region_held3 (fun w' => w'.cell? ⟨Ba, 0, none⟩ = some (.string a0) ∧ w'.cell? ⟨Ba, 1, none⟩ = some (.int .u64 a1) ∧ w'.cell? ⟨Ba, 2, none⟩ = some (.slice aa (wo a6 L).length ka) ∧ w'.cell? ⟨Ba, 3, none⟩ = some (.int .u64 a2) ∧ w'.cell? ⟨Ba, 4, none⟩ = some (.map none)) (first | exact ⟨ca0 _, ca1 _, ca2 _, ca3 _, ca4 _⟩ | exact ⟨ca0 mm, ca1 mm, ca2 mm, ca3 mm, ca4 mm⟩) (first | (go_at_call 23; refine (zzWithout_any _ _ _ _ _ _ _ _ _ _ _ mm.w.drew (ra.near ⟨mm.w.drew, mm.bel.drew⟩) (by omega)).mono ?_; rintro e wz ⟨ax, kx, bx, ox, rfl, rx, -, hz⟩; obtain ⟨mx, hz⟩ := near_of (⟨mm.w.drew, mm.bel.drew⟩ : Near W2) hz; subst hz) | (go_at_call 24; refine (same_any _ _ _ _ _ _ _ _ _ _ _ _ _ rx (ra.near _)).mono ?_; rintro e wz ⟨rfl, hz⟩; obtain ⟨mx, hz⟩ := near_of _ hz; subst hz))
        go_wp2_with fail
        refine (zzWithout_any _ _ _ _ _ _ _ _ _ _ _ _ (ra.near _) (by omega)).mono ?_
        rintro e wb ⟨ab, kb, bb, ob, rfl, rb, -, hb⟩
        obtain ⟨mb, rfl⟩ := near_of _ hb
        clear hb
        go_upto_region 36 with fail
        obtain ⟨W3, hW3⟩ : ∃ W, W = mb.w.alloc (.cells #[.string a0, .int .u64 a1, .slice ab (wo a7 (wo a6 L)).length kb, .int .u64 a2, .map none] 40) := ⟨_, rfl⟩
        rw [← hW3]
        have bw3 : Below mb.w.heap.size mb.w W3 := by rw [hW3]; exact (Below.refl _ _).alloc (Nat.le_refl _) _
        have qb : W3.heap[mb.w.heap.size]? = some (.cells #[.string a0, .int .u64 a1, .slice ab (wo a7 (wo a6 L)).length kb, .int .u64 a2, .map none] 40) := by rw [hW3]; exact heap_alloc_new _ _
        have hlt1 : Bv < W2.heap.size := (Array.getElem?_eq_some_iff.1 qv2).1
        have hlt2 : W2.heap.size ≤ mb.w.heap.size := mb.bel.size
        have qv3 : W3.heap[Bv]? = _ := (bw3.block _ (by omega)).trans ((mb.bel.block _ hlt1).trans qv2)
        have rv3 := (rv.near mb).keep bw3
        have rs3 := (rs.near mb).keep bw3
        replace rb := rb.keep bw3
        have BEL3 := below_chain (below_chain BEL mb.bel) bw3
        clear hW3 bw3 cv0 cv1 cv2 cv3 cv4 ca0 ca1 ca2 ca3 ca4 hlt1 hlt2 ra
        generalize mb.w.heap.size = Bb at qb ⊢
        obtain ⟨m3, hm⟩ : ∃ m : Near W3, W3 = m.w := ⟨⟨W3, Below.refl _ _⟩, rfl⟩
        rw [hm]
        clear hm
        obtain ⟨cv0, cv1, cv2, cv3, cv4⟩ := view_cells qv3
        go_wp2_with fail
        refine (zzWithout_any _ _ _ _ _ _ _ _ _ _ _ _ (rv3.near _) (by omega)).mono ?_
        rintro e wb ⟨ac, kc, bc, oc, rfl, rc, -, hb⟩
        obtain ⟨mc, rfl⟩ := near_of _ hb
        clear hb
        go_wp2_with fail
        refine (zzWithout_any _ _ _ _ _ _ _ _ _ _ _ _ rc (by have := wo_le a7 L; omega)).mono ?_
        rintro e wb ⟨ad, kd, bd, od, rfl, rd, -, hb⟩
        obtain ⟨md, rfl⟩ := near_of _ hb
        clear hb rc
        go_upto_region 37 with fail
        obtain ⟨W4, hW4⟩ : ∃ W, W = md.w.alloc (.cells #[.string a0, .int .u64 a1, .slice ad (wo a6 (wo a7 L)).length kd, .int .u64 a2, .map none] 40) := ⟨_, rfl⟩
        rw [← hW4]
        have bw4 : Below md.w.heap.size md.w W4 := by rw [hW4]; exact (Below.refl _ _).alloc (Nat.le_refl _) _
        have qd : W4.heap[md.w.heap.size]? = some (.cells #[.string a0, .int .u64 a1, .slice ad (wo a6 (wo a7 L)).length kd, .int .u64 a2, .map none] 40) := by rw [hW4]; exact heap_alloc_new _ _
        have hlt1 : Bv < W3.heap.size := (Array.getElem?_eq_some_iff.1 qv3).1
        have hlt3 : Bb < W3.heap.size := (Array.getElem?_eq_some_iff.1 qb).1
        have hlt2 : W3.heap.size ≤ md.w.heap.size := md.bel.size
        have qv4 : W4.heap[Bv]? = _ := (bw4.block _ (by omega)).trans ((md.bel.block _ hlt1).trans qv3)
        have qb4 : W4.heap[Bb]? = _ := (bw4.block _ (by omega)).trans ((md.bel.block _ hlt3).trans qb)
        have rv4 := (rv3.near md).keep bw4
        have rs4 := (rs3.near md).keep bw4
        have rb4 := (rb.near md).keep bw4
        replace rd := rd.keep bw4
        have BEL4 := below_chain (below_chain BEL3 md.bel) bw4
        clear hW4 bw4 cv0 cv1 cv2 cv3 cv4 hlt1 hlt2 hlt3
        generalize md.w.heap.size = Bd at qd ⊢
        obtain ⟨m4, hm⟩ : ∃ m : Near W4, W4 = m.w := ⟨⟨W4, Below.refl _ _⟩, rfl⟩
        rw [hm]
        clear hm
        obtain ⟨cv0, cv1, cv2, cv3, cv4⟩ := view_cells qv4
        obtain ⟨cb0, cb1, cb2, cb3, cb4⟩ := view_cells qb4
        obtain ⟨cd0, cd1, cd2, cd3, cd4⟩ := view_cells qd
        have s1 : sameM (wo a7 (wo a6 L)) (wo a6 (wo a7 L)) = true := by rw [wo_comm a6 a7]; exact sameM_refl _
        have s2 : fIdx (hasInc a6) (wo a7 (wo a6 L)) = -1 := by rw [wo_comm a6 a7]; exact wo_idx _ _
        have s3 : fIdx (hasInc a7) (wo a7 (wo a6 L)) = -1 := wo_idx _ _
        have s4 : sameM L L = true := sameM_refl _
        go_wp2_with (first | (go_at_call 24; refine (same_any _ _ _ _ _ _ _ _ _ _ _ _ _ (by first | exact rb4.near _ | exact rv4.near _) (by first | exact rd.near _ | exact rs4.near _)).mono ?_; rintro e wz ⟨rfl, hz⟩; obtain ⟨mz, hz⟩ := near_of _ hz; subst hz) | (go_at_call 21; refine (zzIndex_any _ _ _ _ _ _ _ _ _ _ _ _ (rb4.near _)).mono ?_; rintro e wz ⟨rfl, hz⟩; obtain ⟨mz, hz⟩ := near_of _ hz; subst hz))
        go_ret
        exact ⟨rfl, below_chain BEL4 (Near.bel _)⟩
      · have hcz : (((cntInc a6 L : Nat) : Int) == 0) = false := by simp [hc0]
        clear hc0
        go_wp2_with fail
        go_region_held3 (fun w' => w'.cell? ⟨Ba, 0, none⟩ = some (.string a0) ∧ w'.cell? ⟨Ba, 1, none⟩ = some (.int .u64 a1) ∧ w'.cell? ⟨Ba, 2, none⟩ = some (.slice aa (wo a6 L).length ka) ∧ w'.cell? ⟨Ba, 3, none⟩ = some (.int .u64 a2) ∧ w'.cell? ⟨Ba, 4, none⟩ = some (.map none)) (first | exact ⟨ca0 _, ca1 _, ca2 _, ca3 _, ca4 _⟩ | exact ⟨ca0 mm, ca1 mm, ca2 mm, ca3 mm, ca4 mm⟩) (first | (go_at_call 23; refine (zzWithout_any _ _ _ _ _ _ _ _ _ _ _ mm.w.drew (ra.near ⟨mm.w.drew, mm.bel.drew⟩) (by omega)).mono ?_; rintro e wz ⟨ax, kx, bx, ox, rfl, rx, -, hz⟩; obtain ⟨mx, hz⟩ := near_of (⟨mm.w.drew, mm.bel.drew⟩ : Near W2) hz; subst hz) | (go_at_call 24; refine (same_any _ _ _ _ _ _ _ _ _ _ _ _ _ rx (ra.near _)).mono ?_; rintro e wz ⟨rfl, hz⟩; obtain ⟨mx, hz⟩ := near_of _ hz; subst hz))
        go_wp2_with fail
        refine (zzWithout_any _ _ _ _ _ _ _ _ _ _ _ _ (ra.near _) (by omega)).mono ?_
        rintro e wb ⟨ab, kb, bb, ob, rfl, rb, -, hb⟩
        obtain ⟨mb, rfl⟩ := near_of _ hb
        clear hb
        go_upto_region 36 with fail
        obtain ⟨W3, hW3⟩ : ∃ W, W = mb.w.alloc (.cells #[.string a0, .int .u64 a1, .slice ab (wo a7 (wo a6 L)).length kb, .int .u64 a2, .map none] 40) := ⟨_, rfl⟩
        rw [← hW3]
        have bw3 : Below mb.w.heap.size mb.w W3 := by rw [hW3]; exact (Below.refl _ _).alloc (Nat.le_refl _) _
        have qb : W3.heap[mb.w.heap.size]? = some (.cells #[.string a0, .int .u64 a1, .slice ab (wo a7 (wo a6 L)).length kb, .int .u64 a2, .map none] 40) := by rw [hW3]; exact heap_alloc_new _ _
        have hlt1 : Bv < W2.heap.size := (Array.getElem?_eq_some_iff.1 qv2).1
        have hlt2 : W2.heap.size ≤ mb.w.heap.size := mb.bel.size
        have qv3 : W3.heap[Bv]? = _ := (bw3.block _ (by omega)).trans ((mb.bel.block _ hlt1).trans qv2)
        have rv3 := (rv.near mb).keep bw3
        have rs3 := (rs.near mb).keep bw3
        replace rb := rb.keep bw3
        have BEL3 := below_chain (below_chain BEL mb.bel) bw3
        clear hW3 bw3 cv0 cv1 cv2 cv3 cv4 ca0 ca1 ca2 ca3 ca4 hlt1 hlt2 ra
        generalize mb.w.heap.size = Bb at qb ⊢
        obtain ⟨m3, hm⟩ : ∃ m : Near W3, W3 = m.w := ⟨⟨W3, Below.refl _ _⟩, rfl⟩
        rw [hm]
        clear hm
        obtain ⟨cv0, cv1, cv2, cv3, cv4⟩ := view_cells qv3
        go_wp2_with fail
        refine (zzWithout_any _ _ _ _ _ _ _ _ _ _ _ _ (rv3.near _) (by omega)).mono ?_
        rintro e wb ⟨ac, kc, bc, oc, rfl, rc, -, hb⟩
        obtain ⟨mc, rfl⟩ := near_of _ hb
        clear hb
        go_wp2_with fail
        refine (zzWithout_any _ _ _ _ _ _ _ _ _ _ _ _ rc (by have := wo_le a7 L; omega)).mono ?_
        rintro e wb ⟨ad, kd, bd, od, rfl, rd, -, hb⟩
        obtain ⟨md, rfl⟩ := near_of _ hb
        clear hb rc
        go_upto_region 37 with fail
        obtain ⟨W4, hW4⟩ : ∃ W, W = md.w.alloc (.cells #[.string a0, .int .u64 a1, .slice ad (wo a6 (wo a7 L)).length kd, .int .u64 a2, .map none] 40) := ⟨_, rfl⟩
        rw [← hW4]
        have bw4 : Below md.w.heap.size md.w W4 := by rw [hW4]; exact (Below.refl _ _).alloc (Nat.le_refl _) _
        have qd : W4.heap[md.w.heap.size]? = some (.cells #[.string a0, .int .u64 a1, .slice ad (wo a6 (wo a7 L)).length kd, .int .u64 a2, .map none] 40) := by rw [hW4]; exact heap_alloc_new _ _
        have hlt1 : Bv < W3.heap.size := (Array.getElem?_eq_some_iff.1 qv3).1
        have hlt3 : Bb < W3.heap.size := (Array.getElem?_eq_some_iff.1 qb).1
        have hlt2 : W3.heap.size ≤ md.w.heap.size := md.bel.size
        have qv4 : W4.heap[Bv]? = _ := (bw4.block _ (by omega)).trans ((md.bel.block _ hlt1).trans qv3)
        have qb4 : W4.heap[Bb]? = _ := (bw4.block _ (by omega)).trans ((md.bel.block _ hlt3).trans qb)
        have rv4 := (rv3.near md).keep bw4
        have rs4 := (rs3.near md).keep bw4
        have rb4 := (rb.near md).keep bw4
        replace rd := rd.keep bw4
        have BEL4 := below_chain (below_chain BEL3 md.bel) bw4
        clear hW4 bw4 cv0 cv1 cv2 cv3 cv4 hlt1 hlt2 hlt3
        generalize md.w.heap.size = Bd at qd ⊢
        obtain ⟨m4, hm⟩ : ∃ m : Near W4, W4 = m.w := ⟨⟨W4, Below.refl _ _⟩, rfl⟩
        rw [hm]
        clear hm
        obtain ⟨cv0, cv1, cv2, cv3, cv4⟩ := view_cells qv4
        obtain ⟨cb0, cb1, cb2, cb3, cb4⟩ := view_cells qb4
        obtain ⟨cd0, cd1, cd2, cd3, cd4⟩ := view_cells qd
        have s1 : sameM (wo a7 (wo a6 L)) (wo a6 (wo a7 L)) = true := by rw [wo_comm a6 a7]; exact sameM_refl _
        have s2 : fIdx (hasInc a6) (wo a7 (wo a6 L)) = -1 := by rw [wo_comm a6 a7]; exact wo_idx _ _
        have s3 : fIdx (hasInc a7) (wo a7 (wo a6 L)) = -1 := wo_idx _ _
        have s4 : sameM L L = true := sameM_refl _
        go_wp2_with (first | (go_at_call 24; refine (same_any _ _ _ _ _ _ _ _ _ _ _ _ _ (by first | exact rb4.near _ | exact rv4.near _) (by first | exact rd.near _ | exact rs4.near _)).mono ?_; rintro e wz ⟨rfl, hz⟩; obtain ⟨mz, hz⟩ := near_of _ hz; subst hz) | (go_at_call 21; refine (zzIndex_any _ _ _ _ _ _ _ _ _ _ _ _ (rb4.near _)).mono ?_; rintro e wz ⟨rfl, hz⟩; obtain ⟨mz, hz⟩ := near_of _ hz; subst hz))
        go_ret
        exact ⟨rfl, below_chain BEL4 (Near.bel _)⟩

end Go.Proofs.Qxb6003790a
