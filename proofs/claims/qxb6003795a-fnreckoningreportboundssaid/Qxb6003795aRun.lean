/- zzRunScript keeps the invariant. -/
import Derived.Test.Qxb6003795aSteps
namespace Go.Proofs.Qxb6003795a
set_option maxRecDepth 100000
open Go.RowKit Go.Maps
attribute [local go_sem ↓] Go.wp_at_zero Go.wp_at_succ

theorem size5 (w : World) : (Go.sizeOf 5).run Try.prog w = .ok 1 w := by kernel_rfl
theorem size2 (w : World) : (Go.sizeOf 2).run Try.prog w = .ok 1 w := by kernel_rfl

theorem and3 (op : Int) (h : 0 ≤ op ∧ op ≤ 255) : bits .and .u8 op 3 = op % 4 := by
  have hd : ∀ n : Fin 256, bits .and .u8 ((n.val : Nat) : Int) 3 = ((n.val % 4 : Nat) : Int) := by decide +kernel
  have h1 : bits .and .u8 ((op.toNat : Nat) : Int) 3 = ((op.toNat % 4 : Nat) : Int) := hd ⟨op.toNat, by omega⟩
  rw [show ((op.toNat : Nat) : Int) = op by omega] at h1
  rw [h1]
  omega

def RunRel (H cr su re k : Nat) (wb wr : World) : Prop := ∃ S, S.H = H ∧ S.L.length = cr ∧ Mem k wr S ∧ Inv S (su + 8 * re) ∧ Below H wb wr ∧ cr + su + re ≤ k

set_option maxHeartbeats 4000000 in
theorem run_any (H : Nat) (wb w : World) (a0 : Option Addr) (n0 c0 b0 o0 : Nat) (V0 : Nat → Int) (a1 : Option Addr) (n1 c1 b1 o1 : Nat) (V1 : Nat → Int)
    (hH : wb.heap.size = H) (h0 : Sl wb a0 n0 c0 b0 o0 (fun i => .int .u8 (V0 i))) (h1 : Sl wb a1 n1 c1 b1 o1 (fun i => .int .i64 (V1 i)))
    (g0 : ∀ i, 0 ≤ V0 i ∧ V0 i ≤ 255) (g1 : ∀ i, i < n1 → -1099511627776 ≤ V1 i ∧ V1 i ≤ 1099511627776) (hn0 : n0 ≤ 4096)
    (m : Mem 0 w (newSt H)) (hb : Below H wb w) :
    Calls Try.prog 9 #[.pointer (some ⟨H + 5, 0, none⟩), .slice a0 n0 c0, .slice a1 n1 c1] w fun e w' => ∃ cr su re : Nat, e = .returned (.tuple #[.int .i64 cr, .int .i64 su, .int .i64 re]) ∧ RunRel H cr su re n0 wb w' := by
  have R0 : RunRel H 0 0 0 0 wb w := ⟨newSt H, rfl, rfl, m, new_inv H, hb, by omega⟩
  have K0 : Hid (∀ x, Below H wb x → Sl x a0 n0 c0 b0 o0 (fun i => .int .u8 (V0 i))) := fun x hx => h0.keep (by rw [hH]; exact hx)
  have K1 : Hid (∀ x, Below H wb x → Sl x a1 n1 c1 b1 o1 (fun i => .int .i64 (V1 i))) := fun x hx => h1.keep (by rw [hH]; exact hx)
  clear m hb h0 h1 hH
  go_enter Try.func9, Try.ntmps9
  go_wp2
  go_loopw [6, 7, 8, 9] (fun c s r i wr => ∃ (cr su re k : Nat), c = .int .i64 cr ∧ s = .int .i64 su ∧ r = .int .i64 re ∧ i = .int .i64 k ∧ k ≤ n0 ∧ RunRel H cr su re k wb wr) (fun _ _ _ i _ => n0 - (intOf i).toNat)
  case atStart => exact ⟨0, 0, 0, 0, rfl, rfl, rfl, rfl, Nat.zero_le _, R0⟩
  case round =>
    obtain ⟨cr, su, re, k, rfl, rfl, rfl, rfl, hk, rel⟩ := hrel
    have REL : Hid (RunRel H cr su re k wb wr) := rel
    clear rel R0
    by_cases hlt : k < n0
    · obtain ⟨S, rfl, eL, m, inv, bel, hcnt⟩ := REL.out
      have s0 := K0.out wr bel
      have s1 := K1.out wr bel
      have i0 := s0.idx (P := Try.prog) Try.underlying22 size5 hlt .i64
      have v0 := s0.cell k hlt
      have gg := g0 k
      obtain ⟨op, hop⟩ : ∃ op : Int, op = V0 k := ⟨_, rfl⟩
      rw [← hop] at v0 gg
      clear hop
      obtain ⟨o, ho, hoa⟩ : ∃ o : Nat, o < 8 ∧ op / 4 % 8 = (o : Int) := ⟨(op / 4 % 8).toNat, by omega, by omega⟩
      obtain ⟨s, hs, hsa⟩ : ∃ s : Nat, s < 8 ∧ op / 32 % 8 = (s : Int) := ⟨(op / 32 % 8).toNat, by omega, by omega⟩
      have EL : Hid (S.L.length = cr) := eL
      have BL : Hid (Below S.H wb wr) := bel
      by_cases hl1 : k < n1
      · have i1 := s1.idx (P := Try.prog) Try.underlying23 size2 hl1 .i64
        have v1 := s1.cell k hl1
        have ba := g1 k hl1
        obtain ⟨at', hat⟩ : ∃ a : Int, a = V1 k := ⟨_, rfl⟩
        rw [← hat] at v1 ba
        clear s0 s1 bel hat g0 g1 K0 K1 REL eL
        rcases (show bits .and .u8 op 3 = 0 ∨ bits .and .u8 op 3 = 1 ∨ bits .and .u8 op 3 = 2 ∨ bits .and .u8 op 3 = 3 by rw [and3 op gg]; omega) with hq | hq | hq | hq
        · have HC := zzHappen_crash k (su + 8 * re) S o at' wr m inv (by omega) (by omega) (by have := EL.out; omega) ba ho
          have HI := zzID_any o ho o rfl wr
          clear m inv ho hs ba
          go_wp2_with fail
          refine HI.mono ?_
          rintro e w1 ⟨rfl, rfl⟩
          go_wp2_with fail
          refine HC.mono ?_
          rintro e w2 ⟨rfl, S2, e2, eL2, m2, i2, b2⟩
          have R2 : Hid (RunRel S.H (cr + 1) su re (k + 1) wb w2) := ⟨S2, e2, by rw [eL2, EL.out], m2, i2, BL.out.trans b2, by omega⟩
          clear m2 i2 b2 eL2 e2 HC HI hq hoa hsa gg i0 v0 i1 v1
          go_wp2
          go_roundw
          case rel => exact ⟨cr + 1, su, re, k + 1, rfl, rfl, rfl, rfl, hlt, R2.out⟩
          case measure => simp [intOf]; omega
        · have HC := zzHappen_restart k (su + 8 * re) S o at' wr m inv (by omega) ba ho
          have HI := zzID_any o ho o rfl wr
          clear m inv ho hs ba
          go_wp2_with fail
          refine HI.mono ?_
          rintro e w1 ⟨rfl, rfl⟩
          go_wp2_with fail
          refine HC.mono ?_
          rintro e w2 ⟨rfl, S2, e2, eL2, m2, i2, b2⟩
          have R2 : Hid (RunRel S.H cr su (re + 1) (k + 1) wb w2) := ⟨S2, e2, by rw [eL2, EL.out], m2, by rw [show su + 8 * (re + 1) = su + 8 * re + 8 by omega]; exact i2, BL.out.trans b2, by omega⟩
          clear m2 i2 b2 eL2 e2 HC HI hq hoa hsa gg i0 v0 i1 v1
          go_wp2
          go_roundw
          case rel => exact ⟨cr, su, re + 1, k + 1, rfl, rfl, rfl, rfl, hlt, R2.out⟩
          case measure => simp [intOf]; omega
        · by_cases eos : o = s
          · subst eos
            have R2 : Hid (RunRel S.H cr su re (k + 1) wb wr) := ⟨S, rfl, EL.out, m.mono (Nat.le_succ k), inv, BL.out, by omega⟩
            clear m inv ho hs ba
            go_wp2
            go_roundw
            case rel => exact ⟨cr, su, re, k + 1, rfl, rfl, rfl, rfl, hlt, R2.out⟩
            case measure => simp [intOf]; omega
          · have hne : ((o : Int) == (s : Int)) = false := by simp; omega
            have hne' : ¬ (o : Int) = (s : Int) := by omega
            have HC := zzChange_on k (su + 8 * re) S o s at' wr m inv (by omega) (by omega) (by have := EL.out; omega) ba ho hs eos
            have HI := zzID_any o ho o rfl wr
            have HJ := zzID_any s hs s rfl wr
            clear m inv ho hs ba
            go_wp2_with fail
            refine HI.mono ?_
            rintro e w1 ⟨rfl, rfl⟩
            go_wp2_with fail
            refine HJ.mono ?_
            rintro e w1 ⟨rfl, rfl⟩
            go_wp2_with fail
            refine HC.mono ?_
            rintro e w2 ⟨rfl, S2, e2, eL2, m2, i2, b2⟩
            have R2 : Hid (RunRel S.H cr (su + 1) re (k + 1) wb w2) := ⟨S2, e2, by rw [eL2, EL.out], m2, by rw [show su + 1 + 8 * re = su + 8 * re + 1 by omega]; exact i2, BL.out.trans b2, by omega⟩
            clear m2 i2 b2 eL2 e2 HC HI HJ hq hoa hsa gg i0 v0 i1 v1 hne hne'
            go_wp2
            go_roundw
            case rel => exact ⟨cr, su + 1, re, k + 1, rfl, rfl, rfl, rfl, hlt, R2.out⟩
            case measure => simp [intOf]; omega
        · by_cases eos : o = s
          · subst eos
            have R2 : Hid (RunRel S.H cr su re (k + 1) wb wr) := ⟨S, rfl, EL.out, m.mono (Nat.le_succ k), inv, BL.out, by omega⟩
            clear m inv ho hs ba
            go_wp2
            go_roundw
            case rel => exact ⟨cr, su, re, k + 1, rfl, rfl, rfl, rfl, hlt, R2.out⟩
            case measure => simp [intOf]; omega
          · have hne : ((o : Int) == (s : Int)) = false := by simp; omega
            have hne' : ¬ (o : Int) = (s : Int) := by omega
            have HC := zzChange_off k (su + 8 * re) S o s at' wr m inv (by omega) ba
            have HI := zzID_any o ho o rfl wr
            have HJ := zzID_any s hs s rfl wr
            clear m inv ho hs ba
            go_wp2_with fail
            refine HI.mono ?_
            rintro e w1 ⟨rfl, rfl⟩
            go_wp2_with fail
            refine HJ.mono ?_
            rintro e w1 ⟨rfl, rfl⟩
            go_wp2_with fail
            refine HC.mono ?_
            rintro e w2 ⟨rfl, S2, e2, eL2, m2, i2, b2⟩
            have R2 : Hid (RunRel S.H cr su re (k + 1) wb w2) := ⟨S2, e2, by rw [eL2, EL.out], m2, i2, BL.out.trans b2, by omega⟩
            clear m2 i2 b2 eL2 e2 HC HI HJ hq hoa hsa gg i0 v0 i1 v1 hne hne'
            go_wp2
            go_roundw
            case rel => exact ⟨cr, su, re, k + 1, rfl, rfl, rfl, rfl, hlt, R2.out⟩
            case measure => simp [intOf]; omega
      · have ba : (-1099511627776 : Int) ≤ 0 ∧ (0 : Int) ≤ 1099511627776 := by omega
        clear s0 s1 bel g0 g1 K0 K1 REL eL
        rcases (show bits .and .u8 op 3 = 0 ∨ bits .and .u8 op 3 = 1 ∨ bits .and .u8 op 3 = 2 ∨ bits .and .u8 op 3 = 3 by rw [and3 op gg]; omega) with hq | hq | hq | hq
        · have HC := zzHappen_crash k (su + 8 * re) S o 0 wr m inv (by omega) (by omega) (by have := EL.out; omega) ba ho
          have HI := zzID_any o ho o rfl wr
          clear m inv ho hs ba
          go_wp2_with fail
          refine HI.mono ?_
          rintro e w1 ⟨rfl, rfl⟩
          go_wp2_with fail
          refine HC.mono ?_
          rintro e w2 ⟨rfl, S2, e2, eL2, m2, i2, b2⟩
          have R2 : Hid (RunRel S.H (cr + 1) su re (k + 1) wb w2) := ⟨S2, e2, by rw [eL2, EL.out], m2, i2, BL.out.trans b2, by omega⟩
          clear m2 i2 b2 eL2 e2 HC HI hq hoa hsa gg i0 v0
          go_wp2
          go_roundw
          case rel => exact ⟨cr + 1, su, re, k + 1, rfl, rfl, rfl, rfl, hlt, R2.out⟩
          case measure => simp [intOf]; omega
        · have HC := zzHappen_restart k (su + 8 * re) S o 0 wr m inv (by omega) ba ho
          have HI := zzID_any o ho o rfl wr
          clear m inv ho hs ba
          go_wp2_with fail
          refine HI.mono ?_
          rintro e w1 ⟨rfl, rfl⟩
          go_wp2_with fail
          refine HC.mono ?_
          rintro e w2 ⟨rfl, S2, e2, eL2, m2, i2, b2⟩
          have R2 : Hid (RunRel S.H cr su (re + 1) (k + 1) wb w2) := ⟨S2, e2, by rw [eL2, EL.out], m2, by rw [show su + 8 * (re + 1) = su + 8 * re + 8 by omega]; exact i2, BL.out.trans b2, by omega⟩
          clear m2 i2 b2 eL2 e2 HC HI hq hoa hsa gg i0 v0
          go_wp2
          go_roundw
          case rel => exact ⟨cr, su, re + 1, k + 1, rfl, rfl, rfl, rfl, hlt, R2.out⟩
          case measure => simp [intOf]; omega
        · by_cases eos : o = s
          · subst eos
            have R2 : Hid (RunRel S.H cr su re (k + 1) wb wr) := ⟨S, rfl, EL.out, m.mono (Nat.le_succ k), inv, BL.out, by omega⟩
            clear m inv ho hs ba
            go_wp2
            go_roundw
            case rel => exact ⟨cr, su, re, k + 1, rfl, rfl, rfl, rfl, hlt, R2.out⟩
            case measure => simp [intOf]; omega
          · have hne : ((o : Int) == (s : Int)) = false := by simp; omega
            have hne' : ¬ (o : Int) = (s : Int) := by omega
            have HC := zzChange_on k (su + 8 * re) S o s 0 wr m inv (by omega) (by omega) (by have := EL.out; omega) ba ho hs eos
            have HI := zzID_any o ho o rfl wr
            have HJ := zzID_any s hs s rfl wr
            clear m inv ho hs ba
            go_wp2_with fail
            refine HI.mono ?_
            rintro e w1 ⟨rfl, rfl⟩
            go_wp2_with fail
            refine HJ.mono ?_
            rintro e w1 ⟨rfl, rfl⟩
            go_wp2_with fail
            refine HC.mono ?_
            rintro e w2 ⟨rfl, S2, e2, eL2, m2, i2, b2⟩
            have R2 : Hid (RunRel S.H cr (su + 1) re (k + 1) wb w2) := ⟨S2, e2, by rw [eL2, EL.out], m2, by rw [show su + 1 + 8 * re = su + 8 * re + 1 by omega]; exact i2, BL.out.trans b2, by omega⟩
            clear m2 i2 b2 eL2 e2 HC HI HJ hq hoa hsa gg i0 v0 hne hne'
            go_wp2
            go_roundw
            case rel => exact ⟨cr, su + 1, re, k + 1, rfl, rfl, rfl, rfl, hlt, R2.out⟩
            case measure => simp [intOf]; omega
        · by_cases eos : o = s
          · subst eos
            have R2 : Hid (RunRel S.H cr su re (k + 1) wb wr) := ⟨S, rfl, EL.out, m.mono (Nat.le_succ k), inv, BL.out, by omega⟩
            clear m inv ho hs ba
            go_wp2
            go_roundw
            case rel => exact ⟨cr, su, re, k + 1, rfl, rfl, rfl, rfl, hlt, R2.out⟩
            case measure => simp [intOf]; omega
          · have hne : ((o : Int) == (s : Int)) = false := by simp; omega
            have hne' : ¬ (o : Int) = (s : Int) := by omega
            have HC := zzChange_off k (su + 8 * re) S o s 0 wr m inv (by omega) ba
            have HI := zzID_any o ho o rfl wr
            have HJ := zzID_any s hs s rfl wr
            clear m inv ho hs ba
            go_wp2_with fail
            refine HI.mono ?_
            rintro e w1 ⟨rfl, rfl⟩
            go_wp2_with fail
            refine HJ.mono ?_
            rintro e w1 ⟨rfl, rfl⟩
            go_wp2_with fail
            refine HC.mono ?_
            rintro e w2 ⟨rfl, S2, e2, eL2, m2, i2, b2⟩
            have R2 : Hid (RunRel S.H cr su re (k + 1) wb w2) := ⟨S2, e2, by rw [eL2, EL.out], m2, i2, BL.out.trans b2, by omega⟩
            clear m2 i2 b2 eL2 e2 HC HI HJ hq hoa hsa gg i0 v0 hne hne'
            go_wp2
            go_roundw
            case rel => exact ⟨cr, su, re, k + 1, rfl, rfl, rfl, rfl, hlt, R2.out⟩
            case measure => simp [intOf]; omega
    · have hkn : k = n0 := by omega
      subst hkn
      go_wp2
      go_ret3
      exact ⟨cr, su, re, rfl, REL.out⟩
end Go.Proofs.Qxb6003795a
