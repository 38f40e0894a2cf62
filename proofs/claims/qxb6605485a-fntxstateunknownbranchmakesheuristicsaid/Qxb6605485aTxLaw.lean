/- The law on txState: its walk. -/
import Derived.Test.Qxb6605485aTx
import Derived.RegionTactic
import Derived.ChangeAlike
namespace Go.Proofs.Qxb6605485a
open Go.RowKit Go.Maps Go.WideMaps
set_option linter.unusedVariables false

theorem run_makeMap28 (n : Int) (w : World) : (Instr.makeMap 28 (some (.int .i64 n))).run Try.prog w = .ok (.map (some w.heap.size)) (w.alloc (.map #[] 0)) := by kernel_rfl

set_option maxRecDepth 100000 in
set_option maxHeartbeats 2000000 in
theorem walk_fnTxStateUnknownBranchMakesHeuristic (a0 : Int) (a1 : Option Addr) (len1 cap1 b1 o1 : Nat) (S1 : Nat → ByteArray) (a2 : Option Addr) (len2 cap2 b2 o2 : Nat) (S2 : Nat → Int) (a3 : ByteArray) (w : World) (w0 : (Lit.int .i64 a0).wf = true) (w1 : Sl w a1 len1 cap1 b1 o1 (fun i => .string (S1 i))) (g1 : ∀ i : Nat, (S1 i).size ≤ maxLen) (w2 : Sl w a2 len2 cap2 b2 o2 (fun i => .int .i64 (S2 i))) (g2 : ∀ i : Nat, (Lit.int .i64 (S2 i)).wf = true) (w3 : a3.size ≤ maxLen) :
    Calls Try.prog 3 #[.int .i64 a0, .slice a1 len1 cap1, .slice a2 len2 cap2, .string a3] w fun e w' => e = .returned (.bool true) ∧ Below w.heap.size w w' := by
  clear w0
  go_enter Try.func3, Try.ntmps3
  go_wp2_with fail
  refine (zzBytes_any _ _ _ _ _ _ _ _ _ _ _ _ w1).mono ?_
  rintro e w' ⟨⟨r, rfl⟩, rfl⟩
  cases r with
  | false =>
    go_wp2_with fail
    go_ret
    exact ⟨rfl, Below.refl _ _⟩
  | true =>
  by_cases l1 : 65536 < len1
  · go_wp2_with fail
    go_ret
    exact ⟨rfl, Below.refl _ _⟩
  by_cases l2 : 65536 < len2
  · go_wp2_with fail
    go_ret
    exact ⟨rfl, Below.refl _ _⟩
  by_cases l3 : 65536 < a3.size
  · go_wp2_with fail
    go_ret
    exact ⟨rfl, Below.refl _ _⟩
  go_wp2_with fail
  refine (zzFit_any _ _ _ _ _ _ _ _ w1 (by omega)).mono ?_
  rintro e w ⟨⟨r, rfl⟩, rfl⟩
  cases r with
  | false =>
    go_wp2_with fail
    go_ret
    exact ⟨rfl, Below.refl _ _⟩
  | true =>
  by_cases hlen : len1 = len2
  · subst hlen
    have hl0 : ((len1 : Int) != (len1 : Int)) = false := by simp
    cases hz : (a0 == 0) with
    | true =>
      go_wp2_with fail
      go_ret
      exact ⟨rfl, Below.refl _ _⟩
    | false =>
      go_wp2_with fail
      refine (cloneStrs_any _ _ _ _ _ _ _ w1 (by omega)).mono ?_
      rintro e wa ⟨p1, d1, rfl, s1, bel1, -, -⟩
      replace w2 := w2.keep bel1
      go_wp2_with fail
      refine (cloneInts_any _ _ _ _ _ _ _ w2 (by omega)).mono ?_
      rintro e wb ⟨p2, d2, rfl, s2, bel2, -, -⟩
      replace s1 := s1.keep bel2
      have BEL : Below w.heap.size w wb := below_chain bel1 bel2
      clear bel1 bel2 w1 w2
      have hmm := run_makeMap28
      go_wp2
      go_loopw [10] (fun i wr => ∃ (k : Nat) (D : DataW Unit), k ≤ len1 ∧ i = .int .i64 k ∧ wr.ownsMap Try.prog 9 (plainElem Try.prog 29) wb.heap.size k D ∧ Below wb.heap.size wb wr) (fun i _ => len1 - (intOf i).toNat)
      case atStart => exact ⟨0, _, Nat.zero_le _, rfl, World.ownsMap_made _ _ _ _, (Below.refl _ _).alloc (Nat.le_refl _) _⟩
      case round =>
        obtain ⟨k, D, hk, rfl, hown, hbel⟩ := hrel
        by_cases hlt : k < len1
        · have hi1 := s1.idx (P := Try.prog) Try.underlying22 size9 hlt .i64
          have hi2 := s2.idx (P := Try.prog) Try.underlying23 size3 hlt .i64
          have hc1 : wr.cell? ⟨d1, 0 + k, none⟩ = some (.string (S1 k)) := (hbel.cell (p := ⟨d1, 0 + k, none⟩) (s1.lt (by omega))).trans (s1.cell k hlt)
          have hc2 : wr.cell? ⟨d2, 0 + k, none⟩ = some (.int .i64 (S2 k)) := (hbel.cell (p := ⟨d2, 0 + k, none⟩) (s2.lt (by omega))).trans (s2.cell k hlt)
          rw [Nat.zero_add] at hc1 hc2
          simp only [Nat.zero_add] at hi1 hi2
          obtain ⟨w1, hrun, hown1, hg1⟩ := hown.drew.update law9 Try.underlying28 (by unfold maxLen; omega) (keyOf_string_mk Try.underlying9 (g1 k)) (plainElem_int Try.underlying29 (g2 k))
          have R1 := (hbel.drew).grown hg1 hbel.size (by intro j hj; cases hj; exact Nat.le_refl _)
          have HH : Hid _ := And.intro hown1 R1
          clear hown hbel hown1 R1 hg1
          go_wp2
          go_region
          go_wp2
          go_roundw
          case rel => exact ⟨k + 1, _, by omega, by go_num, HH.out.1, HH.out.2⟩
          case measure => simp [intOf]; omega
        · have hkey := keyOf_string_mk (P := Try.prog) Try.underlying9 w3
          go_wp2_with (at_mapUpdate; go_must (refine wpList_mapUpdate_own _ rfl _ _ _ 28 rfl 9 29 law9 Try.underlying28 _ wb.heap.size k D rfl hown (by unfold maxLen; omega) _ _ _ rfl rfl hkey _ [] (plainElem_int Try.underlying29 (by decide)) ?_); intro w1 hown1 hg1)
          refine (zzTx_any _ _ _ _ (.string a3.data.toList) _ hz hown1 (fun z => atKey_put_same hown.isMap (by trivial) _ z)).mono ?_
          rintro e w2 ⟨rfl, hb2⟩
          go_wp2_with fail
          go_ret
          exact ⟨rfl, below_chain BEL (below_chain (hbel.grown hg1 hbel.size (by intro j hj; cases hj; exact Nat.le_refl _)) hb2)⟩
  · have hl0 : ((len1 : Int) != (len2 : Int)) = true := by simp; omega
    clear hlen
    go_wp2_with fail
    go_ret
    exact ⟨rfl, Below.refl _ _⟩

end Go.Proofs.Qxb6605485a
