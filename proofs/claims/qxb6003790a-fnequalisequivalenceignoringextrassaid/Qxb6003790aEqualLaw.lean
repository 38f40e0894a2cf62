/- The law on View.Equal: its walk. -/
import Derived.Test.Qxb6003790aBytesE
import Derived.Test.Qxb6003790aClones
import Derived.Test.Qxb6003790aEqual
import Derived.Deep.Cut
namespace Go.Proofs.Qxb6003790a
open Go.RowKit
set_option linter.unusedVariables false

theorem eqV_refl (c co : ByteArray) (id : Int) (n : Nat) (S : Nat → ByteArray) : eqV c co id n S c co id n S = true := by simp [eqV]
theorem eqV_symm (c co : ByteArray) (id : Int) (n : Nat) (S : Nat → ByteArray) (c' co' : ByteArray) (id' : Int) (n' : Nat) (S' : Nat → ByteArray) : eqV c co id n S c' co' id' n' S' = eqV c' co' id' n' S' c co id n S := by
  unfold eqV
  rw [decide_eq_decide]
  constructor
  · rintro ⟨h1, h2, h3, h4, h5⟩
    exact ⟨h1.symm, h2.symm, h3.symm, h4.symm, fun i hi => (h5 i (by omega)).symm⟩
  · rintro ⟨h1, h2, h3, h4, h5⟩
    exact ⟨h1.symm, h2.symm, h3.symm, h4.symm, fun i hi => (h5 i (by omega)).symm⟩
theorem eqV_trans (c co : ByteArray) (id : Int) (n : Nat) (S : Nat → ByteArray) (c' co' : ByteArray) (id' : Int) (n' : Nat) (S' : Nat → ByteArray) (c2 co2 : ByteArray) (id2 : Int) (n2 : Nat) (S2 : Nat → ByteArray)
    (h : eqV c co id n S c' co' id' n' S' = true) (k : eqV c' co' id' n' S' c2 co2 id2 n2 S2 = true) : eqV c co id n S c2 co2 id2 n2 S2 = true := by
  unfold eqV at *
  rw [decide_eq_true_eq] at *
  obtain ⟨h1, h2, h3, h4, h5⟩ := h
  obtain ⟨k1, k2, k3, k4, k5⟩ := k
  exact ⟨h1.trans k1, h2.trans k2, h3.trans k3, h4.trans k4, fun i hi => (h5 i hi).trans (k5 i (by omega))⟩

theorem blocks4 (w6 : World) (A B C D : Obj) (w7 : World) (E : Obj) (bel : Below ((((w6.alloc A).alloc B).alloc C).alloc D).heap.size ((((w6.alloc A).alloc B).alloc C).alloc D) w7) :
    (w7.alloc E).heap[w6.heap.size]? = some A ∧ (w7.alloc E).heap[w6.heap.size + 1]? = some B ∧ (w7.alloc E).heap[w6.heap.size + 1 + 1]? = some C ∧ (w7.alloc E).heap[w6.heap.size + 1 + 1 + 1]? = some D ∧ (w7.alloc E).heap[w7.heap.size]? = some E := by
  have hs := bel.size
  have z : ((((w6.alloc A).alloc B).alloc C).alloc D).heap.size = w6.heap.size + 4 := by simp
  have k : ∀ j, j < w6.heap.size + 4 → (w7.alloc E).heap[j]? = ((((w6.alloc A).alloc B).alloc C).alloc D).heap[j]? := fun j hj => by
    rw [Below.heap_alloc _ _ _ (by omega)]
    exact bel.block j (by omega)
  refine ⟨?_, ?_, ?_, ?_, heap_alloc_new w7 E⟩
  · rw [k _ (by omega), Below.heap_alloc _ _ _ (by simp <;> omega), Below.heap_alloc _ _ _ (by simp <;> omega), Below.heap_alloc _ _ _ (by simp)]
    exact heap_alloc_new _ _
  · rw [k _ (by omega), Below.heap_alloc _ _ _ (by simp <;> omega), Below.heap_alloc _ _ _ (by simp), show w6.heap.size + 1 = (w6.alloc A).heap.size by simp]
    exact heap_alloc_new _ _
  · rw [k _ (by omega), Below.heap_alloc _ _ _ (by simp), show w6.heap.size + 1 + 1 = ((w6.alloc A).alloc B).heap.size by simp]
    exact heap_alloc_new _ _
  · rw [k _ (by omega), show w6.heap.size + 1 + 1 + 1 = (((w6.alloc A).alloc B).alloc C).heap.size by simp]
    exact heap_alloc_new _ _

set_option maxRecDepth 100000 in
set_option maxHeartbeats 4000000 in
theorem walk_fnEqualIsEquivalenceIgnoringExtras (a0 : ByteArray) (a1 : ByteArray) (a2 : Int) (a3 : Option Addr) (len3 cap3 b3 o3 : Nat) (S3 : Nat → ByteArray) (a4 : ByteArray) (a5 : ByteArray) (a6 : Int) (a7 : Option Addr) (len7 cap7 b7 o7 : Nat) (S7 : Nat → ByteArray) (a8 : Option Addr) (len8 cap8 b8 o8 : Nat) (S8 : Nat → ByteArray) (a9 : Option Addr) (len9 cap9 b9 o9 : Nat) (S9 : Nat → ByteArray) (a10 : Int) (a11 : Option Addr) (len11 cap11 b11 o11 : Nat) (S11 : Nat → Int) (w : World) (w0 : a0.size ≤ maxLen) (w1 : a1.size ≤ maxLen) (w2 : (Lit.int .u64 a2).wf = true) (w3 : Sl w a3 len3 cap3 b3 o3 (fun i => .string (S3 i))) (g3 : ∀ i : Nat, (S3 i).size ≤ maxLen) (w4 : a4.size ≤ maxLen) (w5 : a5.size ≤ maxLen) (w6 : (Lit.int .u64 a6).wf = true) (w7 : Sl w a7 len7 cap7 b7 o7 (fun i => .string (S7 i))) (g7 : ∀ i : Nat, (S7 i).size ≤ maxLen) (w8 : Sl w a8 len8 cap8 b8 o8 (fun i => .string (S8 i))) (g8 : ∀ i : Nat, (S8 i).size ≤ maxLen) (w9 : Sl w a9 len9 cap9 b9 o9 (fun i => .string (S9 i))) (g9 : ∀ i : Nat, (S9 i).size ≤ maxLen) (w10 : (Lit.int .u64 a10).wf = true) (w11 : Sl w a11 len11 cap11 b11 o11 (fun i => .int .i64 (S11 i))) (g11 : ∀ i : Nat, (Lit.int .i64 (S11 i)).wf = true) :
    Calls Try.prog 3 #[.string a0, .string a1, .int .u64 a2, .slice a3 len3 cap3, .string a4, .string a5, .int .u64 a6, .slice a7 len7 cap7, .slice a8 len8 cap8, .slice a9 len9 cap9, .int .u64 a10, .slice a11 len11 cap11] w fun e w' => e = .returned (.bool true) ∧ Below w.heap.size w w' := by
  clear w0 w1 w2 g3 w4 w5 w6 g7 g8 g9 w10 g11
  go_enter Try.func3, Try.ntmps3
  go_wp2_with (first
    | (go_at_call 7; refine (zzBytesE_any _ _ _ _ _ _ _ _ _ _ _ _ _ _ _ _ _ _ _ _ _ _ _ _ _ _ _ _ _ _ _ _ _ _ _ w3 w7 w8 w9).mono ?_; rintro e w' ⟨⟨r, rfl⟩, rfl⟩)
    | (go_at_call 8; refine (zzStrBytes_any _ _ _ _ _ _ _ _ (by assumption)).mono ?_; rintro e w' ⟨⟨r, rfl⟩, rfl⟩)
    | (go_at_call 9; refine (zzWords_any _ _ _).mono ?_; rintro e w' ⟨⟨r, rfl⟩, rfl⟩)
    | (go_at_call 10; refine (zzAdd_any _ _ _).mono ?_; rintro e w' ⟨⟨r, rfl⟩, rfl⟩))
  all_goals (try (go_ret; exact ⟨rfl, Below.refl _ _⟩))
  refine (cloneStrs_any _ _ _ _ _ _ _ w3 (by omega)).mono ?_
  rintro e w1 ⟨p3, d3, rfl, s3, bel1, lo3, nn3⟩
  replace w7 := w7.keep bel1
  replace w8 := w8.keep bel1
  replace w9 := w9.keep bel1
  replace w11 := w11.keep bel1
  clear nn3 lo3
  go_wp2_with fail
  refine (cloneStrs_any _ _ _ _ _ _ _ w7 (by omega)).mono ?_
  rintro e w2 ⟨p7, d7, rfl, s7, bel2, lo7, nn7⟩
  replace s3 := s3.keep bel2
  replace w8 := w8.keep bel2
  replace w9 := w9.keep bel2
  replace w11 := w11.keep bel2
  clear nn7 lo7
  go_wp2_with fail
  refine (cloneStrs_any _ _ _ _ _ _ _ w8 (by omega)).mono ?_
  rintro e w4 ⟨p8, d8, rfl, s8, bel4, lo8, nn8⟩
  replace s3 := s3.keep bel4
  replace s7 := s7.keep bel4
  replace w9 := w9.keep bel4
  replace w11 := w11.keep bel4
  clear nn8 lo8
  go_wp2_with fail
  refine (cloneStrs_any _ _ _ _ _ _ _ w9 (by omega)).mono ?_
  rintro e w5 ⟨p9, d9, rfl, s9, bel5, lo9, nn9⟩
  replace s3 := s3.keep bel5
  replace s7 := s7.keep bel5
  replace s8 := s8.keep bel5
  replace w11 := w11.keep bel5
  clear nn9 lo9
  go_wp2_with fail
  refine (cloneInts_any _ _ _ _ _ _ _ w11 (by omega)).mono ?_
  rintro e w6 ⟨p11, d11, rfl, s11, bel6, lo11, nn11⟩
  replace s3 := s3.keep bel6
  replace s7 := s7.keep bel6
  replace s8 := s8.keep bel6
  clear nn11 lo11
  have BEL : Below w'.heap.size w' w6 := below_chain (below_chain (below_chain (below_chain bel1 bel2) bel4) bel5) bel6
  clear bel1 bel2 bel4 bel5 bel6 s9 s11 w9 w11 w3 w7 w8
  go_wp2_with fail
  refine (cloneStrs_any _ _ _ _ _ _ _ (s3.keep ?hb0) (by omega)).mono ?_
  case hb0 => repeat (first | exact Below.refl _ _ | refine Below.alloc ?_ (by simp <;> omega) _)
  rintro e w7 ⟨pq, dq, rfl, sq, bel7, loq, nnq⟩
  go_upto_region 26 with fail
  obtain ⟨W1, hW1⟩ : ∃ W, W = w7.alloc (.cells #[.string a0, .string a1, .int .u64 a2, .slice pq len3 len3, .slice none 0 0, .int .u64 0, .slice none 0 0] 31) := ⟨_, rfl⟩
  rw [← hW1]
  obtain ⟨q26, q27, q28, q29, q30⟩ := blocks4 w6 _ _ _ _ w7 (.cells #[.string a0, .string a1, .int .u64 a2, .slice pq len3 len3, .slice none 0 0, .int .u64 0, .slice none 0 0] 31) bel7
  have bel8 : Below w'.heap.size w' W1 := by
    rw [hW1]
    refine (below_chain BEL (below_chain ?hx bel7)).alloc (Nat.le_trans (Nat.le_trans BEL.size ?hy) bel7.size) _
    case hx => repeat (first | exact Below.refl _ _ | refine Below.alloc ?_ (by simp <;> omega) _)
    case hy => simp; omega
  have n3 : Sl W1 p3 len3 len3 d3 0 (fun i => .string (S3 i)) := by
    rw [hW1]
    refine ((s3.keep ?hx).keep bel7).keep ((Below.refl _ _).alloc (Nat.le_refl _) _)
    case hx => repeat (first | exact Below.refl _ _ | refine Below.alloc ?_ (by simp <;> omega) _)
  have n7 : Sl W1 p7 len7 len7 d7 0 (fun i => .string (S7 i)) := by
    rw [hW1]
    refine ((s7.keep ?hx).keep bel7).keep ((Below.refl _ _).alloc (Nat.le_refl _) _)
    case hx => repeat (first | exact Below.refl _ _ | refine Below.alloc ?_ (by simp <;> omega) _)
  have n8 : Sl W1 p8 len8 len8 d8 0 (fun i => .string (S8 i)) := by
    rw [hW1]
    refine ((s8.keep ?hx).keep bel7).keep ((Below.refl _ _).alloc (Nat.le_refl _) _)
    case hx => repeat (first | exact Below.refl _ _ | refine Below.alloc ?_ (by simp <;> omega) _)
  have nq : Sl W1 pq len3 len3 dq 0 (fun i => .string (S3 i)) := by
    rw [hW1]
    exact sq.keep ((Below.refl _ _).alloc (Nat.le_refl _) _)
  rw [← hW1] at q26 q27 q28 q29 q30
  clear hW1 bel7 loq nnq sq s3 s7 s8 BEL
  obtain ⟨m, hm⟩ : ∃ m : Near W1, W1 = m.w := ⟨⟨W1, Below.refl _ _⟩, rfl⟩
  rw [hm]
  clear hm
  have N3 := fun m => n3.near m
  have N7 := fun m => n7.near m
  have N8 := fun m => n8.near m
  have Nq := fun m => nq.near m
  have c260 := near_cell q26 0 _ rfl
  have c261 := near_cell q26 1 _ rfl
  have c262 := near_cell q26 2 _ rfl
  have c263 := near_cell q26 3 _ rfl
  have c264 := near_cell q26 4 _ rfl
  have c265 := near_cell q26 5 _ rfl
  have c266 := near_cell q26 6 _ rfl
  have c270 := near_cell q27 0 _ rfl
  have c271 := near_cell q27 1 _ rfl
  have c272 := near_cell q27 2 _ rfl
  have c273 := near_cell q27 3 _ rfl
  have c274 := near_cell q27 4 _ rfl
  have c275 := near_cell q27 5 _ rfl
  have c276 := near_cell q27 6 _ rfl
  have c280 := near_cell q28 0 _ rfl
  have c281 := near_cell q28 1 _ rfl
  have c282 := near_cell q28 2 _ rfl
  have c283 := near_cell q28 3 _ rfl
  have c284 := near_cell q28 4 _ rfl
  have c285 := near_cell q28 5 _ rfl
  have c286 := near_cell q28 6 _ rfl
  have c290 := near_cell q29 0 _ rfl
  have c291 := near_cell q29 1 _ rfl
  have c292 := near_cell q29 2 _ rfl
  have c293 := near_cell q29 3 _ rfl
  have c294 := near_cell q29 4 _ rfl
  have c295 := near_cell q29 5 _ rfl
  have c296 := near_cell q29 6 _ rfl
  have c300 := near_cell q30 0 _ rfl
  have c301 := near_cell q30 1 _ rfl
  have c302 := near_cell q30 2 _ rfl
  have c303 := near_cell q30 3 _ rfl
  have c304 := near_cell q30 4 _ rfl
  have c305 := near_cell q30 5 _ rfl
  have c306 := near_cell q30 6 _ rfl
  clear q26 q27 q28 q29 q30 n3 n7 n8 nq
  have rV : eqV a0 a1 a2 len3 S3 a0 a1 a2 len3 S3 = true := eqV_refl _ _ _ _ _
  have rW : eqV a4 a5 a6 len7 S7 a4 a5 a6 len7 S7 = true := eqV_refl _ _ _ _ _
  have rX : eqV a4 a5 a6 len8 S8 a4 a5 a6 len8 S8 = true := eqV_refl _ _ _ _ _
  have sVW : eqV a4 a5 a6 len7 S7 a0 a1 a2 len3 S3 = eqV a0 a1 a2 len3 S3 a4 a5 a6 len7 S7 := eqV_symm _ _ _ _ _ _ _ _ _ _
  have sWX : eqV a4 a5 a6 len8 S8 a4 a5 a6 len7 S7 = eqV a4 a5 a6 len7 S7 a4 a5 a6 len8 S8 := eqV_symm _ _ _ _ _ _ _ _ _ _
  have sVX : eqV a4 a5 a6 len8 S8 a0 a1 a2 len3 S3 = eqV a0 a1 a2 len3 S3 a4 a5 a6 len8 S8 := eqV_symm _ _ _ _ _ _ _ _ _ _
  have TR : Hid (eqV a0 a1 a2 len3 S3 a4 a5 a6 len7 S7 = true → eqV a4 a5 a6 len7 S7 a4 a5 a6 len8 S8 = true → eqV a0 a1 a2 len3 S3 a4 a5 a6 len8 S8 = true) := eqV_trans _ _ _ _ _ _ _ _ _ _ _ _ _ _ _
  have hne : Nonempty (Near W1) := ⟨m⟩
  go_wp2_with (go_at_call 13; refine (equal_any _ _ _ _ _ _ _ _ _ _ _ _ _ _ _ _ _ _ _ _ _ _ _ _ _ (by first | exact N3 _ | exact N7 _ | exact N8 _ | exact Nq _) (by first | exact N3 _ | exact N7 _ | exact N8 _ | exact Nq _)).mono ?_; rintro e wz ⟨rfl, hz⟩; obtain ⟨mz, hz⟩ := near_of _ hz; subst hz)
  refine wp_region_near (by kernel_rfl) (by kernel_rfl) ?_
  repeat (go_big_quiet_step ((go_at_call 13; exact near_calls (equal_any _ _ _ _ _ _ _ _ _ _ _ _ _ _ _ _ _ _ _ _ _ _ _ _ _ (by first | exact N3 _ | exact N7 _ | exact N8 _ | exact Nq _) (by first | exact N3 _ | exact N7 _ | exact N8 _ | exact Nq _)))))
  refine wpQuiet_nil ?_
  intro _ hz
  obtain ⟨m2, hz⟩ := hz
  subst hz
  cases hvw : eqV a0 a1 a2 len3 S3 a4 a5 a6 len7 S7 with
  | false =>
    go_wp2_with (go_at_call 13; refine (equal_any _ _ _ _ _ _ _ _ _ _ _ _ _ _ _ _ _ _ _ _ _ _ _ _ _ (by first | exact N3 _ | exact N7 _ | exact N8 _ | exact Nq _) (by first | exact N3 _ | exact N7 _ | exact N8 _ | exact Nq _)).mono ?_; rintro e wz ⟨rfl, hz⟩; obtain ⟨mz, hz⟩ := near_of _ hz; subst hz)
    refine wp_region_near (by kernel_rfl) (by kernel_rfl) ?_
    repeat (go_big_quiet_step ((go_at_call 13; exact near_calls (equal_any _ _ _ _ _ _ _ _ _ _ _ _ _ _ _ _ _ _ _ _ _ _ _ _ _ (by first | exact N3 _ | exact N7 _ | exact N8 _ | exact Nq _) (by first | exact N3 _ | exact N7 _ | exact N8 _ | exact Nq _)))))
    refine wpQuiet_nil ?_
    intro _ hz
    obtain ⟨m3, hz⟩ := hz
    subst hz
    go_wp2_with fail
    go_ret
    exact ⟨rfl, below_chain bel8 m3.bel⟩
  | true =>
    cases hwx : eqV a4 a5 a6 len7 S7 a4 a5 a6 len8 S8 with
    | false =>
      go_wp2_with (go_at_call 13; refine (equal_any _ _ _ _ _ _ _ _ _ _ _ _ _ _ _ _ _ _ _ _ _ _ _ _ _ (by first | exact N3 _ | exact N7 _ | exact N8 _ | exact Nq _) (by first | exact N3 _ | exact N7 _ | exact N8 _ | exact Nq _)).mono ?_; rintro e wz ⟨rfl, hz⟩; obtain ⟨mz, hz⟩ := near_of _ hz; subst hz)
      refine wp_region_near (by kernel_rfl) (by kernel_rfl) ?_
      repeat (go_big_quiet_step ((go_at_call 13; exact near_calls (equal_any _ _ _ _ _ _ _ _ _ _ _ _ _ _ _ _ _ _ _ _ _ _ _ _ _ (by first | exact N3 _ | exact N7 _ | exact N8 _ | exact Nq _) (by first | exact N3 _ | exact N7 _ | exact N8 _ | exact Nq _)))))
      refine wpQuiet_nil ?_
      intro _ hz
      obtain ⟨m3, hz⟩ := hz
      subst hz
      go_wp2_with fail
      go_ret
      exact ⟨rfl, below_chain bel8 m3.bel⟩
    | true =>
      have hvx := TR.out hvw hwx
      go_wp2_with (go_at_call 13; refine (equal_any _ _ _ _ _ _ _ _ _ _ _ _ _ _ _ _ _ _ _ _ _ _ _ _ _ (by first | exact N3 _ | exact N7 _ | exact N8 _ | exact Nq _) (by first | exact N3 _ | exact N7 _ | exact N8 _ | exact Nq _)).mono ?_; rintro e wz ⟨rfl, hz⟩; obtain ⟨mz, hz⟩ := near_of _ hz; subst hz)
      refine wp_region_near (by kernel_rfl) (by kernel_rfl) ?_
      repeat (go_big_quiet_step ((go_at_call 13; exact near_calls (equal_any _ _ _ _ _ _ _ _ _ _ _ _ _ _ _ _ _ _ _ _ _ _ _ _ _ (by first | exact N3 _ | exact N7 _ | exact N8 _ | exact Nq _) (by first | exact N3 _ | exact N7 _ | exact N8 _ | exact Nq _)))))
      refine wpQuiet_nil ?_
      intro _ hz
      obtain ⟨m3, hz⟩ := hz
      subst hz
      go_wp2_with fail
      go_ret
      exact ⟨rfl, below_chain bel8 m3.bel⟩

end Go.Proofs.Qxb6003790a
