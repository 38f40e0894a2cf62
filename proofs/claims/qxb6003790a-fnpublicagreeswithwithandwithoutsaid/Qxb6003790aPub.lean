/- view.public. -/
import Derived.Test.Qxb6003790aWith
namespace Go.Proofs.Qxb6003790a
open Go.RowKit Go.Maps Go.Deep
attribute [local go_sem ↓] Go.wp_at_zero Go.wp_at_succ

/-- The first k entries. -/
def Upto (F G : Nat → Value) (k : Nat) : Prop := ∀ j, j < k → F j = G j
theorem Upto.step {F G : Nat → Value} {k : Nat} (h : Upto F G k) : Upto (fun j => if j = k then G k else F j) G (k + 1) := by
  intro j hj
  show (if j = k then G k else F j) = G j
  by_cases e : j = k
  · rw [if_pos e, e]
  · rw [if_neg e]; exact h j (by omega)

/-- A row of n cells in block B, the first k laid. -/
def PRow (wr : World) (B T n : Nat) (V : Nat → Value) (k : Nat) : Prop := ∃ F, wr.rowIs B T n F ∧ Upto F V k
theorem PRow.start (w : World) (z : Value) (n T : Nat) (V : Nat → Value) : PRow (w.alloc (.cells (madeCells #[z] n) T)) w.heap.size T n V 0 :=
  ⟨_, World.rowIs_made w z n T, fun _ h => absurd h (by omega)⟩
theorem PRow.alloc {wr : World} {B T n : Nat} {V : Nat → Value} {k : Nat} (h : PRow wr B T n V k) (o : Obj) : PRow (wr.alloc o) B T n V k := by
  obtain ⟨F, h1, h2⟩ := h
  exact ⟨F, h1.alloc o, h2⟩
theorem PRow.other {wr : World} {B T n : Nat} {V : Nat → Value} {k : Nat} (h : PRow wr B T n V k) {B' : Nat} (hne : B ≠ B') (j : Nat) (v : Value) : PRow (wr.setCell ⟨B', j, none⟩ v) B T n V k := by
  obtain ⟨F, h1, h2⟩ := h
  exact ⟨F, h1.setOther hne v, h2⟩
theorem PRow.step {wr : World} {B T n : Nat} {V : Nat → Value} {k : Nat} (h : PRow wr B T n V k) : PRow (wr.setCell ⟨B, k, none⟩ (V k)) B T n V (k + 1) := by
  obtain ⟨F, h1, h2⟩ := h
  exact ⟨_, h1.set k (V k), h2.step⟩
theorem PRow.drew {wr : World} {B T n : Nat} {V : Nat → Value} {k : Nat} (h : PRow wr B T n V k) : PRow wr.drew B T n V k := by
  obtain ⟨F, h1, h2⟩ := h
  exact ⟨F, h1.drew, h2⟩
theorem PRow.there {wr : World} {B T n : Nat} {V : Nat → Value} {k : Nat} (h : PRow wr B T n V k) (hk : k < n) : (∃ v, wr.cell? ⟨B, k, none⟩ = some v) ∧ wr.frozen? ⟨B, k, none⟩ = false ∧ B < wr.heap.size := by
  obtain ⟨F, h1, h2⟩ := h
  exact ⟨⟨_, h1.cell hk⟩, h1.frozen k, h1.lt⟩
theorem PRow.done {wr : World} {B T n : Nat} {V : Nat → Value} (h : PRow wr B T n V n) (hn : n ≤ 8192) : Sl wr (some ⟨B, 0, none⟩) n n B 0 V := by
  obtain ⟨F, h1, h2⟩ := h
  exact ⟨fun e => (by cases e), Nat.le_refl _, by unfold maxLen; omega, fun _ => rfl, fun _ => h1.lt, fun i hi => by rw [Nat.zero_add, h1.cell hi, h2 i hi]⟩

def nameV (L : List Mem) (i : Nat) : Value := .string (mAt L i).name
def addrV (L : List Mem) (i : Nat) : Value := .string (mAt L i).addr

/-- Where the loop stands behind k members (no merge). -/
structure Pub0 (w wr : World) (c : ByteArray) (id : Int) (a : Option Addr) (n cap : Nat) (r : Option Nat) (L : List Mem) (k : Nat) : Prop where
  nm : PRow wr (w.heap.size + 1 + 1) 9 n (nameV L) k
  ad : PRow wr (w.heap.size + 1 + 1 + 1) 9 n (addrV L) k
  bel : Below w.heap.size w wr
  X : wr.heap[w.heap.size]? = some (.cells #[.string c, .int .u64 id, .slice a n cap, .int .u64 0, .map r] 40)
  Z : wr.heap[w.heap.size + 1]? = some (.cells #[.string ByteArray.empty, .string ByteArray.empty, .int .u64 0, .slice none 0 0, .slice none 0 0, .int .u64 0, .slice none 0 0] 31)

theorem Pub0.start (w : World) (c : ByteArray) (id : Int) (a : Option Addr) (n cap : Nat) (r : Option Nat) (L : List Mem) :
    Pub0 w ((((w.alloc (.cells #[.string c, .int .u64 id, .slice a n cap, .int .u64 0, .map r] 40)).alloc (.cells #[.string ByteArray.empty, .string ByteArray.empty, .int .u64 0, .slice none 0 0, .slice none 0 0, .int .u64 0, .slice none 0 0] 31)).alloc (.cells (madeCells #[.string ByteArray.empty] n) 9)).alloc (.cells (madeCells #[.string ByteArray.empty] n) 9)) c id a n cap r L 0 := by
  have p1 := (PRow.start ((w.alloc (.cells #[.string c, .int .u64 id, .slice a n cap, .int .u64 0, .map r] 40)).alloc (.cells #[.string ByteArray.empty, .string ByteArray.empty, .int .u64 0, .slice none 0 0, .slice none 0 0, .int .u64 0, .slice none 0 0] 31)) (.string ByteArray.empty) n 9 (nameV L)).alloc (.cells (madeCells #[.string ByteArray.empty] n) 9)
  have p2 := PRow.start (((w.alloc (.cells #[.string c, .int .u64 id, .slice a n cap, .int .u64 0, .map r] 40)).alloc (.cells #[.string ByteArray.empty, .string ByteArray.empty, .int .u64 0, .slice none 0 0, .slice none 0 0, .int .u64 0, .slice none 0 0] 31)).alloc (.cells (madeCells #[.string ByteArray.empty] n) 9)) (.string ByteArray.empty) n 9 (addrV L)
  simp only [World.size_alloc] at p1 p2
  refine ⟨p1, p2, (((Below.refl _ _).alloc (Nat.le_refl _) _).alloc (by simp) _).alloc (by simp; omega) _ |>.alloc (by simp; omega) _, ?_, ?_⟩
  · rw [Below.heap_alloc _ _ _ (by simp; omega), Below.heap_alloc _ _ _ (by simp; omega), Below.heap_alloc _ _ _ (by simp)]
    exact heap_alloc_new _ _
  · rw [Below.heap_alloc _ _ _ (by simp), Below.heap_alloc _ _ _ (by simp), show w.heap.size + 1 = (w.alloc (.cells #[.string c, .int .u64 id, .slice a n cap, .int .u64 0, .map r] 40)).heap.size by simp]
    exact heap_alloc_new _ _

theorem Pub0.step {w wr : World} {c : ByteArray} {id : Int} {a : Option Addr} {n cap : Nat} {r : Option Nat} {L : List Mem} {k : Nat} (h : Pub0 w wr c id a n cap r L k) (o : Obj) :
    Pub0 w (((wr.setCell ⟨w.heap.size + 1 + 1, k, none⟩ (nameV L k)).setCell ⟨w.heap.size + 1 + 1 + 1, k, none⟩ (addrV L k)).alloc o) c id a n cap r L (k + 1) := by
  have h0 : w.heap.size + 1 < wr.heap.size := (Array.getElem?_eq_some_iff.1 h.Z).1
  refine ⟨(h.nm.step.other (by omega) k _).alloc o, ((h.ad.other (by omega) k _).step).alloc o, ((h.bel.setCell (p := ⟨w.heap.size + 1 + 1, k, none⟩) (by simp; omega) _).setCell (p := ⟨w.heap.size + 1 + 1 + 1, k, none⟩) (by simp; omega) _).alloc (by simp; omega) _, ?_, ?_⟩
  · rw [Below.heap_alloc _ _ _ (by simp; omega), Below.heap_setCell _ _ _ _ (by simp; omega), Below.heap_setCell _ _ _ _ (by simp; omega)]
    exact h.X
  · rw [Below.heap_alloc _ _ _ (by simp; omega), Below.heap_setCell _ _ _ _ (by simp), Below.heap_setCell _ _ _ _ (by simp)]
    exact h.Z

theorem zero31 {w : World} {B : Nat} (Z : w.heap[B]? = some (.cells #[.string ByteArray.empty, .string ByteArray.empty, .int .u64 0, .slice none 0 0, .slice none 0 0, .int .u64 0, .slice none 0 0] 31)) :
    (w.cell? ⟨B, 0, none⟩ = some (.string ByteArray.empty) ∧ w.cell? ⟨B, 1, none⟩ = some (.string ByteArray.empty) ∧ w.cell? ⟨B, 2, none⟩ = some (.int .u64 0) ∧ w.cell? ⟨B, 3, none⟩ = some (.slice none 0 0) ∧ w.cell? ⟨B, 4, none⟩ = some (.slice none 0 0) ∧ w.cell? ⟨B, 5, none⟩ = some (.int .u64 0) ∧ w.cell? ⟨B, 6, none⟩ = some (.slice none 0 0)) ∧
    w.frozen? ⟨B, 0, none⟩ = false ∧ w.frozen? ⟨B, 1, none⟩ = false ∧ w.frozen? ⟨B, 2, none⟩ = false ∧ w.frozen? ⟨B, 3, none⟩ = false ∧ w.frozen? ⟨B, 4, none⟩ = false ∧ w.frozen? ⟨B, 5, none⟩ = false ∧ w.frozen? ⟨B, 6, none⟩ = false := by
  simp [World.cell?, World.frozen?, Z]

theorem set7_row {wr : World} {B T n : Nat} {V : Nat → Value} {k : Nat} (h : PRow wr B T n V k) {B' : Nat} (hne : B ≠ B') {v0 v1 v2 v3 v4 v5 v6 : Value} :
    PRow (((((((wr.setCell ⟨B', 0, none⟩ v0).setCell ⟨B', 1, none⟩ v1).setCell ⟨B', 2, none⟩ v2).setCell ⟨B', 3, none⟩ v3).setCell ⟨B', 4, none⟩ v4).setCell ⟨B', 5, none⟩ v5).setCell ⟨B', 6, none⟩ v6) B T n V k :=
  ((((((h.other hne _ _).other hne _ _).other hne _ _).other hne _ _).other hne _ _).other hne _ _).other hne _ _
theorem set7_below {w0 w : World} {N : Nat} (h : Below N w0 w) {B : Nat} (hB : N ≤ B) {v0 v1 v2 v3 v4 v5 v6 : Value} :
    Below N w0 (((((((w.setCell ⟨B, 0, none⟩ v0).setCell ⟨B, 1, none⟩ v1).setCell ⟨B, 2, none⟩ v2).setCell ⟨B, 3, none⟩ v3).setCell ⟨B, 4, none⟩ v4).setCell ⟨B, 5, none⟩ v5).setCell ⟨B, 6, none⟩ v6) :=
  ((((((h.setCell (p := ⟨B, 0, none⟩) hB _).setCell (p := ⟨B, 1, none⟩) hB _).setCell (p := ⟨B, 2, none⟩) hB _).setCell (p := ⟨B, 3, none⟩) hB _).setCell (p := ⟨B, 4, none⟩) hB _).setCell (p := ⟨B, 5, none⟩) hB _).setCell (p := ⟨B, 6, none⟩) hB _

/-- What public hands back: the three rows in new memory. -/
def RetPub (c : ByteArray) (id mg : Int) (L : List Mem) (ns : Nat) (sn : Bool) (V : Nat → Value) (w : World) (e : Ending) (w' : World) : Prop :=
  ∃ (an aa as_ : Option Addr) (bn ba bs : Nat), e = .returned (.agg #[.string c, .string (mAt L 0).name, .int .u64 id, .slice an L.length L.length, .slice aa L.length L.length, .int .u64 mg, .slice as_ ns ns]) ∧
    Sl w' an L.length L.length bn 0 (nameV L) ∧ Sl w' aa L.length L.length ba 0 (addrV L) ∧ Sl w' as_ ns ns bs 0 V ∧ as_.isNone = sn ∧ Below w.heap.size w w' ∧ w.heap.size ≤ bn ∧ w.heap.size ≤ ba ∧ (0 < ns → w.heap.size ≤ bs)

theorem Sl.nilS (w : World) (V : Nat → Value) : Sl w none 0 0 0 0 V :=
  ⟨fun _ => rfl, Nat.le_refl _, Nat.zero_le _, fun h => absurd h (by omega), fun h => absurd h (by omega), fun i h => absurd h (by omega)⟩

set_option maxRecDepth 100000 in
set_option maxHeartbeats 2000000 in
theorem public0_any (c : ByteArray) (id : Int) (a : Option Addr) (n cap : Nat) (r : Option Nat) (b off : Nat) (L : List Mem) (V : Nat → Value) (w : World) (h : MRow w a n cap b off L) (hn : n ≤ 8192) (hpos : 0 < n) :
    Calls Try.prog 35 #[.agg #[.string c, .int .u64 id, .slice a n cap, .int .u64 0, .map r]] w
      fun e w' => RetPub c id 0 L 0 true V w e w' := by
  have hmk := run_make_row' (P := Try.prog) 23 9 (.string ByteArray.empty) 16 Try.underlying23 info9 rfl .i64 .i64 n (by omega) (by omega)
  go_enter Try.func35, Try.ntmps35
  go_wp2
  go_loopw [28] (fun i wr => ∃ k : Nat, k ≤ n ∧ i = .int .i64 k ∧ Pub0 w wr c id a n cap r L k) (fun i _ => n - (intOf i).toNat)
  case atStart => exact ⟨0, Nat.zero_le _, rfl, Pub0.start _ _ _ _ _ _ _ _⟩
  case round =>
    obtain ⟨k, hk, rfl, hP⟩ := hrel
    by_cases hlt : k < n
    · have hi := h.idx hlt .i64
      have hblt := h.lt (by omega)
      have hc0 : wr.cell? ⟨b, off + k * 3, none⟩ = _ := (hP.bel.cell hblt).trans (h.c0 k hlt)
      have hc1 : wr.cell? ⟨b, off + k * 3 + 1, none⟩ = _ := (hP.bel.cell hblt).trans (h.c1 k hlt)
      have hc2 : wr.cell? ⟨b, off + k * 3 + 2, none⟩ = _ := (hP.bel.cell hblt).trans (h.c2 k hlt)
      obtain ⟨⟨_, d0⟩, f0, l0⟩ := hP.nm.there hlt
      obtain ⟨⟨_, d1⟩, f1, l1⟩ := hP.ad.there hlt
      have b1' : (0 : Int) ≤ (k : Int) := by omega
      have b2' : (k : Int) < (n : Int) := by omega
      have R : Hid (Pub0 w _ c id a n cap r L (k + 1)) := hP.step (.cells #[.string (mAt L k).name, .string (mAt L k).addr, .int .u64 (mAt L k).inc] 43)
      clear hP
      go_wp2
      go_roundw
      case rel => exact ⟨k + 1, by omega, by go_num, R.out⟩
      case measure => simp [intOf]; omega
    · have hkn : k = n := by omega
      subst hkn
      clear hlt
      have hL := h.len
      have x0 : wr.cell? ⟨w.heap.size, 0, none⟩ = some (.string c) := by simp [World.cell?, hP.X]
      have x1 : wr.cell? ⟨w.heap.size, 1, none⟩ = some (.int .u64 id) := by simp [World.cell?, hP.X]
      have x3 : wr.cell? ⟨w.heap.size, 3, none⟩ = some (.int .u64 0) := by simp [World.cell?, hP.X]
      have q0 : wr.cell? ⟨w.heap.size + 1 + 1, 0, none⟩ = some (.string (mAt L 0).name) := by have := (hP.nm.done hn).cell 0 hpos; simpa [nameV] using this
      obtain ⟨⟨z0, z1, z2, z3, z4, z5, z6⟩, y0, y1, y2, y3, y4, y5, y6⟩ := zero31 hP.Z
      go_wp2_with fail
      go_region_held3 (fun x => x.cell? ⟨w.heap.size, 0, none⟩ = some (.string c) ∧ x.cell? ⟨w.heap.size, 1, none⟩ = some (.int .u64 id) ∧ x.cell? ⟨w.heap.size, 3, none⟩ = some (.int .u64 0) ∧ x.cell? ⟨w.heap.size + 1 + 1, 0, none⟩ = some (.string (mAt L 0).name)) (go_keep) (fail)
      go_wp2
      refine bodyPost_ret (v := .agg #[.string c, .string (mAt L 0).name, .int .u64 id, .slice (some ⟨w.heap.size + 1 + 1, 0, none⟩) L.length L.length, .slice (some ⟨w.heap.size + 1 + 1 + 1, 0, none⟩) L.length L.length, .int .u64 0, .slice none 0 0]) (by rw [hL]; simp [results, Try.results35, go_sem, z0, z1, z2, z3, z4, z5, z6]) rfl ?_
      refine ⟨_, _, _, w.heap.size + 1 + 1, w.heap.size + 1 + 1 + 1, 0, rfl, ?_, ?_, Sl.nilS _ _, rfl, ?_, by omega, by omega, fun h => absurd h (by omega)⟩
      · rw [hL]; exact (set7_row hP.nm (by omega)).drew.done hn
      · rw [hL]; exact (set7_row hP.ad (by omega)).drew.done hn
      · exact (set7_below hP.bel (by omega)).drew

def sdV (K V : Nat → Int) (kk : Nat) (L : List Mem) (i : Nat) : Value := .int .i64 (sideV K V (mAt L i).inc kk)

/-- Where the loop stands behind k members (a merge behind). -/
structure Pub1 (w wr : World) (c : ByteArray) (id : Int) (a : Option Addr) (n cap : Nat) (mg : Int) (r : Option Nat) (L : List Mem) (S : Nat → Value) (k : Nat) : Prop where
  nm : PRow wr (w.heap.size + 1 + 1) 9 n (nameV L) k
  ad : PRow wr (w.heap.size + 1 + 1 + 1) 9 n (addrV L) k
  sd : PRow wr (w.heap.size + 1 + 1 + 1 + 1) 3 n S k
  bel : Below w.heap.size w wr
  X : wr.heap[w.heap.size]? = some (.cells #[.string c, .int .u64 id, .slice a n cap, .int .u64 mg, .map r] 40)
  Z : wr.heap[w.heap.size + 1]? = some (.cells #[.string ByteArray.empty, .string ByteArray.empty, .int .u64 0, .slice none 0 0, .slice none 0 0, .int .u64 0, .slice none 0 0] 31)

theorem Pub1.start (w : World) (c : ByteArray) (id : Int) (a : Option Addr) (n cap : Nat) (mg : Int) (r : Option Nat) (L : List Mem) (S : Nat → Value) :
    Pub1 w (((((w.alloc (.cells #[.string c, .int .u64 id, .slice a n cap, .int .u64 mg, .map r] 40)).alloc (.cells #[.string ByteArray.empty, .string ByteArray.empty, .int .u64 0, .slice none 0 0, .slice none 0 0, .int .u64 0, .slice none 0 0] 31)).alloc (.cells (madeCells #[.string ByteArray.empty] n) 9)).alloc (.cells (madeCells #[.string ByteArray.empty] n) 9)).alloc (.cells (madeCells #[.int .i64 0] n) 3)) c id a n cap mg r L S 0 := by
  obtain ⟨w1, hw1⟩ : ∃ x, x = w.alloc (.cells #[.string c, .int .u64 id, .slice a n cap, .int .u64 mg, .map r] 40) := ⟨_, rfl⟩
  obtain ⟨w2, hw2⟩ : ∃ x, x = w1.alloc (.cells #[.string ByteArray.empty, .string ByteArray.empty, .int .u64 0, .slice none 0 0, .slice none 0 0, .int .u64 0, .slice none 0 0] 31) := ⟨_, rfl⟩
  rw [← hw1, ← hw2]
  have e1 : w1.heap.size = w.heap.size + 1 := by rw [hw1]; simp
  have e2 : w2.heap.size = w.heap.size + 1 + 1 := by rw [hw2]; simp [e1]
  have p1 := ((PRow.start w2 (.string ByteArray.empty) n 9 (nameV L)).alloc (.cells (madeCells #[.string ByteArray.empty] n) 9)).alloc (.cells (madeCells #[.int .i64 0] n) 3)
  have p2 := (PRow.start (w2.alloc (.cells (madeCells #[.string ByteArray.empty] n) 9)) (.string ByteArray.empty) n 9 (addrV L)).alloc (.cells (madeCells #[.int .i64 0] n) 3)
  have p3 := PRow.start ((w2.alloc (.cells (madeCells #[.string ByteArray.empty] n) 9)).alloc (.cells (madeCells #[.string ByteArray.empty] n) 9)) (.int .i64 0) n 3 S
  simp only [World.size_alloc, e2] at p1 p2 p3
  have b2 : Below w.heap.size w w2 := by rw [hw2, hw1]; exact ((Below.refl _ _).alloc (Nat.le_refl _) _).alloc (by simp) _
  refine ⟨p1, p2, p3, ((b2.alloc (by omega) _).alloc (by simp; omega) _).alloc (by simp; omega) _, ?_, ?_⟩
  · rw [Below.heap_alloc _ _ _ (by simp; omega), Below.heap_alloc _ _ _ (by simp; omega), Below.heap_alloc _ _ _ (by omega), hw2, Below.heap_alloc _ _ _ (by omega), hw1]
    exact heap_alloc_new _ _
  · rw [Below.heap_alloc _ _ _ (by simp; omega), Below.heap_alloc _ _ _ (by simp; omega), Below.heap_alloc _ _ _ (by omega), hw2, ← e1]
    exact heap_alloc_new _ _

theorem Pub1.step {w wr : World} {c : ByteArray} {id : Int} {a : Option Addr} {n cap : Nat} {mg : Int} {r : Option Nat} {L : List Mem} {S : Nat → Value} {k : Nat} (h : Pub1 w wr c id a n cap mg r L S k) (o : Obj) :
    Pub1 w ((((wr.setCell ⟨w.heap.size + 1 + 1, k, none⟩ (nameV L k)).setCell ⟨w.heap.size + 1 + 1 + 1, k, none⟩ (addrV L k)).setCell ⟨w.heap.size + 1 + 1 + 1 + 1, k, none⟩ (S k)).alloc o) c id a n cap mg r L S (k + 1) := by
  have h0 : w.heap.size + 1 < wr.heap.size := (Array.getElem?_eq_some_iff.1 h.Z).1
  refine ⟨((h.nm.step.other (by omega) k _).other (by omega) k _).alloc o, (((h.ad.other (by omega) k _).step).other (by omega) k _).alloc o, (((h.sd.other (by omega) k _).other (by omega) k _).step).alloc o, (((h.bel.setCell (p := ⟨w.heap.size + 1 + 1, k, none⟩) (by simp; omega) _).setCell (p := ⟨w.heap.size + 1 + 1 + 1, k, none⟩) (by simp; omega) _).setCell (p := ⟨w.heap.size + 1 + 1 + 1 + 1, k, none⟩) (by simp; omega) _).alloc (by simp; omega) _, ?_, ?_⟩
  · rw [Below.heap_alloc _ _ _ (by simp; omega), Below.heap_setCell _ _ _ _ (by simp; omega), Below.heap_setCell _ _ _ _ (by simp; omega), Below.heap_setCell _ _ _ _ (by simp; omega)]
    exact h.X
  · rw [Below.heap_alloc _ _ _ (by simp; omega), Below.heap_setCell _ _ _ _ (by simp), Below.heap_setCell _ _ _ _ (by simp), Below.heap_setCell _ _ _ _ (by simp)]
    exact h.Z

set_option maxRecDepth 100000 in
set_option maxHeartbeats 2000000 in
theorem public1_any (c : ByteArray) (id : Int) (a : Option Addr) (n cap : Nat) (mg : Int) (r : Option Nat) (b off : Nat) (L : List Mem) (K V : Nat → Int) (kk : Nat) (nilk : Bool) (w : World) (h : MRow w a n cap b off L) (hn : n ≤ 8192) (hpos : 0 < n) (sm : SideMap w r K V kk nilk) (hw : ∀ i, i < n → (Lit.int .u64 (mAt L i).inc).wf = true) (hmg : mg ≠ 0) :
    Calls Try.prog 35 #[.agg #[.string c, .int .u64 id, .slice a n cap, .int .u64 mg, .map r]] w
      fun e w' => RetPub c id mg L L.length false (sdV K V kk L) w e w' := by
  have hmk := run_make_row' (P := Try.prog) 23 9 (.string ByteArray.empty) 16 Try.underlying23 info9 rfl .i64 .i64 n (by omega) (by omega)
  have hmk3 := run_make_row' (P := Try.prog) 24 3 (.int .i64 0) 8 Try.underlying24 info3 rfl .i64 .i64 n (by omega) (by omega)
  have hmb : (mg != 0) = true := by simp [hmg]
  go_enter Try.func35, Try.ntmps35
  go_wp2
  go_loopw [28] (fun i wr => ∃ k : Nat, k ≤ n ∧ i = .int .i64 k ∧ Pub1 w wr c id a n cap mg r L (sdV K V kk L) k) (fun i _ => n - (intOf i).toNat)
  case atStart => exact ⟨0, Nat.zero_le _, rfl, Pub1.start _ _ _ _ _ _ _ _ _ _⟩
  case round =>
    obtain ⟨k, hk, rfl, hP⟩ := hrel
    by_cases hlt : k < n
    · have hi := h.idx hlt .i64
      have hblt := h.lt (by omega)
      have hc0 : wr.cell? ⟨b, off + k * 3, none⟩ = _ := (hP.bel.cell hblt).trans (h.c0 k hlt)
      have hc1 : wr.cell? ⟨b, off + k * 3 + 1, none⟩ = _ := (hP.bel.cell hblt).trans (h.c1 k hlt)
      have hc2 : wr.cell? ⟨b, off + k * 3 + 2, none⟩ = _ := (hP.bel.cell hblt).trans (h.c2 k hlt)
      have x4 : wr.cell? ⟨w.heap.size, 4, none⟩ = some (.map r) := by simp [World.cell?, hP.X]
      obtain ⟨⟨_, d0⟩, f0, l0⟩ := hP.nm.there hlt
      obtain ⟨⟨_, d1⟩, f1, l1⟩ := hP.ad.there hlt
      obtain ⟨⟨_, d2⟩, f2, l2⟩ := hP.sd.there hlt
      have l4 : w.heap.size < wr.heap.size := by omega
      have b1' : (0 : Int) ≤ (k : Int) := by omega
      have b2' : (k : Int) < (n : Int) := by omega
      have hlook : ∀ (v1 v2 : Value) (o : Obj), (Instr.lookup 38 (.map r) (.int .u64 (mAt L k).inc) true).run Try.prog (((wr.setCell ⟨w.heap.size + 1 + 1, k, none⟩ v1).setCell ⟨w.heap.size + 1 + 1 + 1, k, none⟩ v2).alloc o) = .ok (.tuple #[.int .i64 (lookV K V (mAt L k).inc kk), .bool (sideB K (mAt L k).inc kk)]) (((wr.setCell ⟨w.heap.size + 1 + 1, k, none⟩ v1).setCell ⟨w.heap.size + 1 + 1 + 1, k, none⟩ v2).alloc o) := fun v1 v2 o =>
        (sm.keep (((hP.bel.setCell (p := ⟨w.heap.size + 1 + 1, k, none⟩) (by simp; omega) v1).setCell (p := ⟨w.heap.size + 1 + 1 + 1, k, none⟩) (by simp; omega) v2).alloc (by simp; omega) o)).look (hw k hlt)
      have R : Hid (Pub1 w _ c id a n cap mg r L (sdV K V kk L) (k + 1)) := hP.step (.cells #[.string (mAt L k).name, .string (mAt L k).addr, .int .u64 (mAt L k).inc] 43)
      clear hP
      have hlv : lookV K V (mAt L k).inc kk = if sideB K (mAt L k).inc kk then sideV K V (mAt L k).inc kk else 0 := rfl
      have hsn : sideB K (mAt L k).inc kk = false → sideV K V (mAt L k).inc kk = -1 := sideV_none
      generalize hB : sideB K (mAt L k).inc kk = B at hlook hlv hsn
      cases B with
      | true =>
        simp only [if_true] at hlv
        rw [hlv] at hlook
        clear hsn hlv
        go_wp2
        go_roundw
        case rel => exact ⟨k + 1, by omega, by go_num, R.out⟩
        case measure => simp [intOf]; omega
      | false =>
        have hs := hsn rfl
        have R2 : Hid (sideV K V (mAt L k).inc kk = -1) := hs
        clear hsn hlv hs
        go_wp2
        go_roundw
        case rel =>
          have R' := R.out
          unfold sdV at R'
          rw [R2.out] at R'
          exact ⟨k + 1, by omega, by go_num, R'⟩
        case measure => simp [intOf]; omega
    · have hkn : k = n := by omega
      subst hkn
      clear hlt
      have hL := h.len
      have x0 : wr.cell? ⟨w.heap.size, 0, none⟩ = some (.string c) := by simp [World.cell?, hP.X]
      have x1 : wr.cell? ⟨w.heap.size, 1, none⟩ = some (.int .u64 id) := by simp [World.cell?, hP.X]
      have x3 : wr.cell? ⟨w.heap.size, 3, none⟩ = some (.int .u64 mg) := by simp [World.cell?, hP.X]
      have q0 : wr.cell? ⟨w.heap.size + 1 + 1, 0, none⟩ = some (.string (mAt L 0).name) := by have := (hP.nm.done hn).cell 0 hpos; simpa [nameV] using this
      obtain ⟨⟨z0, z1, z2, z3, z4, z5, z6⟩, y0, y1, y2, y3, y4, y5, y6⟩ := zero31 hP.Z
      go_wp2_with fail
      go_region_held3 (fun x => x.cell? ⟨w.heap.size, 0, none⟩ = some (.string c) ∧ x.cell? ⟨w.heap.size, 1, none⟩ = some (.int .u64 id) ∧ x.cell? ⟨w.heap.size, 3, none⟩ = some (.int .u64 mg) ∧ x.cell? ⟨w.heap.size + 1 + 1, 0, none⟩ = some (.string (mAt L 0).name)) (go_keep) (fail)
      go_wp2
      refine bodyPost_ret (v := .agg #[.string c, .string (mAt L 0).name, .int .u64 id, .slice (some ⟨w.heap.size + 1 + 1, 0, none⟩) L.length L.length, .slice (some ⟨w.heap.size + 1 + 1 + 1, 0, none⟩) L.length L.length, .int .u64 mg, .slice (some ⟨w.heap.size + 1 + 1 + 1 + 1, 0, none⟩) L.length L.length]) (by rw [hL]; simp [results, Try.results35, go_sem, z0, z1, z2, z3, z4, z5, z6]) rfl ?_
      refine ⟨_, _, _, w.heap.size + 1 + 1, w.heap.size + 1 + 1 + 1, w.heap.size + 1 + 1 + 1 + 1, rfl, ?_, ?_, ?_, rfl, ?_, by omega, by omega, fun _ => by omega⟩
      · rw [hL]; exact (set7_row hP.nm (by omega)).drew.done hn
      · rw [hL]; exact (set7_row hP.ad (by omega)).drew.done hn
      · rw [hL]; exact (set7_row hP.sd (by omega)).drew.done hn
      · exact (set7_below hP.bel (by omega)).drew

end Go.Proofs.Qxb6003790a
