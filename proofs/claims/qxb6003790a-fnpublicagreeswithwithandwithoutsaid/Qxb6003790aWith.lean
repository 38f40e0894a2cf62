/- view.with: one more member, behind the others, in a new row. -/
import Derived.Test.Qxb6003790aBuildS
import Derived.Deep.RegionHeld3
import Derived.Deep.AppendLies
import Derived.Deep.DrawnRows
namespace Go.Proofs.Qxb6003790a
open Go.RowKit Go.Maps
attribute [local go_sem ↓] Go.wp_at_zero Go.wp_at_succ

theorem mCells_one (L : List Mem) : ∀ u ∈ mCells L, u.oneCell' = true := by
  induction L with
  | nil => intro u hu; cases hu
  | cons m L ih =>
    intro u hu
    simp only [mCells, List.mem_cons] at hu
    rcases hu with rfl | rfl | rfl | hu
    · rfl
    · rfl
    · rfl
    · exact ih u hu

/-- The cells of a row of members, by their address. -/
theorem MRow.news {w : World} {a : Option Addr} {n cap b off : Nat} {L : List Mem} (h : MRow w a n cap b off L) : ∀ j u, (mCells L)[j]? = some u → w.cell? ((⟨b, off, none⟩ : Addr).add j) = some u := by
  intro j u hj
  have hlt : j < L.length * 3 := by
    have := (List.getElem?_eq_some_iff.1 hj).1
    rw [mCells_length] at this
    exact this
  have hL := h.len
  have hadd : (⟨b, off, none⟩ : Addr).add j = ⟨b, off + j, none⟩ := by unfold Addr.add; split <;> simp_all
  rw [hadd]
  obtain ⟨c0, c1, c2⟩ := mCells_at L (j / 3) (by omega)
  have hm : j % 3 < 3 := Nat.mod_lt _ (by omega)
  rcases (show j % 3 = 0 ∨ j % 3 = 1 ∨ j % 3 = 2 by omega) with e | e | e
  · have ej : j = j / 3 * 3 := by omega
    rw [ej] at hj ⊢
    rw [c0] at hj
    injection hj with hj
    rw [← hj]
    exact h.c0 (j / 3) (by omega)
  · have ej : j = j / 3 * 3 + 1 := by omega
    rw [ej] at hj ⊢
    rw [c1] at hj
    injection hj with hj
    rw [← hj, ← Nat.add_assoc]
    exact h.c1 (j / 3) (by omega)
  · have ej : j = j / 3 * 3 + 2 := by omega
    rw [ej] at hj ⊢
    rw [c2] at hj
    injection hj with hj
    rw [← hj, ← Nat.add_assoc]
    exact h.c2 (j / 3) (by omega)

/-- append of nil: nothing. -/
theorem run_append_none (P : Program) (w : World) (t ty e : TypeId) (i : TypeInfo) (ht : P.underlying t = some (.slice e)) (hi : P.info? e = some i) (a : Option Addr) (n cap c : Nat) (hle : n ≤ cap) :
    (Builtin.append_ #[t, t] ty #[.slice a n cap, .slice none 0 c]).run P w = .ok (.slice a n cap) w := by
  cases a <;> simp [Builtin.append_, run_underlying ht, sizeOf, typeInfo, hi, Builtin.lenOf, Builtin.firstCells, loadCells, storeCells, hle]

/-- append(members, v.Members...), whatever v.Members is. -/
theorem run_append_row (w : World) (ty : TypeId) (base : Nat) (v : Value) (hown : w.ownsRow base 43 3 v 0 []) (ax : Option Addr) (n c b off : Nat) (L : List Mem) (h : MRow w ax n c b off L) (hn : n ≤ 4096) (hbase : base ≤ w.heap.size) :
    ∃ v' w', (Builtin.append_ #[37, 37] ty #[v, .slice ax n c]).run Try.prog w = .ok v' w' ∧ w'.ownsRow base 43 3 v' n (mCells L) ∧ w.grownBy w' v.ownBlock := by
  obtain ⟨i0, hi0, hz0, hz1, hz2⟩ := info_parts info43
  cases ax with
  | none =>
    have h0 := h.nil rfl
    subst h0
    have hL : L = [] := List.eq_nil_of_length_eq_zero h.len
    subst hL
    rcases hown.2 with ⟨rfl, _⟩ | ⟨g, cap, cur, rfl, _⟩
    · exact ⟨_, _, run_append_none Try.prog w 37 ty 43 i0 Try.underlying37 hi0 none 0 0 c (Nat.le_refl _), hown, ⟨rfl, rfl, rfl, Nat.le_refl _, fun _ _ _ => rfl⟩⟩
    · exact ⟨_, _, run_append_none Try.prog w 37 ty 43 i0 Try.underlying37 hi0 (some ⟨g, 0, none⟩) 0 cap c (Nat.zero_le _), hown, ⟨rfl, rfl, rfl, Nat.le_refl _, fun _ _ _ => rfl⟩⟩
  | some ad =>
    have hnews : ∀ j u, (mCells L)[j]? = some u → w.cell? (ad.add j) = some u := by
      intro j u hj
      rcases Nat.eq_zero_or_pos n with h0 | h0
      · have hL : L = [] := List.eq_nil_of_length_eq_zero (by rw [h.len, h0])
        subst hL
        simp [mCells] at hj
      · have := h.adr h0
        injection this with this
        subst this
        exact h.news j u hj
    obtain ⟨v', w', hr, h2, h3, _, _⟩ := run_append_own_at (P := Try.prog) w base 37 ty 43 i0 (.agg #[.string ByteArray.empty, .string ByteArray.empty, .int .u64 0]) 3 40 Try.underlying37 hi0 hz0 hz1 hz2 rfl (by decide) v 0 [] hown ad n c (mCells L) (by rw [mCells_length, h.len]) hnews (mCells_one L) (by unfold maxLen; omega) (by omega) hbase
    refine ⟨v', w', hr, ?_, h3⟩
    simpa using h2

theorem step_append_row (w : World) {ops : Array Oper} {o : Oper} {a : Act} {K : Act → World → Prop} {Q : Exit → Act → World → Prop} {E : Prop} (hgd : o.guard = none) (s x : Operand)
    (ho : o.op = .call { callee := .builtin .append, args := #[s, x], argTypes := #[37, 37] })
    (base : Nat) (v : Value) (hs : a.eval s = v) (hown : w.ownsRow base 43 3 v 0 []) (ax : Option Addr) (n c b off : Nat) (L : List Mem) (hx : a.eval x = .slice ax n c) (h : MRow w ax n c b off L) (hn : n ≤ 4096) (hbase : base ≤ w.heap.size)
    (hK : ∀ v' w', w'.ownsRow base 43 3 v' n (mCells L) → w.grownBy w' v.ownBlock → K (a.put o.dst v') w') :
    if Region.wanted o (yielded ops a.tmps) = true then Oper.wp Try.prog o a w K Q else E := by
  have hw : Region.wanted o (yielded ops a.tmps) = true := by simp [Region.wanted, hgd]
  rw [if_pos hw]
  obtain ⟨v', w', hr, h2, h3⟩ := run_append_row w o.type base v hown ax n c b off L h hn hbase
  unfold Oper.wp execOp
  simp only [ho, resolve, invoke, builtin, Sem.run_bind, Sem.run_pure, Result.andThen_ok, List.map_toArray, List.map_cons, List.map_nil, hs, hx, hr]
  exact hK v' w' h2 h3

set_option maxRecDepth 100000 in
set_option maxHeartbeats 3200000 in
theorem with_any (c : ByteArray) (id : Int) (a : Option Addr) (n cap : Nat) (mg : Int) (r : Option Nat) (b off : Nat) (L : List Mem) (m : Mem) (w : World) (h : MRow w a n cap b off L) (hn : n ≤ 4096) :
    Calls Try.prog 31 #[.agg #[.string c, .int .u64 id, .slice a n cap, .int .u64 mg, .map r], .agg #[.string m.name, .string m.addr, .int .u64 m.inc]] w
      fun e w' => RetView c id mg r (L ++ [m]) w e w' := by
  obtain ⟨i0, hi0, hz0, hz1, hz2⟩ := info_parts info43
  go_enter Try.func31, Try.ntmps31
  go_wp2_with (at_make; refine wpList_make_own _ rfl _ _ 37 rfl (w.heap.size + 3) 43 i0 (.agg #[.string ByteArray.empty, .string ByteArray.empty, .int .u64 0]) 3 Try.underlying37 hi0 hz0 hz1 .i64 .i64 _ (n + 1) rfl rfl (by omega) (by rw [hz2]; omega) (by unfold maxLen; omega) (by simp) ?_; intro w1 hown hg)
  have hb0 : Below w.heap.size w w1 := Below.grown ((((Below.refl _ _).alloc (Nat.le_refl _) _).alloc (by simp) _).alloc (by simp; omega) _) hg (by simp; omega) (by intro k hk; cases hk)
  have X0 : w1.heap[w.heap.size]? = some (.cells #[.string c, .int .u64 id, .slice a n cap, .int .u64 mg, .map r] 40) := by
    rw [hg.block _ (by simp <;> omega) (by simp), Below.heap_alloc _ _ _ (by simp; omega), Below.heap_alloc _ _ _ (by simp)]
    exact heap_alloc_new _ _
  have Y0 : w1.heap[w.heap.size + 1]? = some (.cells #[.string m.name, .string m.addr, .int .u64 m.inc] 43) := by
    rw [hg.block _ (by simp <;> omega) (by simp), Below.heap_alloc _ _ _ (by simp), show w.heap.size + 1 = (w.alloc (.cells #[.string c, .int .u64 id, .slice a n cap, .int .u64 mg, .map r] 40)).heap.size by simp]
    exact heap_alloc_new _ _
  have Z0 : w1.heap[w.heap.size + 2]? = some (.cells #[.string ByteArray.empty, .int .u64 0, .slice none 0 0, .int .u64 0, .map none] 40) := by
    rw [hg.block _ (by simp <;> omega) (by simp), show w.heap.size + 2 = ((w.alloc (.cells #[.string c, .int .u64 id, .slice a n cap, .int .u64 mg, .map r] 40)).alloc (.cells #[.string m.name, .string m.addr, .int .u64 m.inc] 43)).heap.size by simp]
    exact heap_alloc_new _ _
  have hs0 : w.heap.size + 3 ≤ w1.heap.size := by have := hg.size; simp at this; omega
  clear hg
  have hown : w1.ownsRow (w.heap.size + 3) 43 3 (.slice (some ⟨w.heap.size + 1 + 1 + 1, 0, none⟩) 0 (n + 1)) 0 [] := by simpa using hown
  have hS : ∀ x, Below (w.heap.size + 3) w1 x → (x.cell? ⟨w.heap.size, 2, none⟩ = some (.slice a n cap) ∧ x.cell? ⟨w.heap.size + 1, 0, none⟩ = some (.string m.name) ∧ x.cell? ⟨w.heap.size + 1, 1, none⟩ = some (.string m.addr) ∧ x.cell? ⟨w.heap.size + 1, 2, none⟩ = some (.int .u64 m.inc)) := by
    intro x hx
    have X := (hx.block w.heap.size (by omega)).trans X0
    have Y := (hx.block (w.heap.size + 1) (by omega)).trans Y0
    simp [World.cell?, X, Y]
  have hw1 : w.heap.size + 3 < w1.heap.size := (hown.lt (w.heap.size + 3) rfl).2
  have hBd : Below (w.heap.size + 3) w1 w1.drew := (Below.refl _ _).drew
  have hsd : w.heap.size + 3 ≤ w1.drew.heap.size := by simpa using hs0
  go_region_held3 (fun x => x.cell? ⟨w.heap.size, 2, none⟩ = some (.slice a n cap) ∧ x.cell? ⟨w.heap.size + 1, 0, none⟩ = some (.string m.name) ∧ x.cell? ⟨w.heap.size + 1, 1, none⟩ = some (.string m.addr) ∧ x.cell? ⟨w.heap.size + 1, 2, none⟩ = some (.int .u64 m.inc))
    (first | exact hS _ hBd | exact hS _ hB2 | exact hS _ hB1 | exact hS _ (((Below.refl _ _).alloc hs0 _).drew) | exact hS _ (hB1.alloc hs1 _))
    (first
      | (refine step_append_row _ rfl (.tmp 11) (.tmp 13) rfl (w.heap.size + 3) (.slice (some ⟨w.heap.size + 1 + 1 + 1, 0, none⟩) 0 (n + 1)) rfl hown.drew a n cap b off L rfl (h.keep (hb0.trans (hBd.mono (by omega)))) hn hsd ?_
         intro v1 w2 hown1 hgr1
         have hs1 : w.heap.size + 3 ≤ w2.heap.size := by have := hgr1.size; simp at this; omega
         have hB1 : Below (w.heap.size + 3) w1 w2 := hBd.grown hgr1 hsd (by intro j hj; simp [Value.ownBlock] at hj; omega)
         have hlit := World.news_of_block (heap_alloc_new w2 (.cells #[.string m.name, .string m.addr, .int .u64 m.inc] 43))
         have hown2 := hown1.alloc (.cells #[.string m.name, .string m.addr, .int .u64 m.inc] 43)
         have hB3 := hB1.alloc hs1 (.cells #[.string m.name, .string m.addr, .int .u64 m.inc] 43)
         have hs3 : w.heap.size + 3 ≤ (w2.alloc (.cells #[.string m.name, .string m.addr, .int .u64 m.inc] 43)).heap.size := by simp; omega
         clear hown hgr1)
      | (refine step_append_lies _ rfl (.tmp 14) (.tmp 16) 37 rfl (w.heap.size + 3) 43 i0 (.agg #[.string ByteArray.empty, .string ByteArray.empty, .int .u64 0]) 3 40 Try.underlying37 hi0 hz0 hz1 hz2 rfl (by decide) v1 n (mCells L) rfl hown2 _ 1 1 [.string m.name, .string m.addr, .int .u64 m.inc] rfl rfl hlit (by intro u hu; simp at hu; rcases hu with rfl | rfl | rfl <;> rfl) (by decide) (by unfold maxLen; omega) (by omega) hs3 _ rfl ?_
         intro g1 cap1 w4 hown4 hgr4 _ _
         have hB2 : Below (w.heap.size + 3) w1 w4 := hB3.grown hgr4 hs3 (fun j hj => (hown2.lt j hj).1)
         have hs4 : w.heap.size + 3 ≤ w4.heap.size := Nat.le_trans hs3 hgr4.size
         clear hgr4 hown2 hB3 hlit)
      | (refine step_append_row _ rfl (.tmp 11) (.tmp 13) rfl (w.heap.size + 3) (.slice (some ⟨w.heap.size + 1 + 1 + 1, 0, none⟩) 0 (n + 1)) rfl (hown.alloc _).drew a n cap b off L rfl (h.keep (hb0.trans (((Below.refl _ _).alloc hs0 _).drew.mono (by omega)))) hn (by simp; omega) ?_
         intro v1 w2 hown2 hgr1
         have hs3 : w.heap.size + 3 ≤ w2.heap.size := by have := hgr1.size; simp at this; omega
         have hB3 : Below (w.heap.size + 3) w1 w2 := ((Below.refl _ _).alloc hs0 _).drew.grown hgr1 (by simp; omega) (by intro j hj; simp [Value.ownBlock] at hj; omega)
         have hlit := World.news_of_block ((hgr1.block w1.heap.size (by simp) (by simp [Value.ownBlock]; omega)).trans (heap_alloc_new w1 (.cells #[.string m.name, .string m.addr, .int .u64 m.inc] 43)))
         have hB1 := hB3
         clear hown hgr1))
  all_goals
    obtain ⟨a', cap', b', hv, hrow, hbase⟩ := mrow_of_owns (L := L ++ [m]) (by rw [mCells_append]; exact hown4)
    clear hown4
    injection hv with hv1 hv2 hv3
    subst hv1 hv3
    have X4 := (hB2.block w.heap.size (by omega)).trans X0
    have x0 : w4.cell? ⟨w.heap.size, 0, none⟩ = some (.string c) := by simp [World.cell?, X4]
    have x1 : w4.cell? ⟨w.heap.size, 1, none⟩ = some (.int .u64 id) := by simp [World.cell?, X4]
    have x2 : w4.cell? ⟨w.heap.size, 2, none⟩ = some (.slice a n cap) := by simp [World.cell?, X4]
    have x3 : w4.cell? ⟨w.heap.size, 3, none⟩ = some (.int .u64 mg) := by simp [World.cell?, X4]
    have x4 : w4.cell? ⟨w.heap.size, 4, none⟩ = some (.map r) := by simp [World.cell?, X4]
    have Z4 := (hB2.block (w.heap.size + 2) (by omega)).trans Z0
    have hb4 : Below w.heap.size w w4 := hb0.trans (hB2.mono (by omega))
    clear X4 X0 Y0 Z0 hS hB2 hB1 hBd
    go_wp2_with fail
    refine (of_any _ _ _ _ _ _ _ _ _ _ _).mono ?_
    rintro e w5 ⟨rfl, hb5⟩
    have Z5 := (hb5.block _ (by omega)).trans Z4
    obtain ⟨z0, z1, z2, z3, z4, y0, y1, y2, y3, y4⟩ := zero40 Z5
    clear Z5 Z4
    go_wp2_with fail
    have hll : (L ++ [m]).length = n + 1 := by simp [h.len]
    refine bodyPost_ret (v := .agg #[.string c, .int .u64 id, .slice (some ⟨g1, 0, none⟩) (L ++ [m]).length cap1, .int .u64 mg, .map r]) (by rw [hll]; simp [results, Try.results31, go_sem, z0, z1, z2, z3, z4]) rfl ⟨some ⟨g1, 0, none⟩, cap1, b', 0, rfl, set5_row (by rw [hll]; exact hrow.keep hb5) (fun h0 => by have := hbase (by omega); omega), fun h0 => by have := hbase (by omega); omega, ?_⟩
    exact set5_below (hb4.trans (hb5.mono (by omega))) (by omega)

theorem zzWith_any (c : ByteArray) (id : Int) (a : Option Addr) (n cap : Nat) (mg : Int) (r : Option Nat) (b off : Nat) (L : List Mem) (m : Mem) (w : World) (h : MRow w a n cap b off L) (hn : n ≤ 4096) :
    Calls Try.prog 19 #[.agg #[.string c, .int .u64 id, .slice a n cap, .int .u64 mg, .map r], .agg #[.string m.name, .string m.addr, .int .u64 m.inc]] w
      fun e w' => RetView c id mg r (L ++ [m]) w e w' := by
  go_enter Try.func19, Try.ntmps19
  go_wp2_with fail
  refine (with_any _ _ _ _ _ _ _ _ _ _ m _ (h.keep ?hb0) hn).mono ?_
  case hb0 => repeat (first | assumption | exact Below.refl _ _ | refine Below.alloc ?_ (by first | omega | (simp <;> omega)) _)
  rintro e w2 ⟨a', cap', b', off', rfl, hrow, hnew, hb2⟩
  simp only [World.size_alloc] at hnew
  have hs2 := hb2.size
  simp at hs2
  have Z2 : w2.heap[w.heap.size + 2]? = some (.cells #[.string ByteArray.empty, .int .u64 0, .slice none 0 0, .int .u64 0, .map none] 40) := (hb2.block _ (by simp)).trans (by
    rw [show w.heap.size + 2 = ((w.alloc (.cells #[.string c, .int .u64 id, .slice a n cap, .int .u64 mg, .map r] 40)).alloc (.cells #[.string m.name, .string m.addr, .int .u64 m.inc] 43)).heap.size by simp]
    exact heap_alloc_new _ _)
  obtain ⟨z0, z1, z2, z3, z4, y0, y1, y2, y3, y4⟩ := zero40 Z2
  clear Z2
  go_wp2_with fail
  refine bodyPost_ret (v := .agg #[.string c, .int .u64 id, .slice a' (L ++ [m]).length cap', .int .u64 mg, .map r]) (by simp [results, Try.results19, go_sem, z0, z1, z2, z3, z4]) rfl ⟨a', cap', b', off', rfl, set5_row hrow (fun h0 => by have := hnew h0; omega), fun h0 => by have := hnew h0; omega, ?_⟩
  exact set5_below (below_chain (by repeat (first | assumption | exact Below.refl _ _ | refine Below.alloc ?_ (by first | omega | (simp <;> omega)) _)) hb2) (by omega)

end Go.Proofs.Qxb6003790a
