/- (*reckoning).end keeps the invariant. -/
import Derived.Test.Qxb6003795aEnd
import Derived.Test.Qxb6003795aPlain
namespace Go.Proofs.Qxb6003795a
set_option maxRecDepth 100000
open Go.RowKit Go.Maps

def EndTo (T M : Nat) (S : St) (w w' : World) : Prop := ∃ Di mn ms mm, Mem T w' { S with Di := Di, mn := mn, ms := ms, mm := mm } ∧ Fine Di mn ms mm M ∧ Kept [S.H + 5, S.H + 3] w w' ∧
  ∀ r n left cnt, r ≠ S.H + 5 → w.ranges Try.prog 90 (plainElem Try.prog 33) (S.H + 3) r n S.Di left cnt → ∃ left' cnt', cnt' ≤ cnt ∧ w'.ranges Try.prog 90 (plainElem Try.prog 33) (S.H + 3) r n Di left' cnt'

/-- Only the reckoning's own block and the map of the mistakes have turned. -/
theorem Mem.turned {T : Nat} {w w' : World} {S : St} (m : Mem T w S) (Di : DataW Unit) (mn : Nat) (ms mm : Int) (k : Kept [S.H + 5, S.H + 3] w w') (hi : w'.ownsMap Try.prog 90 (plainElem Try.prog 33) (S.H + 3) (Maps.size Di) Di)
    (hb : w'.heap[S.H + 5]? = some (.cells (recCells { S with Di := Di, mn := mn, ms := ms, mm := mm }) 83 (0, 0))) : Mem T w' { S with Di := Di, mn := mn, ms := ms, mm := mm } := by
  refine ⟨hb, k.row m.row ?_, k.owns m.d ?_, k.owns m.s ?_, k.owns m.h ?_, hi, k.owns m.e ?_⟩
  · intro l hl g hg
    have := m.own hg
    simp at hl
    omega
  all_goals (intro l hl; simp at hl; try dsimp only; rcases hl with rfl | rfl <;> omega)

theorem end_mem (T M : Nat) (S : St) (a b : ByteArray) (at' : Int) (w : World) (m : Mem T w S) (f : Fine S.Di S.mn S.ms S.mm M) (hM : M ≤ 100000) (wa : a.size ≤ maxLen) (wb : b.size ≤ maxLen) (ba : -1099511627776 ≤ at' ∧ at' ≤ 1099511627776) :
    Calls Try.prog 25 #[.pointer (some ⟨S.H + 5, 0, none⟩), .agg #[.string a, .string b], .int .i64 at'] w fun e w' => e = .returned (.tuple #[]) ∧ EndTo T M S w w' := by
  cases hh : Maps.has S.Di (pkey a b) with
  | false =>
    refine (end_no S a b at' _ w m.blk m.i wa wb hh).mono ?_
    rintro e w' ⟨rfl, k⟩
    exact ⟨rfl, S.Di, S.mn, S.ms, S.mm, m.kept k, f, k.mono (by simp), fun r n left cnt _ h => ⟨left, cnt, Nat.le_refl _, k.ranges h (by simp) (by simp)⟩⟩
  | true =>
    obtain ⟨c, hc, b1, b2⟩ := f.val _ hh
    have hcnt := f.cnt
    have h1 := f.snd.2.2.2.1
    have h2 := f.snd.up
    refine (end_yes S a b at' _ w c m.blk m.i wa wb hh hc (by omega) (by omega) ⟨b1, b2⟩ ba).mono ?_
    rintro e w' ⟨rfl, w5, ty, k5, hb5, hdel⟩
    have hi5 := k5.owns m.i (by intro l hl; simp at hl; omega)
    obtain ⟨w6, hdel', ho, ht⟩ := hi5.drop law90 Try.underlying77 (keyOf_pairs wa wb) ty
    rw [hdel] at hdel'
    injection hdel' with _ hdel'
    subst hdel'
    have k6 : Kept [S.H + 5, S.H + 3] w w' := (k5.mono (by simp)).turned ht (.inl (by simp))
    have hlt5 : S.H + 5 < w5.heap.size := (Array.getElem?_eq_some_iff.1 hb5).1
    have hb6 : w'.heap[S.H + 5]? = some (.cells (recCells (S.push (at' - c))) 83 (0, 0)) := (ht.grown.block _ hlt5 (by intro e; injection e with e; omega)).trans hb5
    refine ⟨rfl, S.Di.del (pkey a b), S.mn + 1, S.ms + (at' - c), max S.mm (at' - c), m.turned _ _ _ _ k6 (owns_tight ho) hb6, f.ended (m.i.tidy law90) hh (by omega), k6, ?_⟩
    intro r n left cnt hr hrg
    have hrg5 := k5.ranges hrg (by intro l hl; simp at hl; omega) (by intro l hl; simp at hl; omega)
    obtain ⟨w7, cnt', hdel2, h7, hle, _⟩ := hrg5.drop law90 Try.underlying77 (keyOf_pairs wa wb) ty
    rw [hdel] at hdel2
    injection hdel2 with _ hdel2
    subst hdel2
    exact ⟨_, cnt', hle, h7⟩

end Go.Proofs.Qxb6003795a
