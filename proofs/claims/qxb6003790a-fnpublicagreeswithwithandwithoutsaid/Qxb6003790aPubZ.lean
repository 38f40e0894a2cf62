/- ZZPublic. -/
import Derived.Test.Qxb6003790aPub
namespace Go.Proofs.Qxb6003790a
open Go.RowKit Go.Maps Go.Deep

/-- How long public's Sides are. -/
def nsOf (mg : Int) (n : Nat) : Nat := if mg = 0 then 0 else n

theorem public_any (c : ByteArray) (id : Int) (a : Option Addr) (n cap : Nat) (mg : Int) (r : Option Nat) (b off : Nat) (L : List Mem) (K V : Nat → Int) (kk : Nat) (nilk : Bool) (w : World) (h : MRow w a n cap b off L) (hn : n ≤ 8192) (hpos : 0 < n) (sm : SideMap w r K V kk nilk) (hw : ∀ i, i < n → (Lit.int .u64 (mAt L i).inc).wf = true) :
    Calls Try.prog 35 #[.agg #[.string c, .int .u64 id, .slice a n cap, .int .u64 mg, .map r]] w
      fun e w' => RetPub c id mg L (nsOf mg L.length) (decide (mg = 0)) (sdV K V kk L) w e w' := by
  by_cases hm : mg = 0
  · subst hm
    exact public0_any c id a n cap r b off L _ w h hn hpos
  · have := public1_any c id a n cap mg r b off L K V kk nilk w h hn hpos sm hw hm
    simp only [nsOf, hm, if_false, decide_false]
    exact this

theorem Sl.set1 {w : World} {a : Option Addr} {n cap b off : Nat} {V : Nat → Value} (h : Sl w a n cap b off V) {B : Nat} (hne : 0 < n → b ≠ B) (j : Nat) (v : Value) : Sl (w.setCell ⟨B, j, none⟩ v) a n cap b off V :=
  ⟨h.nil, h.le, h.max, h.adr, fun h0 => by rw [World.size_setCell]; exact h.lt h0, fun i hi => by
    rw [World.cell?_of_block (Below.heap_setCell _ _ _ _ (hne (by omega)))]
    exact h.cell i hi⟩
theorem Sl.set7 {w : World} {a : Option Addr} {n cap b off : Nat} {V : Nat → Value} (h : Sl w a n cap b off V) {B : Nat} (hne : 0 < n → b ≠ B) {v0 v1 v2 v3 v4 v5 v6 : Value} :
    Sl (((((((w.setCell ⟨B, 0, none⟩ v0).setCell ⟨B, 1, none⟩ v1).setCell ⟨B, 2, none⟩ v2).setCell ⟨B, 3, none⟩ v3).setCell ⟨B, 4, none⟩ v4).setCell ⟨B, 5, none⟩ v5).setCell ⟨B, 6, none⟩ v6) a n cap b off V :=
  ((((((h.set1 hne 0 v0).set1 hne 1 v1).set1 hne 2 v2).set1 hne 3 v3).set1 hne 4 v4).set1 hne 5 v5).set1 hne 6 v6

set_option maxRecDepth 100000 in
set_option maxHeartbeats 2000000 in
theorem zzPublic_any (c : ByteArray) (id : Int) (a : Option Addr) (n cap : Nat) (mg : Int) (r : Option Nat) (b off : Nat) (L : List Mem) (K V : Nat → Int) (kk : Nat) (nilk : Bool) (w : World) (h : MRow w a n cap b off L) (hn : n ≤ 8192) (hpos : 0 < n) (sm : SideMap w r K V kk nilk) (hw : ∀ i, i < n → (Lit.int .u64 (mAt L i).inc).wf = true) :
    Calls Try.prog 28 #[.agg #[.string c, .int .u64 id, .slice a n cap, .int .u64 mg, .map r]] w
      fun e w' => RetPub c id mg L (nsOf mg L.length) (decide (mg = 0)) (sdV K V kk L) w e w' := by
  go_enter Try.func28, Try.ntmps28
  go_wp2_with fail
  refine (public_any _ _ _ _ _ _ _ _ _ _ K V kk nilk _ (h.keep ?hb0) hn hpos (sm.keep ?hb1) hw).mono ?_
  case hb0 => repeat (first | assumption | exact Below.refl _ _ | refine Below.alloc ?_ (by first | omega | (simp <;> omega)) _)
  case hb1 => repeat (first | assumption | exact Below.refl _ _ | refine Below.alloc ?_ (by first | omega | (simp <;> omega)) _)
  rintro e w2 ⟨an, aa, as_, bn, ba, bs, rfl, hn1, ha1, hs1, hnn, hb2, g1, g2, g3⟩
  simp only [World.size_alloc] at g1 g2 g3
  have hs2 := hb2.size
  simp at hs2
  have Z2 : w2.heap[w.heap.size + 1]? = some (.cells #[.string ByteArray.empty, .string ByteArray.empty, .int .u64 0, .slice none 0 0, .slice none 0 0, .int .u64 0, .slice none 0 0] 31) := (hb2.block _ (by simp)).trans (by
    rw [show w.heap.size + 1 = (w.alloc (.cells #[.string c, .int .u64 id, .slice a n cap, .int .u64 mg, .map r] 40)).heap.size by simp]
    exact heap_alloc_new _ _)
  obtain ⟨⟨z0, z1, z2, z3, z4, z5, z6⟩, y0, y1, y2, y3, y4, y5, y6⟩ := zero31 Z2
  clear Z2
  go_wp2_with fail
  refine bodyPost_ret (v := .agg #[.string c, .string (mAt L 0).name, .int .u64 id, .slice an L.length L.length, .slice aa L.length L.length, .int .u64 mg, .slice as_ (nsOf mg L.length) (nsOf mg L.length)]) (by simp [results, Try.results28, go_sem, z0, z1, z2, z3, z4, z5, z6]) rfl ?_
  refine ⟨an, aa, as_, bn, ba, bs, rfl, ?_, ?_, ?_, hnn, ?_, by omega, by omega, fun h0 => by have := g3 h0; omega⟩
  · exact hn1.set7 (B := w.heap.size + 1) (fun _ => by omega)
  · exact ha1.set7 (B := w.heap.size + 1) (fun _ => by omega)
  · exact hs1.set7 (B := w.heap.size + 1) (fun h0 => by have := g3 h0; omega)
  · have hb3 : Below w.heap.size w w2 := below_chain (by repeat (first | assumption | exact Below.refl _ _ | refine Below.alloc ?_ (by first | omega | (simp <;> omega)) _)) hb2
    exact set7_below (B := w.heap.size + 1) hb3 (by omega)

end Go.Proofs.Qxb6003790a
