/- The exported steps, the ids, the making. -/
import Derived.Test.Qxb6003795aRestart
namespace Go.Proofs.Qxb6003795a
set_option maxRecDepth 100000
open Go.RowKit Go.Maps
attribute [local go_sem ↓] Go.wp_at_zero Go.wp_at_succ

set_option maxHeartbeats 1000000 in
theorem zzID_any (k : Nat) (hk : k < 8) (x : Int) (hx : x = k) (w : World) : Calls Try.prog 18 #[.int .u8 x] w fun e w' => e = .returned (.string (nid k)) ∧ w' = w := by
  subst hx
  match k, hk with
  | 0, _ => (go_enter Try.func18, Try.ntmps18); go_wp2; go_ret; exact ⟨rfl, rfl⟩
  | 1, _ => (go_enter Try.func18, Try.ntmps18); go_wp2; go_ret; exact ⟨rfl, rfl⟩
  | 2, _ => (go_enter Try.func18, Try.ntmps18); go_wp2; go_ret; exact ⟨rfl, rfl⟩
  | 3, _ => (go_enter Try.func18, Try.ntmps18); go_wp2; go_ret; exact ⟨rfl, rfl⟩
  | 4, _ => (go_enter Try.func18, Try.ntmps18); go_wp2; go_ret; exact ⟨rfl, rfl⟩
  | 5, _ => (go_enter Try.func18, Try.ntmps18); go_wp2; go_ret; exact ⟨rfl, rfl⟩
  | 6, _ => (go_enter Try.func18, Try.ntmps18); go_wp2; go_ret; exact ⟨rfl, rfl⟩
  | 7, _ => (go_enter Try.func18, Try.ntmps18); go_wp2; go_ret; exact ⟨rfl, rfl⟩

theorem Step.mono {T M C T' M' : Nat} {S : St} {w w' : World} (h : Step T M C S w w') (hT : T ≤ T') (hM : M ≤ M') : Step T' M' C S w w' := by
  obtain ⟨S', h1, h2, h3, h4, h5⟩ := h
  exact ⟨S', h1, h2, h3.mono hT, ⟨h4.1.mono hM, h4.2⟩, h5⟩

theorem change_on (T M : Nat) (S : St) (o s : Nat) (at' : Int) (w : World) (m : Mem T w S) (inv : Inv S M) (hT : T ≤ 4096) (hM : M ≤ 90000) (hL : S.L.length ≤ 4096) (ba : -1099511627776 ≤ at' ∧ at' ≤ 1099511627776) (ho : o < 8) (hs : s < 8) (hos : o ≠ s) :
    Calls Try.prog 24 #[.pointer (some ⟨S.H + 5, 0, none⟩), .agg #[.int .i64 at', .string (nid o), .string (nid s), .bool true]] w fun e w' => e = .returned (.tuple #[]) ∧ Step (T + 1) (M + 1) S.L.length S w w' := by
  cases hd : Maps.has S.Dd (nk s) with
  | false => exact change_up T M S o s at' w m inv (by omega) (by omega) ba ho hs hd
  | true =>
    obtain ⟨f, hk', sn, dn, ds, dm, D⟩ := inv
    obtain ⟨k, hk, hat, _, _⟩ := D.down s hs hd
    by_cases e : sn o s = k + 1
    · exact change_old T M S o s at' w m ⟨f, hk', sn, dn, ds, dm, D⟩ (by omega) ho hs hd _ hat (by rw [(D.seen o s ho hs).1, e])
    · exact change_new T M S o s at' w m f hk' sn dn ds dm D hT hL ba ho hs hos hd k hk hat e

theorem zzHappen_crash (T M : Nat) (S : St) (i : Nat) (at' : Int) (w : World) (m : Mem T w S) (inv : Inv S M) (hT : T ≤ 4096) (hM : M ≤ 90000) (hL : S.L.length ≤ 4096) (ba : -1099511627776 ≤ at' ∧ at' ≤ 1099511627776) (hi : i < 8) :
    Calls Try.prog 17 #[.pointer (some ⟨S.H + 5, 0, none⟩), .int .i64 at', .int .i64 0, .string (nid i)] w fun e w' => e = .returned (.tuple #[]) ∧ Step (T + 1) M (S.L.length + 1) S w w' := by
  have HC := happen_crash T M S S.H rfl i at' w m inv hT (by omega) hL ba hi
  clear m inv
  go_enter Try.func17, Try.ntmps17
  go_wp2_with fail
  refine HC.mono ?_
  rintro e w1 ⟨rfl, hb⟩
  go_wp2_with fail
  go_end0
  exact ⟨rfl, hb⟩

theorem zzHappen_restart (T M : Nat) (S : St) (i : Nat) (at' : Int) (w : World) (m : Mem T w S) (inv : Inv S M) (hM : M ≤ 90000) (ba : -1099511627776 ≤ at' ∧ at' ≤ 1099511627776) (hi : i < 8) :
    Calls Try.prog 17 #[.pointer (some ⟨S.H + 5, 0, none⟩), .int .i64 at', .int .i64 6, .string (nid i)] w fun e w' => e = .returned (.tuple #[]) ∧ Step (T + 1) (M + 8) S.L.length S w w' := by
  have HC := happen_restart T M S S.H rfl i at' w m inv (by omega) ba hi
  clear m inv
  go_enter Try.func17, Try.ntmps17
  go_wp2_with fail
  refine HC.mono ?_
  rintro e w1 ⟨rfl, hb⟩
  go_wp2_with fail
  go_end0
  exact ⟨rfl, hb.mono (Nat.le_succ T) (Nat.le_refl _)⟩

theorem zzChange_on (T M : Nat) (S : St) (o s : Nat) (at' : Int) (w : World) (m : Mem T w S) (inv : Inv S M) (hT : T ≤ 4096) (hM : M ≤ 90000) (hL : S.L.length ≤ 4096) (ba : -1099511627776 ≤ at' ∧ at' ≤ 1099511627776) (ho : o < 8) (hs : s < 8) (hos : o ≠ s) :
    Calls Try.prog 19 #[.pointer (some ⟨S.H + 5, 0, none⟩), .int .i64 at', .string (nid o), .string (nid s), .bool true] w fun e w' => e = .returned (.tuple #[]) ∧ Step (T + 1) (M + 1) S.L.length S w w' := by
  have HC := change_on T M S o s at' w m inv hT hM hL ba ho hs hos
  clear m inv
  go_enter Try.func19, Try.ntmps19
  go_wp2_with fail
  refine HC.mono ?_
  rintro e w1 ⟨rfl, hb⟩
  go_wp2_with fail
  go_end0
  exact ⟨rfl, hb⟩

theorem zzChange_off (T M : Nat) (S : St) (o s : Nat) (at' : Int) (w : World) (m : Mem T w S) (inv : Inv S M) (hM : M ≤ 90000) (ba : -1099511627776 ≤ at' ∧ at' ≤ 1099511627776) :
    Calls Try.prog 19 #[.pointer (some ⟨S.H + 5, 0, none⟩), .int .i64 at', .string (nid o), .string (nid s), .bool false] w fun e w' => e = .returned (.tuple #[]) ∧ Step (T + 1) M S.L.length S w w' := by
  have HC := change_clear T M S o s at' w m inv (by omega) ba
  clear m inv
  go_enter Try.func19, Try.ntmps19
  go_wp2_with fail
  refine HC.mono ?_
  rintro e w1 ⟨rfl, hb⟩
  go_wp2_with fail
  go_end0
  exact ⟨rfl, hb.mono (Nat.le_succ T) (Nat.le_refl _)⟩

def newSt (H : Nat) : St := ⟨H, .slice none 0 0, [], .map [], .map [], .map [], .map [], .map [], 0, 0, 0⟩

theorem new_inv (H : Nat) : Inv (newSt H) 0 := by
  refine ⟨⟨?_, Sound.zero, Nat.le_refl _⟩, ?_, fun _ _ => 0, fun _ => 0, fun _ => 0, fun _ => 0, ?_⟩
  · intro kl h
    cases h
  · intro kl h
    cases h
  · refine ⟨?_, ?_, fun o s _ _ => ⟨rfl, Nat.zero_le _⟩, fun o _ => ⟨rfl, Sound.zero, Nat.zero_le _⟩, ?_⟩
    · intro x hx
      cases hx
    · intro s _ h
      cases h
    · intro kl h
      cases h

theorem new_any (w : World) : Calls Try.prog 16 #[] w fun e w' => e = .returned (.pointer (some ⟨w.heap.size + 5, 0, none⟩)) ∧ Mem 0 w' (newSt w.heap.size) ∧ Below w.heap.size w w' := by
  have hmm := @run_makeMap Try.prog
  go_enter Try.func16, Try.ntmps16
  go_wp2
  go_ret
  refine ⟨rfl, ?_, ?_⟩
  · refine ⟨?_, ⟨rfl, .inl ⟨rfl, rfl⟩⟩, ?_, ?_, ?_, ?_, ?_⟩
    · have := heap_alloc_new (((((w.alloc (.map #[] 0)).alloc (.map #[] 0)).alloc (.map #[] 0)).alloc (.map #[] 0)).alloc (.map #[] 0)) (.cells (recCells (newSt w.heap.size)) 83)
      simpa [newSt, recCells] using this
    · exact (((((World.ownsMap_made w _ _ _).alloc _).alloc _).alloc _).alloc _).alloc _
    · have := ((((World.ownsMap_made (w.alloc (.map #[] 0)) Try.prog 90 (plainElem (H := Unit) Try.prog 3)).alloc (.map #[] 0)).alloc (.map #[] 0)).alloc (.map #[] 0)).alloc (.cells (recCells (newSt w.heap.size)) 83)
      simpa [newSt, recCells] using this
    · have := (((World.ownsMap_made ((w.alloc (.map #[] 0)).alloc (.map #[] 0)) Try.prog 90 (plainElem (H := Unit) Try.prog 4)).alloc (.map #[] 0)).alloc (.map #[] 0)).alloc (.cells (recCells (newSt w.heap.size)) 83)
      simpa [newSt, recCells] using this
    · have := ((World.ownsMap_made (((w.alloc (.map #[] 0)).alloc (.map #[] 0)).alloc (.map #[] 0)) Try.prog 90 (plainElem (H := Unit) Try.prog 33)).alloc (.map #[] 0)).alloc (.cells (recCells (newSt w.heap.size)) 83)
      simpa [newSt, recCells, Maps.size] using this
    · have := (World.ownsMap_made ((((w.alloc (.map #[] 0)).alloc (.map #[] 0)).alloc (.map #[] 0)).alloc (.map #[] 0)) Try.prog 9 lenElem).alloc (.cells (recCells (newSt w.heap.size)) 83)
      simpa [newSt, recCells] using this
  · exact ((((((Kept.refl [] w).alloc _).alloc _).alloc _).alloc _).alloc _).alloc _ |>.below (Nat.le_refl _) (by simp)

theorem zzNew_any (w : World) : Calls Try.prog 8 #[] w fun e w' => e = .returned (.pointer (some ⟨w.heap.size + 5, 0, none⟩)) ∧ Mem 0 w' (newSt w.heap.size) ∧ Below w.heap.size w w' := by
  have HC := new_any w
  go_enter Try.func8, Try.ntmps8
  go_wp2_with fail
  refine HC.mono ?_
  rintro e w1 ⟨rfl, hm, hb⟩
  go_wp2_with fail
  go_ret
  exact ⟨rfl, hm, hb⟩

end Go.Proofs.Qxb6003795a
