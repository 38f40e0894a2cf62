/- The maps' keys: ids, and pairs of them. -/
import Derived.Test.Qxb6003795aProg
import Derived.WalkKit
import Derived.ProofKit
import Derived.DeepKeys4
import Derived.WideKeyArgs
import Derived.Maps.RangeWalk
import Derived.Maps.OwnSet
import Derived.Maps.Views
import Derived.WideKeyPair
namespace Go.Proofs.Qxb6003795a
set_option maxRecDepth 100000
open Go.RowKit Go.Maps Go.WideMaps

theorem laidOut' : laidOutB Try.prog = true := by kernel_rfl
theorem row90 : 90 < Try.prog.types.size := of_decide_eq_true (by kernel_rfl)
theorem wide90 : (match Try.prog.underlying 90 with | some (.array _ _) | some (.struct _) => true | _ => false) = true := by rw [Try.underlying90]
theorem law90 : Keyed Try.prog 90 := Keyed.of_law (deep_law_laid laidOut' (m := 2) (by omega) row90 (by kernel_rfl) wide90)
theorem law9 : Keyed Try.prog 9 := string_keyed Try.underlying9

theorem arr90 : ArrKey Try.prog 90 9 2 := by
  constructor
  all_goals first | exact Try.underlying90 | kernel_rfl
theorem size90 : ∃ m, Try.prog.types.size = m + 1 := ⟨Try.prog.types.size - 1, by have := row90; omega⟩

/-- The key of a pair. -/
def pkey (a b : ByteArray) : Lit := .string (keyBytes [.string a.data.toList, .string b.data.toList])

theorem keyOf_pairs {a b : ByteArray} (wa : a.size ≤ maxLen) (wb : b.size ≤ maxLen) :
    keyOf Try.prog 90 (.agg #[.string a, .string b]) = some (pkey a b) := by
  have hkt : Try.prog.keyType 90 = true := by kernel_rfl
  obtain ⟨m, hm⟩ := size90
  unfold keyOf
  simp only [arr90.hu]
  rw [if_pos (by simp [hkt, Value.formed, arr90.hu, arr90.size]), hm]
  unfold Program.keyLits
  simp only [arr90.hu, Value.cells]
  rw [if_pos (by rw [arr90.size]; rfl), show List.range 2 = [0, 1] from rfl, List.mapM_cons, List.mapM_cons, List.mapM_nil]
  simp [arr90.one, Program.keyLits, Try.underlying9, wa, wb, pkey]

theorem keyOf_pair_inv {key : Value} {kl : Lit} (h : keyOf Try.prog 90 key = some kl) : ∃ a b : ByteArray, key = .agg #[.string a, .string b] ∧ a.size ≤ maxLen ∧ b.size ≤ maxLen ∧ kl = pkey a b := by
  obtain ⟨xs, L, rfl, hL, rfl⟩ := keyOf_top wide90 h
  obtain ⟨m, hm⟩ := size90
  rw [hm] at hL
  obtain ⟨l⟩ := xs
  unfold Program.keyLits at hL
  simp only [arr90.hu, arr90.size] at hL
  by_cases hs : l.length = 2
  · rw [if_pos hs] at hL
    match l, hs, hL with
    | [c0, c1], hz, hL =>
      clear hz
      rw [show List.range 2 = [0, 1] from rfl, List.mapM_cons, List.mapM_cons, List.mapM_nil] at hL
      simp only [arr90.one, Program.keyLits, Try.underlying9, Nat.zero_mul, Nat.one_mul, List.drop_zero, List.take_succ_cons, List.take_zero, List.drop_succ_cons] at hL
      cases c0 <;> try (simp at hL; done)
      rename_i a
      cases c1 <;> try (split at hL <;> simp at hL; done)
      rename_i b
      by_cases wa : a.size ≤ maxLen
      · by_cases wb : b.size ≤ maxLen
        · simp [wa, wb] at hL
          exact ⟨a, b, rfl, wa, wb, by rw [← hL]; rfl⟩
        · simp [wa, wb] at hL
      · simp [wa] at hL
  · rw [if_neg hs] at hL; cases hL

/-- The ids. -/
def nid (i : Nat) : ByteArray := ⟨#[110, UInt8.ofNat (48 + i)]⟩
def nk (i : Nat) : Lit := .string (nid i).data.toList
def pk (o s : Nat) : Lit := pkey (nid o) (nid s)

theorem nid_size (i : Nat) : (nid i).size ≤ maxLen := by show 2 ≤ maxLen; unfold maxLen; omega
theorem nid_inj : ∀ {i j : Nat}, i < 8 → j < 8 → nid i = nid j → i = j := by
  have h : ∀ i : Fin 8, ∀ j : Fin 8, nid i.val = nid j.val → i = j := by decide
  intro i j hi hj e
  have := h ⟨i, hi⟩ ⟨j, hj⟩ e
  simpa using this

theorem keyOf_nid (i : Nat) : keyOf Try.prog 9 (.string (nid i)) = some (nk i) := keyOf_string_mk Try.underlying9 (nid_size i)
theorem keyOf_pk (o s : Nat) : keyOf Try.prog 90 (.agg #[.string (nid o), .string (nid s)]) = some (pk o s) := keyOf_pairs (nid_size o) (nid_size s)
theorem nk_inj {i j : Nat} (hi : i < 8) (hj : j < 8) (h : nk i = nk j) : i = j := by
  have := law9.inj (keyOf_nid i) (h ▸ keyOf_nid j)
  injection this with this
  exact nid_inj hi hj this
theorem pkey_inj {a b c d : ByteArray} (wa : a.size ≤ maxLen) (wb : b.size ≤ maxLen) (wc : c.size ≤ maxLen) (wd : d.size ≤ maxLen) (h : pkey a b = pkey c d) : a = c ∧ b = d := by
  have := law90.inj (keyOf_pairs wa wb) (h ▸ keyOf_pairs wc wd)
  simpa using this
theorem pk_inj {o s o' s' : Nat} (ho : o < 8) (hs : s < 8) (ho' : o' < 8) (hs' : s' < 8) (h : pk o s = pk o' s') : o = o' ∧ s = s' := by
  obtain ⟨h1, h2⟩ := pkey_inj (nid_size o) (nid_size s) (nid_size o') (nid_size s') h
  exact ⟨nid_inj ho ho' h1, nid_inj hs hs' h2⟩
/-- What reads as a key of a string's type IS that string. -/
theorem keyOf_str_inv {key : Value} {kl : Lit} (h : keyOf Try.prog 9 key = some kl) : ∃ s : ByteArray, key = .string s ∧ s.size ≤ maxLen ∧ kl = .string s.data.toList := by
  cases key <;> simp [keyOf, Try.underlying9, mapKey] at h
  exact ⟨_, rfl, h.1, h.2.symm⟩

theorem bytes_eq_of_toList {a b : ByteArray} (h : a.data.toList = b.data.toList) : a = b := by
  cases a; cases b
  simpa using h

end Go.Proofs.Qxb6003795a
