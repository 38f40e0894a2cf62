/- The patterns put together: the law's walk for every input. -/
import Derived.Test.Qxb6003795aAgendaW0
import Derived.Test.Qxb6003795aAgendaW1
import Derived.Test.Qxb6003795aAgendaW2
namespace Go.Proofs.Qxb6003795a
open Go.RowKit

def FactL (a s b t : Int) : Prop := lessB a s b t = true ∧ lessB b t a s = false ∧ (a == b) = false
def FactG (a s b t : Int) : Prop := lessB a s b t = false ∧ lessB b t a s = true ∧ (a == b) = false
def FactEL (a s b t : Int) : Prop := lessB a s b t = true ∧ lessB b t a s = false ∧ (a == b) = true ∧ (s == t) = false
def FactEG (a s b t : Int) : Prop := lessB a s b t = false ∧ lessB b t a s = true ∧ (a == b) = true ∧ (s == t) = false
def FactEE (a s b t : Int) : Prop := lessB a s b t = false ∧ lessB b t a s = false ∧ (a == b) = true ∧ (s == t) = true

theorem five (a s b t : Int) : (a < b ∧ FactL a s b t) ∨ (b < a ∧ FactG a s b t) ∨ ((a = b ∧ s < t) ∧ FactEL a s b t) ∨ ((a = b ∧ t < s) ∧ FactEG a s b t) ∨ ((a = b ∧ s = t) ∧ FactEE a s b t) := by
  unfold FactL FactG FactEL FactEG FactEE lessB
  rcases Int.lt_trichotomy a b with h | h | h
  · left; have h1 : ¬ a = b := by omega
    have h2 : ¬ b = a := by omega
    have h3 : ¬ b < a := by omega
    simp [h, h1, h2, h3]
  · subst h
    right; right
    rcases Int.lt_trichotomy s t with k | k | k
    · left; have k1 : ¬ s = t := by omega
      have k3 : ¬ t < s := by omega
      simp [k, k1, k3]
    · subst k; right; right; simp
    · right; left; have k1 : ¬ s = t := by omega
      have k3 : ¬ s < t := by omega
      simp [k, k1, k3]
  · right; left; have h1 : ¬ a = b := by omega
    have h2 : ¬ b = a := by omega
    have h3 : ¬ a < b := by omega
    simp [h, h1, h2, h3]
theorem less_irr (a s : Int) : lessB a s a s = false := by simp [lessB]

theorem walk_fnAgendaLessIsStrictOrderAgreeingWithBefore (a0 : Int) (a1 : Int) (a2 : Int) (a3 : Int) (a4 : Int) (a5 : Int) (w : World) (_w0 : (Lit.int .i64 a0).wf = true) (_w1 : (Lit.int .u64 a1).wf = true) (_w2 : (Lit.int .i64 a2).wf = true) (_w3 : (Lit.int .u64 a3).wf = true) (_w4 : (Lit.int .i64 a4).wf = true) (_w5 : (Lit.int .u64 a5).wf = true) :
    Calls Try.prog 5 #[.int .i64 a0, .int .u64 a1, .int .i64 a2, .int .u64 a3, .int .i64 a4, .int .u64 a5] w fun e w' => e = .returned (.bool true) ∧ Below w.heap.size w w' := by
  have i0 := less_irr a0 a1
  have i1 := less_irr a2 a3
  have i2 := less_irr a4 a5
  rcases five a0 a1 a2 a3 with ⟨c, p⟩ | ⟨c, p⟩ | ⟨c, p⟩ | ⟨c, p⟩ | ⟨c, p⟩
  · rcases five a2 a3 a4 a5 with ⟨d, q⟩ | ⟨d, q⟩ | ⟨d, q⟩ | ⟨d, q⟩ | ⟨d, q⟩
    · rcases five a0 a1 a4 a5 with ⟨e, r⟩ | ⟨e, r⟩ | ⟨e, r⟩ | ⟨e, r⟩ | ⟨e, r⟩
      · exact law_L_L_L a0 a1 a2 a3 a4 a5 w i0 i1 i2 p.1 p.2.1 p.2.2 q.1 q.2.1 q.2.2 r.1 r.2.1 r.2.2
      · exfalso; clear p q r i0 i1 i2; omega
      · exfalso; clear p q r i0 i1 i2; omega
      · exfalso; clear p q r i0 i1 i2; omega
      · exfalso; clear p q r i0 i1 i2; omega
    · rcases five a0 a1 a4 a5 with ⟨e, r⟩ | ⟨e, r⟩ | ⟨e, r⟩ | ⟨e, r⟩ | ⟨e, r⟩
      · exact law_L_G_L a0 a1 a2 a3 a4 a5 w i0 i1 i2 p.1 p.2.1 p.2.2 q.1 q.2.1 q.2.2 r.1 r.2.1 r.2.2
      · exact law_L_G_G a0 a1 a2 a3 a4 a5 w i0 i1 i2 p.1 p.2.1 p.2.2 q.1 q.2.1 q.2.2 r.1 r.2.1 r.2.2
      · exact law_L_G_EL a0 a1 a2 a3 a4 a5 w i0 i1 i2 p.1 p.2.1 p.2.2 q.1 q.2.1 q.2.2 r.1 r.2.1 r.2.2.1 r.2.2.2
      · exact law_L_G_EG a0 a1 a2 a3 a4 a5 w i0 i1 i2 p.1 p.2.1 p.2.2 q.1 q.2.1 q.2.2 r.1 r.2.1 r.2.2.1 r.2.2.2
      · exact law_L_G_EE a0 a1 a2 a3 a4 a5 w i0 i1 i2 p.1 p.2.1 p.2.2 q.1 q.2.1 q.2.2 r.1 r.2.1 r.2.2.1 r.2.2.2
    · rcases five a0 a1 a4 a5 with ⟨e, r⟩ | ⟨e, r⟩ | ⟨e, r⟩ | ⟨e, r⟩ | ⟨e, r⟩
      · exact law_L_EL_L a0 a1 a2 a3 a4 a5 w i0 i1 i2 p.1 p.2.1 p.2.2 q.1 q.2.1 q.2.2.1 q.2.2.2 r.1 r.2.1 r.2.2
      · exfalso; clear p q r i0 i1 i2; omega
      · exfalso; clear p q r i0 i1 i2; omega
      · exfalso; clear p q r i0 i1 i2; omega
      · exfalso; clear p q r i0 i1 i2; omega
    · rcases five a0 a1 a4 a5 with ⟨e, r⟩ | ⟨e, r⟩ | ⟨e, r⟩ | ⟨e, r⟩ | ⟨e, r⟩
      · exact law_L_EG_L a0 a1 a2 a3 a4 a5 w i0 i1 i2 p.1 p.2.1 p.2.2 q.1 q.2.1 q.2.2.1 q.2.2.2 r.1 r.2.1 r.2.2
      · exfalso; clear p q r i0 i1 i2; omega
      · exfalso; clear p q r i0 i1 i2; omega
      · exfalso; clear p q r i0 i1 i2; omega
      · exfalso; clear p q r i0 i1 i2; omega
    · rcases five a0 a1 a4 a5 with ⟨e, r⟩ | ⟨e, r⟩ | ⟨e, r⟩ | ⟨e, r⟩ | ⟨e, r⟩
      · exact law_L_EE_L a0 a1 a2 a3 a4 a5 w i0 i1 i2 p.1 p.2.1 p.2.2 q.1 q.2.1 q.2.2.1 q.2.2.2 r.1 r.2.1 r.2.2
      · exfalso; clear p q r i0 i1 i2; omega
      · exfalso; clear p q r i0 i1 i2; omega
      · exfalso; clear p q r i0 i1 i2; omega
      · exfalso; clear p q r i0 i1 i2; omega
  · rcases five a2 a3 a4 a5 with ⟨d, q⟩ | ⟨d, q⟩ | ⟨d, q⟩ | ⟨d, q⟩ | ⟨d, q⟩
    · rcases five a0 a1 a4 a5 with ⟨e, r⟩ | ⟨e, r⟩ | ⟨e, r⟩ | ⟨e, r⟩ | ⟨e, r⟩
      · exact law_G_L_L a0 a1 a2 a3 a4 a5 w i0 i1 i2 p.1 p.2.1 p.2.2 q.1 q.2.1 q.2.2 r.1 r.2.1 r.2.2
      · exact law_G_L_G a0 a1 a2 a3 a4 a5 w i0 i1 i2 p.1 p.2.1 p.2.2 q.1 q.2.1 q.2.2 r.1 r.2.1 r.2.2
      · exact law_G_L_EL a0 a1 a2 a3 a4 a5 w i0 i1 i2 p.1 p.2.1 p.2.2 q.1 q.2.1 q.2.2 r.1 r.2.1 r.2.2.1 r.2.2.2
      · exact law_G_L_EG a0 a1 a2 a3 a4 a5 w i0 i1 i2 p.1 p.2.1 p.2.2 q.1 q.2.1 q.2.2 r.1 r.2.1 r.2.2.1 r.2.2.2
      · exact law_G_L_EE a0 a1 a2 a3 a4 a5 w i0 i1 i2 p.1 p.2.1 p.2.2 q.1 q.2.1 q.2.2 r.1 r.2.1 r.2.2.1 r.2.2.2
    · rcases five a0 a1 a4 a5 with ⟨e, r⟩ | ⟨e, r⟩ | ⟨e, r⟩ | ⟨e, r⟩ | ⟨e, r⟩
      · exfalso; clear p q r i0 i1 i2; omega
      · exact law_G_G_G a0 a1 a2 a3 a4 a5 w i0 i1 i2 p.1 p.2.1 p.2.2 q.1 q.2.1 q.2.2 r.1 r.2.1 r.2.2
      · exfalso; clear p q r i0 i1 i2; omega
      · exfalso; clear p q r i0 i1 i2; omega
      · exfalso; clear p q r i0 i1 i2; omega
    · rcases five a0 a1 a4 a5 with ⟨e, r⟩ | ⟨e, r⟩ | ⟨e, r⟩ | ⟨e, r⟩ | ⟨e, r⟩
      · exfalso; clear p q r i0 i1 i2; omega
      · exact law_G_EL_G a0 a1 a2 a3 a4 a5 w i0 i1 i2 p.1 p.2.1 p.2.2 q.1 q.2.1 q.2.2.1 q.2.2.2 r.1 r.2.1 r.2.2
      · exfalso; clear p q r i0 i1 i2; omega
      · exfalso; clear p q r i0 i1 i2; omega
      · exfalso; clear p q r i0 i1 i2; omega
    · rcases five a0 a1 a4 a5 with ⟨e, r⟩ | ⟨e, r⟩ | ⟨e, r⟩ | ⟨e, r⟩ | ⟨e, r⟩
      · exfalso; clear p q r i0 i1 i2; omega
      · exact law_G_EG_G a0 a1 a2 a3 a4 a5 w i0 i1 i2 p.1 p.2.1 p.2.2 q.1 q.2.1 q.2.2.1 q.2.2.2 r.1 r.2.1 r.2.2
      · exfalso; clear p q r i0 i1 i2; omega
      · exfalso; clear p q r i0 i1 i2; omega
      · exfalso; clear p q r i0 i1 i2; omega
    · rcases five a0 a1 a4 a5 with ⟨e, r⟩ | ⟨e, r⟩ | ⟨e, r⟩ | ⟨e, r⟩ | ⟨e, r⟩
      · exfalso; clear p q r i0 i1 i2; omega
      · exact law_G_EE_G a0 a1 a2 a3 a4 a5 w i0 i1 i2 p.1 p.2.1 p.2.2 q.1 q.2.1 q.2.2.1 q.2.2.2 r.1 r.2.1 r.2.2
      · exfalso; clear p q r i0 i1 i2; omega
      · exfalso; clear p q r i0 i1 i2; omega
      · exfalso; clear p q r i0 i1 i2; omega
  · rcases five a2 a3 a4 a5 with ⟨d, q⟩ | ⟨d, q⟩ | ⟨d, q⟩ | ⟨d, q⟩ | ⟨d, q⟩
    · rcases five a0 a1 a4 a5 with ⟨e, r⟩ | ⟨e, r⟩ | ⟨e, r⟩ | ⟨e, r⟩ | ⟨e, r⟩
      · exact law_EL_L_L a0 a1 a2 a3 a4 a5 w i0 i1 i2 p.1 p.2.1 p.2.2.1 p.2.2.2 q.1 q.2.1 q.2.2 r.1 r.2.1 r.2.2
      · exfalso; clear p q r i0 i1 i2; omega
      · exfalso; clear p q r i0 i1 i2; omega
      · exfalso; clear p q r i0 i1 i2; omega
      · exfalso; clear p q r i0 i1 i2; omega
    · rcases five a0 a1 a4 a5 with ⟨e, r⟩ | ⟨e, r⟩ | ⟨e, r⟩ | ⟨e, r⟩ | ⟨e, r⟩
      · exfalso; clear p q r i0 i1 i2; omega
      · exact law_EL_G_G a0 a1 a2 a3 a4 a5 w i0 i1 i2 p.1 p.2.1 p.2.2.1 p.2.2.2 q.1 q.2.1 q.2.2 r.1 r.2.1 r.2.2
      · exfalso; clear p q r i0 i1 i2; omega
      · exfalso; clear p q r i0 i1 i2; omega
      · exfalso; clear p q r i0 i1 i2; omega
    · rcases five a0 a1 a4 a5 with ⟨e, r⟩ | ⟨e, r⟩ | ⟨e, r⟩ | ⟨e, r⟩ | ⟨e, r⟩
      · exfalso; clear p q r i0 i1 i2; omega
      · exfalso; clear p q r i0 i1 i2; omega
      · exact law_EL_EL_EL a0 a1 a2 a3 a4 a5 w i0 i1 i2 p.1 p.2.1 p.2.2.1 p.2.2.2 q.1 q.2.1 q.2.2.1 q.2.2.2 r.1 r.2.1 r.2.2.1 r.2.2.2
      · exfalso; clear p q r i0 i1 i2; omega
      · exfalso; clear p q r i0 i1 i2; omega
    · rcases five a0 a1 a4 a5 with ⟨e, r⟩ | ⟨e, r⟩ | ⟨e, r⟩ | ⟨e, r⟩ | ⟨e, r⟩
      · exfalso; clear p q r i0 i1 i2; omega
      · exfalso; clear p q r i0 i1 i2; omega
      · exact law_EL_EG_EL a0 a1 a2 a3 a4 a5 w i0 i1 i2 p.1 p.2.1 p.2.2.1 p.2.2.2 q.1 q.2.1 q.2.2.1 q.2.2.2 r.1 r.2.1 r.2.2.1 r.2.2.2
      · exact law_EL_EG_EG a0 a1 a2 a3 a4 a5 w i0 i1 i2 p.1 p.2.1 p.2.2.1 p.2.2.2 q.1 q.2.1 q.2.2.1 q.2.2.2 r.1 r.2.1 r.2.2.1 r.2.2.2
      · exact law_EL_EG_EE a0 a1 a2 a3 a4 a5 w i0 i1 i2 p.1 p.2.1 p.2.2.1 p.2.2.2 q.1 q.2.1 q.2.2.1 q.2.2.2 r.1 r.2.1 r.2.2.1 r.2.2.2
    · rcases five a0 a1 a4 a5 with ⟨e, r⟩ | ⟨e, r⟩ | ⟨e, r⟩ | ⟨e, r⟩ | ⟨e, r⟩
      · exfalso; clear p q r i0 i1 i2; omega
      · exfalso; clear p q r i0 i1 i2; omega
      · exact law_EL_EE_EL a0 a1 a2 a3 a4 a5 w i0 i1 i2 p.1 p.2.1 p.2.2.1 p.2.2.2 q.1 q.2.1 q.2.2.1 q.2.2.2 r.1 r.2.1 r.2.2.1 r.2.2.2
      · exfalso; clear p q r i0 i1 i2; omega
      · exfalso; clear p q r i0 i1 i2; omega
  · rcases five a2 a3 a4 a5 with ⟨d, q⟩ | ⟨d, q⟩ | ⟨d, q⟩ | ⟨d, q⟩ | ⟨d, q⟩
    · rcases five a0 a1 a4 a5 with ⟨e, r⟩ | ⟨e, r⟩ | ⟨e, r⟩ | ⟨e, r⟩ | ⟨e, r⟩
      · exact law_EG_L_L a0 a1 a2 a3 a4 a5 w i0 i1 i2 p.1 p.2.1 p.2.2.1 p.2.2.2 q.1 q.2.1 q.2.2 r.1 r.2.1 r.2.2
      · exfalso; clear p q r i0 i1 i2; omega
      · exfalso; clear p q r i0 i1 i2; omega
      · exfalso; clear p q r i0 i1 i2; omega
      · exfalso; clear p q r i0 i1 i2; omega
    · rcases five a0 a1 a4 a5 with ⟨e, r⟩ | ⟨e, r⟩ | ⟨e, r⟩ | ⟨e, r⟩ | ⟨e, r⟩
      · exfalso; clear p q r i0 i1 i2; omega
      · exact law_EG_G_G a0 a1 a2 a3 a4 a5 w i0 i1 i2 p.1 p.2.1 p.2.2.1 p.2.2.2 q.1 q.2.1 q.2.2 r.1 r.2.1 r.2.2
      · exfalso; clear p q r i0 i1 i2; omega
      · exfalso; clear p q r i0 i1 i2; omega
      · exfalso; clear p q r i0 i1 i2; omega
    · rcases five a0 a1 a4 a5 with ⟨e, r⟩ | ⟨e, r⟩ | ⟨e, r⟩ | ⟨e, r⟩ | ⟨e, r⟩
      · exfalso; clear p q r i0 i1 i2; omega
      · exfalso; clear p q r i0 i1 i2; omega
      · exact law_EG_EL_EL a0 a1 a2 a3 a4 a5 w i0 i1 i2 p.1 p.2.1 p.2.2.1 p.2.2.2 q.1 q.2.1 q.2.2.1 q.2.2.2 r.1 r.2.1 r.2.2.1 r.2.2.2
      · exact law_EG_EL_EG a0 a1 a2 a3 a4 a5 w i0 i1 i2 p.1 p.2.1 p.2.2.1 p.2.2.2 q.1 q.2.1 q.2.2.1 q.2.2.2 r.1 r.2.1 r.2.2.1 r.2.2.2
      · exact law_EG_EL_EE a0 a1 a2 a3 a4 a5 w i0 i1 i2 p.1 p.2.1 p.2.2.1 p.2.2.2 q.1 q.2.1 q.2.2.1 q.2.2.2 r.1 r.2.1 r.2.2.1 r.2.2.2
    · rcases five a0 a1 a4 a5 with ⟨e, r⟩ | ⟨e, r⟩ | ⟨e, r⟩ | ⟨e, r⟩ | ⟨e, r⟩
      · exfalso; clear p q r i0 i1 i2; omega
      · exfalso; clear p q r i0 i1 i2; omega
      · exfalso; clear p q r i0 i1 i2; omega
      · exact law_EG_EG_EG a0 a1 a2 a3 a4 a5 w i0 i1 i2 p.1 p.2.1 p.2.2.1 p.2.2.2 q.1 q.2.1 q.2.2.1 q.2.2.2 r.1 r.2.1 r.2.2.1 r.2.2.2
      · exfalso; clear p q r i0 i1 i2; omega
    · rcases five a0 a1 a4 a5 with ⟨e, r⟩ | ⟨e, r⟩ | ⟨e, r⟩ | ⟨e, r⟩ | ⟨e, r⟩
      · exfalso; clear p q r i0 i1 i2; omega
      · exfalso; clear p q r i0 i1 i2; omega
      · exfalso; clear p q r i0 i1 i2; omega
      · exact law_EG_EE_EG a0 a1 a2 a3 a4 a5 w i0 i1 i2 p.1 p.2.1 p.2.2.1 p.2.2.2 q.1 q.2.1 q.2.2.1 q.2.2.2 r.1 r.2.1 r.2.2.1 r.2.2.2
      · exfalso; clear p q r i0 i1 i2; omega
  · rcases five a2 a3 a4 a5 with ⟨d, q⟩ | ⟨d, q⟩ | ⟨d, q⟩ | ⟨d, q⟩ | ⟨d, q⟩
    · rcases five a0 a1 a4 a5 with ⟨e, r⟩ | ⟨e, r⟩ | ⟨e, r⟩ | ⟨e, r⟩ | ⟨e, r⟩
      · exact law_EE_L_L a0 a1 a2 a3 a4 a5 w i0 i1 i2 p.1 p.2.1 p.2.2.1 p.2.2.2 q.1 q.2.1 q.2.2 r.1 r.2.1 r.2.2
      · exfalso; clear p q r i0 i1 i2; omega
      · exfalso; clear p q r i0 i1 i2; omega
      · exfalso; clear p q r i0 i1 i2; omega
      · exfalso; clear p q r i0 i1 i2; omega
    · rcases five a0 a1 a4 a5 with ⟨e, r⟩ | ⟨e, r⟩ | ⟨e, r⟩ | ⟨e, r⟩ | ⟨e, r⟩
      · exfalso; clear p q r i0 i1 i2; omega
      · exact law_EE_G_G a0 a1 a2 a3 a4 a5 w i0 i1 i2 p.1 p.2.1 p.2.2.1 p.2.2.2 q.1 q.2.1 q.2.2 r.1 r.2.1 r.2.2
      · exfalso; clear p q r i0 i1 i2; omega
      · exfalso; clear p q r i0 i1 i2; omega
      · exfalso; clear p q r i0 i1 i2; omega
    · rcases five a0 a1 a4 a5 with ⟨e, r⟩ | ⟨e, r⟩ | ⟨e, r⟩ | ⟨e, r⟩ | ⟨e, r⟩
      · exfalso; clear p q r i0 i1 i2; omega
      · exfalso; clear p q r i0 i1 i2; omega
      · exact law_EE_EL_EL a0 a1 a2 a3 a4 a5 w i0 i1 i2 p.1 p.2.1 p.2.2.1 p.2.2.2 q.1 q.2.1 q.2.2.1 q.2.2.2 r.1 r.2.1 r.2.2.1 r.2.2.2
      · exfalso; clear p q r i0 i1 i2; omega
      · exfalso; clear p q r i0 i1 i2; omega
    · rcases five a0 a1 a4 a5 with ⟨e, r⟩ | ⟨e, r⟩ | ⟨e, r⟩ | ⟨e, r⟩ | ⟨e, r⟩
      · exfalso; clear p q r i0 i1 i2; omega
      · exfalso; clear p q r i0 i1 i2; omega
      · exfalso; clear p q r i0 i1 i2; omega
      · exact law_EE_EG_EG a0 a1 a2 a3 a4 a5 w i0 i1 i2 p.1 p.2.1 p.2.2.1 p.2.2.2 q.1 q.2.1 q.2.2.1 q.2.2.2 r.1 r.2.1 r.2.2.1 r.2.2.2
      · exfalso; clear p q r i0 i1 i2; omega
    · rcases five a0 a1 a4 a5 with ⟨e, r⟩ | ⟨e, r⟩ | ⟨e, r⟩ | ⟨e, r⟩ | ⟨e, r⟩
      · exfalso; clear p q r i0 i1 i2; omega
      · exfalso; clear p q r i0 i1 i2; omega
      · exfalso; clear p q r i0 i1 i2; omega
      · exfalso; clear p q r i0 i1 i2; omega
      · exact law_EE_EE_EE a0 a1 a2 a3 a4 a5 w i0 i1 i2 p.1 p.2.1 p.2.2.1 p.2.2.2 q.1 q.2.1 q.2.2.1 q.2.2.2 r.1 r.2.1 r.2.2.1 r.2.2.2

end Go.Proofs.Qxb6003795a
