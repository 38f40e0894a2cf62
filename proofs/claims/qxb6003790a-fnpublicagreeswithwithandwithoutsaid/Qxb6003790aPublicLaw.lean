/- The law on public: its walk. -/
import Derived.Test.Qxb6003790aPublic0
import Derived.Test.Qxb6003790aPublic1
namespace Go.Proofs.Qxb6003790a
open Go.RowKit

theorem walk_fnPublicAgreesWithWithAndWithout (a0 : ByteArray) (a1 : Int) (a2 : Int) (a3 : Option Addr) (len3 cap3 b3 o3 : Nat) (S3 : Nat → ByteArray) (a4 : Option Addr) (len4 cap4 b4 o4 : Nat) (S4 : Nat → ByteArray) (a5 : Option Addr) (len5 cap5 b5 o5 : Nat) (S5 : Nat → Int) (a6 : Option Addr) (len6 cap6 b6 o6 : Nat) (S6 : Nat → Int) (a7 : Option Addr) (len7 cap7 b7 o7 : Nat) (S7 : Nat → Int) (a8 : ByteArray) (a9 : ByteArray) (a10 : Int) (a11 : Int) (w : World) (w0 : a0.size ≤ maxLen) (w1 : (Lit.int .u64 a1).wf = true) (w2 : (Lit.int .u64 a2).wf = true) (w3 : Sl w a3 len3 cap3 b3 o3 (fun i => .string (S3 i))) (g3 : ∀ i : Nat, (S3 i).size ≤ maxLen) (w4 : Sl w a4 len4 cap4 b4 o4 (fun i => .string (S4 i))) (g4 : ∀ i : Nat, (S4 i).size ≤ maxLen) (w5 : Sl w a5 len5 cap5 b5 o5 (fun i => .int .u64 (S5 i))) (g5 : ∀ i : Nat, (Lit.int .u64 (S5 i)).wf = true) (w6 : Sl w a6 len6 cap6 b6 o6 (fun i => .int .u64 (S6 i))) (g6 : ∀ i : Nat, (Lit.int .u64 (S6 i)).wf = true) (w7 : Sl w a7 len7 cap7 b7 o7 (fun i => .int .i64 (S7 i))) (g7 : ∀ i : Nat, (Lit.int .i64 (S7 i)).wf = true) (w8 : a8.size ≤ maxLen) (w9 : a9.size ≤ maxLen) (w10 : (Lit.int .u64 a10).wf = true) (w11 : (Lit.int .u64 a11).wf = true) :
    Calls Try.prog 6 #[.string a0, .int .u64 a1, .int .u64 a2, .slice a3 len3 cap3, .slice a4 len4 cap4, .slice a5 len5 cap5, .slice a6 len6 cap6, .slice a7 len7 cap7, .string a8, .string a9, .int .u64 a10, .int .u64 a11] w fun e w' => e = .returned (.bool true) ∧ Below w.heap.size w w' := by
  by_cases hm : a2 = 0
  · exact walk_pub0 a0 a1 a2 a3 len3 cap3 b3 o3 S3 a4 len4 cap4 b4 o4 S4 a5 len5 cap5 b5 o5 S5 a6 len6 cap6 b6 o6 S6 a7 len7 cap7 b7 o7 S7 a8 a9 a10 a11 w w0 w1 w2 w3 g3 w4 g4 w5 g5 w6 g6 w7 g7 w8 w9 w10 w11 hm
  · exact walk_pub1 a0 a1 a2 a3 len3 cap3 b3 o3 S3 a4 len4 cap4 b4 o4 S4 a5 len5 cap5 b5 o5 S5 a6 len6 cap6 b6 o6 S6 a7 len7 cap7 b7 o7 S7 a8 a9 a10 a11 w w0 w1 w2 w3 g3 w4 g4 w5 g5 w6 g6 w7 g7 w8 w9 w10 w11 hm

end Go.Proofs.Qxb6003790a
