/- FnRiffSkips: the walk, joined. -/
import Derived.Test.YthipghkhdlnfiaaDoorSkipBad
import Derived.Test.YthipghkhdlnfiaaDoorSkipGood
namespace Go.Proofs.YthipghkhdlnfiaaDoor
open Go.RowKit
set_option linter.unusedVariables false

theorem fnRiffSkips_walk (w : World) (ht : Laid w) (a0 : Option Addr) (len0 cap0 : Nat) (l0 : len0 ≤ cap0) (m0 : cap0 ≤ maxLen) (z0 : Nat → Int) (w0 : Arg .u8 w a0 (len0 * 4) z0) (x0 : ∀ i, (Lit.int .u8 (z0 i)).wf = true)
    (a1 : Option Addr) (len1 cap1 : Nat) (l1 : len1 ≤ cap1) (m1 : cap1 ≤ maxLen) (A1 : Nat → Option Addr) (L1 C1 : Nat → Nat) (Z1 : Nat → Nat → Int) (w1 : Rows2 .u8 w a1 len1 A1 L1 C1 Z1)
    (a2 : Option Addr) (len2 cap2 : Nat) (z2 : List Int) (w2 : IsRow .i64 w a2 len2 cap2 z2) (a3 : Option Addr) (len3 cap3 : Nat) (z3 : List Int) (w3 : IsRow .i64 w a3 len3 cap3 z3) :
    Calls Tryd.prog 5 #[.slice a0 len0 cap0, .slice a1 len1 cap1, .slice a2 len2 cap2, .slice a3 len3 cap3] w fun e w' => e = .returned (.bool true) ∧ Below w.heap.size w w' := by
  obtain ⟨E, U, M, S, L, P, H, hs⟩ := ht
  obtain ⟨cz, hcl, hcarg, _, _, hcwf⟩ := isRow_arg w2
  obtain ⟨rz, hrl, hrarg, _, _, _⟩ := isRow_arg w3
  by_cases hok : skipOk len0 len1 len2 len3 L1
  · exact skips_good w a0 len0 cap0 z0 a1 len1 cap1 A1 L1 C1 Z1 a2 len2 cap2 (fun i => cz.getD i 0) a3 len3 cap3 (fun i => rz.getD i 0) E U M S L P H hs w0 x0 w1 l1 m1 hcarg (i64_wf hcwf) hrarg hok
  · exact skips_bad w a0 len0 cap0 z0 a1 len1 cap1 A1 L1 C1 Z1 a2 len2 cap2 (fun i => cz.getD i 0) a3 len3 cap3 (fun i => rz.getD i 0) E U M S L P H hs w1 l1 m1 hok
end Go.Proofs.YthipghkhdlnfiaaDoor
