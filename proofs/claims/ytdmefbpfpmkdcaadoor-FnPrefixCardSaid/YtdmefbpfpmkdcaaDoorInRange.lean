/- The laws' inRange. -/
import Derived.Test.YtdmefbpfpmkdcaaDoorCommon
import Derived.BigQuiet
import Derived.Deep.QuietTactic
import Derived.WalkSpells
import Derived.WalkLawsBesides
import Derived.Outline
namespace Go.Proofs.YtdmefbpfpmkdcaaDoor
open Go.RowKit
set_option linter.unusedVariables false

/-- inRange: every number between. -/
def inR (q : Nat → Int) (lo hi : Int) (n : Nat) : Bool := decide (∀ i, i < n → lo ≤ q i ∧ q i ≤ hi)
theorem inR_true {q : Nat → Int} {lo hi : Int} {n : Nat} : inR q lo hi n = true ↔ ∀ i, i < n → lo ≤ q i ∧ q i ≤ hi := by unfold inR; exact decide_eq_true_iff
theorem inRange_any (a : Option Addr) (n c : Nat) (q : Nat → Int) (lo hi : Int) (w : World) (h : Arg .i64 w a n q) (hn : n ≤ 140737488351232) :
    Calls Tryd.prog 9 #[.slice a n c, .int .i64 lo, .int .i64 hi] w fun e w' => e = .returned (.bool (inR q lo hi n)) ∧ w = w' := by
  have H := Lib.hid h; clear h
  go_enter Tryd.func9, Tryd.ntmps9
  go_wp2
  go_loopw [7] (fun i wr => ∃ p : Nat, p ≤ n ∧ i = .int .i64 p ∧ Hid (wr = w ∧ ∀ i, i < p → lo ≤ q i ∧ q i ≤ hi)) (fun i _ => n - (intOf i).toNat)
  case atStart => exact ⟨0, by omega, rfl, rfl, fun i hi => absurd hi (by omega)⟩
  case round =>
    obtain ⟨p, hp, rfl, hR⟩ := hrel
    have hw := hR.out.1
    subst hw
    by_cases hlt : p < n
    · obtain ⟨g, o, rfl, hlt', hr⟩ := H.out (by omega)
      have hc := hr p hlt
      clear hr
      by_cases b1 : q p < lo
      · go_wp2
        go_ret
        have e : inR q lo hi n = false := decide_eq_false (fun h => by have := h p hlt; omega)
        rw [e]
        exact ⟨rfl, rfl⟩
      by_cases b2 : hi < q p
      · go_wp2
        go_ret
        have e : inR q lo hi n = false := decide_eq_false (fun h => by have := h p hlt; omega)
        rw [e]
        exact ⟨rfl, rfl⟩
      go_wp2
      go_roundw
      case rel => exact ⟨p + 1, by omega, by go_num, Lib.hid ⟨by first | rfl | trivial, fun i hi => by
        by_cases h : i < p
        · exact hR.out.2 i h
        · obtain rfl : i = p := by omega
          omega⟩⟩
      case measure => simp [intOf]; omega
    · obtain rfl : p = n := by omega
      go_wp2
      go_ret
      rw [inR_true.2 hR.out.2]
      exact ⟨rfl, rfl⟩
end Go.Proofs.YtdmefbpfpmkdcaaDoor
