/- laws.ints: whether two rows of numbers are equal. -/
import Derived.Test.YtdmefbpfpmkdcaaDoorCommon
import Derived.BigQuiet
import Derived.WalkSmall
import Derived.Deep.QuietTactic
import Derived.Outline
namespace Go.Proofs.YtdmefbpfpmkdcaaDoor
open Go.RowKit
set_option linter.unusedVariables false

def sameI (F G : Nat → Int) (n : Nat) : Bool := decide (∀ i, i < n → F i = G i)
/-- ints: whether two rows of numbers are equal. -/
theorem ints_any (a : Option Addr) (n c : Nat) (F : Nat → Int) (b : Option Addr) (m d : Nat) (G : Nat → Int) (w : World) (h1 : Arg .i64 w a n F) (h2 : Arg .i64 w b m G) (hn : n ≤ 4096) (hm : m = n) :
    Calls Tryd.prog 14 #[.slice a n c, .slice b m d] w fun e w' => e = .returned (.bool (sameI F G n)) ∧ Below w.heap.size w w' := by
  subst hm
  have H := Lib.hid (And.intro h1 h2); clear h1 h2
  go_enter Tryd.func14, Tryd.ntmps14
  go_wp2
  go_loopw [5] (fun i wr => ∃ p : Nat, p ≤ m ∧ i = .int .i64 p ∧ Hid (Below w.heap.size w wr ∧ ∀ i, i < p → F i = G i)) (fun i _ => m - (intOf i).toNat)
  case atStart => exact ⟨0, by omega, rfl, Below.refl _ _, fun i hi => absurd hi (by omega)⟩
  case round =>
    obtain ⟨p, hp, rfl, hR⟩ := hrel
    by_cases hlt : p < m
    · obtain ⟨g1, o1, rfl, l1, r1⟩ := H.out.1 (by omega)
      obtain ⟨g2, o2, rfl, l2, r2⟩ := H.out.2 (by omega)
      have c1 : wr.cell? ⟨g1, o1 + p, none⟩ = some (.int .i64 (F p)) := (hR.out.1.cell (p := ⟨g1, o1 + p, none⟩) l1).trans (r1 p hlt)
      have c2 : wr.cell? ⟨g2, o2 + p, none⟩ = some (.int .i64 (G p)) := (hR.out.1.cell (p := ⟨g2, o2 + p, none⟩) l2).trans (r2 p hlt)
      clear r1 r2
      obtain ⟨x, hx⟩ : ∃ x, x = F p := ⟨_, rfl⟩
      obtain ⟨y, hy⟩ : ∃ y, y = G p := ⟨_, rfl⟩
      rw [← hx] at c1
      rw [← hy] at c2
      have HXY := Lib.hid (And.intro hx hy); clear hx hy
      go_wp2
      go_quiet (fail)
      go_wp2
      · go_ret
        have e : sameI F G m = false := decide_eq_false (fun h => by have := h p hlt; rw [← HXY.out.1, ← HXY.out.2] at this; subst this; simp_all)
        rw [e]
        exact ⟨rfl, below_drewN hR.out.1 _⟩
      · go_roundw
        case rel => exact ⟨p + 1, by omega, by go_num, below_drewN hR.out.1 _, fun i hi => by
          by_cases h : i < p
          · exact hR.out.2 i h
          · obtain rfl : i = p := by omega
            rw [← HXY.out.1, ← HXY.out.2]
            simp_all⟩
        case measure => simp [intOf]; omega
    · obtain rfl : p = m := by omega
      go_wp2
      go_ret
      have e : sameI F G p = true := decide_eq_true hR.out.2
      rw [e]
      exact ⟨rfl, hR.out.1⟩
end Go.Proofs.YtdmefbpfpmkdcaaDoor
