/- The contract of the law's comparison of lists of numbers, at equal ones. -/
import Derived.Test.YthipghkhdlnfiaaDoorMem
import Derived.BigQuiet
import Derived.Deep.QuietTactic
import Derived.WalkSpells
import Derived.Outline
namespace Go.Proofs.YthipghkhdlnfiaaDoor
open Go.RowKit
set_option linter.unusedVariables false

theorem ints_eq (a b : Option Addr) (n c c' : Nat) (f g : Nat → Int) (w : World) (hn : n ≤ maxLen) (ha : Arg .i64 w a n f) (hb : Arg .i64 w b n g) (he : ∀ i, i < n → f i = g i) :
    Calls Tryd.prog 10 #[.slice a n c, .slice b n c'] w fun e w' => e = .returned (.bool true) ∧ ∃ d, w' = w.drewN d := by
  unfold maxLen at hn
  have HA := Lib.hid ha; clear ha
  have HB := Lib.hid hb; clear hb
  have HE := Lib.hid he; clear he
  go_enter Tryd.func10, Tryd.ntmps10
  go_wp2
  go_loopw [5] (fun i wr => ∃ k : Nat, k ≤ n ∧ i = .int .i64 k ∧ Hid (∃ d, wr = w.drewN d)) (fun i _ => n - (intOf i).toNat)
  case atStart => exact ⟨0, by omega, rfl, ⟨0, rfl⟩⟩
  case round =>
    obtain ⟨k, hk, rfl, hw⟩ := hrel
    obtain ⟨d, rfl⟩ := hw.out
    clear hw
    by_cases hlt : k < n
    · obtain ⟨ga, oa, rfl, hga, ra⟩ := HA.out (by omega)
      obtain ⟨gb, ob, rfl, hgb, rb⟩ := HB.out (by omega)
      have ca := ra k hlt
      have cb := rb k hlt
      rw [← HE.out k hlt] at cb
      clear ra rb hga hgb HA HB HE
      go_wp2
      go_quiet (fail)
      go_wp2
      go_roundw
      case rel => exact ⟨k + 1, by omega, by go_num, ⟨_, rfl⟩⟩
      case measure => simp [intOf]; omega
    · go_wp2
      go_ret
      exact ⟨rfl, _, rfl⟩
end Go.Proofs.YthipghkhdlnfiaaDoor
