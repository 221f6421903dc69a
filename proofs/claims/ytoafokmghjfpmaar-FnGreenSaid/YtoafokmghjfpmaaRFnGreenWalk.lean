/- The walk of FnGreen: the law returns true for every slice of bytes and every number of rows. -/
import Derived.Test.YtoafokmghjfpmaaRSums
import Derived.Test.YtoafokmghjfpmaaRGreen
namespace Go.Proofs.YtoafokmghjfpmaaR
open Go.RowKit
set_option linter.unusedVariables false

def GreenGood (n : Nat) (h : Int) : Prop := n % 4 = 0 ∧ n / 4 ≤ 16384 ∧ 1 ≤ h ∧ h ≤ 16384 ∧ ((n : Int) / 4) % h = 0

theorem fnGreen_bad (a : Option Addr) (n c : Nat) (h : Int) (w : World) (hn : n ≤ 9223372036854775807) (hbad : ¬ GreenGood n h) :
    Calls Try.prog 4 #[.slice a n c, .int .i64 h] w fun e w' => e = .returned (.bool true) ∧ Below w.heap.size w w' := by
  have HB := Lib.hid hbad; clear hbad
  go_enter Try.func4, Try.ntmps4
  go_wp2_with (first
    | (go_at_call 11; refine (readSums_any _).mono ?_; rintro e w' ⟨rfl, rfl⟩)
    | (go_at_call 12; exfalso))
  all_goals first
    | (go_ret; exact ⟨rfl, Below.refl _ _⟩)
    | (refine HB.out ⟨by omega, by omega, by omega, by omega, ?_⟩
       have h6 : (((n : Int) / 4 ≤ 16384 ∧ 1 ≤ h) ∧ h ≤ 16384) ∧ ((n : Int) / 4 % h != 0) = false := by assumption
       have := h6.2
       simpa using this)

set_option maxRecDepth 100000 in
set_option maxHeartbeats 800000 in
theorem fnGreen_good (a : Option Addr) (n c : Nat) (h : Int) (f : Nat → Int) (w : World) (ha : Arg .u8 w a n f) (hnil : a = none → n = 0) (hgood : GreenGood n h) :
    Calls Try.prog 4 #[.slice a n c, .int .i64 h] w fun e w' => e = .returned (.bool true) ∧ Below w.heap.size w w' := by
  obtain ⟨g1, g2, g3, g4, g5⟩ := hgood
  have hn : n ≤ 100000 := by omega
  have HA := Lib.hid ha; clear ha
  have HN := Lib.hid hnil; clear hnil
  have H4 := Lib.hid g1
  have t1 : ((n : Int) % 4 != 0) = false := by simp; omega
  have t5 : ((n : Int) / 4 % h != 0) = false := by simpa using g5
  have t6 : (h == 0) = false := by simp; omega
  clear g5
  go_enter Try.func4, Try.ntmps4
  go_wp2_with fail
  refine (green_any a n c h f w (by omega) H4.out HA.out HN.out (by omega) (by omega)).mono ?_
  rintro e w1 ⟨⟨a1, c1, rfl, ho1⟩, hb1⟩
  have HO := Lib.hid ho1.arg; clear ho1
  have HB := Lib.hid hb1; clear hb1
  have HA1 := Lib.hid (HA.out.below HB.out); clear HA
  clear t1 t5 t6 g1 g2 g3 g4
  go_wp2
  go_loopw [7] (fun i wr => ∃ p : Nat, p ≤ n ∧ i = .int .i64 p ∧ Hid (p % 4 = 0 ∧ ∃ d, wr = w1.drewN d)) (fun i _ => n - (intOf i).toNat)
  case atStart => exact ⟨0, by omega, rfl, ⟨rfl, 0, rfl⟩⟩
  case round =>
    obtain ⟨p, hk, rfl, hR⟩ := hrel
    obtain ⟨d, rfl⟩ := hR.out.2
    have hp4 := hR.out.1
    by_cases hlt : p < n
    · have hp : p + 4 ≤ n := by have := H4.out; omega
      obtain ⟨ga, oa, rfl, hga, ra⟩ := HA1.out (by omega)
      obtain ⟨gb, ob, rfl, hgb, rb⟩ := HO.out (by omega)
      have a0 := ra p (by omega)
      have a1 := ra (p + 1) (by omega)
      have a2 := ra (p + 2) (by omega)
      have a3 := ra (p + 3) (by omega)
      have b0 := rb p (by omega)
      have b1 := rb (p + 1) (by omega)
      have b2 := rb (p + 2) (by omega)
      have b3 := rb (p + 3) (by omega)
      rw [show greenF f p = IntKind.u8.wrap (f p + f (p + 1)) by unfold greenF; rw [if_pos hp4]] at b0
      rw [show greenF f (p + 1) = f (p + 1) by unfold greenF; rw [if_neg (by omega), if_neg (by omega)]] at b1
      rw [show greenF f (p + 2) = IntKind.u8.wrap (f (p + 2) + f (p + 1)) by unfold greenF; rw [if_neg (by omega), if_pos (by omega)]; rfl] at b2
      rw [show greenF f (p + 3) = f (p + 3) by unfold greenF; rw [if_neg (by omega), if_neg (by omega)]] at b3
      clear hp4 ra rb hga hgb
      go_wp2
      go_quiet (fail)
      go_wp2
      go_roundw
      case rel => exact ⟨p + 4, by omega, by go_num, ⟨by have := hR.out.1; omega, _, rfl⟩⟩
      case measure => simp [intOf]; omega
    · clear hp4
      go_wp2_with (go_at_call 11; refine (readSums_any _).mono ?_; rintro e w' ⟨rfl, rfl⟩)
      go_ret
      exact ⟨rfl, HB.out.trans ((Below.refl _ _).trans ⟨rfl, rfl, rfl, Nat.le_refl _, fun _ _ => rfl⟩)⟩

theorem fnGreen_walk (w : World) (a : Option Addr) (n c : Nat) (zs : List Int) (hz : IsRow .u8 w a n c zs) (h : Int) (wh : (Lit.int .i64 h).wf = true) :
    Calls Try.prog 4 #[.slice a n c, .int .i64 h] w fun e w' => e = .returned (.bool true) ∧ Below w.heap.size w w' := by
  obtain ⟨h1, h2, h3, h4, _⟩ := hz.arg
  by_cases hg : GreenGood n h
  · exact fnGreen_good a n c h _ w h1 h4 hg
  · exact fnGreen_bad a n c h w (by unfold maxLen at h3; omega) hg
end Go.Proofs.YtoafokmghjfpmaaR
