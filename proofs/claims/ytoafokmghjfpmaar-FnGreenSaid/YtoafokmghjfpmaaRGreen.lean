/- The contracts of inverseSubtractGreen, its door and impl.Green. -/
import Derived.Test.YtoafokmghjfpmaaRClone
namespace Go.Proofs.YtoafokmghjfpmaaR
open Go.RowKit
set_option linter.unusedVariables false

/-- What green makes of the i-th byte. -/
def greenF (f : Nat → Int) (i : Nat) : Int := if i % 4 = 0 then IntKind.u8.wrap (f i + f (i + 1)) else if i % 4 = 2 then IntKind.u8.wrap (f i + f (i - 1)) else f i
def greenTo (f : Nat → Int) (p : Nat) (i : Nat) : Int := if i < p then greenF f i else f i

theorem greenTo_step (f : Nat → Int) (p : Nat) (hp : p % 4 = 0) : ∀ i, upd (upd (greenTo f p) p (IntKind.u8.wrap (f p + f (p + 1)))) (p + 2) (IntKind.u8.wrap (f (p + 2) + f (p + 1))) i = greenTo f (p + 4) i := by
  intro i
  unfold upd greenTo
  by_cases h1 : i = p + 2
  · subst h1
    rw [if_pos rfl, if_pos (by omega), greenF, if_neg (by omega), if_pos (by omega)]; rfl
  · rw [if_neg h1]
    by_cases h2 : i = p
    · subst h2
      rw [if_pos rfl, if_pos (by omega), greenF, if_pos hp]
    · rw [if_neg h2]
      by_cases h3 : i < p
      · rw [if_pos h3, if_pos (by omega)]
      · rw [if_neg h3]
        by_cases h4 : i < p + 4
        · rw [if_pos h4, greenF, if_neg (by omega), if_neg (by omega)]
        · rw [if_neg h4]

theorem greenTo_ge (f : Nat → Int) (p i : Nat) (h : p ≤ i) : greenTo f p i = f i := by unfold greenTo; rw [if_neg (by omega)]
theorem green_round {w wr : World} {g n p : Nat} {f : Nat → Int} (hp : p % 4 = 0) (hn : p + 4 ≤ n) (hgr : w.grownBy wr (some g)) (hr : Row .u8 wr g 0 n (greenTo f p)) (hw : Wr wr g 0 n) :
    (p + 4) % 4 = 0 ∧ w.grownBy ((wr.setCell ⟨g, p, none⟩ (.int .u8 (IntKind.u8.wrap (f p + f (p + 1))))).setCell ⟨g, p + 2, none⟩ (.int .u8 (IntKind.u8.wrap (f (p + 2) + f (p + 1))))) (some g) ∧
      Row .u8 ((wr.setCell ⟨g, p, none⟩ (.int .u8 (IntKind.u8.wrap (f p + f (p + 1))))).setCell ⟨g, p + 2, none⟩ (.int .u8 (IntKind.u8.wrap (f (p + 2) + f (p + 1))))) g 0 n (greenTo f (p + 4)) ∧
      Wr ((wr.setCell ⟨g, p, none⟩ (.int .u8 (IntKind.u8.wrap (f p + f (p + 1))))).setCell ⟨g, p + 2, none⟩ (.int .u8 (IntKind.u8.wrap (f (p + 2) + f (p + 1))))) g 0 n := by
  refine ⟨by omega, grownBy.trans (grownBy.trans hgr (grownBy_setCell _ _ _)) (grownBy_setCell _ _ _), ?_, (hw.set _ _).set _ _⟩
  have h1 := hr.set p (by omega) (IntKind.u8.wrap (f p + f (p + 1)))
  have h2 := h1.set (p + 2) (by omega) (IntKind.u8.wrap (f (p + 2) + f (p + 1)))
  simp only [Nat.zero_add] at h2
  exact h2.congr fun i _ => greenTo_step f p hp i

set_option maxHeartbeats 400000 in
theorem unGreen_any (g n c : Nat) (h : Int) (f : Nat → Int) (w : World) (hn : n ≤ 1000000) (hn4 : n % 4 = 0) (hg : g < w.heap.size) (hr : Row .u8 w g 0 n f) (hw : Wr w g 0 n) :
    Calls Try.prog 37 #[.pointer none, .slice (some ⟨g, 0, none⟩) n c, .int .i32 h] w fun e w' =>
      e = .returned (.slice (some ⟨g, 0, none⟩) n c) ∧ w.grownBy w' (some g) ∧ Row .u8 w' g 0 n (greenF f) ∧ Wr w' g 0 n := by
  have H0 := Lib.hid (And.intro hg (And.intro hr hw)); clear hg hr hw
  have H4 := Lib.hid hn4; clear hn4
  go_enter Try.func37, Try.ntmps37
  go_wp2
  go_loopw [7] (fun i wr => ∃ p : Nat, p ≤ n ∧ i = .int .i64 p ∧ Hid (p % 4 = 0 ∧ w.grownBy wr (some g) ∧ Row .u8 wr g 0 n (greenTo f p) ∧ Wr wr g 0 n)) (fun i _ => n - (intOf i).toNat)
  case atStart => exact ⟨0, by omega, rfl, ⟨rfl, World.grownBy.refl _ _, H0.out.2.1.congr (fun i _ => by simp [greenTo]), H0.out.2.2⟩⟩
  case round =>
    obtain ⟨p, hk, rfl, hR⟩ := hrel
    by_cases hlt : p < n
    · have hp4 : p + 4 ≤ n := by have := hR.out.1; have := H4.out; omega
      have c0 : wr.cell? ⟨g, p, none⟩ = some (.int .u8 (f p)) := by
        have := hR.out.2.2.1 p (by omega); rw [Nat.zero_add] at this; rw [this, greenTo_ge _ _ _ (by omega)]
      have c1 : wr.cell? ⟨g, p + 1, none⟩ = some (.int .u8 (f (p + 1))) := by
        have := hR.out.2.2.1 (p + 1) (by omega); rw [Nat.zero_add] at this; rw [this, greenTo_ge _ _ _ (by omega)]
      have c2 : wr.cell? ⟨g, p + 2, none⟩ = some (.int .u8 (f (p + 2))) := by
        have := hR.out.2.2.1 (p + 2) (by omega); rw [Nat.zero_add] at this; rw [this, greenTo_ge _ _ _ (by omega)]
      have z0 : wr.frozen? ⟨g, p, none⟩ = false := by have := hR.out.2.2.2 p (by omega); rwa [Nat.zero_add] at this
      have z2 : wr.frozen? ⟨g, p + 2, none⟩ = false := by have := hR.out.2.2.2 (p + 2) (by omega); rwa [Nat.zero_add] at this
      go_wp2
      go_roundw
      case rel => exact ⟨p + 4, by omega, by go_num, green_round hR.out.1 hp4 hR.out.2.1 hR.out.2.2.1 hR.out.2.2.2⟩
      case measure => simp [intOf]; omega
    · go_wp2
      go_ret
      have e : p = n := by omega
      subst e
      exact ⟨rfl, hR.out.2.1, hR.out.2.2.1.congr (fun i hi => by simp [greenTo, hi]), hR.out.2.2.2⟩

theorem unGreen_own (a : Option Addr) (n c : Nat) (h : Int) (f : Nat → Int) (B : Nat) (w : World) (hn : n ≤ 1000000) (hn4 : n % 4 = 0) (ho : Own .u8 B w a n f) :
    Calls Try.prog 37 #[.pointer none, .slice a n c, .int .i32 h] w fun e w' =>
      e = .returned (.slice a n c) ∧ Own .u8 B w' a n (greenF f) ∧ (B ≤ w.heap.size → Below B w w') := by
  by_cases h0 : n = 0
  · subst h0
    clear hn4 ho
    go_enter Try.func37, Try.ntmps37
    go_wp2
    go_loop [7] (fun i => i = .int .i64 0) (fun _ => 0)
    case atStart => rfl
    case round =>
      subst hrel
      go_wp2
      go_ret
      exact ⟨rfl, fun h => absurd h (by omega), fun _ => Below.refl _ _⟩
  · obtain ⟨g, rfl, hB, hg, hr, hw⟩ := ho (by omega)
    refine (unGreen_any g n c h f w hn hn4 hg hr hw).mono ?_
    rintro e w' ⟨he, hgr, hr', hw'⟩
    exact ⟨he, fun _ => ⟨g, rfl, hB, Nat.lt_of_lt_of_le hg hgr.size, hr', hw'⟩, fun hBw => below_of_grown hgr hBw (fun r hr => by cases hr; exact hB)⟩

theorem green_any (a : Option Addr) (n c : Nat) (h : Int) (f : Nat → Int) (w : World) (hn : n ≤ 1000000) (hn4 : n % 4 = 0) (ha : Arg .u8 w a n f) (hnil : a = none → n = 0) (h1 : 0 ≤ h) (h2 : h ≤ 100000) :
    Calls Try.prog 12 #[.slice a n c, .int .i64 h] w fun e w' => (∃ a' c', e = .returned (.slice a' n c') ∧ Own .u8 w.heap.size w' a' n (greenF f)) ∧ Below w.heap.size w w' := by
  have HA := Lib.hid ha; clear ha
  have HN := Lib.hid hnil; clear hnil
  have H4 := Lib.hid hn4; clear hn4
  go_enter Try.func12, Try.ntmps12
  go_wp2_with fail
  refine (clone_any a n c f w (by omega) HA.out HN.out).mono ?_
  rintro e w1 ⟨⟨a1, c1, rfl, ho1⟩, hb1⟩
  have HO := Lib.hid ho1; clear ho1
  have HB := Lib.hid hb1; clear hb1
  go_wp2_with (first | (go_at_call 25; go_in))
  refine (unGreen_own a1 n c1 _ f w.heap.size w1 hn H4.out HO.out).mono ?_
  rintro e w2 ⟨rfl, ho2, hb2⟩
  have HO2 := Lib.hid ho2; clear ho2
  have HB2 := Lib.hid (hb2 HB.out.size); clear hb2
  go_wp2
  go_ret
  exact ⟨⟨_, _, rfl, HO2.out⟩, HB.out.trans HB2.out⟩
end Go.Proofs.YtoafokmghjfpmaaR
