/- The package's inverse transform of a first coefficient alone. -/
import Derived.Test.YthmkmemocjnleaaDoorSquareC
import Derived.Test.YthmkmemocjnleaaDoorValues
import Derived.Deep.RegionWith
import Derived.Deep.QuietTactic
import Derived.BigQuiet
namespace Go.Proofs.YthmkmemocjnleaaDoor
open Go.RowKit
set_option linter.unusedVariables false

/-- Held within a byte. -/
def clp (x : Int) : Int := if x < 0 then 0 else if 255 < x then 255 else x
theorem clp_bd (x : Int) : 0 ≤ clp x ∧ clp x ≤ 255 := by unfold clp; split <;> (try split) <;> omega
theorem ret_u8 {a b : Int} (h : a = b) : Ending.returned (.int .u8 a) = .returned (.int .u8 b) := by rw [h]
theorem clip8_any (x : Int) (w : World) (h1 : -1000000 ≤ x) (h2 : x ≤ 1000000) :
    Calls Tryd.prog 76 #[.int .i32 x] w fun e w' => e = .returned (.int .u8 (clp x)) ∧ w = w' := by
  by_cases h : x < 0
  · go_enter Tryd.func76, Tryd.ntmps76
    go_wp2
    go_ret
    exact ⟨ret_u8 (by unfold clp; (repeat' split) <;> omega), rfl⟩
  · by_cases h3 : 255 < x
    · go_enter Tryd.func76, Tryd.ntmps76
      go_wp2
      go_ret
      exact ⟨ret_u8 (by unfold clp; (repeat' split) <;> omega), rfl⟩
    · go_enter Tryd.func76, Tryd.ntmps76
      go_wp2
      go_ret
      exact ⟨ret_u8 (by unfold clp; (repeat' split) <;> omega), rfl⟩

/-- The block of 4 rows of 4, its first m values filled. -/
def blk4 (y : Nat → Int) (V : Nat → Nat → Int) (m k : Nat) : Int :=
  if (1 ≤ k / 32 ∧ k / 32 ≤ 4 ∧ 8 ≤ k % 32 ∧ k % 32 < 12) ∧ 4 * (k / 32 - 1) + (k % 32 - 8) < m then V (k / 32 - 1) (k % 32 - 8) else y k
theorem blk4_zero (y : Nat → Int) (V : Nat → Nat → Int) (k : Nat) : blk4 y V 0 k = y k := by unfold blk4; rw [if_neg (by omega)]
theorem blk4_next (y : Nat → Int) (V : Nat → Nat → Int) (j i : Nat) (hj : j < 4) (hi : i < 4) : blk4 y V (4 * j + i) (32 * (j + 1) + 8 + i) = y (32 * (j + 1) + 8 + i) := by
  unfold blk4; rw [if_neg (by omega)]
theorem blk4_step (y : Nat → Int) (V : Nat → Nat → Int) (j i k : Nat) (hj : j < 4) (hi : i < 4) : upd (blk4 y V (4 * j + i)) (32 * (j + 1) + 8 + i) (V j i) k = blk4 y V (4 * j + (i + 1)) k := by
  unfold upd
  by_cases h : k = 32 * (j + 1) + 8 + i
  · subst h
    have e1 : (32 * (j + 1) + 8 + i) / 32 = j + 1 := by omega
    have e2 : (32 * (j + 1) + 8 + i) % 32 = 8 + i := by omega
    rw [if_pos rfl]
    unfold blk4
    rw [e1, e2, if_pos ⟨by omega, by omega⟩, show j + 1 - 1 = j by omega, show 8 + i - 8 = i by omega]
  · rw [if_neg h]
    unfold blk4
    by_cases h2 : (1 ≤ k / 32 ∧ k / 32 ≤ 4 ∧ 8 ≤ k % 32 ∧ k % 32 < 12) ∧ 4 * (k / 32 - 1) + (k % 32 - 8) < 4 * j + i
    · rw [if_pos h2, if_pos ⟨h2.1, by omega⟩]
    · rw [if_neg h2, if_neg (by omega)]
theorem Ybr.set {w : World} {g : Nat} {y : Nat → Int} (h : Ybr w g y) (i : Nat) (hi : i < 832) (v : Int) : Ybr (w.setCell ⟨g, 1650 + i, none⟩ (.int .u8 v)) g (upd y i v) := ⟨h.1.set i hi v, h.2.set _ _⟩
theorem Ybr.congr {w : World} {g : Nat} {y y' : Nat → Int} (h : Ybr w g y) (he : ∀ i, i < 832 → y i = y' i) : Ybr w g y' := ⟨h.1.congr he, h.2⟩
theorem wr4 (p q : Nat) (hp : p < 4) (hq : q < 4) : IntKind.i64.wrap (1 + (p : Int)) = 1 + (p : Int) ∧ IntKind.i64.wrap (8 + (q : Int)) = 8 + (q : Int) := ⟨IntWalk.i64_in _ (by omega), IntWalk.i64_in _ (by omega)⟩
theorem adr4 (p q : Nat) : 1650 + (1 + p) * 32 + (8 + q) = 1650 + (32 * (p + 1) + 8 + q) := by omega

/-- The first coefficient's part of each value. -/
def dcV (y : Nat → Int) (c : Int) (j i : Nat) : Int := clp (y (32 * (j + 1) + 8 + i) + (c + 4) / 8)

set_option maxRecDepth 100000 in
set_option maxHeartbeats 3000000 in
theorem dcOnly_any (g : Nat) (y z : Nat → Int) (w : World) (hY : Ybr w g y) (hv : ∀ k, 0 ≤ y k ∧ y k ≤ 255) (hC : Cof w g z) (h1 : -32768 ≤ z 0) (h2 : z 0 ≤ 32767) :
    Calls Tryd.prog 68 #[.pointer (some ⟨g, 0, none⟩), .int .i64 1, .int .i64 8, .int .i64 0] w fun e w' => e = .returned (.tuple #[]) ∧ Ybr w' g (blk4 y (dcV y (z 0)) 16) ∧ w.grownBy w' (some g) := by
  have HY := Lib.hid (And.intro hY hv)
  clear hY hv
  have k0 : w.cell? ⟨g, 1250, none⟩ = some (.int .i16 (z 0)) := hC.1 0 (by decide)
  clear hC
  obtain ⟨c, hc⟩ : ∃ c, c = z 0 := ⟨_, rfl⟩
  rw [← hc] at k0 h1 h2 ⊢
  clear hc
  go_enter Tryd.func68, Tryd.ntmps68
  go_wp2
  obtain ⟨d, hd⟩ : ∃ d, d = (c + 4) / 8 := ⟨_, rfl⟩
  have d1 : -10000 ≤ d := by omega
  have d2 : d ≤ 10000 := by omega
  have HD : Hid (∀ j i, dcV y c j i = clp (y (32 * (j + 1) + 8 + i) + d)) := Lib.hid (fun j i => by unfold dcV; rw [hd])
  rw [← hd]
  clear hd k0 h1 h2
  go_loopw [9] (fun i wr => ∃ p : Nat, p ≤ 4 ∧ i = .int .i64 p ∧ Hid (Ybr wr g (blk4 y (dcV y c) (4 * p)) ∧ w.grownBy wr (some g))) (fun i _ => 4 - (intOf i).toNat)
  case atStart => exact ⟨0, by omega, rfl, Lib.hid ⟨HY.out.1.congr (fun i _ => (blk4_zero _ _ i).symm), World.grownBy.refl _ _⟩⟩
  case round =>
    obtain ⟨p, hp, rfl, hR⟩ := hrel
    by_cases hlt : p < 4
    · have hbb : decide ((p : Int) < 4) = true := decide_eq_true (by omega)
      have q3 : (1 + (p : Int)).toNat = 1 + p := by omega
      have q6 : (0 : Int) ≤ 1 + (p : Int) := by omega
      have q7 : 1 + (p : Int) < 26 := by omega
      go_wp2
      go_loopw [10] (fun i wr => ∃ q : Nat, q ≤ 4 ∧ i = .int .i64 q ∧ Hid (Ybr wr g (blk4 y (dcV y c) (4 * p + q)) ∧ w.grownBy wr (some g))) (fun i _ => 4 - (intOf i).toNat)
      case atStart => exact ⟨0, by omega, rfl, hR⟩
      case round =>
        obtain ⟨q, hq, rfl, hQ⟩ := hrel
        by_cases hlq : q < 4
        · have d0 := hQ.out.1.1 (32 * (p + 1) + 8 + q) (by omega)
          have z0 := hQ.out.1.2 (32 * (p + 1) + 8 + q) (by omega)
          rw [blk4_next y _ p q hlt hlq] at d0
          rw [← adr4] at d0 z0
          obtain ⟨e0, e1⟩ := HY.out.2 (32 * (p + 1) + 8 + q)
          have HE : Hid (Ybr (wr.setCell ⟨g, 1650 + (1 + p) * 32 + (8 + q), none⟩ (.int .u8 (clp (y (32 * (p + 1) + 8 + q) + d)))).drew g (blk4 y (dcV y c) (4 * p + (q + 1))) ∧ w.grownBy (wr.setCell ⟨g, 1650 + (1 + p) * 32 + (8 + q), none⟩ (.int .u8 (clp (y (32 * (p + 1) + 8 + q) + d)))).drew (some g)) := by
            rw [adr4, ← HD.out p q]
            exact Lib.hid ⟨(Ybr.set (w := wr) hQ.out.1 (32 * (p + 1) + 8 + q) (by omega) _).congr (fun k _ => blk4_step y (dcV y c) p q k hlt hlq), grownBy.trans (grownBy.trans hQ.out.2 (grownBy_setCell _ _ _)) (grownBy_drewN _ 1 _)⟩
          generalize y (32 * (p + 1) + 8 + q) = yt at *
          have q5 : (8 + (q : Int)).toNat = 8 + q := by omega
          have q8 : (0 : Int) ≤ 8 + (q : Int) := by omega
          have q9 : 8 + (q : Int) < 32 := by omega
          obtain ⟨w3, w4⟩ : IntKind.i32.wrap yt = yt ∧ IntKind.i32.wrap (yt + d) = yt + d := ⟨IntWalk.i32_in _ (by omega), IntWalk.i32_in _ (by omega)⟩
          obtain ⟨w1, w2⟩ := wr4 p q hlt hlq
          go_wp2_with fail
          go_region_with (first | (go_at_call 76; refine (clip8_any _ _ (by clear w1 w2 w3 w4; omega) (by clear w1 w2 w3 w4; omega)).mono ?_; rintro e w' ⟨rfl, rfl⟩))
          all_goals
            go_wp2
            go_roundw
            case rel => exact ⟨q + 1, by omega, by go_num, HE⟩
            case measure => simp [intOf]; omega
        · obtain rfl : q = 4 := by omega
          go_wp2
          go_roundw
          case rel => exact ⟨p + 1, by omega, by go_num, hQ⟩
          case measure => simp [intOf]; omega
    · obtain rfl : p = 4 := by omega
      go_wp2
      go_end0
      exact ⟨rfl, hR.out⟩
end Go.Proofs.YthmkmemocjnleaaDoor
