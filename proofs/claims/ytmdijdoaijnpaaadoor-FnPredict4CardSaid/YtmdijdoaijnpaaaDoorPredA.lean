/- The package's large predictions that only copy: DCTopLeft, VE, HE (printed by wip/gen_pred16.py). -/
import Derived.Test.YtmdijdoaijnpaaaDoorSquare
namespace Go.Proofs.YtmdijdoaijnpaaaDoor
open Go.RowKit
set_option linter.unusedVariables false

/-- The block of 16 rows of 16, its first m values filled. -/
def blkTo (y : Nat → Int) (V : Nat → Nat → Int) (m k : Nat) : Int :=
  if (1 ≤ k / 32 ∧ k / 32 ≤ 16 ∧ 8 ≤ k % 32 ∧ k % 32 < 24) ∧ 16 * (k / 32 - 1) + (k % 32 - 8) < m then V (k / 32 - 1) (k % 32 - 8) else y k
theorem blkTo_zero (y : Nat → Int) (V : Nat → Nat → Int) (k : Nat) : blkTo y V 0 k = y k := by unfold blkTo; rw [if_neg (by omega)]
theorem blkTo_step (y : Nat → Int) (V : Nat → Nat → Int) (j i k : Nat) (hj : j < 16) (hi : i < 16) : upd (blkTo y V (16 * j + i)) (32 * (j + 1) + 8 + i) (V j i) k = blkTo y V (16 * j + (i + 1)) k := by
  unfold upd
  by_cases h : k = 32 * (j + 1) + 8 + i
  · subst h
    have e1 : (32 * (j + 1) + 8 + i) / 32 = j + 1 := by omega
    have e2 : (32 * (j + 1) + 8 + i) % 32 = 8 + i := by omega
    rw [if_pos rfl]
    unfold blkTo
    rw [e1, e2, if_pos ⟨by omega, by omega⟩, show j + 1 - 1 = j by omega, show 8 + i - 8 = i by omega]
  · rw [if_neg h]
    unfold blkTo
    by_cases h2 : (1 ≤ k / 32 ∧ k / 32 ≤ 16 ∧ 8 ≤ k % 32 ∧ k % 32 < 24) ∧ 16 * (k / 32 - 1) + (k % 32 - 8) < 16 * j + i
    · rw [if_pos h2, if_pos ⟨h2.1, by omega⟩]
    · rw [if_neg h2, if_neg (by omega)]
theorem blkTo_row0 (y : Nat → Int) (V : Nat → Nat → Int) (m k : Nat) (h : k < 32) : blkTo y V m k = y k := by unfold blkTo; rw [if_neg (by omega)]
theorem blkTo_left (y : Nat → Int) (V : Nat → Nat → Int) (m r : Nat) : blkTo y V m (32 * r + 7) = y (32 * r + 7) := by unfold blkTo; rw [if_neg (by omega)]
theorem Ybr.set {w : World} {g : Nat} {y : Nat → Int} (h : Ybr w g y) (i : Nat) (hi : i < 832) (v : Int) : Ybr (w.setCell ⟨g, 1650 + i, none⟩ (.int .u8 v)) g (upd y i v) := ⟨h.1.set i hi v, h.2.set _ _⟩
theorem Ybr.congr {w : World} {g : Nat} {y y' : Nat → Int} (h : Ybr w g y) (he : ∀ i, i < 832 → y i = y' i) : Ybr w g y' := ⟨h.1.congr he, h.2⟩
theorem wr2 (p q : Nat) (hp : p < 16) (hq : q < 16) : IntKind.i64.wrap (1 + (p : Int)) = 1 + (p : Int) ∧ IntKind.i64.wrap (8 + (q : Int)) = 8 + (q : Int) := ⟨IntWalk.i64_in _ (by omega), IntWalk.i64_in _ (by omega)⟩
theorem adr (p q : Nat) : 1650 + (1 + p) * 32 + (8 + q) = 1650 + (32 * (p + 1) + 8 + q) := by omega

set_option maxRecDepth 100000 in
set_option maxHeartbeats 1600000 in
theorem p16TL (g : Nat) (y : Nat → Int) (w : World) (hY : Ybr w g y) :
    Calls Tryd.prog 58 #[.pointer (some ⟨g, 0, none⟩), .int .i64 1, .int .i64 8] w fun e w' => e = .returned (.tuple #[]) ∧ Ybr w' g (blkTo y (fun _ _ => 128) 256) ∧ w.grownBy w' (some g) := by
  have HY := Lib.hid hY; clear hY
  go_enter Tryd.func58, Tryd.ntmps58
  go_wp2
  go_loopw [6] (fun i wr => ∃ p : Nat, p ≤ 16 ∧ i = .int .i64 p ∧ Hid (Ybr wr g (blkTo y (fun _ _ => 128) (16 * p)) ∧ w.grownBy wr (some g))) (fun i _ => 16 - (intOf i).toNat)
  case atStart => exact ⟨0, by omega, rfl, Lib.hid ⟨HY.out.congr (fun i _ => (blkTo_zero _ _ i).symm), World.grownBy.refl _ _⟩⟩
  case round =>
    obtain ⟨p, hp, rfl, hR⟩ := hrel
    by_cases hlt : p < 16
    · have hbb : decide ((p : Int) < 16) = true := decide_eq_true (by omega)
      go_wp2
      go_loopw [7] (fun i wr => ∃ q : Nat, q ≤ 16 ∧ i = .int .i64 q ∧ Hid (Ybr wr g (blkTo y (fun _ _ => 128) (16 * p + q)) ∧ w.grownBy wr (some g))) (fun i _ => 16 - (intOf i).toNat)
      case atStart => exact ⟨0, by omega, rfl, hR⟩
      case round =>
        obtain ⟨q, hq, rfl, hQ⟩ := hrel
        by_cases hlq : q < 16
        · have d0 := hQ.out.1.1 (32 * (p + 1) + 8 + q) (by omega)
          have z0 := hQ.out.1.2 (32 * (p + 1) + 8 + q) (by omega)
          rw [← adr] at d0 z0
          have HE : Hid (Ybr (wr.setCell ⟨g, 1650 + (1 + p) * 32 + (8 + q), none⟩ (.int .u8 ((fun _ _ => 128) p q))) g (blkTo y (fun _ _ => 128) (16 * p + (q + 1))) ∧ w.grownBy (wr.setCell ⟨g, 1650 + (1 + p) * 32 + (8 + q), none⟩ (.int .u8 ((fun _ _ => 128) p q))) (some g)) := by
            rw [adr]
            exact Lib.hid ⟨(hQ.out.1.set (32 * (p + 1) + 8 + q) (by omega) _).congr (fun k _ => blkTo_step y _ p q k hlt hlq), grownBy.trans hQ.out.2 (grownBy_setCell _ _ _)⟩
          generalize blkTo y (fun _ _ => 128) (16 * p + q) (32 * (p + 1) + 8 + q) = old at d0
          have q3 : (1 + (p : Int)).toNat = 1 + p := by omega
          have q5 : (8 + (q : Int)).toNat = 8 + q := by omega
          have q6 : (0 : Int) ≤ 1 + (p : Int) := by omega
          have q7 : 1 + (p : Int) < 26 := by omega
          have q8 : (0 : Int) ≤ 8 + (q : Int) := by omega
          have q9 : 8 + (q : Int) < 32 := by omega
          go_wp2
          go_roundw
          case rel => first | exact ⟨q + 1, by omega, by go_num, HE⟩ | ((repeat apply Exists.intro); refine ⟨?_, rfl⟩; exact ⟨q + 1, by omega, by go_num, HE⟩)
          case measure => simp [intOf]; omega
        · obtain rfl : q = 16 := by omega
          go_wp2
          go_roundw
          case rel => exact ⟨p + 1, by omega, by go_num, hQ⟩
          case measure => simp [intOf]; omega
    · obtain rfl : p = 16 := by omega
      go_wp2
      go_end0
      exact ⟨rfl, hR.out⟩

set_option maxRecDepth 100000 in
set_option maxHeartbeats 1600000 in
theorem p16VE (g : Nat) (y : Nat → Int) (w : World) (hY : Ybr w g y) :
    Calls Tryd.prog 54 #[.pointer (some ⟨g, 0, none⟩), .int .i64 1, .int .i64 8] w fun e w' => e = .returned (.tuple #[]) ∧ Ybr w' g (blkTo y (fun _ i => y (8 + i)) 256) ∧ w.grownBy w' (some g) := by
  have HY := Lib.hid hY; clear hY
  go_enter Tryd.func54, Tryd.ntmps54
  go_wp2
  go_loopw [6] (fun i wr => ∃ p : Nat, p ≤ 16 ∧ i = .int .i64 p ∧ Hid (Ybr wr g (blkTo y (fun _ i => y (8 + i)) (16 * p)) ∧ w.grownBy wr (some g))) (fun i _ => 16 - (intOf i).toNat)
  case atStart => exact ⟨0, by omega, rfl, Lib.hid ⟨HY.out.congr (fun i _ => (blkTo_zero _ _ i).symm), World.grownBy.refl _ _⟩⟩
  case round =>
    obtain ⟨p, hp, rfl, hR⟩ := hrel
    by_cases hlt : p < 16
    · have hbb : decide ((p : Int) < 16) = true := decide_eq_true (by omega)
      go_wp2
      go_loopw [7] (fun i wr => ∃ q : Nat, q ≤ 16 ∧ i = .int .i64 q ∧ Hid (Ybr wr g (blkTo y (fun _ i => y (8 + i)) (16 * p + q)) ∧ w.grownBy wr (some g))) (fun i _ => 16 - (intOf i).toNat)
      case atStart => exact ⟨0, by omega, rfl, hR⟩
      case round =>
        obtain ⟨q, hq, rfl, hQ⟩ := hrel
        by_cases hlq : q < 16
        · have d0 := hQ.out.1.1 (32 * (p + 1) + 8 + q) (by omega)
          have z0 := hQ.out.1.2 (32 * (p + 1) + 8 + q) (by omega)
          rw [← adr] at d0 z0
          have r0 : wr.cell? ⟨g, 1650 + (8 + q), none⟩ = some (.int .u8 (y (8 + q))) := by rw [hQ.out.1.1 (8 + q) (by omega), blkTo_row0 _ _ _ _ (by omega)]
          have HE : Hid (Ybr (wr.setCell ⟨g, 1650 + (1 + p) * 32 + (8 + q), none⟩ (.int .u8 ((fun _ i => y (8 + i)) p q))).drew g (blkTo y (fun _ i => y (8 + i)) (16 * p + (q + 1))) ∧ w.grownBy (wr.setCell ⟨g, 1650 + (1 + p) * 32 + (8 + q), none⟩ (.int .u8 ((fun _ i => y (8 + i)) p q))).drew (some g)) := by
            rw [adr]
            exact Lib.hid ⟨(Ybr.set (w := wr) hQ.out.1 (32 * (p + 1) + 8 + q) (by omega) _).congr (fun k _ => blkTo_step y _ p q k hlt hlq), grownBy.trans (grownBy.trans hQ.out.2 (grownBy_setCell _ _ _)) (grownBy_drewN _ 1 _)⟩
          generalize blkTo y (fun _ i => y (8 + i)) (16 * p + q) (32 * (p + 1) + 8 + q) = old at d0
          have q3 : (1 + (p : Int)).toNat = 1 + p := by omega
          have q5 : (8 + (q : Int)).toNat = 8 + q := by omega
          have q6 : (0 : Int) ≤ 1 + (p : Int) := by omega
          have q7 : 1 + (p : Int) < 26 := by omega
          have q8 : (0 : Int) ≤ 8 + (q : Int) := by omega
          have q9 : 8 + (q : Int) < 32 := by omega
          obtain ⟨w1, w2⟩ := wr2 p q hlt hlq
          go_wp2
          go_region
          generalize World.drew _ = w5 at HE ⊢
          go_wp2
          go_roundw
          case rel => first | exact ⟨q + 1, by omega, by go_num, HE⟩ | ((repeat apply Exists.intro); refine ⟨?_, rfl⟩; exact ⟨q + 1, by omega, by go_num, HE⟩)
          case measure => simp [intOf]; omega
        · obtain rfl : q = 16 := by omega
          go_wp2
          go_roundw
          case rel => exact ⟨p + 1, by omega, by go_num, hQ⟩
          case measure => simp [intOf]; omega
    · obtain rfl : p = 16 := by omega
      go_wp2
      go_end0
      exact ⟨rfl, hR.out⟩

set_option maxRecDepth 100000 in
set_option maxHeartbeats 1600000 in
theorem p16HE (g : Nat) (y : Nat → Int) (w : World) (hY : Ybr w g y) :
    Calls Tryd.prog 55 #[.pointer (some ⟨g, 0, none⟩), .int .i64 1, .int .i64 8] w fun e w' => e = .returned (.tuple #[]) ∧ Ybr w' g (blkTo y (fun j _ => y (32 * (j + 1) + 7)) 256) ∧ w.grownBy w' (some g) := by
  have HY := Lib.hid hY; clear hY
  go_enter Tryd.func55, Tryd.ntmps55
  go_wp2
  go_loopw [6] (fun i wr => ∃ p : Nat, p ≤ 16 ∧ i = .int .i64 p ∧ Hid (Ybr wr g (blkTo y (fun j _ => y (32 * (j + 1) + 7)) (16 * p)) ∧ w.grownBy wr (some g))) (fun i _ => 16 - (intOf i).toNat)
  case atStart => exact ⟨0, by omega, rfl, Lib.hid ⟨HY.out.congr (fun i _ => (blkTo_zero _ _ i).symm), World.grownBy.refl _ _⟩⟩
  case round =>
    obtain ⟨p, hp, rfl, hR⟩ := hrel
    by_cases hlt : p < 16
    · have hbb : decide ((p : Int) < 16) = true := decide_eq_true (by omega)
      go_wp2
      go_loopw [7] (fun i wr => ∃ q : Nat, q ≤ 16 ∧ i = .int .i64 q ∧ Hid (Ybr wr g (blkTo y (fun j _ => y (32 * (j + 1) + 7)) (16 * p + q)) ∧ w.grownBy wr (some g))) (fun i _ => 16 - (intOf i).toNat)
      case atStart => exact ⟨0, by omega, rfl, hR⟩
      case round =>
        obtain ⟨q, hq, rfl, hQ⟩ := hrel
        by_cases hlq : q < 16
        · have d0 := hQ.out.1.1 (32 * (p + 1) + 8 + q) (by omega)
          have z0 := hQ.out.1.2 (32 * (p + 1) + 8 + q) (by omega)
          rw [← adr] at d0 z0
          have r0 : wr.cell? ⟨g, 1650 + (1 + p) * 32 + 7, none⟩ = some (.int .u8 (y (32 * (p + 1) + 7))) := by rw [show 1650 + (1 + p) * 32 + 7 = 1650 + (32 * (p + 1) + 7) by omega, hQ.out.1.1 (32 * (p + 1) + 7) (by omega), blkTo_left]
          have HE : Hid (Ybr (wr.setCell ⟨g, 1650 + (1 + p) * 32 + (8 + q), none⟩ (.int .u8 ((fun j _ => y (32 * (j + 1) + 7)) p q))).drew g (blkTo y (fun j _ => y (32 * (j + 1) + 7)) (16 * p + (q + 1))) ∧ w.grownBy (wr.setCell ⟨g, 1650 + (1 + p) * 32 + (8 + q), none⟩ (.int .u8 ((fun j _ => y (32 * (j + 1) + 7)) p q))).drew (some g)) := by
            rw [adr]
            exact Lib.hid ⟨(Ybr.set (w := wr) hQ.out.1 (32 * (p + 1) + 8 + q) (by omega) _).congr (fun k _ => blkTo_step y _ p q k hlt hlq), grownBy.trans (grownBy.trans hQ.out.2 (grownBy_setCell _ _ _)) (grownBy_drewN _ 1 _)⟩
          generalize blkTo y (fun j _ => y (32 * (j + 1) + 7)) (16 * p + q) (32 * (p + 1) + 8 + q) = old at d0
          have q3 : (1 + (p : Int)).toNat = 1 + p := by omega
          have q5 : (8 + (q : Int)).toNat = 8 + q := by omega
          have q6 : (0 : Int) ≤ 1 + (p : Int) := by omega
          have q7 : 1 + (p : Int) < 26 := by omega
          have q8 : (0 : Int) ≤ 8 + (q : Int) := by omega
          have q9 : 8 + (q : Int) < 32 := by omega
          obtain ⟨w1, w2⟩ := wr2 p q hlt hlq
          go_wp2
          go_region
          generalize World.drew _ = w5 at HE ⊢
          go_wp2
          go_roundw
          case rel => first | exact ⟨q + 1, by omega, by go_num, HE⟩ | ((repeat apply Exists.intro); refine ⟨?_, rfl⟩; exact ⟨q + 1, by omega, by go_num, HE⟩)
          case measure => simp [intOf]; omega
        · obtain rfl : q = 16 := by omega
          go_wp2
          go_roundw
          case rel => exact ⟨p + 1, by omega, by go_num, hQ⟩
          case measure => simp [intOf]; omega
    · obtain rfl : p = 16 := by omega
      go_wp2
      go_end0
      exact ⟨rfl, hR.out⟩
end Go.Proofs.YtmdijdoaijnpaaaDoor
