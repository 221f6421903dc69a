/- The decoder whose workspace is filled for one block (square), with its coefficients, all nought (printed by wip/gen_sqc.py). -/
import Derived.Test.YthmkmemocjnleaaDoorSquare
namespace Go.Proofs.YthmkmemocjnleaaDoor
open Go.RowKit
set_option linter.unusedVariables false
attribute [local go_sem ↓] zDec_run

theorem cof_corner (w : World) (v : Int) : Cof (w.alloc (.cells (zDec.setIfInBounds 1657 (.int .u8 v)) 169)) w.heap.size (fun _ => 0) := by
  refine ⟨fun i hi => ?_, fun i hi => frozen_of_row _ _ _ _ _ (heap_alloc_new w _)⟩
  rw [cell_of_row _ _ _ _ _ _ (heap_alloc_new w _), Array.getElem?_setIfInBounds, if_neg (by omega)]
  exact zDec_coeff i hi
theorem cof_set {w : World} {g : Nat} {y : Nat → Int} (h : Cof w g y) (o : Nat) (v : Value) (ho : 1650 ≤ o) : Cof (w.setCell ⟨g, o, none⟩ v) g y :=
  ⟨fun i hi => by rw [World.cell?_setCell_other _ _ _ _ (by intro h; injection h with _ h2 _; omega)]; exact h.1 i hi, h.2.set _ _⟩
theorem cof_cells {w : World} {g : Nat} {y : Nat → Int} (h : Cof w g y) (o : Nat) (vs : List Value) (ho : 1650 ≤ o) : Cof (w.setCells g o vs) g y :=
  ⟨fun i hi => by rw [World.cell?_setCells_out g vs o w ⟨g, 1250 + i, none⟩ (fun _ _ => by simp; omega)]; exact h.1 i hi, wr_setCells h.2 _ _ _⟩
theorem cof_far (p : Nat) : 1650 ≤ 1650 + (32 * (p + 1) + 8) := by omega

set_option maxRecDepth 100000 in
set_option maxHeartbeats 800000 in
theorem square_cof (n la : Nat) (corner : Int) (aa : Option Addr) (ca : Nat) (fa : Nat → Int) (al : Option Addr) (cl : Nat) (fl : Nat → Int) (ai : Option Addr) (ci : Nat) (fi : Nat → Int) (w : World)
    (hn : n ≤ 16) (hla : la ≤ 24) (hci : n * n ≤ ci) (hcm : ci ≤ maxLen) (ha : Arg .u8 w aa la fa) (hl : Arg .u8 w al n fl) (hi : Arg .u8 w ai (n * n) fi) :
    Calls Tryd.prog 67 #[.int .i64 n, .int .u8 corner, .slice aa la ca, .slice al n cl, .slice ai (n * n) ci] w fun e w' => e = .returned (.pointer (some ⟨w.heap.size, 0, none⟩)) ∧ Ybr w' w.heap.size (sqTo n la corner fa fl fi n) ∧ Below w.heap.size w w' ∧ w.heap.size < w'.heap.size ∧ Cof w' w.heap.size (fun _ => 0) := by
  have HD := Lib.hid (dec_new w)
  have HA := Lib.hid (And.intro ha (And.intro hl hi)); clear ha hl hi
  have c7 := HD.out.1.1 7 (by decide)
  have z7 := HD.out.1.2 7 (by decide)
  go_enter Tryd.func67, Tryd.ntmps67
  go_wp2_with (refine wpList_build rfl 169 #[] rfl (by simp [zDec_built]) ?_; simp only [zDec_built, Array.map_empty, Option.getD_some])
  have HY : Hid (Ybr (w.alloc (.cells (zDec.setIfInBounds 1657 (.int .u8 corner)) 169)) w.heap.size (upd (fun _ => 0) 7 corner) ∧ Below w.heap.size w (w.alloc (.cells (zDec.setIfInBounds 1657 (.int .u8 corner)) 169)) ∧ w.heap.size < (w.alloc (.cells (zDec.setIfInBounds 1657 (.int .u8 corner)) 169)).heap.size ∧ Cof (w.alloc (.cells (zDec.setIfInBounds 1657 (.int .u8 corner)) 169)) w.heap.size (fun _ => 0)) :=
    Lib.hid ⟨dec_corner w corner, (Below.refl _ _).alloc (Nat.le_refl _) _, by simp, cof_corner w corner⟩
  generalize World.alloc w _ = w1 at HY ⊢
  have HC := Lib.hid (copy_mid w1 w.heap.size (1650 + 8) 24 24 aa la ca fa (HA.out.1.below HY.out.2.1) hla (fun j hj => by rw [Nat.add_assoc, HY.out.1.1 (8 + j) (by omega)]; rfl) (fun j hj => by rw [Nat.add_assoc]; exact HY.out.1.2 (8 + j) (by omega)))
  rw [HC.out]
  have HQ : Hid (Ybr (w1.setCells w.heap.size (1650 + 8) (cellsOf .u8 la fa)) w.heap.size (sqTo n la corner fa fl fi 0) ∧ Below w.heap.size w (w1.setCells w.heap.size (1650 + 8) (cellsOf .u8 la fa)) ∧ w.heap.size < (w1.setCells w.heap.size (1650 + 8) (cellsOf .u8 la fa)).heap.size ∧ Cof (w1.setCells w.heap.size (1650 + 8) (cellsOf .u8 la fa)) w.heap.size (fun _ => 0)) :=
    Lib.hid ⟨⟨row_setCells HY.out.1.1 8 la fa (by omega), wr_setCells HY.out.1.2 _ _ _⟩, below_cells (Nat.le_refl _) _ _ _ HY.out.2.1, by rw [size_cells]; exact HY.out.2.2.1, cof_cells HY.out.2.2.2 _ _ (by omega)⟩
  generalize World.setCells w1 _ _ _ = w2 at HQ ⊢
  clear HC HY HD c7 z7
  go_wp2
  go_loopw [12] (fun i wr => ∃ p : Nat, p ≤ n ∧ i = .int .i64 p ∧ Hid (Ybr wr w.heap.size (sqTo n la corner fa fl fi p) ∧ Below w.heap.size w wr ∧ w.heap.size < wr.heap.size ∧ Cof wr w.heap.size (fun _ => 0))) (fun i _ => n - (intOf i).toNat)
  case atStart => exact ⟨0, by omega, rfl, HQ⟩
  case round =>
    obtain ⟨p, hp, rfl, hR⟩ := hrel
    by_cases hlt : p < n
    · obtain ⟨gl, ol, rfl, hgl, rl⟩ := HA.out.2.1 (by omega)
      have c0 : wr.cell? ⟨gl, ol + p, none⟩ = some (.int .u8 (fl p)) := (hR.out.2.1.cell (p := ⟨gl, ol + p, none⟩) hgl).trans (rl p hlt)
      have d0 := hR.out.1.1 (32 * (p + 1) + 7) (by omega)
      have z0 := hR.out.1.2 (32 * (p + 1) + 7) (by omega)
      rw [show 1650 + (32 * (p + 1) + 7) = 1650 + (1 + p) * 32 + 7 by omega] at d0 z0
      generalize sqTo n la corner fa fl fi p (32 * (p + 1) + 7) = q at d0
      clear rl
      have q1 : (0 : Int) ≤ 1 + (p : Int) := by omega
      have q2 : 1 + (p : Int) < 26 := by omega
      have q3 : (1 + (p : Int)).toNat = 1 + p := by omega
      have q4 : IntKind.i64.wrap (1 + (p : Int)) = 1 + (p : Int) := IntWalk.i64_in _ (by omega)
      go_wp2_with fail
      go_region
      have HQ4 := Lib.hid q4; clear q4
      have HW : Hid (Ybr (wr.setCell ⟨w.heap.size, 1650 + (1 + p) * 32 + 7, none⟩ (.int .u8 (fl p))).drew w.heap.size (upd (sqTo n la corner fa fl fi p) (32 * (p + 1) + 7) (fl p)) ∧ Below w.heap.size w (wr.setCell ⟨w.heap.size, 1650 + (1 + p) * 32 + 7, none⟩ (.int .u8 (fl p))).drew ∧ w.heap.size < (wr.setCell ⟨w.heap.size, 1650 + (1 + p) * 32 + 7, none⟩ (.int .u8 (fl p))).drew.heap.size ∧ Cof (wr.setCell ⟨w.heap.size, 1650 + (1 + p) * 32 + 7, none⟩ (.int .u8 (fl p))).drew w.heap.size (fun _ => 0)) := by
        rw [show 1650 + (1 + p) * 32 + 7 = 1650 + (32 * (p + 1) + 7) by omega]
        exact Lib.hid ⟨⟨hR.out.1.1.set (32 * (p + 1) + 7) (by omega) (fl p), hR.out.1.2.set _ _⟩, (hR.out.2.1.setCell (by simp) _).drew, by show _ < (World.setCell _ _ _).heap.size; rw [size_setCell]; exact hR.out.2.2.1, cof_set hR.out.2.2.2 _ _ (by omega)⟩
      generalize World.drew _ = w5 at HW ⊢
      have hnn : n * p + n ≤ n * n := by have := Nat.mul_le_mul_left n (show p + 1 ≤ n by omega); rw [Nat.mul_add, Nat.mul_one] at this; exact this
      have hn2 : n * n ≤ 256 := Nat.mul_le_mul hn hn
      obtain ⟨gi, oi, rfl, hgi, ri⟩ := HA.out.2.2 (by omega)
      have HCopy : Hid (∀ c1 c2 : Nat, (Builtin.copy_ #[22, 22] 3 #[.slice (some ⟨w.heap.size, 1650 + (1 + p) * 32 + 8, none⟩) n c1, .slice (some ⟨gi, oi + n * p, none⟩) n c2]).run Tryd.prog w5.drew = .ok (goInt n) (w5.drew.setCells w.heap.size (1650 + (1 + p) * 32 + 8) (cellsOf .u8 n (fun k => fi (n * p + k))))) := Lib.hid (fun c1 c2 =>
        copy_mid w5.drew w.heap.size (1650 + (1 + p) * 32 + 8) n c1 (some ⟨gi, oi + n * p, none⟩) n c2 (fun k => fi (n * p + k)) (fun _ => ⟨gi, oi + n * p, rfl, Nat.lt_of_lt_of_le hgi HW.out.2.1.size, fun i hi => by
          have := (HW.out.2.1.cell (p := ⟨gi, oi + (n * p + i), none⟩) hgi).trans (ri (n * p + i) (by omega))
          rw [Nat.add_assoc]; exact this⟩) (Nat.le_refl _)
          (fun j hj => by have := HW.out.1.1 (32 * (p + 1) + 8 + j) (by omega); rw [show 1650 + (1 + p) * 32 + 8 + j = 1650 + (32 * (p + 1) + 8 + j) by omega]; show (w5.cell? _).isSome = true; rw [this]; rfl)
          (fun j hj => by have := HW.out.1.2 (32 * (p + 1) + 8 + j) (by omega); rw [show 1650 + (1 + p) * 32 + 8 + j = 1650 + (32 * (p + 1) + 8 + j) by omega]; exact this))
      clear c0 d0 z0 ri
      have HM0 : Hid ((n : Int) * (p : Int) = ((n * p : Nat) : Int)) := Lib.hid (by simp)
      generalize hnp : n * p = np at *
      have HNP := Lib.hid hnp; clear hnp
      have m4 : ((np : Int) + n) ≤ ((n * n : Nat) : Int) := by omega
      have hb : np ≤ 256 := by omega
      have s1 : (8 + (n : Int)) ≤ 32 := by omega
      have s2 : (0 : Int) ≤ 8 + (n : Int) := by omega
      have s3 : (8 + (n : Int)).toNat = 8 + n := by omega
      have s4 : (8 : Int) ≤ 8 + (n : Int) := by omega
      have s5 : (0 : Int) ≤ (np : Int) := by omega
      have s6 : (np : Int) ≤ (np : Int) + n := by omega
      have s7 : (np : Int) + n ≤ (ci : Int) := by omega
      have s8 : ((np : Int) + n).toNat = np + n := by omega
      have s9 : (np : Int) < (ci : Int) := by omega
      have s10 : (0 : Int) ≤ (np : Int) + n := by omega
      have s11 : ¬ ci = np := by omega
      obtain ⟨m1, m2, m3⟩ : IntKind.i64.wrap ((np : Int) + (n : Int)) = (np : Int) + n ∧ IntKind.i64.wrap (8 + (n : Int)) = 8 + (n : Int) ∧ IntKind.i64.wrap (np : Int) = (np : Int) :=
        wraps3 np n hb hn
      have m0 := HM0.out
      have q4 := HQ4.out
      go_wp2_with fail
      go_region_law (go_simp; rw [HCopy.out]; go_simp)
      have HE : Hid (Ybr (w5.drew.setCells w.heap.size (1650 + (1 + p) * 32 + 8) (cellsOf .u8 n fun k => fi (np + k))) w.heap.size (sqTo n la corner fa fl fi (p + 1)) ∧ Below w.heap.size w (w5.drew.setCells w.heap.size (1650 + (1 + p) * 32 + 8) (cellsOf .u8 n fun k => fi (np + k))) ∧ w.heap.size < (w5.drew.setCells w.heap.size (1650 + (1 + p) * 32 + 8) (cellsOf .u8 n fun k => fi (np + k))).heap.size ∧ Cof (w5.drew.setCells w.heap.size (1650 + (1 + p) * 32 + 8) (cellsOf .u8 n fun k => fi (np + k))) w.heap.size (fun _ => 0)) := by
        rw [← HNP.out, show 1650 + (1 + p) * 32 + 8 = 1650 + (32 * (p + 1) + 8) from HA8 p]
        exact Lib.hid ⟨⟨row_setCells (w := w5.drew) HW.out.1.1 (32 * (p + 1) + 8) n _ (HA9 p n hlt hn), wr_setCells (w := w5.drew) HW.out.1.2 _ _ _⟩, below_cells (Nat.le_refl _) _ _ _ HW.out.2.1.drew, by rw [size_cells]; exact HW.out.2.2.1, cof_cells (w := w5.drew) HW.out.2.2.2 _ _ (cof_far p)⟩
      generalize World.setCells _ _ _ _ = w7 at HE ⊢
      go_wp2
      go_roundw
      case rel => exact ⟨p + 1, hlt, by go_num, HE⟩
      case measure => simp [intOf]; clear m0 m1 m2 m3 q4; omega
    · obtain rfl : p = n := by omega
      go_wp2
      go_ret
      exact ⟨rfl, hR.out⟩
end Go.Proofs.YthmkmemocjnleaaDoor
