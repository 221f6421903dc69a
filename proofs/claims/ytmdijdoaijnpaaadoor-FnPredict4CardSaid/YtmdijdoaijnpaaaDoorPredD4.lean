/- The door of the small predictions (DoorPredict4). Printed by wip/gen_pred4.py. -/
import Derived.Test.YtmdijdoaijnpaaaDoorPredD
import Derived.Test.YtmdijdoaijnpaaaDoorP4V
import Derived.Test.YtmdijdoaijnpaaaDoorP4D
import Derived.Test.YtmdijdoaijnpaaaDoorP4RD
import Derived.Test.YtmdijdoaijnpaaaDoorP4VR
import Derived.Test.YtmdijdoaijnpaaaDoorP4LD
import Derived.Test.YtmdijdoaijnpaaaDoorP4VL
import Derived.Test.YtmdijdoaijnpaaaDoorP4HD
import Derived.Test.YtmdijdoaijnpaaaDoorP4HU
namespace Go.Proofs.YtmdijdoaijnpaaaDoor
open Go.RowKit
set_option linter.unusedVariables false

def tab4 : Array Value := #[.func (.func 69) #[] #[], .func (.func 70) #[] #[], .func (.func 71) #[] #[], .func (.func 72) #[] #[], .func (.func 73) #[] #[], .func (.func 74) #[] #[], .func (.func 75) #[] #[], .func (.func 76) #[] #[], .func (.func 77) #[] #[], .func (.func 78) #[] #[], .nilFunc, .nilFunc, .nilFunc]

set_option maxRecDepth 100000 in
set_option maxHeartbeats 1600000 in
theorem pf4_any (w : World) :
    Calls Tryd.prog 46 #[] w fun e w' => e = .returned (.agg tab4) ∧ Below w.heap.size w w' := by
  have HT : Hid (tab4.all (·.oneCell') = true) := Lib.hid (by simp [tab4, Value.oneCell'])
  have HR : Hid (w.alloc (.cells nil13 65) |>.there w.heap.size 0 tab4.size) := Lib.hid (fun j hj => by
    have hj' : j < 13 := hj
    refine ⟨?_, frozen_of_row _ _ _ _ _ (heap_alloc_new w _)⟩
    rw [Nat.zero_add, cell_of_row _ _ j _ _ _ (heap_alloc_new w _)]
    rw [Array.getElem?_eq_getElem (show j < nil13.size from hj')]; rfl)
  unfold nil13 at HR
  go_enter Tryd.func46, Tryd.ntmps46
  go_wp2_with (refine wpList_store_mid rfl 65 (.tmp 0) (.tmp 1) rfl w.heap.size 0 tab4 rfl rfl HR.out info16 HT.out ?_)
  have HS : Hid (World.rangeAt (World.setCells (w.alloc (.cells nil13 65)) w.heap.size 0 tab4.toList) w.heap.size 0 tab4.toList ∧ Below w.heap.size w (World.setCells (w.alloc (.cells nil13 65)) w.heap.size 0 tab4.toList)) :=
    Lib.hid ⟨World.rangeAt_setCells_same _ _ _ _ HR.out, below_cells (Nat.le_refl _) _ _ _ ((Below.refl _ _).alloc (Nat.le_refl _) _)⟩
  unfold nil13 at HS
  generalize World.setCells _ _ _ _ = w2 at HS ⊢
  refine bodyPost_ret (v := .agg tab4) ?_ rfl ⟨rfl, HS.out.2⟩
  exact results_cell Tryd.results46 rfl (run_loadVar_mid (P := Tryd.prog) w2 w.heap.size 0 65 tab4.toList _ HS.out.1 Tryd.underlying65 rfl info16)

theorem sm_VE : Small 71 rVE := fun g y w h hv => p4VE g y w h hv
theorem sm_HE : Small 72 rHE := fun g y w h hv => p4HE g y w h hv
theorem sm_RD : Small 73 rRD := fun g y w h hv => p4RD g y w h hv
theorem sm_VR : Small 74 rVR := fun g y w h hv => p4VR g y w h hv
theorem sm_LD : Small 75 rLD := fun g y w h hv => p4LD g y w h hv
theorem sm_VL : Small 76 rVL := fun g y w h hv => p4VL g y w h hv
theorem sm_HD : Small 77 rHD := fun g y w h hv => p4HD g y w h hv
theorem sm_HU : Small 78 rHU := fun g y w h hv => p4HU g y w h hv
theorem sm_DC : Small 69 rDC := fun g y w h hv => (p4DC g y w h hv).mono fun e w' h => ⟨h.1, h.2.1.congr (fun k _ => by
  unfold blk4
  split
  · show (4 + sumF (topF y) 4 + sumF (leftF y) 4) / 8 = rDC (edgeF y) _ _
    simp [rDC, sumF, topF, leftF, edgeF]; omega
  · rfl), h.2.2⟩
theorem sm_TM : Small 70 rTM := fun g y w h hv => (p4TM g y w h hv).mono fun e w' h => ⟨h.1, h.2.1.congr (fun k _ => by
  unfold blk4
  split
  · next c =>
    unfold tmF rTM edgeF
    congr 1
    rw [if_pos (by omega), if_neg (by omega), if_neg (by decide), show 4 - (3 - (k / 32 - 1)) = k / 32 - 1 + 1 by omega, show 3 + (5 + (k % 32 - 8)) = 8 + (k % 32 - 8) by omega, show (3 : Nat) + 4 = 7 from rfl]
    omega
  · rfl), h.2.2⟩

set_option maxRecDepth 100000 in
set_option maxHeartbeats 1600000 in
theorem door4_any (mode k : Nat) (V : (Nat → Int) → Nat → Nat → Int) (hix : ∀ w, (Instr.index 65 (.agg tab4) (.int .i64 mode)).run Tryd.prog w = .ok (.func (.func k) #[] #[]) w) (hcf : ∀ args w, (callFunc k args).run Tryd.prog w = .ok (.enter k args) w) (hk : Small k V)
    (corner : Int) (aa : Option Addr) (ca : Nat) (fa : Nat → Int) (al : Option Addr) (cl : Nat) (fl : Nat → Int) (w : World)
    (ha : Arg .u8 w aa 8 fa) (hl : Arg .u8 w al 4 fl) (hc : 0 ≤ corner ∧ corner ≤ 255) (ha2 : ∀ k, 0 ≤ fa k ∧ fa k ≤ 255) (hl2 : ∀ k, 0 ≤ fl k ∧ fl k ≤ 255) :
    Calls Tryd.prog 29 #[.int .i64 mode, .int .u8 corner, .slice aa 8 ca, .slice al 4 cl] w fun e w' => (∃ a' c', e = .returned (.slice a' 16 c') ∧ Own .u8 w.heap.size w' a' 16 (valF 4 (blk4 (sqTo 4 8 corner fa fl (fun _ => 0) 4) (V (edgeF (sqTo 4 8 corner fa fl (fun _ => 0) 4))) 16))) ∧ Below w.heap.size w w' := by
  obtain ⟨i0, hi, hz0, hz1, hz2⟩ := info_parts infoB
  have HA := Lib.hid (And.intro ha hl); clear ha hl
  have HX := Lib.hid hix; clear hix
  have HK := Lib.hid hk; clear hk
  have HF := Lib.hid hcf; clear hcf
  have HV := Lib.hid (sqTo_in 4 8 hc ha2 hl2 (fi := fun _ => 0) (fun _ => ⟨by decide, by decide⟩) 4); clear hc ha2 hl2
  unfold tab4 at HX
  go_enter Tryd.func29, Tryd.ntmps29
  go_wp2_with (refine wpList_make_row _ rfl _ _ 22 rfl 5 i0 (.int .u8 0) Tryd.underlying22 hi hz0 hz1 rfl .i64 .i64 16 rfl rfl (by rw [hz2]; decide) (by decide) ?_)
  have HB1 : Hid (Below w.heap.size w (w.alloc (.cells (madeCells #[.int .u8 0] 16) 5)) ∧ Arg .u8 (w.alloc (.cells (madeCells #[.int .u8 0] 16) 5)) (some ⟨w.heap.size, 0, none⟩) (16) (fun _ => 0)) := Lib.hid ⟨(Below.refl _ _).alloc (Nat.le_refl _) _, fun _ => ⟨w.heap.size, 0, rfl, by simp, fun i hi => by
    rw [Nat.zero_add, cell_of_row _ _ i _ _ _ (heap_alloc_new w _)]
    simp [madeCells, show i < 16 from hi, Nat.mod_one]⟩⟩
  generalize World.alloc w _ = w1 at HB1 ⊢
  refine (square_any 4 8 corner aa ca fa al cl fl (some ⟨w.heap.size, 0, none⟩) 16 (fun _ => 0) w1 (by decide) (by decide) (by decide) (by decide) (HA.out.1.below HB1.out.1) (HA.out.2.below HB1.out.1) HB1.out.2).mono ?_
  rintro _ w2 ⟨rfl, hY, hb, hlt⟩
  have HY := Lib.hid (And.intro hY (And.intro (HB1.out.1.trans (hb.mono HB1.out.1.size)) (And.intro hlt HB1.out.1.size))); clear hY hb hlt
  generalize w1.heap.size = g at *
  go_wp2_with fail
  refine (pf4_any w2).mono ?_
  rintro _ w3 ⟨rfl, hb⟩
  have HY := Lib.hid (And.intro (show Ybr w3 g _ from ⟨HY.out.1.1.below hb HY.out.2.2.1, HY.out.1.2.below hb HY.out.2.2.1⟩) (And.intro (HY.out.2.1.trans (hb.mono HY.out.2.1.size)) (And.intro (Nat.lt_of_lt_of_le HY.out.2.2.1 hb.size) HY.out.2.2.2))); clear hb
  unfold tab4
  go_wp2_with fail
  rw [HX.out]
  go_wp2_with fail
  rw [HF.out, Oper.upon_enter]
  refine (HK.out g _ w3 HY.out.1 HV.out).mono ?_
  rintro _ w4 ⟨rfl, hY4, hg4⟩
  have HY4 := Lib.hid (And.intro hY4 (And.intro (HY.out.2.1.trans (below_of_grown hg4 HY.out.2.1.size (fun r hr => by cases hr; exact HY.out.2.2.2))) (Nat.lt_of_lt_of_le HY.out.2.2.1 hg4.size))); clear hY4 hg4
  generalize hy : sqTo 4 8 corner fa fl (fun _ => 0) 4 = y at *
  generalize hz : blk4 y (V (edgeF y)) 16 = z at *
  have Hyz := Lib.hid (And.intro hy hz); clear hy hz
  go_wp2_with fail
  refine (values_any g 4 z w4 (by decide) (by decide) HY4.out.1 HY4.out.2.2).mono ?_
  rintro _ w5 ⟨⟨a', c', rfl, ho⟩, hb⟩
  have H5 : Hid (Own .u8 w.heap.size w5 a' 16 (valF 4 z) ∧ Below w.heap.size w w5) := Lib.hid ⟨ho.mono HY4.out.2.1.size, HY4.out.2.1.trans (hb.mono HY4.out.2.1.size)⟩
  clear ho hb
  go_wp2
  go_ret
  exact ⟨⟨_, _, rfl, by rw [Hyz.out.1, Hyz.out.2]; exact H5.out.1⟩, H5.out.2⟩
end Go.Proofs.YtmdijdoaijnpaaaDoor
