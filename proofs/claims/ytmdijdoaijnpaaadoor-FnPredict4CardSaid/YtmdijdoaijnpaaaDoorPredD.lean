/- The door of the large predictions (DoorPredict16) and impl.Predict16. -/
import Derived.Test.YtmdijdoaijnpaaaDoorPredT
import Derived.Test.YtmdijdoaijnpaaaDoorValues
import Derived.Deep.OwnRows
import Derived.Deep.MidRow
namespace Go.Proofs.YtmdijdoaijnpaaaDoor
open Go.RowKit
set_option linter.unusedVariables false

/-- The functions by mode. -/
def tab16 : Array Value := #[.func (.func 52) #[] #[], .func (.func 53) #[] #[], .func (.func 54) #[] #[], .func (.func 55) #[] #[],
  .nilFunc, .nilFunc, .nilFunc, .nilFunc, .nilFunc, .nilFunc, .func (.func 56) #[] #[], .func (.func 57) #[] #[], .func (.func 58) #[] #[]]
def nil13 : Array Value := #[.nilFunc, .nilFunc, .nilFunc, .nilFunc, .nilFunc, .nilFunc, .nilFunc, .nilFunc, .nilFunc, .nilFunc, .nilFunc, .nilFunc, .nilFunc]
theorem info16 : (Tryd.prog.info? 65).map (·.size) = some 13 := by kernel_rfl
theorem results_cell {P : Program} {fn : Func} {tmps : Array Value} {w : World} {a : Nat} {t : TypeId} {ad : Addr} {v : Value} (hr : fn.results = #[.cell a t]) (ha : tmps.getD a undef = .pointer (some ad)) (hl : (loadVar t ad).run P w = .ok v w) :
    (results fn tmps).run P w = .ok v w := by
  unfold results
  rw [hr]
  rw [Array.getD_eq_getD_getElem?] at ha
  simp [ha, asAddr, hl]

set_option maxRecDepth 100000 in
set_option maxHeartbeats 1600000 in
theorem pf16_any (w : World) :
    Calls Tryd.prog 39 #[] w fun e w' => e = .returned (.agg tab16) ∧ Below w.heap.size w w' := by
  have HT : Hid (tab16.all (·.oneCell') = true) := Lib.hid (by simp [tab16, Value.oneCell'])
  have HR : Hid (w.alloc (.cells nil13 65) |>.there w.heap.size 0 tab16.size) := Lib.hid (fun j hj => by
    have hj' : j < 13 := hj
    refine ⟨?_, frozen_of_row _ _ _ _ _ (heap_alloc_new w _)⟩
    rw [Nat.zero_add, cell_of_row _ _ j _ _ _ (heap_alloc_new w _)]
    rw [Array.getElem?_eq_getElem (show j < nil13.size from hj')]; rfl)
  unfold nil13 at HR
  go_enter Tryd.func39, Tryd.ntmps39
  go_wp2_with (refine wpList_store_mid rfl 65 (.tmp 0) (.tmp 1) rfl w.heap.size 0 tab16 rfl rfl HR.out info16 HT.out ?_)
  have HS : Hid (World.rangeAt (World.setCells (w.alloc (.cells nil13 65)) w.heap.size 0 tab16.toList) w.heap.size 0 tab16.toList ∧ Below w.heap.size w (World.setCells (w.alloc (.cells nil13 65)) w.heap.size 0 tab16.toList)) :=
    Lib.hid ⟨World.rangeAt_setCells_same _ _ _ _ HR.out, below_cells (Nat.le_refl _) _ _ _ ((Below.refl _ _).alloc (Nat.le_refl _) _)⟩
  unfold nil13 at HS
  generalize World.setCells _ _ _ _ = w2 at HS ⊢
  refine bodyPost_ret (v := .agg tab16) ?_ rfl ⟨rfl, HS.out.2⟩
  exact results_cell Tryd.results39 rfl (run_loadVar_mid (P := Tryd.prog) w2 w.heap.size 0 65 tab16.toList _ HS.out.1 Tryd.underlying65 rfl info16)

theorem updN_in {y f : Nat → Int} (o n : Nat) (hy : ∀ k, 0 ≤ y k ∧ y k ≤ 255) (hf : ∀ k, 0 ≤ f k ∧ f k ≤ 255) (k : Nat) : 0 ≤ updN y o n f k ∧ updN y o n f k ≤ 255 := by
  unfold updN; split
  · exact hf _
  · exact hy _
theorem upd_in {y : Nat → Int} (i : Nat) {v : Int} (hy : ∀ k, 0 ≤ y k ∧ y k ≤ 255) (hv : 0 ≤ v ∧ v ≤ 255) (k : Nat) : 0 ≤ upd y i v k ∧ upd y i v k ≤ 255 := by
  unfold upd; split
  · exact hv
  · exact hy _
theorem sqTo_in (n la : Nat) {corner : Int} {fa fl fi : Nat → Int} (hc : 0 ≤ corner ∧ corner ≤ 255) (ha : ∀ k, 0 ≤ fa k ∧ fa k ≤ 255) (hl : ∀ k, 0 ≤ fl k ∧ fl k ≤ 255) (hi : ∀ k, 0 ≤ fi k ∧ fi k ≤ 255) : ∀ j k, 0 ≤ sqTo n la corner fa fl fi j k ∧ sqTo n la corner fa fl fi j k ≤ 255
  | 0, k => updN_in _ _ (upd_in _ (fun _ => ⟨by decide, by decide⟩) hc) ha k
  | j + 1, k => updN_in _ _ (upd_in _ (sqTo_in n la hc ha hl hi j) (hl j)) (fun _ => hi _) k

/-- What a function of large predictions does. -/
def Large (k : Nat) (V : (Nat → Int) → Nat → Nat → Int) : Prop := ∀ (g : Nat) (y : Nat → Int) (w : World), Ybr w g y → (∀ i, 0 ≤ y i ∧ y i ≤ 255) →
  Calls Tryd.prog k #[.pointer (some ⟨g, 0, none⟩), .int .i64 1, .int .i64 8] w fun e w' => e = .returned (.tuple #[]) ∧ Ybr w' g (blkTo y (V y) 256) ∧ w.grownBy w' (some g)

set_option maxRecDepth 100000 in
set_option maxHeartbeats 1600000 in
theorem door16_any (mode k : Nat) (V : (Nat → Int) → Nat → Nat → Int) (hix : ∀ w, (Instr.index 65 (.agg tab16) (.int .i64 mode)).run Tryd.prog w = .ok (.func (.func k) #[] #[]) w) (hcf : ∀ args w, (callFunc k args).run Tryd.prog w = .ok (.enter k args) w) (hk : Large k V)
    (corner : Int) (aa : Option Addr) (ca : Nat) (fa : Nat → Int) (al : Option Addr) (cl : Nat) (fl : Nat → Int) (w : World)
    (ha : Arg .u8 w aa 16 fa) (hl : Arg .u8 w al 16 fl) (hc : 0 ≤ corner ∧ corner ≤ 255) (ha2 : ∀ k, 0 ≤ fa k ∧ fa k ≤ 255) (hl2 : ∀ k, 0 ≤ fl k ∧ fl k ≤ 255) :
    Calls Tryd.prog 24 #[.int .i64 mode, .int .u8 corner, .slice aa 16 ca, .slice al 16 cl] w fun e w' => (∃ a' c', e = .returned (.slice a' 256 c') ∧ Own .u8 w.heap.size w' a' 256 (valF 16 (blkTo (sqTo 16 16 corner fa fl (fun _ => 0) 16) (V (sqTo 16 16 corner fa fl (fun _ => 0) 16)) 256))) ∧ Below w.heap.size w w' := by
  obtain ⟨i0, hi, hz0, hz1, hz2⟩ := info_parts infoB
  have HA := Lib.hid (And.intro ha hl); clear ha hl
  have HX := Lib.hid hix; clear hix
  have HK := Lib.hid hk; clear hk
  have HF := Lib.hid hcf; clear hcf
  have HV := Lib.hid (sqTo_in 16 16 hc ha2 hl2 (fi := fun _ => 0) (fun _ => ⟨by decide, by decide⟩) 16); clear hc ha2 hl2
  unfold tab16 at HX
  go_enter Tryd.func24, Tryd.ntmps24
  go_wp2_with (refine wpList_make_row _ rfl _ _ 22 rfl 5 i0 (.int .u8 0) Tryd.underlying22 hi hz0 hz1 rfl .i64 .i64 256 rfl rfl (by rw [hz2]; decide) (by decide) ?_)
  have HB1 : Hid (Below w.heap.size w (w.alloc (.cells (madeCells #[.int .u8 0] 256) 5)) ∧ Arg .u8 (w.alloc (.cells (madeCells #[.int .u8 0] 256) 5)) (some ⟨w.heap.size, 0, none⟩) (16 * 16) (fun _ => 0)) := Lib.hid ⟨(Below.refl _ _).alloc (Nat.le_refl _) _, fun _ => ⟨w.heap.size, 0, rfl, by simp, fun i hi => by
    rw [Nat.zero_add, cell_of_row _ _ i _ _ _ (heap_alloc_new w _)]
    simp [madeCells, show i < 256 from hi, Nat.mod_one]⟩⟩
  generalize World.alloc w _ = w1 at HB1 ⊢
  refine (square_any 16 16 corner aa ca fa al cl fl (some ⟨w.heap.size, 0, none⟩) 256 (fun _ => 0) w1 (by decide) (by decide) (by decide) (by decide) (HA.out.1.below HB1.out.1) (HA.out.2.below HB1.out.1) HB1.out.2).mono ?_
  rintro _ w2 ⟨rfl, hY, hb, hlt⟩
  have HY := Lib.hid (And.intro hY (And.intro (HB1.out.1.trans (hb.mono HB1.out.1.size)) (And.intro hlt HB1.out.1.size))); clear hY hb hlt
  generalize w1.heap.size = g at *
  go_wp2_with fail
  refine (pf16_any w2).mono ?_
  rintro _ w3 ⟨rfl, hb⟩
  have HY := Lib.hid (And.intro (show Ybr w3 g _ from ⟨HY.out.1.1.below hb HY.out.2.2.1, HY.out.1.2.below hb HY.out.2.2.1⟩) (And.intro (HY.out.2.1.trans (hb.mono HY.out.2.1.size)) (And.intro (Nat.lt_of_lt_of_le HY.out.2.2.1 hb.size) HY.out.2.2.2))); clear hb
  unfold tab16
  go_wp2_with fail
  rw [HX.out]
  go_wp2_with fail
  rw [HF.out, Oper.upon_enter]
  refine (HK.out g _ w3 HY.out.1 HV.out).mono ?_
  rintro _ w4 ⟨rfl, hY4, hg4⟩
  have HY4 := Lib.hid (And.intro hY4 (And.intro (HY.out.2.1.trans (below_of_grown hg4 HY.out.2.1.size (fun r hr => by cases hr; exact HY.out.2.2.2))) (Nat.lt_of_lt_of_le HY.out.2.2.1 hg4.size))); clear hY4 hg4
  generalize hy : sqTo 16 16 corner fa fl (fun _ => 0) 16 = y at *
  generalize hz : blkTo y (V y) 256 = z at *
  have Hyz := Lib.hid (And.intro hy hz); clear hy hz
  go_wp2_with fail
  refine (values_any g 16 z w4 (by decide) (by decide) HY4.out.1 HY4.out.2.2).mono ?_
  rintro _ w5 ⟨⟨a', c', rfl, ho⟩, hb⟩
  have H5 : Hid (Own .u8 w.heap.size w5 a' 256 (valF 16 z) ∧ Below w.heap.size w w5) := Lib.hid ⟨ho.mono HY4.out.2.1.size, HY4.out.2.1.trans (hb.mono HY4.out.2.1.size)⟩
  clear ho hb
  go_wp2
  go_ret
  exact ⟨⟨_, _, rfl, by rw [Hyz.out.1, Hyz.out.2]; exact H5.out.1⟩, H5.out.2⟩
end Go.Proofs.YtmdijdoaijnpaaaDoor
