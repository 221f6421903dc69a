/- The reference's small prediction upright. Printed by wip/gen_sp4.py. -/
import Derived.Test.YtmdijdoaijnpaaaDoorSpA
namespace Go.Proofs.YtmdijdoaijnpaaaDoor
open Go.RowKit
set_option linter.unusedVariables false

set_option maxRecDepth 100000 in
theorem upright_00 (E : Nat → Int) (cs : Array Value) (hcs : A13 E cs) (hE : ∀ k, 0 ≤ E k ∧ E k ≤ 255) (w : World) :
    Calls Tryd.prog 80 #[.agg cs, .int .i64 0, .int .i64 0] w fun e w' => e = .returned (.int .i64 (rVR E 0 0)) ∧ Below w.heap.size w w' := by
  have HB := Lib.hid (A13.below w (.cells cs 51))
  have HC := Lib.hid (And.intro hcs hE); clear hcs hE
  have HO := Lib.hid (HC.out.1.obj w)
  have HI := Lib.hid HC.out.1.info
  go_enter Tryd.func80, Tryd.ntmps80
  go_wp2_with (refine wpList_load_row rfl 51 (.tmp 3) rfl w.heap.size rfl 51 cs (0, 0) _ HO.out Tryd.underlying51 rfl HI.out ?_)
  generalize hw1 : World.alloc w _ = w1 at *
  refine (two_any E cs HC.out.1 HC.out.2 4 (by decide) w1).mono ?_
  rintro _ w2 ⟨rfl, hb⟩
  have H2 : Hid (Below w.heap.size w w2) := Lib.hid (HB.out.trans (hb.mono HB.out.size)); clear hb
  go_wp2
  go_ret
  exact ⟨rfl, H2.out⟩

set_option maxRecDepth 100000 in
theorem upright_01 (E : Nat → Int) (cs : Array Value) (hcs : A13 E cs) (hE : ∀ k, 0 ≤ E k ∧ E k ≤ 255) (w : World) :
    Calls Tryd.prog 80 #[.agg cs, .int .i64 1, .int .i64 0] w fun e w' => e = .returned (.int .i64 (rVR E 0 1)) ∧ Below w.heap.size w w' := by
  have HB := Lib.hid (A13.below w (.cells cs 51))
  have HC := Lib.hid (And.intro hcs hE); clear hcs hE
  have HO := Lib.hid (HC.out.1.obj w)
  have HI := Lib.hid HC.out.1.info
  go_enter Tryd.func80, Tryd.ntmps80
  go_wp2_with (refine wpList_load_row rfl 51 (.tmp 3) rfl w.heap.size rfl 51 cs (0, 0) _ HO.out Tryd.underlying51 rfl HI.out ?_)
  generalize hw1 : World.alloc w _ = w1 at *
  refine (two_any E cs HC.out.1 HC.out.2 5 (by decide) w1).mono ?_
  rintro _ w2 ⟨rfl, hb⟩
  have H2 : Hid (Below w.heap.size w w2) := Lib.hid (HB.out.trans (hb.mono HB.out.size)); clear hb
  go_wp2
  go_ret
  exact ⟨rfl, H2.out⟩

set_option maxRecDepth 100000 in
theorem upright_02 (E : Nat → Int) (cs : Array Value) (hcs : A13 E cs) (hE : ∀ k, 0 ≤ E k ∧ E k ≤ 255) (w : World) :
    Calls Tryd.prog 80 #[.agg cs, .int .i64 2, .int .i64 0] w fun e w' => e = .returned (.int .i64 (rVR E 0 2)) ∧ Below w.heap.size w w' := by
  have HB := Lib.hid (A13.below w (.cells cs 51))
  have HC := Lib.hid (And.intro hcs hE); clear hcs hE
  have HO := Lib.hid (HC.out.1.obj w)
  have HI := Lib.hid HC.out.1.info
  go_enter Tryd.func80, Tryd.ntmps80
  go_wp2_with (refine wpList_load_row rfl 51 (.tmp 3) rfl w.heap.size rfl 51 cs (0, 0) _ HO.out Tryd.underlying51 rfl HI.out ?_)
  generalize hw1 : World.alloc w _ = w1 at *
  refine (two_any E cs HC.out.1 HC.out.2 6 (by decide) w1).mono ?_
  rintro _ w2 ⟨rfl, hb⟩
  have H2 : Hid (Below w.heap.size w w2) := Lib.hid (HB.out.trans (hb.mono HB.out.size)); clear hb
  go_wp2
  go_ret
  exact ⟨rfl, H2.out⟩

set_option maxRecDepth 100000 in
theorem upright_03 (E : Nat → Int) (cs : Array Value) (hcs : A13 E cs) (hE : ∀ k, 0 ≤ E k ∧ E k ≤ 255) (w : World) :
    Calls Tryd.prog 80 #[.agg cs, .int .i64 3, .int .i64 0] w fun e w' => e = .returned (.int .i64 (rVR E 0 3)) ∧ Below w.heap.size w w' := by
  have HB := Lib.hid (A13.below w (.cells cs 51))
  have HC := Lib.hid (And.intro hcs hE); clear hcs hE
  have HO := Lib.hid (HC.out.1.obj w)
  have HI := Lib.hid HC.out.1.info
  go_enter Tryd.func80, Tryd.ntmps80
  go_wp2_with (refine wpList_load_row rfl 51 (.tmp 3) rfl w.heap.size rfl 51 cs (0, 0) _ HO.out Tryd.underlying51 rfl HI.out ?_)
  generalize hw1 : World.alloc w _ = w1 at *
  refine (two_any E cs HC.out.1 HC.out.2 7 (by decide) w1).mono ?_
  rintro _ w2 ⟨rfl, hb⟩
  have H2 : Hid (Below w.heap.size w w2) := Lib.hid (HB.out.trans (hb.mono HB.out.size)); clear hb
  go_wp2
  go_ret
  exact ⟨rfl, H2.out⟩

set_option maxRecDepth 100000 in
theorem upright_10 (E : Nat → Int) (cs : Array Value) (hcs : A13 E cs) (hE : ∀ k, 0 ≤ E k ∧ E k ≤ 255) (w : World) :
    Calls Tryd.prog 80 #[.agg cs, .int .i64 0, .int .i64 1] w fun e w' => e = .returned (.int .i64 (rVR E 1 0)) ∧ Below w.heap.size w w' := by
  have HB := Lib.hid (A13.below w (.cells cs 51))
  have HC := Lib.hid (And.intro hcs hE); clear hcs hE
  have HO := Lib.hid (HC.out.1.obj w)
  have HI := Lib.hid HC.out.1.info
  go_enter Tryd.func80, Tryd.ntmps80
  go_wp2_with (refine wpList_load_row rfl 51 (.tmp 3) rfl w.heap.size rfl 51 cs (0, 0) _ HO.out Tryd.underlying51 rfl HI.out ?_)
  generalize hw1 : World.alloc w _ = w1 at *
  refine (three_any E cs HC.out.1 HC.out.2 4 (by decide) (by decide) w1).mono ?_
  rintro _ w2 ⟨rfl, hb⟩
  have H2 : Hid (Below w.heap.size w w2) := Lib.hid (HB.out.trans (hb.mono HB.out.size)); clear hb
  go_wp2
  go_ret
  exact ⟨rfl, H2.out⟩

set_option maxRecDepth 100000 in
theorem upright_11 (E : Nat → Int) (cs : Array Value) (hcs : A13 E cs) (hE : ∀ k, 0 ≤ E k ∧ E k ≤ 255) (w : World) :
    Calls Tryd.prog 80 #[.agg cs, .int .i64 1, .int .i64 1] w fun e w' => e = .returned (.int .i64 (rVR E 1 1)) ∧ Below w.heap.size w w' := by
  have HB := Lib.hid (A13.below w (.cells cs 51))
  have HC := Lib.hid (And.intro hcs hE); clear hcs hE
  have HO := Lib.hid (HC.out.1.obj w)
  have HI := Lib.hid HC.out.1.info
  go_enter Tryd.func80, Tryd.ntmps80
  go_wp2_with (refine wpList_load_row rfl 51 (.tmp 3) rfl w.heap.size rfl 51 cs (0, 0) _ HO.out Tryd.underlying51 rfl HI.out ?_)
  generalize hw1 : World.alloc w _ = w1 at *
  refine (three_any E cs HC.out.1 HC.out.2 5 (by decide) (by decide) w1).mono ?_
  rintro _ w2 ⟨rfl, hb⟩
  have H2 : Hid (Below w.heap.size w w2) := Lib.hid (HB.out.trans (hb.mono HB.out.size)); clear hb
  go_wp2
  go_ret
  exact ⟨rfl, H2.out⟩

set_option maxRecDepth 100000 in
theorem upright_12 (E : Nat → Int) (cs : Array Value) (hcs : A13 E cs) (hE : ∀ k, 0 ≤ E k ∧ E k ≤ 255) (w : World) :
    Calls Tryd.prog 80 #[.agg cs, .int .i64 2, .int .i64 1] w fun e w' => e = .returned (.int .i64 (rVR E 1 2)) ∧ Below w.heap.size w w' := by
  have HB := Lib.hid (A13.below w (.cells cs 51))
  have HC := Lib.hid (And.intro hcs hE); clear hcs hE
  have HO := Lib.hid (HC.out.1.obj w)
  have HI := Lib.hid HC.out.1.info
  go_enter Tryd.func80, Tryd.ntmps80
  go_wp2_with (refine wpList_load_row rfl 51 (.tmp 3) rfl w.heap.size rfl 51 cs (0, 0) _ HO.out Tryd.underlying51 rfl HI.out ?_)
  generalize hw1 : World.alloc w _ = w1 at *
  refine (three_any E cs HC.out.1 HC.out.2 6 (by decide) (by decide) w1).mono ?_
  rintro _ w2 ⟨rfl, hb⟩
  have H2 : Hid (Below w.heap.size w w2) := Lib.hid (HB.out.trans (hb.mono HB.out.size)); clear hb
  go_wp2
  go_ret
  exact ⟨rfl, H2.out⟩

set_option maxRecDepth 100000 in
theorem upright_13 (E : Nat → Int) (cs : Array Value) (hcs : A13 E cs) (hE : ∀ k, 0 ≤ E k ∧ E k ≤ 255) (w : World) :
    Calls Tryd.prog 80 #[.agg cs, .int .i64 3, .int .i64 1] w fun e w' => e = .returned (.int .i64 (rVR E 1 3)) ∧ Below w.heap.size w w' := by
  have HB := Lib.hid (A13.below w (.cells cs 51))
  have HC := Lib.hid (And.intro hcs hE); clear hcs hE
  have HO := Lib.hid (HC.out.1.obj w)
  have HI := Lib.hid HC.out.1.info
  go_enter Tryd.func80, Tryd.ntmps80
  go_wp2_with (refine wpList_load_row rfl 51 (.tmp 3) rfl w.heap.size rfl 51 cs (0, 0) _ HO.out Tryd.underlying51 rfl HI.out ?_)
  generalize hw1 : World.alloc w _ = w1 at *
  refine (three_any E cs HC.out.1 HC.out.2 7 (by decide) (by decide) w1).mono ?_
  rintro _ w2 ⟨rfl, hb⟩
  have H2 : Hid (Below w.heap.size w w2) := Lib.hid (HB.out.trans (hb.mono HB.out.size)); clear hb
  go_wp2
  go_ret
  exact ⟨rfl, H2.out⟩

set_option maxRecDepth 100000 in
theorem upright_20 (E : Nat → Int) (cs : Array Value) (hcs : A13 E cs) (hE : ∀ k, 0 ≤ E k ∧ E k ≤ 255) (w : World) :
    Calls Tryd.prog 80 #[.agg cs, .int .i64 0, .int .i64 2] w fun e w' => e = .returned (.int .i64 (rVR E 2 0)) ∧ Below w.heap.size w w' := by
  have HB := Lib.hid (A13.below w (.cells cs 51))
  have HC := Lib.hid (And.intro hcs hE); clear hcs hE
  have HO := Lib.hid (HC.out.1.obj w)
  have HI := Lib.hid HC.out.1.info
  go_enter Tryd.func80, Tryd.ntmps80
  go_wp2_with (refine wpList_load_row rfl 51 (.tmp 3) rfl w.heap.size rfl 51 cs (0, 0) _ HO.out Tryd.underlying51 rfl HI.out ?_)
  generalize hw1 : World.alloc w _ = w1 at *
  refine (three_any E cs HC.out.1 HC.out.2 3 (by decide) (by decide) w1).mono ?_
  rintro _ w2 ⟨rfl, hb⟩
  have H2 : Hid (Below w.heap.size w w2) := Lib.hid (HB.out.trans (hb.mono HB.out.size)); clear hb
  go_wp2
  go_ret
  exact ⟨rfl, H2.out⟩

set_option maxRecDepth 100000 in
theorem upright_21 (E : Nat → Int) (cs : Array Value) (hcs : A13 E cs) (hE : ∀ k, 0 ≤ E k ∧ E k ≤ 255) (w : World) :
    Calls Tryd.prog 80 #[.agg cs, .int .i64 1, .int .i64 2] w fun e w' => e = .returned (.int .i64 (rVR E 2 1)) ∧ Below w.heap.size w w' := by
  have HB := Lib.hid (A13.below w (.cells cs 51))
  have HC := Lib.hid (And.intro hcs hE); clear hcs hE
  have HO := Lib.hid (HC.out.1.obj w)
  have HI := Lib.hid HC.out.1.info
  go_enter Tryd.func80, Tryd.ntmps80
  go_wp2_with (refine wpList_load_row rfl 51 (.tmp 3) rfl w.heap.size rfl 51 cs (0, 0) _ HO.out Tryd.underlying51 rfl HI.out ?_)
  generalize hw1 : World.alloc w _ = w1 at *
  refine (two_any E cs HC.out.1 HC.out.2 4 (by decide) w1).mono ?_
  rintro _ w2 ⟨rfl, hb⟩
  have H2 : Hid (Below w.heap.size w w2) := Lib.hid (HB.out.trans (hb.mono HB.out.size)); clear hb
  go_wp2
  go_ret
  exact ⟨rfl, H2.out⟩

set_option maxRecDepth 100000 in
theorem upright_22 (E : Nat → Int) (cs : Array Value) (hcs : A13 E cs) (hE : ∀ k, 0 ≤ E k ∧ E k ≤ 255) (w : World) :
    Calls Tryd.prog 80 #[.agg cs, .int .i64 2, .int .i64 2] w fun e w' => e = .returned (.int .i64 (rVR E 2 2)) ∧ Below w.heap.size w w' := by
  have HB := Lib.hid (A13.below w (.cells cs 51))
  have HC := Lib.hid (And.intro hcs hE); clear hcs hE
  have HO := Lib.hid (HC.out.1.obj w)
  have HI := Lib.hid HC.out.1.info
  go_enter Tryd.func80, Tryd.ntmps80
  go_wp2_with (refine wpList_load_row rfl 51 (.tmp 3) rfl w.heap.size rfl 51 cs (0, 0) _ HO.out Tryd.underlying51 rfl HI.out ?_)
  generalize hw1 : World.alloc w _ = w1 at *
  refine (two_any E cs HC.out.1 HC.out.2 5 (by decide) w1).mono ?_
  rintro _ w2 ⟨rfl, hb⟩
  have H2 : Hid (Below w.heap.size w w2) := Lib.hid (HB.out.trans (hb.mono HB.out.size)); clear hb
  go_wp2
  go_ret
  exact ⟨rfl, H2.out⟩

set_option maxRecDepth 100000 in
theorem upright_23 (E : Nat → Int) (cs : Array Value) (hcs : A13 E cs) (hE : ∀ k, 0 ≤ E k ∧ E k ≤ 255) (w : World) :
    Calls Tryd.prog 80 #[.agg cs, .int .i64 3, .int .i64 2] w fun e w' => e = .returned (.int .i64 (rVR E 2 3)) ∧ Below w.heap.size w w' := by
  have HB := Lib.hid (A13.below w (.cells cs 51))
  have HC := Lib.hid (And.intro hcs hE); clear hcs hE
  have HO := Lib.hid (HC.out.1.obj w)
  have HI := Lib.hid HC.out.1.info
  go_enter Tryd.func80, Tryd.ntmps80
  go_wp2_with (refine wpList_load_row rfl 51 (.tmp 3) rfl w.heap.size rfl 51 cs (0, 0) _ HO.out Tryd.underlying51 rfl HI.out ?_)
  generalize hw1 : World.alloc w _ = w1 at *
  refine (two_any E cs HC.out.1 HC.out.2 6 (by decide) w1).mono ?_
  rintro _ w2 ⟨rfl, hb⟩
  have H2 : Hid (Below w.heap.size w w2) := Lib.hid (HB.out.trans (hb.mono HB.out.size)); clear hb
  go_wp2
  go_ret
  exact ⟨rfl, H2.out⟩

set_option maxRecDepth 100000 in
theorem upright_30 (E : Nat → Int) (cs : Array Value) (hcs : A13 E cs) (hE : ∀ k, 0 ≤ E k ∧ E k ≤ 255) (w : World) :
    Calls Tryd.prog 80 #[.agg cs, .int .i64 0, .int .i64 3] w fun e w' => e = .returned (.int .i64 (rVR E 3 0)) ∧ Below w.heap.size w w' := by
  have HB := Lib.hid (A13.below w (.cells cs 51))
  have HC := Lib.hid (And.intro hcs hE); clear hcs hE
  have HO := Lib.hid (HC.out.1.obj w)
  have HI := Lib.hid HC.out.1.info
  go_enter Tryd.func80, Tryd.ntmps80
  go_wp2_with (refine wpList_load_row rfl 51 (.tmp 3) rfl w.heap.size rfl 51 cs (0, 0) _ HO.out Tryd.underlying51 rfl HI.out ?_)
  generalize hw1 : World.alloc w _ = w1 at *
  refine (three_any E cs HC.out.1 HC.out.2 2 (by decide) (by decide) w1).mono ?_
  rintro _ w2 ⟨rfl, hb⟩
  have H2 : Hid (Below w.heap.size w w2) := Lib.hid (HB.out.trans (hb.mono HB.out.size)); clear hb
  go_wp2
  go_ret
  exact ⟨rfl, H2.out⟩

set_option maxRecDepth 100000 in
theorem upright_31 (E : Nat → Int) (cs : Array Value) (hcs : A13 E cs) (hE : ∀ k, 0 ≤ E k ∧ E k ≤ 255) (w : World) :
    Calls Tryd.prog 80 #[.agg cs, .int .i64 1, .int .i64 3] w fun e w' => e = .returned (.int .i64 (rVR E 3 1)) ∧ Below w.heap.size w w' := by
  have HB := Lib.hid (A13.below w (.cells cs 51))
  have HC := Lib.hid (And.intro hcs hE); clear hcs hE
  have HO := Lib.hid (HC.out.1.obj w)
  have HI := Lib.hid HC.out.1.info
  go_enter Tryd.func80, Tryd.ntmps80
  go_wp2_with (refine wpList_load_row rfl 51 (.tmp 3) rfl w.heap.size rfl 51 cs (0, 0) _ HO.out Tryd.underlying51 rfl HI.out ?_)
  generalize hw1 : World.alloc w _ = w1 at *
  refine (three_any E cs HC.out.1 HC.out.2 4 (by decide) (by decide) w1).mono ?_
  rintro _ w2 ⟨rfl, hb⟩
  have H2 : Hid (Below w.heap.size w w2) := Lib.hid (HB.out.trans (hb.mono HB.out.size)); clear hb
  go_wp2
  go_ret
  exact ⟨rfl, H2.out⟩

set_option maxRecDepth 100000 in
theorem upright_32 (E : Nat → Int) (cs : Array Value) (hcs : A13 E cs) (hE : ∀ k, 0 ≤ E k ∧ E k ≤ 255) (w : World) :
    Calls Tryd.prog 80 #[.agg cs, .int .i64 2, .int .i64 3] w fun e w' => e = .returned (.int .i64 (rVR E 3 2)) ∧ Below w.heap.size w w' := by
  have HB := Lib.hid (A13.below w (.cells cs 51))
  have HC := Lib.hid (And.intro hcs hE); clear hcs hE
  have HO := Lib.hid (HC.out.1.obj w)
  have HI := Lib.hid HC.out.1.info
  go_enter Tryd.func80, Tryd.ntmps80
  go_wp2_with (refine wpList_load_row rfl 51 (.tmp 3) rfl w.heap.size rfl 51 cs (0, 0) _ HO.out Tryd.underlying51 rfl HI.out ?_)
  generalize hw1 : World.alloc w _ = w1 at *
  refine (three_any E cs HC.out.1 HC.out.2 5 (by decide) (by decide) w1).mono ?_
  rintro _ w2 ⟨rfl, hb⟩
  have H2 : Hid (Below w.heap.size w w2) := Lib.hid (HB.out.trans (hb.mono HB.out.size)); clear hb
  go_wp2
  go_ret
  exact ⟨rfl, H2.out⟩

set_option maxRecDepth 100000 in
theorem upright_33 (E : Nat → Int) (cs : Array Value) (hcs : A13 E cs) (hE : ∀ k, 0 ≤ E k ∧ E k ≤ 255) (w : World) :
    Calls Tryd.prog 80 #[.agg cs, .int .i64 3, .int .i64 3] w fun e w' => e = .returned (.int .i64 (rVR E 3 3)) ∧ Below w.heap.size w w' := by
  have HB := Lib.hid (A13.below w (.cells cs 51))
  have HC := Lib.hid (And.intro hcs hE); clear hcs hE
  have HO := Lib.hid (HC.out.1.obj w)
  have HI := Lib.hid HC.out.1.info
  go_enter Tryd.func80, Tryd.ntmps80
  go_wp2_with (refine wpList_load_row rfl 51 (.tmp 3) rfl w.heap.size rfl 51 cs (0, 0) _ HO.out Tryd.underlying51 rfl HI.out ?_)
  generalize hw1 : World.alloc w _ = w1 at *
  refine (three_any E cs HC.out.1 HC.out.2 6 (by decide) (by decide) w1).mono ?_
  rintro _ w2 ⟨rfl, hb⟩
  have H2 : Hid (Below w.heap.size w w2) := Lib.hid (HB.out.trans (hb.mono HB.out.size)); clear hb
  go_wp2
  go_ret
  exact ⟨rfl, H2.out⟩

theorem upright_any (E : Nat → Int) (cs : Array Value) (hcs : A13 E cs) (hE : ∀ k, 0 ≤ E k ∧ E k ≤ 255) (i j : Nat) (hi : i < 4) (hj : j < 4) (w : World) :
    Calls Tryd.prog 80 #[.agg cs, .int .i64 i, .int .i64 j] w fun e w' => e = .returned (.int .i64 (rVR E j i)) ∧ Below w.heap.size w w' := by
  have h1 : i = 0 ∨ i = 1 ∨ i = 2 ∨ i = 3 := by omega
  have h2 : j = 0 ∨ j = 1 ∨ j = 2 ∨ j = 3 := by omega
  rcases h2 with rfl | rfl | rfl | rfl
  · rcases h1 with rfl | rfl | rfl | rfl
    · exact upright_00 E cs hcs hE w
    · exact upright_01 E cs hcs hE w
    · exact upright_02 E cs hcs hE w
    · exact upright_03 E cs hcs hE w
  · rcases h1 with rfl | rfl | rfl | rfl
    · exact upright_10 E cs hcs hE w
    · exact upright_11 E cs hcs hE w
    · exact upright_12 E cs hcs hE w
    · exact upright_13 E cs hcs hE w
  · rcases h1 with rfl | rfl | rfl | rfl
    · exact upright_20 E cs hcs hE w
    · exact upright_21 E cs hcs hE w
    · exact upright_22 E cs hcs hE w
    · exact upright_23 E cs hcs hE w
  · rcases h1 with rfl | rfl | rfl | rfl
    · exact upright_30 E cs hcs hE w
    · exact upright_31 E cs hcs hE w
    · exact upright_32 E cs hcs hE w
    · exact upright_33 E cs hcs hE w
end Go.Proofs.YtmdijdoaijnpaaaDoor
