/- The reference's small predictions: around, each mode. Printed by wip/gen_sp4c.py. -/
import Derived.Test.YtmdijdoaijnpaaaDoorSpUpright
import Derived.Test.YtmdijdoaijnpaaaDoorSpLeaning
import Derived.Test.YtmdijdoaijnpaaaDoorSpLying
import Derived.Test.YtmdijdoaijnpaaaDoorSpRising
import Derived.Test.YtmdijdoaijnpaaaDoorPredS
namespace Go.Proofs.YtmdijdoaijnpaaaDoor
open Go.RowKit
set_option linter.unusedVariables false

/-- What around answers in a mode. -/
def Aro (m : Nat) (R : (Nat → Int) → Nat → Nat → Int) : Prop := ∀ (E : Nat → Int) (cs : Array Value), A13 E cs → (∀ k, 0 ≤ E k ∧ E k ≤ 255) → ∀ (i j : Nat), i < 4 → j < 4 → ∀ (w : World),
  Calls Tryd.prog 48 #[.agg cs, .int .i64 m, .int .i64 i, .int .i64 j] w fun e w' => e = .returned (.int .i64 (R E j i)) ∧ Below w.heap.size w w'
theorem three_at {x : Int} (k : Nat) (hx : x = (k : Int)) (E : Nat → Int) (cs : Array Value) (hcs : A13 E cs) (hE : ∀ k, 0 ≤ E k ∧ E k ≤ 255) (h1 : 1 ≤ k) (h2 : k ≤ 11) (w : World) :
    Calls Tryd.prog 79 #[.agg cs, .int .i64 x] w fun e w' => e = .returned (.int .i64 (th E k)) ∧ Below w.heap.size w w' := by
  subst hx; exact three_any E cs hcs hE k h1 h2 w

set_option maxRecDepth 100000 in
set_option maxHeartbeats 800000 in
theorem aro_DC : Aro 0 rDC := by
  intro E cs hcs hE i j hi hj w
  have HB := Lib.hid (A13.below w (.cells cs 51))
  have HS : Hid (∀ p, p < 4 → (w.alloc (.cells cs 51)).cell? ⟨w.heap.size, p, none⟩ = some (.int .i64 (E p)) ∧ (w.alloc (.cells cs 51)).cell? ⟨w.heap.size, 5 + p, none⟩ = some (.int .i64 (E (5 + p)))) := Lib.hid (fun p hp => ⟨hcs.cell w p (by omega), hcs.cell w (5 + p) (by omega)⟩)
  have HE := Lib.hid hE; clear hcs hE hi hj
  go_enter Tryd.func48, Tryd.ntmps48
  go_wp2
  generalize World.alloc w _ = w1 at *
  go_loopw [9, 10] (fun s i wr => ∃ p : Nat, p ≤ 4 ∧ i = .int .i64 p ∧ s = .int .i64 (4 + sumF E p + sumF (fun k => E (5 + k)) p) ∧ Hid (Below w.heap.size w wr ∧ ∀ p, p < 4 → wr.cell? ⟨w.heap.size, p, none⟩ = some (.int .i64 (E p)) ∧ wr.cell? ⟨w.heap.size, 5 + p, none⟩ = some (.int .i64 (E (5 + p))))) (fun _ i _ => 4 - (intOf i).toNat)
  case atStart => exact ⟨0, by omega, rfl, by simp [sumF], Lib.hid ⟨HB.out, HS.out⟩⟩
  case round =>
    obtain ⟨p, hp, rfl, rfl, hR⟩ := hrel
    obtain ⟨sa, sb⟩ := sumF_in E (fun k => HE.out k) p
    obtain ⟨sc, sd⟩ := sumF_in (fun k => E (5 + k)) (fun k => HE.out _) p
    by_cases hlt : p < 4
    · obtain ⟨c0, c1⟩ := hR.out.2 p hlt
      have HN : Hid (Below w.heap.size w wr.drew ∧ ∀ p, p < 4 → wr.drew.cell? ⟨w.heap.size, p, none⟩ = some (.int .i64 (E p)) ∧ wr.drew.cell? ⟨w.heap.size, 5 + p, none⟩ = some (.int .i64 (E (5 + p)))) := Lib.hid ⟨hR.out.1.drew, hR.out.2⟩
      obtain ⟨a0, a1⟩ := HE.out p
      obtain ⟨b0, b1⟩ := HE.out (5 + p)
      have HQ : Hid (4 + sumF E (p + 1) + sumF (fun k => E (5 + k)) (p + 1) = 4 + sumF E p + sumF (fun k => E (5 + k)) p + (E p + E (5 + p))) := Lib.hid (by simp only [sumF]; omega)
      generalize sumF (fun k => E (5 + k)) p = s2 at *
      generalize sumF E p = s1 at *
      generalize E (5 + p) = e2 at *
      generalize E p = e1 at *
      have q5 : (5 + (p : Int)).toNat = 5 + p := by omega
      have q8 : (0 : Int) ≤ 5 + (p : Int) := by omega
      have hw2 : IntKind.i64.wrap (5 + (p : Int)) = 5 + (p : Int) := IntWalk.i64_in _ (by omega)
      go_wp2_with fail
      go_region
      go_wp2
      go_roundw
      case rel => exact ⟨p + 1, by omega, by go_num, by rw [HQ.out], HN⟩
      case measure => simp [intOf]; omega
    · obtain rfl : p = 4 := by omega
      have HQ : Hid ((4 + sumF E 4 + sumF (fun k => E (5 + k)) 4) / 8 = rDC E j i) := Lib.hid (by simp [sumF, rDC]; omega)
      generalize sumF (fun k => E (5 + k)) 4 = s2 at *
      generalize sumF E 4 = s1 at *
      go_wp2
      go_ret
      exact ⟨ret_i64' (by rw [HQ.out]), hR.out.1⟩

set_option maxRecDepth 100000 in
set_option maxHeartbeats 800000 in
theorem aro_TM : Aro 1 rTM := by
  intro E cs hcs hE i j hi hj w
  have HB := Lib.hid (A13.below w (.cells cs 51))
  have c0 := hcs.cell w (3 - j) (by omega)
  have c1 := hcs.cell w (5 + i) (by omega)
  have c2 := hcs.cell w 4 (by omega)
  obtain ⟨a0, a1⟩ := hE (3 - j)
  obtain ⟨b0, b1⟩ := hE (5 + i)
  obtain ⟨d0, d1⟩ := hE 4
  have HT : Hid (rTM E j i = hld 0 255 (E (3 - j) + E (5 + i) - E 4)) := Lib.hid rfl
  clear hE hcs
  generalize E (3 - j) = ea at *
  generalize E (5 + i) = eb at *
  generalize E 4 = ec at *
  have q1 : (3 - (j : Int)).toNat = 3 - j := by omega
  have q2 : (5 + (i : Int)).toNat = 5 + i := by omega
  have q3 : (0 : Int) ≤ 3 - (j : Int) := by omega
  have q4 : (0 : Int) ≤ 5 + (i : Int) := by omega
  go_enter Tryd.func48, Tryd.ntmps48
  go_wp2
  generalize World.alloc w _ = w1 at *
  have w1' : IntKind.i64.wrap (3 - (j : Int)) = 3 - (j : Int) := IntWalk.i64_in _ (by omega)
  have w2' : IntKind.i64.wrap (5 + (i : Int)) = 5 + (i : Int) := IntWalk.i64_in _ (by omega)
  go_quiet ((go_at_call 30; exact Calls.quiet_of_same ((byteOf_any _ _).mono fun _ _ ⟨a, b⟩ => ⟨a, b.symm⟩)))
  go_wp2
  go_ret
  exact ⟨ret_i64' (by rw [HT.out]), HB.out.trans ⟨rfl, rfl, rfl, Nat.le_refl _, fun _ _ => rfl⟩⟩

set_option maxRecDepth 100000 in
set_option maxHeartbeats 800000 in
theorem aro_VE : Aro 2 rVE := by
  intro E cs hcs hE i j hi hj w
  have HB := Lib.hid (A13.below w (.cells cs 51))
  have HC := Lib.hid (And.intro hcs hE); clear hcs hE
  have HO := Lib.hid (HC.out.1.obj w)
  have HI := Lib.hid HC.out.1.info
  go_enter Tryd.func48, Tryd.ntmps48
  go_wp2_with (refine wpList_load_row rfl 51 (.tmp 4) rfl w.heap.size rfl 51 cs (0, 0) _ HO.out Tryd.underlying51 rfl HI.out ?_)
  generalize hw1 : World.alloc w _ = w1 at *
  refine (three_at (5 + i) (by omega) E cs HC.out.1 HC.out.2 (by omega) (by omega) w1).mono ?_
  rintro _ w2 ⟨rfl, hb⟩
  have H2 : Hid (Below w.heap.size w w2) := Lib.hid (HB.out.trans (hb.mono HB.out.size)); clear hb
  go_wp2
  go_ret
  exact ⟨rfl, H2.out⟩

set_option maxRecDepth 100000 in
set_option maxHeartbeats 800000 in
theorem aro_RD : Aro 4 rRD := by
  intro E cs hcs hE i j hi hj w
  have HB := Lib.hid (A13.below w (.cells cs 51))
  have HC := Lib.hid (And.intro hcs hE); clear hcs hE
  have HO := Lib.hid (HC.out.1.obj w)
  have HI := Lib.hid HC.out.1.info
  go_enter Tryd.func48, Tryd.ntmps48
  go_wp2_with (refine wpList_load_row rfl 51 (.tmp 4) rfl w.heap.size rfl 51 cs (0, 0) _ HO.out Tryd.underlying51 rfl HI.out ?_)
  generalize hw1 : World.alloc w _ = w1 at *
  refine (three_at (4 + i - j) (by omega) E cs HC.out.1 HC.out.2 (by omega) (by omega) w1).mono ?_
  rintro _ w2 ⟨rfl, hb⟩
  have H2 : Hid (Below w.heap.size w w2) := Lib.hid (HB.out.trans (hb.mono HB.out.size)); clear hb
  go_wp2
  go_ret
  exact ⟨rfl, H2.out⟩

set_option maxRecDepth 100000 in
set_option maxHeartbeats 800000 in
theorem aro_HE3 (E : Nat → Int) (cs : Array Value) (hcs : A13 E cs) (hE : ∀ k, 0 ≤ E k ∧ E k ≤ 255) (i j : Nat) (hi : i < 4) (hj : j < 4) (w : World) (hc : j = 3) :
    Calls Tryd.prog 48 #[.agg cs, .int .i64 3, .int .i64 i, .int .i64 j] w fun e w' => e = .returned (.int .i64 (rHE E j i)) ∧ Below w.heap.size w w' := by
  have HB := Lib.hid (A13.below w (.cells cs 51))
  subst hc
  have c0 := hcs.cell w 1 (by decide)
  have c1 := hcs.cell w 0 (by decide)
  obtain ⟨a0, a1⟩ := hE 1
  obtain ⟨b0, b1⟩ := hE 0
  have HT : Hid (rHE E 3 i = (E 1 + 3 * E 0 + 2) / 4) := Lib.hid rfl
  clear hE hcs
  generalize E 1 = ea at *
  generalize E 0 = eb at *
  go_enter Tryd.func48, Tryd.ntmps48
  go_wp2
  go_ret
  exact ⟨ret_i64' (by rw [HT.out]), HB.out⟩

set_option maxRecDepth 100000 in
set_option maxHeartbeats 800000 in
theorem aro_HE0 (E : Nat → Int) (cs : Array Value) (hcs : A13 E cs) (hE : ∀ k, 0 ≤ E k ∧ E k ≤ 255) (i j : Nat) (hi : i < 4) (hj : j < 4) (w : World) (hc : ¬ j = 3) :
    Calls Tryd.prog 48 #[.agg cs, .int .i64 3, .int .i64 i, .int .i64 j] w fun e w' => e = .returned (.int .i64 (rHE E j i)) ∧ Below w.heap.size w w' := by
  have HB := Lib.hid (A13.below w (.cells cs 51))
  have ht : ((j : Int) == 3) = false := by simp; omega
  have HR : Hid (rHE E j i = th E (3 - j)) := Lib.hid (by unfold rHE; rw [if_neg hc])
  have hj3 : 1 ≤ 3 - j := by omega
  clear hc
  have HC := Lib.hid (And.intro hcs hE); clear hcs hE
  have HO := Lib.hid (HC.out.1.obj w)
  have HI := Lib.hid HC.out.1.info
  go_enter Tryd.func48, Tryd.ntmps48
  go_wp2_with (refine wpList_load_row rfl 51 (.tmp 4) rfl w.heap.size rfl 51 cs (0, 0) _ HO.out Tryd.underlying51 rfl HI.out ?_)
  generalize hw1 : World.alloc w _ = w1 at *
  refine (three_at (3 - j) (by omega) E cs HC.out.1 HC.out.2 hj3 (by omega) w1).mono ?_
  rintro _ w2 ⟨rfl, hb⟩
  have H2 : Hid (Below w.heap.size w w2) := Lib.hid (HB.out.trans (hb.mono HB.out.size)); clear hb
  go_wp2
  go_ret
  exact ⟨ret_i64' (by rw [HR.out]), H2.out⟩

theorem aro_HE : Aro 3 rHE := by
  intro E cs hcs hE i j hi hj w
  by_cases h : j = 3
  · exact aro_HE3 E cs hcs hE i j hi hj w h
  · exact aro_HE0 E cs hcs hE i j hi hj w h

set_option maxRecDepth 100000 in
set_option maxHeartbeats 800000 in
theorem aro_LD3 (E : Nat → Int) (cs : Array Value) (hcs : A13 E cs) (hE : ∀ k, 0 ≤ E k ∧ E k ≤ 255) (i j : Nat) (hi : i < 4) (hj : j < 4) (w : World) (hc : i + j = 6) :
    Calls Tryd.prog 48 #[.agg cs, .int .i64 6, .int .i64 i, .int .i64 j] w fun e w' => e = .returned (.int .i64 (rLD E j i)) ∧ Below w.heap.size w w' := by
  have HB := Lib.hid (A13.below w (.cells cs 51))
  obtain ⟨rfl, rfl⟩ : i = 3 ∧ j = 3 := by omega
  clear hc hi hj
  have c0 := hcs.cell w 11 (by decide)
  have c1 := hcs.cell w 12 (by decide)
  obtain ⟨a0, a1⟩ := hE 11
  obtain ⟨b0, b1⟩ := hE 12
  have HT : Hid (rLD E 3 3 = (E 11 + 3 * E 12 + 2) / 4) := Lib.hid rfl
  clear hE hcs
  generalize E 11 = ea at *
  generalize E 12 = eb at *
  go_enter Tryd.func48, Tryd.ntmps48
  go_wp2
  go_ret
  exact ⟨ret_i64' (by rw [HT.out]), HB.out⟩

set_option maxRecDepth 100000 in
set_option maxHeartbeats 800000 in
theorem aro_LD0 (E : Nat → Int) (cs : Array Value) (hcs : A13 E cs) (hE : ∀ k, 0 ≤ E k ∧ E k ≤ 255) (i j : Nat) (hi : i < 4) (hj : j < 4) (w : World) (hc : ¬ i + j = 6) :
    Calls Tryd.prog 48 #[.agg cs, .int .i64 6, .int .i64 i, .int .i64 j] w fun e w' => e = .returned (.int .i64 (rLD E j i)) ∧ Below w.heap.size w w' := by
  have HB := Lib.hid (A13.below w (.cells cs 51))
  have ht : ((i : Int) + j == 6) = false := by simp; omega
  have hw0 : IntKind.i64.wrap ((i : Int) + j) = (i : Int) + j := IntWalk.i64_in _ (by omega)
  have hj3 : 6 + i + j ≤ 11 := by omega
  have HR : Hid (rLD E j i = th E (6 + i + j)) := Lib.hid (by unfold rLD; rw [if_neg hc])
  clear hc
  have HC := Lib.hid (And.intro hcs hE); clear hcs hE
  have HO := Lib.hid (HC.out.1.obj w)
  have HI := Lib.hid HC.out.1.info
  go_enter Tryd.func48, Tryd.ntmps48
  go_wp2_with (refine wpList_load_row rfl 51 (.tmp 4) rfl w.heap.size rfl 51 cs (0, 0) _ HO.out Tryd.underlying51 rfl HI.out ?_)
  generalize hw1 : World.alloc w _ = w1 at *
  refine (three_at (6 + i + j) (by omega) E cs HC.out.1 HC.out.2 (by omega) hj3 w1).mono ?_
  rintro _ w2 ⟨rfl, hb⟩
  have H2 : Hid (Below w.heap.size w w2) := Lib.hid (HB.out.trans (hb.mono HB.out.size)); clear hb
  go_wp2
  go_ret
  exact ⟨ret_i64' (by rw [HR.out]), H2.out⟩

theorem aro_LD : Aro 6 rLD := by
  intro E cs hcs hE i j hi hj w
  by_cases h : i + j = 6
  · exact aro_LD3 E cs hcs hE i j hi hj w h
  · exact aro_LD0 E cs hcs hE i j hi hj w h

set_option maxRecDepth 100000 in
set_option maxHeartbeats 800000 in
theorem aro_VR : Aro 5 rVR := by
  intro E cs hcs hE i j hi hj w
  have HB := Lib.hid (A13.below w (.cells cs 51))
  have HC := Lib.hid (And.intro hcs hE); clear hcs hE
  have HO := Lib.hid (HC.out.1.obj w)
  have HI := Lib.hid HC.out.1.info
  go_enter Tryd.func48, Tryd.ntmps48
  go_wp2_with (refine wpList_load_row rfl 51 (.tmp 4) rfl w.heap.size rfl 51 cs (0, 0) _ HO.out Tryd.underlying51 rfl HI.out ?_)
  generalize hw1 : World.alloc w _ = w1 at *
  refine (upright_any E cs HC.out.1 HC.out.2 i j hi hj w1).mono ?_
  rintro _ w2 ⟨rfl, hb⟩
  have H2 : Hid (Below w.heap.size w w2) := Lib.hid (HB.out.trans (hb.mono HB.out.size)); clear hb
  go_wp2
  go_ret
  exact ⟨rfl, H2.out⟩

set_option maxRecDepth 100000 in
set_option maxHeartbeats 800000 in
theorem aro_VL : Aro 7 rVL := by
  intro E cs hcs hE i j hi hj w
  have HB := Lib.hid (A13.below w (.cells cs 51))
  have HC := Lib.hid (And.intro hcs hE); clear hcs hE
  have HO := Lib.hid (HC.out.1.obj w)
  have HI := Lib.hid HC.out.1.info
  go_enter Tryd.func48, Tryd.ntmps48
  go_wp2_with (refine wpList_load_row rfl 51 (.tmp 4) rfl w.heap.size rfl 51 cs (0, 0) _ HO.out Tryd.underlying51 rfl HI.out ?_)
  generalize hw1 : World.alloc w _ = w1 at *
  refine (leaning_any E cs HC.out.1 HC.out.2 i j hi hj w1).mono ?_
  rintro _ w2 ⟨rfl, hb⟩
  have H2 : Hid (Below w.heap.size w w2) := Lib.hid (HB.out.trans (hb.mono HB.out.size)); clear hb
  go_wp2
  go_ret
  exact ⟨rfl, H2.out⟩

set_option maxRecDepth 100000 in
set_option maxHeartbeats 800000 in
theorem aro_HD : Aro 8 rHD := by
  intro E cs hcs hE i j hi hj w
  have HB := Lib.hid (A13.below w (.cells cs 51))
  have HC := Lib.hid (And.intro hcs hE); clear hcs hE
  have HO := Lib.hid (HC.out.1.obj w)
  have HI := Lib.hid HC.out.1.info
  go_enter Tryd.func48, Tryd.ntmps48
  go_wp2_with (refine wpList_load_row rfl 51 (.tmp 4) rfl w.heap.size rfl 51 cs (0, 0) _ HO.out Tryd.underlying51 rfl HI.out ?_)
  generalize hw1 : World.alloc w _ = w1 at *
  refine (lying_any E cs HC.out.1 HC.out.2 i j hi hj w1).mono ?_
  rintro _ w2 ⟨rfl, hb⟩
  have H2 : Hid (Below w.heap.size w w2) := Lib.hid (HB.out.trans (hb.mono HB.out.size)); clear hb
  go_wp2
  go_ret
  exact ⟨rfl, H2.out⟩

set_option maxRecDepth 100000 in
set_option maxHeartbeats 800000 in
theorem aro_HU : Aro 9 rHU := by
  intro E cs hcs hE i j hi hj w
  have HB := Lib.hid (A13.below w (.cells cs 51))
  have HC := Lib.hid (And.intro hcs hE); clear hcs hE
  have HO := Lib.hid (HC.out.1.obj w)
  have HI := Lib.hid HC.out.1.info
  go_enter Tryd.func48, Tryd.ntmps48
  go_wp2_with (refine wpList_load_row rfl 51 (.tmp 4) rfl w.heap.size rfl 51 cs (0, 0) _ HO.out Tryd.underlying51 rfl HI.out ?_)
  generalize hw1 : World.alloc w _ = w1 at *
  refine (rising_any E cs HC.out.1 HC.out.2 i j hi hj w1).mono ?_
  rintro _ w2 ⟨rfl, hb⟩
  have H2 : Hid (Below w.heap.size w w2) := Lib.hid (HB.out.trans (hb.mono HB.out.size)); clear hb
  go_wp2
  go_ret
  exact ⟨rfl, H2.out⟩
end Go.Proofs.YtmdijdoaijnpaaaDoor
