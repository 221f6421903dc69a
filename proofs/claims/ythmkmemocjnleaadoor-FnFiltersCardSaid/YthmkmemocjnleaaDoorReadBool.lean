/- laws.readBool holds. -/
import Derived.Test.YthmkmemocjnleaaDoorCommon
namespace Go.Proofs.YthmkmemocjnleaaDoor
open Go.RowKit
set_option linter.unusedVariables false

theorem Tabs.below {w w' : World} (h : Tabs w) (h2 : 2 ≤ w.heap.size) (hb : Below w.heap.size w w') : Tabs w' := fun i hi => by
  have k : ∀ b, b < 2 → b < w.heap.size := fun b hb => by omega
  exact ⟨by rw [hb.cell (k _ (Nat.lt_of_le_of_lt (Nat.le_refl _) (by decide +revert)))]; exact (h i hi).1, by rw [hb.cell (k _ (Nat.lt_of_le_of_lt (Nat.le_refl _) (by decide +revert)))]; exact (h i hi).2⟩

theorem done_states : ∀ i, i < 33 → 0 ≤ (stepsW ([], 1278, 21) i).2.1 ∧ (stepsW ([], 1278, 21) i).2.1 < 2147483648 ∧ (stepsW ([], 1278, 21) i).1.length ≤ 1000 ∧ 0 ≤ (stepsW ([], 1278, 21) i).2.2 ∧ (stepsW ([], 1278, 21) i).2.2 ≤ 100 := by decide +kernel
theorem done_bytes : (stepsW ([], 1278, 21) 32).1 = [159, 192] := by decide +kernel
def zsRB : List Int := [159, 192, 0, 0, 0, 0]
theorem rb_bytes : Bytes zsRB := fun i => by
  by_cases h : i < 6
  · exact (by decide +kernel : ∀ i, i < 6 → 0 ≤ zsRB.getD i 0 ∧ zsRB.getD i 0 ≤ 255) i h
  · have : zsRB.getD i 0 = 0 := by simp [zsRB, List.getD, show 6 ≤ i by omega]
    omega
theorem rb_out : outP zsRB (fun _ => 128) 0 = true ∧ outP zsRB (fun _ => 128) 1 = false ∧ outP zsRB (fun _ => 128) 2 = true ∧ (stP zsRB (fun _ => 128) 3).eof = false := by decide +kernel

theorem Own.arg' {k : IntKind} {B : Nat} {w : World} {a : Option Addr} {n : Nat} {f : Nat → Int} (h : Own k B w a n f) : Arg k w a n f := h.arg

set_option maxRecDepth 100000 in
set_option maxHeartbeats 800000 in
theorem readBool_any (w : World) (ht : Tabs w) (h2 : 2 ≤ w.heap.size) :
    Calls Tryd.prog 11 #[] w fun e w' => e = .returned (.bool true) ∧ Below w.heap.size w w' := by
  have H0 := Lib.hid ht; clear ht
  go_enter Tryd.func11, Tryd.ntmps11
  go_wp2_with fail
  refine (new_any w).mono ?_
  rintro _ w1 ⟨rfl, hb, hbel⟩
  have H1 := Lib.hid (And.intro hb hbel); clear hb hbel
  go_wp2_with fail
  refine (flag_one true w.heap.size w.heap.size [] 0 255 24 128 w1 H1.out.1 (by decide) (by decide) (by decide) (by decide) (by decide) (by decide) (by decide) (by decide) (by decide) (by decide) (by decide)).mono ?_
  rintro _ w2 ⟨rfl, hb, hbel⟩
  have H2 := Lib.hid (And.intro hb (H1.out.2.trans hbel)); clear hb hbel
  go_wp2_with fail
  refine (flag_one false w.heap.size w.heap.size [] 256 254 23 127 w2 H2.out.1 (by decide) (by decide) (by decide) (by decide) (by decide) (by decide) (by decide) (by decide) (by decide) (by decide) (by decide)).mono ?_
  rintro _ w3 ⟨rfl, hb, hbel⟩
  have H3 := Lib.hid (And.intro hb (H2.out.2.trans hbel)); clear hb hbel
  go_wp2_with fail
  refine (flag_one true w.heap.size w.heap.size [] 512 254 22 127 w3 H3.out.1 (by decide) (by decide) (by decide) (by decide) (by decide) (by decide) (by decide) (by decide) (by decide) (by decide) (by decide)).mono ?_
  rintro _ w4 ⟨rfl, hb, hbel⟩
  have H4 := Lib.hid (And.intro hb (H3.out.2.trans hbel)); clear hb hbel
  go_wp2_with fail
  refine (done_any w.heap.size w.heap.size ([], 1278, 21) 254 w4 H4.out.1 done_states).mono ?_
  rintro _ w5 ⟨⟨a, c, rfl, ho⟩, hbel⟩
  have H5 := Lib.hid (And.intro ho (H4.out.2.trans hbel)); clear ho hbel
  rw [done_bytes] at H5 ⊢
  go_wp2_with fail
  have hlt : 2 ≤ (w5.alloc (.cells #[.int .i64 128, .int .i64 128, .int .i64 128] 3)).heap.size := by have := H5.out.2.size; simp; omega
  have hal : Hid (Below w.heap.size w5 (w5.alloc (.cells #[.int .i64 128, .int .i64 128, .int .i64 128] 3))) := Lib.hid ((Below.refl _ _).alloc H5.out.2.size _)
  refine (Bools_any a 6 c zsRB (some ⟨w5.heap.size, 0, none⟩) 3 3 (fun _ => 128) (w5.alloc (.cells #[.int .i64 128, .int .i64 128, .int .i64 128] 3)) ?_ hlt rfl ?_ rb_bytes (by decide) (by decide) ?_ (fun _ => by decide) (by decide)).mono ?_
  · exact (H0.out.below h2 (H5.out.2.trans hal.out))
  · exact H5.out.1.arg.alloc _
  · intro _
    refine ⟨_, 0, rfl, by simp, fun i hi => ?_⟩
    rw [Nat.zero_add, cell_of_row _ _ i _ _ _ (heap_alloc_new w5 _)]
    obtain rfl | rfl | rfl : i = 0 ∨ i = 1 ∨ i = 2 := by omega
    all_goals rfl
  rintro _ w6 ⟨⟨a6, c6, rfl, ho⟩, hbel⟩
  obtain ⟨g6, rfl, g1, g2, g3⟩ := ho (by decide)
  have d0 := g3 0 (by decide)
  have d1 := g3 1 (by decide)
  have d2 := g3 2 (by decide)
  rw [rb_out.1] at d0
  rw [rb_out.2.1] at d1
  rw [rb_out.2.2.1] at d2
  rw [rb_out.2.2.2]
  have H6 := Lib.hid (And.intro (H5.out.2.trans hal.out) hbel)
  clear hbel g3 g1 ho
  go_wp2
  go_ret
  refine ⟨rfl, H6.out.1.trans (H6.out.2.mono ?_)⟩
  exact H6.out.1.size
end Go.Proofs.YthmkmemocjnleaaDoor
