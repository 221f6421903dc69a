/- distanceMap and its door; the reference's Distance. -/
import Derived.Test.YtoafokmghjfpmaaRDoorDistL
namespace Go.Proofs.YtoafokmghjfpmaaRDoor
open Go.RowKit
set_option linter.unusedVariables false

/-- How far a number up to 120 goes back. -/
def farF (c : Nat) (W : Int) : Int := nearF (2 * c) + nearF (2 * c + 1) * W
def backF (c : Nat) (W : Int) : Int := if farF c W < 1 then 1 else farF c W
theorem tab_bits : ∀ i, i < 120 → bits .and .i32 (dTab.getD i 0) 15 = dTab.getD i 0 % 16 := by decide +kernel
theorem far_range (c : Nat) (W : Int) (hc : c < 120) (h1 : 1 ≤ W) (h2 : W ≤ 16384) : -8 ≤ farF c W ∧ farF c W ≤ 200000 ∧ 0 ≤ nearF (2 * c + 1) * W ∧ nearF (2 * c + 1) * W ≤ 163840 := by
  have r := dTab_range c hc
  unfold farF
  rw [nearF_even, nearF_odd]
  have a0 : 0 ≤ dTab.getD c 0 / 16 := by omega
  have a1 : dTab.getD c 0 / 16 ≤ 7 := by omega
  have m0 : 0 ≤ dTab.getD c 0 / 16 * W := Int.mul_nonneg a0 (by omega)
  have m1 : dTab.getD c 0 / 16 * W ≤ 7 * 16384 := Int.mul_le_mul a1 h2 (by omega) (by omega)
  omega

set_option maxRecDepth 100000 in
theorem distMap_hi (W n : Int) (w : World) (h1 : 1 ≤ W) (h2 : W ≤ 16384) (hn1 : 120 < n) (hn2 : n ≤ 1048576) :
    Calls Tryd.prog 4 #[.int .i64 W, .int .i64 n] w fun e w' => e = .returned (.int .i64 (n - 120)) ∧ w = w' := by
  go_enter Tryd.func4, Tryd.ntmps4
  go_wp2_with (first | (go_at_call 9; go_in))
  go_wp2_with (first | (go_at_call 15; go_in))
  go_ret
  exact ⟨rfl, rfl⟩

set_option maxRecDepth 100000 in
set_option maxHeartbeats 800000 in
theorem distMap_lo (W : Int) (c : Nat) (w : World) (ht : TabD w) (h1 : 1 ≤ W) (h2 : W ≤ 16384) (hc : c < 120) :
    Calls Tryd.prog 4 #[.int .i64 W, .int .i64 (c + 1)] w fun e w' => e = .returned (.int .i64 (backF c W)) ∧ w = w' := by
  obtain ⟨f0, f1, f2, f3⟩ := far_range c W hc h1 h2
  have c0 := ht c hc
  have r := dTab_range c hc
  have hb := tab_bits c hc
  have hf : farF c W = 8 - dTab.getD c 0 % 16 + dTab.getD c 0 / 16 * W := by unfold farF; rw [nearF_even, nearF_odd]
  rw [nearF_odd] at f2 f3
  have hB : backF c W = if farF c W < 1 then 1 else farF c W := rfl
  generalize backF c W = R at hB ⊢
  generalize farF c W = F at hf hB f0 f1
  generalize dTab.getD c 0 = x at *
  obtain ⟨r0, r1⟩ := r
  have HF := Lib.hid hf
  have hF2 : x / 16 * W + (8 - x % 16) = F := by omega
  by_cases hlt : F < 1
  · rw [if_pos hlt] at hB
    subst hB
    have HX := Lib.hid hF2
    have hlt' : x / 16 * W + (8 - x % 16) < 1 := by omega
    clear hf ht hF2 f0 f1
    go_enter Tryd.func4, Tryd.ntmps4
    go_wp2_with (first | (go_at_call 9; go_in))
    go_wp2_with (first | (go_at_call 15; go_in))
    go_ret
    exact ⟨rfl, rfl⟩
  · rw [if_neg hlt] at hB
    have HX := Lib.hid (And.intro hF2 hB)
    have hlt' : 1 ≤ x / 16 * W + (8 - x % 16) := by omega
    clear hf ht hF2 f0 f1 hB
    go_enter Tryd.func4, Tryd.ntmps4
    go_wp2_with (first | (go_at_call 9; go_in))
    go_wp2_with (first | (go_at_call 15; go_in))
    go_ret
    exact ⟨ret_int (by rw [HX.out.2, ← HX.out.1]), rfl⟩

set_option maxRecDepth 100000 in
set_option maxHeartbeats 800000 in
theorem back_any (g : Nat) (W : Int) (c : Nat) (w : World) (h1 : 1 ≤ W) (h2 : W ≤ 16384) (hc : c < 120) (hg : SObj w g 29 (cellsOf .i64 240 nearF)) :
    Calls Tryd.prog 14 #[.pointer (some ⟨g, 0, none⟩), .int .i64 (c + 1), .int .i64 W] w fun e w' => e = .returned (.int .i64 (backF c W)) ∧ Below w.heap.size w w' := by
  obtain ⟨f0, f1, f2, f3⟩ := far_range c W hc h1 h2
  have c0 := hg.cell (c * 2) (v := .int .i64 (nearF (2 * c))) (by simp [cellsOf, show c * 2 < 240 by omega, Nat.mul_comm])
  have c1 := hg.cell (c * 2 + 1) (v := .int .i64 (nearF (2 * c + 1))) (by simp [cellsOf, show c * 2 + 1 < 240 by omega, Nat.mul_comm])
  have n0 := nearF_range (2 * c) (by omega)
  have n1 := nearF_range (2 * c + 1) (by omega)
  have hB : backF c W = if farF c W < 1 then 1 else farF c W := rfl
  have hf : farF c W = nearF (2 * c) + nearF (2 * c + 1) * W := rfl
  generalize backF c W = R at hB ⊢
  generalize farF c W = F at hf hB f0 f1
  generalize nearF (2 * c) = a at *
  generalize nearF (2 * c + 1) = b at *
  obtain ⟨n00, n01⟩ := n0
  obtain ⟨n10, n11⟩ := n1
  have HB := Lib.hid (And.intro hB hf)
  rw [hf] at f0 f1
  clear hB hf hg
  go_enter Tryd.func14, Tryd.ntmps14
  go_wp2
  all_goals
    go_ret
    exact ⟨ret_int (by rw [HB.out.1, HB.out.2]; split <;> omega), (Below.refl _ _).alloc (Nat.le_refl _) _⟩

set_option maxRecDepth 100000 in
set_option maxHeartbeats 800000 in
theorem specDist_any (W : Int) (c : Nat) (w : World) (h1 : 1 ≤ W) (h2 : W ≤ 16384) (hc : c < 120) :
    Calls Tryd.prog 7 #[.int .i64 W, .int .i64 (c + 1), .agg (cellsOf .i64 240 nearF).toArray] w fun e w' => e = .returned (.int .i64 (backF c W)) ∧ Below w.heap.size w w' := by
  have HO : Hid (SObj (w.alloc (.cells (cellsOf .i64 240 nearF).toArray 29)) w.heap.size 29 (cellsOf .i64 240 nearF)) := Lib.hid (obj_new _ _ _)
  generalize hvs : (cellsOf .i64 240 nearF).toArray = vs at HO ⊢
  have HV := Lib.hid hvs; clear hvs
  go_enter Tryd.func7, Tryd.ntmps7
  go_wp2_with fail
  refine (back_any w.heap.size W c _ h1 h2 hc HO.out).mono ?_
  rintro _ w1 ⟨rfl, hb⟩
  have HB := Lib.hid hb; clear hb
  go_wp2
  go_ret
  exact ⟨rfl, ((Below.refl _ _).alloc (Nat.le_refl _) _).trans (HB.out.mono (by simp))⟩
end Go.Proofs.YtoafokmghjfpmaaRDoor
