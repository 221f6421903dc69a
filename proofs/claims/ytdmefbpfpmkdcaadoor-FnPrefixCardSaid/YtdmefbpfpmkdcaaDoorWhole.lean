/- The laws' isWholeTree. -/
import Derived.Test.YtdmefbpfpmkdcaaDoorInRange
import Derived.Test.YtdmefbpfpmkdcaaDoorCommon
import Derived.Test.YtdmefbpfpmkdcaaDoorStream
namespace Go.Proofs.YtdmefbpfpmkdcaaDoor
open Go.RowKit
set_option linter.unusedVariables false

/-- How many of the first n have a length. -/
def used (c : Nat → Nat) : Nat → Nat
  | 0 => 0
  | n + 1 => used c n + (if 0 < c n then 1 else 0)
theorem used_le (c : Nat → Nat) (n : Nat) : used c n ≤ n := by
  induction n with
  | zero => exact Nat.le_refl _
  | succ n ih => simp only [used]; split <;> omega
theorem krf_le (c : Nat → Nat) (n : Nat) : krf c n ≤ n * 16384 := by
  induction n with
  | zero => exact Nat.zero_le _
  | succ n ih =>
    rw [Nat.add_mul, Nat.one_mul]
    refine Nat.add_le_add ih ?_
    split
    · exact (Nat.pow_le_pow_right (i := 15 - c n) (j := 14) (by omega) (by omega) : 2 ^ (15 - c n) ≤ 2 ^ 14)
    · exact Nat.zero_le _
def wholeB (c : Nat → Nat) (n : Nat) : Bool := decide (1 < used c n ∧ krf c n = 32768)

theorem shl15 (x : Nat) (hx : x ≤ 15) : wrap64 (2 ^ (15 - x)) = ((2 ^ (15 - x) : Nat) : Int) ∧ 2 ^ (15 - x) ≤ 32768 := by
  have h : (2 : Nat) ^ (15 - x) ≤ 2 ^ 15 := Nat.pow_le_pow_right (by decide) (by omega)
  have e : (2 : Int) ^ (15 - x) = ((2 ^ (15 - x) : Nat) : Int) := by simp
  have h2 : (2 : Nat) ^ (15 - x) ≤ 32768 := h
  rw [e]
  generalize (2 : Nat) ^ (15 - x) = y at h2 ⊢
  exact ⟨IntWalk.wrap64_in _ ⟨by omega, by omega⟩, h2⟩

set_option maxRecDepth 100000 in
set_option maxHeartbeats 800000 in
theorem isWhole_any (a : Option Addr) (n c : Nat) (f : Nat → Int) (w : World) (ha : Arg .i64 w a n f) (hn : n ≤ 4096) (hf : ∀ i, i < n → 0 ≤ f i ∧ f i ≤ 15) :
    Calls Tryd.prog 17 #[.slice a n c] w fun e w' => e = .returned (.bool (wholeB (natF f) n)) ∧ w = w' := by
  have H := Lib.hid (And.intro ha hf); clear ha hf
  go_enter Tryd.func17, Tryd.ntmps17
  go_wp2
  go_loop [3, 4, 5] (fun s m i => ∃ (p S M : Nat), p ≤ n ∧ i = .int .i64 p ∧ s = .int .i64 S ∧ m = .int .i64 M ∧ S ≤ 100000000 ∧ M ≤ 5000 ∧ Hid (S = krf (natF f) p ∧ M = used (natF f) p)) (fun _ _ i => n - (intOf i).toNat)
  case atStart => exact ⟨0, 0, 0, by omega, rfl, rfl, rfl, by decide, by decide, Lib.hid ⟨rfl, rfl⟩⟩
  case round =>
    obtain ⟨p, S, M, hp, rfl, rfl, rfl, s1, m1, hE⟩ := hrel
    by_cases hlt : p < n
    · obtain ⟨g, o, rfl, hg, hr⟩ := H.out.1 (by omega)
      have c0 := hr p hlt
      obtain ⟨x0, x1⟩ := H.out.2 p hlt
      obtain ⟨x, hx⟩ : ∃ x : Nat, (x : Int) = f p := ⟨(f p).toNat, by omega⟩
      have hxn : natF f p = x := by unfold natF; omega
      rw [← hx] at c0 x0 x1
      have x2 : x ≤ 15 := by omega
      have HB := Lib.hid (And.intro (krf_le (natF f) (p + 1)) (used_le (natF f) (p + 1)))
      have HX := Lib.hid hxn
      clear hr hg hx hxn x0 x1
      by_cases hz : 0 < x
      · obtain ⟨e1, e2⟩ := shl15 x x2
        obtain ⟨y, hy⟩ : ∃ y, y = 2 ^ (15 - x) := ⟨_, rfl⟩
        rw [← hy] at e1 e2
        have HY := Lib.hid hy; clear hy
        have hS : Hid (krf (natF f) (p + 1) = S + y ∧ used (natF f) (p + 1) = M + 1) := Lib.hid ⟨by simp only [krf]; rw [HX.out, if_pos hz, ← HY.out, hE.out.1], by simp only [used]; rw [HX.out, if_pos hz, hE.out.2]⟩
        have b1 : S + y ≤ 100000000 := by have := HB.out.1; rw [hS.out.1] at this; omega
        have b2 : M + 1 ≤ 5000 := by have := HB.out.2; rw [hS.out.2] at this; omega
        have hz' : 0 < (x : Int) := by omega
        go_wp2
        go_round
        case rel => exact ⟨p + 1, S + y, M + 1, by omega, by go_num, by go_num, by go_num, b1, b2, Lib.hid ⟨hS.out.1.symm, hS.out.2.symm⟩⟩
        case measure => simp [intOf]; omega
      · obtain rfl : x = 0 := by omega
        go_wp2
        go_round
        case rel =>
          have h1 : krf (natF f) (p + 1) = krf (natF f) p := by simp only [krf]; rw [if_neg (by rw [HX.out]; omega)]; rfl
          have h2 : used (natF f) (p + 1) = used (natF f) p := by simp only [used]; rw [if_neg (by rw [HX.out]; omega)]; rfl
          exact ⟨p + 1, _, _, by omega, by go_num, rfl, rfl, s1, m1, Lib.hid ⟨by rw [h1]; exact hE.out.1, by rw [h2]; exact hE.out.2⟩⟩
        case measure => simp [intOf]; omega
    · obtain rfl : p = n := by omega
      by_cases b1 : 1 < M
      · by_cases b2 : S = 32768
        · have e : wholeB (natF f) p = true := decide_eq_true ⟨by have := hE.out.2; omega, by have := hE.out.1; omega⟩
          have q1 : decide (1 < (M : Int)) = true := by simp; omega
          have q2 : ((S : Int) == 32768) = true := by simp; omega
          have HE := Lib.hid e; clear e b2
          go_wp2
          go_ret
          rw [HE.out]
          exact ⟨rfl, rfl⟩
        · have e : wholeB (natF f) p = false := decide_eq_false (fun h => by have := hE.out.1; omega)
          have q1 : decide (1 < (M : Int)) = true := by simp; omega
          have q2 : ((S : Int) == 32768) = false := by simp; omega
          have HE := Lib.hid e; clear e b2
          go_wp2
          go_ret
          rw [HE.out]
          exact ⟨rfl, rfl⟩
      · have e : wholeB (natF f) p = false := decide_eq_false (fun h => by have := hE.out.2; omega)
        have q1 : decide (1 < (M : Int)) = false := by simp; omega
        have HE := Lib.hid e; clear e
        go_wp2
        go_ret
        rw [HE.out]
        exact ⟨rfl, rfl⟩
end Go.Proofs.YtdmefbpfpmkdcaaDoor
