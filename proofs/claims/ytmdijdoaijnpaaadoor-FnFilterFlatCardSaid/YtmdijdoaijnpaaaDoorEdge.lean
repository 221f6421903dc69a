/- The laws' isEdge (the text of FiltE's, without what stands below it). -/
import Derived.Test.YtmdijdoaijnpaaaDoorInR
namespace Go.Proofs.YtmdijdoaijnpaaaDoor
open Go.RowKit
set_option linter.unusedVariables false

theorem mul_bd (i : Nat) (S : Int) (hi : i ≤ 16) (h1 : -16384 ≤ S) (h2 : S ≤ 16384) : -300000 ≤ (i : Int) * S ∧ (i : Int) * S ≤ 300000 := by
  have a : (i : Int) * S ≤ 16 * 16384 := by
    by_cases h : 0 ≤ S
    · exact Int.mul_le_mul (by omega) h2 h (by omega)
    · have : (i : Int) * S ≤ 0 := Int.mul_nonpos_of_nonneg_of_nonpos (by omega) (by omega)
      omega
  have b : -(16 * 16384) ≤ (i : Int) * S := by
    by_cases h : 0 ≤ S
    · have : 0 ≤ (i : Int) * S := Int.mul_nonneg (by omega) h
      omega
    · have : (i : Int) * (-S) ≤ 16 * 16384 := Int.mul_le_mul (by omega) (by omega) (by omega) (by omega)
      rw [Int.mul_neg] at this
      omega
  omega
theorem mul_bd4 (j : Nat) (J : Int) (hj : j ≤ 8) (h1 : -16384 ≤ J) (h2 : J ≤ 16384) : -400000 ≤ ((j : Int) - 4) * J ∧ ((j : Int) - 4) * J ≤ 400000 := by
  have e : ((j : Int) - 4) * J = (j : Int) * J - 4 * J := by rw [Int.sub_mul]
  have := mul_bd j J (by omega) h1 h2
  rw [e]; omega

/-- All eight values of n lines stand in the list. -/
def edgeP (m n : Nat) (I S J : Int) : Prop := m ≤ 16384 ∧ (-16384 ≤ I ∧ I ≤ 16384) ∧ (-16384 ≤ S ∧ S ≤ 16384) ∧ (-16384 ≤ J ∧ J ≤ 16384) ∧ ∀ i, i < n → ∀ j : Nat, j < 8 → 0 ≤ I + (i : Int) * S + ((j : Int) - 4) * J ∧ I + (i : Int) * S + ((j : Int) - 4) * J < m
instance (m n : Nat) (I S J : Int) : Decidable (edgeP m n I S J) := by unfold edgeP; infer_instance
def edgeB (m n : Nat) (I S J : Int) : Bool := decide (edgeP m n I S J)
def three (I S J : Int) (i : Nat) : Int := if i = 0 then I else if i = 1 then S else J
theorem three_iff (I S J : Int) : inR (three I S J) (-16384) 16384 3 = true ↔ (-16384 ≤ I ∧ I ≤ 16384) ∧ (-16384 ≤ S ∧ S ≤ 16384) ∧ (-16384 ≤ J ∧ J ≤ 16384) := by
  rw [inR_true]
  constructor
  · intro h; exact ⟨h 0 (by decide), h 1 (by decide), h 2 (by decide)⟩
  · rintro ⟨h0, h1, h2⟩ i hi
    obtain rfl | rfl | rfl : i = 0 ∨ i = 1 ∨ i = 2 := by omega
    · exact h0
    · exact h1
    · exact h2

set_option maxRecDepth 100000 in
set_option maxHeartbeats 2000000 in
theorem isEdge_any (a : Option Addr) (m c n : Nat) (I S J : Int) (w : World) (hm : m ≤ 9223372036854775807) (hn : n ≤ 16) :
    Calls Tryd.prog 12 #[.slice a m c, .int .i64 n, .int .i64 4, .int .i64 I, .int .i64 S, .int .i64 J] w fun e w' => e = .returned (.bool (edgeB m n I S J)) ∧ Below w.heap.size w w' := by
  by_cases h1 : m ≤ 16384
  · have HA : Hid (Arg .i64 (w.alloc (.cells #[.int .i64 I, .int .i64 S, .int .i64 J] 3)) (some ⟨w.heap.size, 0, none⟩) 3 (three I S J)) := Lib.hid (fun _ => ⟨w.heap.size, 0, rfl, by simp, fun i hi => by
      rw [Nat.zero_add, cell_of_row _ _ i _ _ _ (heap_alloc_new w _)]
      obtain rfl | rfl | rfl : i = 0 ∨ i = 1 ∨ i = 2 := by omega
      all_goals rfl⟩)
    have m1 : decide (16384 < (m : Int)) = false := by simp; omega
    have HB : Hid (Below w.heap.size w (w.alloc (.cells #[.int .i64 I, .int .i64 S, .int .i64 J] 3))) := Lib.hid ((Below.refl _ _).alloc (Nat.le_refl _) _)
    cases hin : inR (three I S J) (-16384) 16384 3 with
    | false =>
      have he : Hid (edgeB m n I S J = false) := Lib.hid (decide_eq_false (fun h => by
        have := (three_iff I S J).2 ⟨h.2.1, h.2.2.1, h.2.2.2.1⟩
        rw [hin] at this; cases this))
      have HI := Lib.hid hin; clear hin
      go_enter Tryd.func12, Tryd.ntmps12
      go_wp2_with fail
      refine (inRange_any _ 3 3 (three I S J) (-16384) 16384 _ HA.out (by omega)).mono ?_
      rintro _ _ ⟨rfl, rfl⟩
      rw [HI.out]
      go_wp2
      go_ret
      rw [he.out]
      exact ⟨rfl, HB.out⟩
    | true =>
      obtain ⟨⟨I0, I1⟩, ⟨S0, S1⟩, ⟨J0, J1⟩⟩ := (three_iff I S J).1 hin
      have HI := Lib.hid hin; clear hin
      go_enter Tryd.func12, Tryd.ntmps12
      go_wp2_with fail
      refine (inRange_any _ 3 3 (three I S J) (-16384) 16384 _ HA.out (by omega)).mono ?_
      rintro _ _ ⟨rfl, rfl⟩
      rw [HI.out]
      go_wp2
      generalize World.alloc w _ = w1 at HB ⊢
      clear HA
      go_loopw [13] (fun i wr => ∃ p : Nat, p ≤ n ∧ i = .int .i64 p ∧ Hid (wr = w1 ∧ ∀ i, i < p → ∀ j : Nat, j < 8 → 0 ≤ I + (i : Int) * S + ((j : Int) - 4) * J ∧ I + (i : Int) * S + ((j : Int) - 4) * J < m)) (fun i _ => n - (intOf i).toNat)
      case atStart => exact ⟨0, by omega, rfl, Lib.hid ⟨rfl, fun i hi => absurd hi (by omega)⟩⟩
      case round =>
        obtain ⟨p, hp, rfl, hR⟩ := hrel
        obtain rfl := hR.out.1.symm
        by_cases hlt : p < n
        · obtain ⟨x0, x1⟩ := mul_bd p S (by omega) S0 S1
          have hR2 := Lib.hid hR.out.2
          clear hR
          go_wp2
          go_loopw [14] (fun i wx => ∃ k : Nat, k ≤ 8 ∧ i = .int .i64 ((k : Int) - 4) ∧ Hid (wx = w1 ∧ ∀ j : Nat, j < k → 0 ≤ I + (p : Int) * S + ((j : Int) - 4) * J ∧ I + (p : Int) * S + ((j : Int) - 4) * J < m)) (fun i _ => 8 - (intOf i + 4).toNat)
          case atStart => exact ⟨0, by omega, rfl, Lib.hid ⟨rfl, fun i hi => absurd hi (by omega)⟩⟩
          case round =>
            obtain ⟨k, hk, rfl, hQ⟩ := hrel
            obtain rfl := hQ.out.1.symm
            obtain ⟨x2, x3⟩ := mul_bd4 k J (by omega) J0 J1
            by_cases hlk : k < 8
            · by_cases b0 : I + (p : Int) * S + ((k : Int) - 4) * J < 0
              · have he : Hid (edgeB m n I S J = false) := Lib.hid (decide_eq_false (fun h => by have := (h.2.2.2.2 p hlt k hlk).1; omega))
                have b0b : decide (I + (p : Int) * S + ((k : Int) - 4) * J < 0) = true := by simpa using b0
                go_wp2
                go_ret
                rw [he.out]
                exact ⟨rfl, HB.out⟩
              have b0b : decide (I + (p : Int) * S + ((k : Int) - 4) * J < 0) = false := by simpa using b0
              by_cases b1 : (m : Int) ≤ I + (p : Int) * S + ((k : Int) - 4) * J
              · have he : Hid (edgeB m n I S J = false) := Lib.hid (decide_eq_false (fun h => by have := (h.2.2.2.2 p hlt k hlk).2; omega))
                have b1b : decide ((m : Int) ≤ I + (p : Int) * S + ((k : Int) - 4) * J) = true := by simpa using b1
                go_wp2
                go_ret
                rw [he.out]
                exact ⟨rfl, HB.out⟩
              have b1b : decide ((m : Int) ≤ I + (p : Int) * S + ((k : Int) - 4) * J) = false := by simpa using b1
              have HK : Hid (0 ≤ I + (p : Int) * S + ((k : Int) - 4) * J ∧ I + (p : Int) * S + ((k : Int) - 4) * J < m) := Lib.hid ⟨by omega, by omega⟩
              go_wp2
              go_roundw
              case rel => exact ⟨k + 1, by omega, by (congr 1; omega), Lib.hid ⟨by first | rfl | trivial, fun j hj => by
                by_cases h : j < k
                · exact hQ.out.2 j h
                · obtain rfl : j = k := by omega
                  exact HK.out⟩⟩
              case measure => simp [intOf]; omega
            · obtain rfl : k = 8 := by omega
              go_wp2
              go_roundw
              case rel => exact ⟨p + 1, by omega, by go_num, Lib.hid ⟨by first | rfl | trivial, fun i hi => by
                by_cases h : i < p
                · exact hR2.out i h
                · obtain rfl : i = p := by omega
                  exact hQ.out.2⟩⟩
              case measure => simp [intOf]; omega
        · obtain rfl : p = n := by omega
          have he : Hid (edgeB m p I S J = true) := Lib.hid (decide_eq_true ⟨h1, ⟨I0, I1⟩, ⟨S0, S1⟩, ⟨J0, J1⟩, hR.out.2⟩)
          go_wp2
          go_ret
          rw [he.out]
          exact ⟨rfl, HB.out⟩
  · have he : Hid (edgeB m n I S J = false) := Lib.hid (decide_eq_false (fun h => h1 h.1))
    have m1 : decide (16384 < (m : Int)) = true := by simp; omega
    go_enter Tryd.func12, Tryd.ntmps12
    go_wp2
    go_ret
    rw [he.out]
    exact ⟨rfl, Below.refl _ _⟩
end Go.Proofs.YtmdijdoaijnpaaaDoor
