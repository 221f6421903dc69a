/- The law's measures of lists of bytes: zzFits2, sum. -/
import Derived.Test.YthipghkhdlnfiaaDoorOpenS
import Derived.Test.YthipghkhdlnfiaaDoorOnly
import Derived.BigQuiet
import Derived.Deep.QuietTactic
import Derived.WalkSpells
import Derived.Outline
import Derived.Lib.Hide
namespace Go.Proofs.YthipghkhdlnfiaaDoor
open Go.RowKit
set_option linter.unusedVariables false

/-- Whether there are no more, and each is no longer, than fit. -/
def fits2 (L : Nat → Nat) (n : Nat) : Bool := decide (n ≤ 2147483647) && (List.range n).all fun r => decide (L r ≤ 2147483647)
theorem fits2_all {L : Nat → Nat} {n : Nat} (h : fits2 L n = true) : n ≤ 2147483647 ∧ ∀ r, r < n → L r ≤ 2147483647 := by
  unfold fits2 at h
  rw [Bool.and_eq_true, decide_eq_true_eq, List.all_eq_true] at h
  exact ⟨h.1, fun r hr => of_decide_eq_true (h.2 r (List.mem_range.2 hr))⟩
theorem fits2_big {L : Nat → Nat} {n : Nat} (h : 2147483647 < n) : fits2 L n = false := by
  unfold fits2; rw [decide_eq_false (by omega), Bool.false_and]
theorem fits2_bad {L : Nat → Nat} {n i : Nat} (hi : i < n) (h : 2147483647 < L i) : fits2 L n = false := by
  cases hf : fits2 L n
  · rfl
  · have := (fits2_all hf).2 i hi; omega
theorem fits2_ok {L : Nat → Nat} {n : Nat} (hn : n ≤ 2147483647) (h : ∀ r, r < n → L r ≤ 2147483647) : fits2 L n = true := by
  unfold fits2
  rw [Bool.and_eq_true, decide_eq_true_eq, List.all_eq_true]
  exact ⟨hn, fun r hr => decide_eq_true (h r (List.mem_range.1 hr))⟩

set_option maxRecDepth 100000 in
set_option maxHeartbeats 4000000 in
theorem zzFits2_any (a : Option Addr) (n c : Nat) (w : World) (A : Nat → Option Addr) (L C : Nat → Nat) (Z : Nat → Nat → Int) (hr : Rows2 .u8 w a n A L C Z) (hn : n ≤ c) (hc : c ≤ maxLen) :
    Calls Tryd.prog 11 #[.slice a n c] w fun e w' => e = .returned (.bool (fits2 L n)) ∧ w = w' := by
  unfold maxLen at hc
  have HR := Lib.hid hr; clear hr
  by_cases hb : 2147483647 < n
  · have hf := fits2_big (L := L) hb
    rw [hf]
    clear hf
    go_enter Tryd.func11, Tryd.ntmps11
    go_wp2
    go_ret
    exact ⟨rfl, rfl⟩
  · go_enter Tryd.func11, Tryd.ntmps11
    go_wp2
    go_loopw [10] (fun i wr => ∃ k : Nat, k ≤ n ∧ i = .int .i64 k ∧ w = wr ∧ Hid (∀ r, r < k → L r ≤ 2147483647)) (fun i _ => n - (intOf i).toNat)
    case atStart => exact ⟨0, by omega, rfl, rfl, Lib.hid (fun r h => by omega)⟩
    case round =>
      obtain ⟨k, hk, rfl, hw, hall⟩ := hrel
      obtain rfl := hw.symm
      by_cases hlt : k < n
      · obtain ⟨⟨g, o, rfl, hcell⟩, hlc, hcm, _, _, _⟩ := HR.out k hlt
        unfold maxLen at hcm
        have HLC := Lib.hid hlc; clear hlc
        have in0 : L k ≤ 9223372036854775807 := by have := HLC.out; omega
        generalize hL : L k = lk at *
        by_cases hbig : 2147483647 < lk
        · have hf := Lib.hid (fits2_bad (L := L) hlt (by rw [hL]; exact hbig))
          go_wp2
          go_ret
          rw [hf.out]; exact ⟨rfl, rfl⟩
        · go_wp2
          go_roundw
          case rel =>
            refine ⟨k + 1, by omega, by go_num, (by first | rfl | trivial), Lib.hid (fun r hr => ?_)⟩
            rcases (by omega : r < k ∨ r = k) with h | rfl
            · exact hall.out r h
            · omega
          case measure => simp [intOf]; omega
      · obtain rfl : k = n := by omega
        have hf := Lib.hid (fits2_ok (L := L) (by omega) hall.out)
        go_wp2
        go_ret
        rw [hf.out]; exact ⟨rfl, rfl⟩

/-- What sum has reckoned after i lists. -/
def sumI (L : Nat → Nat) (n : Nat) : Nat → Nat
  | 0 => n
  | i + 1 => if sumI L n i ≤ 1048576 then sumI L n i + min (L i) 1048577 else sumI L n i
theorem sumI_over {L : Nat → Nat} {n i : Nat} (h : 1048576 < sumI L n i) : ∀ j, sumI L n (i + j) = sumI L n i
  | 0 => rfl
  | j + 1 => by
    show (if sumI L n (i + j) ≤ 1048576 then _ else sumI L n (i + j)) = _
    rw [sumI_over h j, if_neg (by omega)]
theorem sumI_mono {L : Nat → Nat} {n i : Nat} : sumI L n i ≤ sumI L n (i + 1) := by
  show _ ≤ (if sumI L n i ≤ 1048576 then _ else sumI L n i)
  split <;> omega
theorem sumI_le {L : Nat → Nat} {n : Nat} (i j : Nat) : sumI L n i ≤ sumI L n (i + j) := by
  induction j with
  | zero => exact Nat.le_refl _
  | succ j ih => exact Nat.le_trans ih sumI_mono
theorem sumI_bound {L : Nat → Nat} {n : Nat} (hn : n ≤ 9223372036854775807) : ∀ i, sumI L n i ≤ 9223372036854775807
  | 0 => hn
  | i + 1 => by
    have := sumI_bound (L := L) hn i
    show (if sumI L n i ≤ 1048576 then _ else sumI L n i) ≤ _
    split <;> omega
/-- The lengths of the first i lists. -/
def lens (L : Nat → Nat) : Nat → Nat
  | 0 => 0
  | i + 1 => lens L i + L i
theorem sumI_lens {L : Nat → Nat} {n m : Nat} (h : sumI L n m ≤ 1048576) : ∀ i, i ≤ m → sumI L n i = n + lens L i ∧ ∀ r, r < i → L r ≤ 1048576
  | 0, _ => ⟨rfl, fun r h => by omega⟩
  | i + 1, hi => by
    obtain ⟨h1, h2⟩ := sumI_lens h i (by omega)
    have h3 : sumI L n (i + 1) ≤ 1048576 := by have := sumI_le (L := L) (n := n) (i + 1) (m - (i + 1)); rw [show i + 1 + (m - (i + 1)) = m by omega] at this; omega
    have h4 : sumI L n i ≤ sumI L n (i + 1) := sumI_mono
    have e : sumI L n (i + 1) = sumI L n i + min (L i) 1048577 := by
      show (if sumI L n i ≤ 1048576 then _ else sumI L n i) = _
      rw [if_pos (by omega)]
    refine ⟨?_, fun r hr => ?_⟩
    · show _ = n + (lens L i + L i)
      omega
    · rcases (by omega : r < i ∨ r = i) with h | rfl
      · exact h2 r h
      · omega

set_option maxRecDepth 100000 in
set_option maxHeartbeats 4000000 in
theorem sum_any (a : Option Addr) (n c : Nat) (w : World) (A : Nat → Option Addr) (L C : Nat → Nat) (Z : Nat → Nat → Int) (hr : Rows2 .u8 w a n A L C Z) (hn : n ≤ c) (hc : c ≤ maxLen) :
    Calls Tryd.prog 12 #[.slice a n c] w fun e w' => e = .returned (.int .i64 (sumI L n n : Nat)) ∧ w = w' := by
  unfold maxLen at hc
  have HR := Lib.hid hr; clear hr
  go_enter Tryd.func12, Tryd.ntmps12
  go_wp2
  go_loopw [3, 4] (fun s i wr => ∃ k : Nat, k ≤ n ∧ i = .int .i64 k ∧ s = .int .i64 (sumI L n k : Nat) ∧ w = wr) (fun _ i _ => n - (intOf i).toNat)
  case atStart => exact ⟨0, by omega, rfl, rfl, rfl⟩
  case round =>
    obtain ⟨k, hk, rfl, rfl, hw⟩ := hrel
    obtain rfl := hw.symm
    have sb := sumI_bound (L := L) (n := n) (by omega) k
    by_cases hlt : k < n
    · by_cases hov : 1048576 < sumI L n k
      · have e := sumI_over hov (n - k)
        rw [show k + (n - k) = n by omega] at e
        have HE := Lib.hid e
        clear e
        generalize hS : sumI L n k = s at *
        have HH := Lib.hid hS; clear hS
        go_wp2
        go_ret
        rw [HE.out]; exact ⟨rfl, rfl⟩
      · obtain ⟨⟨g, o, rfl, hcell⟩, hlc, hcm, _, _, _⟩ := HR.out k hlt
        unfold maxLen at hcm
        have e : sumI L n (k + 1) = sumI L n k + min (L k) 1048577 := by
          show (if sumI L n k ≤ 1048576 then _ else sumI L n k) = _
          rw [if_pos (by omega)]
        have HE := Lib.hid e; clear e
        have HLC := Lib.hid hlc; clear hlc
        have in0 : L k ≤ 9223372036854775807 := by have := HLC.out; omega
        generalize hL : L k = lk at *
        generalize hS : sumI L n k = s at *
        have HH := Lib.hid (And.intro hL hS); clear hL hS
        by_cases hm : lk ≤ 1048577
        · have em : (if (lk : Int) ≤ 1048577 then (lk : Int) else 1048577) = (lk : Int) := if_pos (by omega)
          have em2 : min (lk : Int) 1048577 = (lk : Int) := by omega
          go_wp2
          go_roundw
          case rel =>
            refine ⟨k + 1, by omega, by go_num, ?_, (by first | rfl | trivial)⟩
            rw [HE.out]
            go_num
          case measure => simp [intOf]; omega
        · have em : (if (lk : Int) ≤ 1048577 then (lk : Int) else 1048577) = 1048577 := if_neg (by omega)
          have em2 : min (lk : Int) 1048577 = 1048577 := by omega
          go_wp2
          go_roundw
          case rel =>
            refine ⟨k + 1, by omega, by go_num, ?_, (by first | rfl | trivial)⟩
            rw [HE.out]
            go_num
          case measure => simp [intOf]; omega
    · obtain rfl : k = n := by omega
      generalize hS : sumI L k k = s at *
      have HH := Lib.hid hS; clear hS
      go_wp2
      go_ret
      rw [HH.out]; exact ⟨rfl, rfl⟩
end Go.Proofs.YthipghkhdlnfiaaDoor
