/- The laws' isWritten and inRange; the bytes of a slice that came in. -/
import Derived.Test.YtmdijdoaijnpaaaDoorReadBool
namespace Go.Proofs.YtmdijdoaijnpaaaDoor
open Go.RowKit
set_option linter.unusedVariables false

/-- inRange: every number between. -/
def inR (q : Nat → Int) (lo hi : Int) (n : Nat) : Bool := decide (∀ i, i < n → lo ≤ q i ∧ q i ≤ hi)
theorem inR_true {q : Nat → Int} {lo hi : Int} {n : Nat} : inR q lo hi n = true ↔ ∀ i, i < n → lo ≤ q i ∧ q i ≤ hi := by unfold inR; exact decide_eq_true_iff
theorem inRange_any (a : Option Addr) (n c : Nat) (q : Nat → Int) (lo hi : Int) (w : World) (h : Arg .i64 w a n q) (hn : n ≤ 140737488351232) :
    Calls Tryd.prog 14 #[.slice a n c, .int .i64 lo, .int .i64 hi] w fun e w' => e = .returned (.bool (inR q lo hi n)) ∧ w = w' := by
  have H := Lib.hid h; clear h
  go_enter Tryd.func14, Tryd.ntmps14
  go_wp2
  go_loopw [7] (fun i wr => ∃ p : Nat, p ≤ n ∧ i = .int .i64 p ∧ Hid (wr = w ∧ ∀ i, i < p → lo ≤ q i ∧ q i ≤ hi)) (fun i _ => n - (intOf i).toNat)
  case atStart => exact ⟨0, by omega, rfl, rfl, fun i hi => absurd hi (by omega)⟩
  case round =>
    obtain ⟨p, hp, rfl, hR⟩ := hrel
    have hw := hR.out.1
    subst hw
    by_cases hlt : p < n
    · obtain ⟨g, o, rfl, hlt', hr⟩ := H.out (by omega)
      have hc := hr p hlt
      clear hr
      by_cases b1 : q p < lo
      · go_wp2
        go_ret
        have e : inR q lo hi n = false := decide_eq_false (fun h => by have := h p hlt; omega)
        rw [e]
        exact ⟨rfl, rfl⟩
      by_cases b2 : hi < q p
      · go_wp2
        go_ret
        have e : inR q lo hi n = false := decide_eq_false (fun h => by have := h p hlt; omega)
        rw [e]
        exact ⟨rfl, rfl⟩
      go_wp2
      go_roundw
      case rel => exact ⟨p + 1, by omega, by go_num, Lib.hid ⟨by first | rfl | trivial, fun i hi => by
        by_cases h : i < p
        · exact hR.out.2 i h
        · obtain rfl : i = p := by omega
          omega⟩⟩
      case measure => simp [intOf]; omega
    · obtain rfl : p = n := by omega
      go_wp2
      go_ret
      rw [inR_true.2 hR.out.2]
      exact ⟨rfl, rfl⟩

/-- The bytes of a slice that came in. -/
theorem IsRow.bytes {w : World} {a : Option Addr} {n c : Nat} {zs : List Int} (h : IsRow .u8 w a n c zs) :
    ∃ ys : List Int, ys.length = n ∧ Arg .u8 w a n (fun i => ys.getD i 0) ∧ Bytes ys := by
  obtain ⟨h1, h2, h3, h4, h5⟩ := h.arg
  have hl : n ≤ zs.length := by
    rcases h with ⟨rfl, rfl, rfl, rfl⟩ | ⟨x, rfl, hl, hm, hz, _, _⟩
    · exact Nat.le_refl _
    · omega
  have e : ∀ i, i < n → (zs.take n).getD i 0 = zs.getD i 0 := fun i hi => by simp [List.getD, hi]
  refine ⟨zs.take n, by simp [hl], h1.congr (fun i hi => (e i hi).symm), fun i => ?_⟩
  by_cases hi : i < n
  · rw [e i hi]; exact u8_bounds (h5 i)
  · have : (zs.take n).getD i 0 = 0 := by simp [List.getD, List.getElem?_eq_none (show (zs.take n).length ≤ i by simp; omega)]
    omega

theorem Tabs.two {w : World} (h : Tabs w) : 2 ≤ w.heap.size := World.block_lt_of_cell? w _ (h 0 (by decide)).2
end Go.Proofs.YtmdijdoaijnpaaaDoor
