/- The walk of FnBools. -/
import Derived.Test.YthmkmemocjnleaaDoorBoolsS
import Derived.Test.YthmkmemocjnleaaDoorReadBool
namespace Go.Proofs.YthmkmemocjnleaaDoor
open Go.RowKit
set_option linter.unusedVariables false

/-- isWritten: no more than 2^20 bytes, the first not 255. -/
def isWr (n : Nat) (zs : List Int) : Bool := decide (n ≤ 1048576) && (n == 0 || zs.getD 0 0 != 255)
theorem isWritten_any (a : Option Addr) (n c : Nat) (zs : List Int) (w : World) (h : Arg .u8 w a n (fun i => zs.getD i 0)) (hn : n ≤ 140737488351232) :
    Calls Tryd.prog 9 #[.slice a n c] w fun e w' => e = .returned (.bool (isWr n zs)) ∧ w = w' := by
  by_cases h0 : n = 0
  · subst h0
    clear h
    go_enter Tryd.func9, Tryd.ntmps9
    go_wp2
    go_ret
    exact ⟨rfl, rfl⟩
  · obtain ⟨g, o, rfl, hlt, hr⟩ := h (by omega)
    obtain ⟨x, hx⟩ : ∃ x, x = zs.getD 0 0 := ⟨_, rfl⟩
    have c0 : w.cell? ⟨g, o, none⟩ = some (.int .u8 x) := by rw [hx]; exact hr 0 (by omega)
    have n0 : ((n : Int) == 0) = false := by simp; omega
    clear h
    by_cases h1 : n ≤ 1048576
    · have e : isWr n zs = (x != 255) := by rw [hx]; simp [isWr, h1, h0]
      rw [e]
      clear hr e hx
      go_enter Tryd.func9, Tryd.ntmps9
      go_wp2
      go_ret
      exact ⟨rfl, rfl⟩
    · have e : isWr n zs = false := by simp [isWr, h1]
      rw [e]
      clear hr e hx
      go_enter Tryd.func9, Tryd.ntmps9
      go_wp2
      go_ret
      exact ⟨rfl, rfl⟩

/-- inRange: every number between. -/
def inR (q : Nat → Int) (lo hi : Int) (n : Nat) : Bool := decide (∀ i, i < n → lo ≤ q i ∧ q i ≤ hi)
theorem inR_true {q : Nat → Int} {lo hi : Int} {n : Nat} : inR q lo hi n = true ↔ ∀ i, i < n → lo ≤ q i ∧ q i ≤ hi := by unfold inR; exact decide_eq_true_iff
def sameB (F G : Nat → Bool) (n : Nat) : Bool := decide (∀ i, i < n → F i = G i)
theorem inRange_any (a : Option Addr) (n c : Nat) (q : Nat → Int) (lo hi : Int) (w : World) (h : Arg .i64 w a n q) (hn : n ≤ 140737488351232) :
    Calls Tryd.prog 10 #[.slice a n c, .int .i64 lo, .int .i64 hi] w fun e w' => e = .returned (.bool (inR q lo hi n)) ∧ w = w' := by
  have H := Lib.hid h; clear h
  go_enter Tryd.func10, Tryd.ntmps10
  go_wp2
  go_loopw [7] (fun i wr => ∃ p : Nat, p ≤ n ∧ i = .int .i64 p ∧ Hid (wr = w ∧ ∀ i, i < p → lo ≤ q i ∧ q i ≤ hi)) (fun i _ => n - (intOf i).toNat)
  case atStart => exact ⟨0, by omega, rfl, rfl, fun i hi => absurd hi (by omega)⟩
  case round =>
    obtain ⟨p, hp, rfl, hR⟩ := hrel
    have hw := hR.out.1
    subst hw
    by_cases hlt : p < n
    · obtain ⟨g, o, rfl, hlt', hr⟩ := H.out (by omega)
      have hc := hr p hlt
      clear hr
      by_cases b1 : q p < lo
      · go_wp2
        go_ret
        have e : inR q lo hi n = false := decide_eq_false (fun h => by have := h p hlt; omega)
        rw [e]
        exact ⟨rfl, rfl⟩
      by_cases b2 : hi < q p
      · go_wp2
        go_ret
        have e : inR q lo hi n = false := decide_eq_false (fun h => by have := h p hlt; omega)
        rw [e]
        exact ⟨rfl, rfl⟩
      go_wp2
      go_roundw
      case rel => exact ⟨p + 1, by omega, by go_num, Lib.hid ⟨by first | rfl | trivial, fun i hi => by
        by_cases h : i < p
        · exact hR.out.2 i h
        · obtain rfl : i = p := by omega
          omega⟩⟩
      case measure => simp [intOf]; omega
    · obtain rfl : p = n := by omega
      go_wp2
      go_ret
      rw [inR_true.2 hR.out.2]
      exact ⟨rfl, rfl⟩

/-- truths: whether two rows of truths are equal. -/
theorem truths_any (a : Option Addr) (n c : Nat) (F : Nat → Bool) (B : Nat) (b : Option Addr) (m d : Nat) (G : Nat → Bool) (w : World) (h1 : OwnB B w a n F) (h2 : OwnB B w b m G) (hn : n ≤ 4096) (hm : m = n) :
    Calls Tryd.prog 14 #[.slice a n c, .slice b m d] w fun e w' => e = .returned (.bool (sameB F G n)) ∧ Below w.heap.size w w' := by
  subst hm
  have H := Lib.hid (And.intro h1 h2); clear h1 h2
  go_enter Tryd.func14, Tryd.ntmps14
  go_wp2
  go_loopw [5] (fun i wr => ∃ p : Nat, p ≤ m ∧ i = .int .i64 p ∧ Hid (Below w.heap.size w wr ∧ ∀ i, i < p → F i = G i)) (fun i _ => m - (intOf i).toNat)
  case atStart => exact ⟨0, by omega, rfl, Below.refl _ _, fun i hi => absurd hi (by omega)⟩
  case round =>
    obtain ⟨p, hp, rfl, hR⟩ := hrel
    by_cases hlt : p < m
    · obtain ⟨g1, rfl, _, l1, r1⟩ := H.out.1 (by omega)
      obtain ⟨g2, rfl, _, l2, r2⟩ := H.out.2 (by omega)
      have c1 : wr.cell? ⟨g1, p, none⟩ = some (.bool (F p)) := (hR.out.1.cell (p := ⟨g1, p, none⟩) l1).trans (r1 p hlt)
      have c2 : wr.cell? ⟨g2, p, none⟩ = some (.bool (G p)) := (hR.out.1.cell (p := ⟨g2, p, none⟩) l2).trans (r2 p hlt)
      clear r1 r2
      obtain ⟨x, hx⟩ : ∃ x, x = F p := ⟨_, rfl⟩
      obtain ⟨y, hy⟩ : ∃ y, y = G p := ⟨_, rfl⟩
      rw [← hx] at c1
      rw [← hy] at c2
      have HXY := Lib.hid (And.intro hx hy); clear hx hy
      go_wp2
      go_quiet (fail)
      go_wp2
      · go_ret
        have e : sameB F G m = false := decide_eq_false (fun h => by have := h p hlt; rw [← HXY.out.1, ← HXY.out.2] at this; subst this; simp_all)
        rw [e]
        exact ⟨rfl, below_drewN hR.out.1 _⟩
      · go_roundw
        case rel => exact ⟨p + 1, by omega, by go_num, below_drewN hR.out.1 _, fun i hi => by
          by_cases h : i < p
          · exact hR.out.2 i h
          · obtain rfl : i = p := by omega
            rw [← HXY.out.1, ← HXY.out.2]
            simp_all⟩
        case measure => simp [intOf]; omega
    · obtain rfl : p = m := by omega
      go_wp2
      go_ret
      have e : sameB F G p = true := decide_eq_true hR.out.2
      rw [e]
      exact ⟨rfl, hR.out.1⟩

/-- The bytes of a slice that came in. -/
theorem IsRow.bytes {w : World} {a : Option Addr} {n c : Nat} {zs : List Int} (h : IsRow .u8 w a n c zs) :
    ∃ ys : List Int, ys.length = n ∧ Arg .u8 w a n (fun i => ys.getD i 0) ∧ Bytes ys := by
  obtain ⟨h1, h2, h3, h4, h5⟩ := h.arg
  have hl : n ≤ zs.length := by
    rcases h with ⟨rfl, rfl, rfl, rfl⟩ | ⟨x, rfl, hl, hm, hz, _, _⟩
    · exact Nat.le_refl _
    · omega
  have e : ∀ i, i < n → (zs.take n).getD i 0 = zs.getD i 0 := fun i hi => by simp [List.getD, hi]
  refine ⟨zs.take n, by simp [hl], h1.congr (fun i hi => (e i hi).symm), fun i => ?_⟩
  by_cases hi : i < n
  · rw [e i hi]; exact u8_bounds (h5 i)
  · have : (zs.take n).getD i 0 = 0 := by simp [List.getD, List.getElem?_eq_none (show (zs.take n).length ≤ i by simp; omega)]
    omega

set_option maxRecDepth 100000 in
set_option maxHeartbeats 800000 in
theorem fnBools_good (w : World) (ht : Tabs w) (h2 : 2 ≤ w.heap.size) (a0 : Option Addr) (n0 c0 : Nat) (zs : List Int) (a1 : Option Addr) (n1 c1 : Nat) (q : Nat → Int) (hl : zs.length = n0) (hrow : Arg .u8 w a0 n0 (fun i => zs.getD i 0)) (hz : Bytes zs)
    (hw : isWr n0 zs = true) (hp : Arg .i64 w a1 n1 q) (hn1 : n1 ≤ 4096) (hr : inR q 0 255 n1 = true) :
    Calls Tryd.prog 3 #[.slice a0 n0 c0, .slice a1 n1 c1] w fun e w' => e = .returned (.bool true) ∧ Below w.heap.size w w' := by
  have hn0 : n0 ≤ 1048576 := by simp [isWr] at hw; exact hw.1
  have h255 : zs.getD 0 0 ≠ 255 := by
    by_cases h : n0 = 0
    · have : zs = [] := List.length_eq_zero_iff.1 (hl.trans h)
      subst this; decide
    · simp only [isWr, Bool.and_eq_true, Bool.or_eq_true, bne_iff_ne, ne_eq] at hw
      rcases hw.2 with h' | h'
      · simp at h'; exact absurd h' h
      · exact h'
  have hq0 := inR_true.1 hr
  -- outside the slice the probabilities are of no account
  obtain ⟨p, hpq, hp01⟩ : ∃ p : Nat → Int, (∀ i, i < n1 → p i = q i) ∧ ∀ i, 0 ≤ p i ∧ p i ≤ 255 := ⟨fun i => if i < n1 then q i else 0, fun i hi => if_pos hi, fun i => by
    by_cases h : i < n1
    · simp only [if_pos h]; exact hq0 i h
    · simp [if_neg h]⟩
  have hp' : Arg .i64 w a1 n1 p := hp.congr (fun i hi => (hpq i hi).symm)
  have HS : Hid ((stP zs p n1).eof = false → sameB (outP zs p) (outS zs p) n1 = true) := Lib.hid (fun h => decide_eq_true (both zs p hz h255 hp01 n1 h).2)
  have H := Lib.hid (And.intro ht (And.intro hl (And.intro hrow (And.intro hz (And.intro h255 (And.intro hw (And.intro hp (And.intro hr (And.intro hp' hp01)))))))))
  clear ht hl hrow hz h255 hw hp hr hq0 hpq hp01 hp'
  go_enter Tryd.func3, Tryd.ntmps3
  go_wp2_with fail
  refine (isWritten_any a0 n0 c0 zs w H.out.2.2.1 (by omega)).mono ?_
  rintro _ _ ⟨rfl, rfl⟩
  rw [H.out.2.2.2.2.2.1]
  go_wp2_with fail
  refine (inRange_any a1 n1 c1 q 0 255 w H.out.2.2.2.2.2.2.1 (by omega)).mono ?_
  rintro _ _ ⟨rfl, rfl⟩
  rw [H.out.2.2.2.2.2.2.2.1]
  go_wp2_with fail
  refine (Bools_any a0 n0 c0 zs a1 n1 c1 p w H.out.1 h2 H.out.2.1 H.out.2.2.1 H.out.2.2.2.1 H.out.2.2.2.2.1 hn0 H.out.2.2.2.2.2.2.2.2.1 H.out.2.2.2.2.2.2.2.2.2 hn1).mono ?_
  rintro _ w1 ⟨⟨ra, rc, rfl, ro⟩, b1⟩
  have H1 := Lib.hid (And.intro ro b1); clear ro b1
  go_wp2_with fail
  refine (BoolsS_any a0 n0 c0 zs a1 n1 c1 p w1 H.out.2.1 (H.out.2.2.1.below H1.out.2) H.out.2.2.2.1 H.out.2.2.2.2.1 hn0 (H.out.2.2.2.2.2.2.2.2.1.below H1.out.2) H.out.2.2.2.2.2.2.2.2.2 hn1).mono ?_
  rintro _ w2 ⟨⟨sa, sc, sb, rfl, so⟩, b2⟩
  have H2 := Lib.hid (And.intro (OwnB.below H1.out.1 b2) (And.intro so (H1.out.2.trans (b2.mono H1.out.2.size)))); clear so b2
  have hs2 : 2 ≤ w2.heap.size := by have := H2.out.2.2.size; omega
  cases he : (stP zs p n1).eof with
  | true =>
    go_wp2_with fail
    refine (readBool_any w2 (H.out.1.below h2 H2.out.2.2) hs2).mono ?_
    rintro _ w3 ⟨rfl, b3⟩
    have H3 := Lib.hid (H2.out.2.2.trans (b3.mono H2.out.2.2.size)); clear b3
    go_wp2
    go_ret
    exact ⟨rfl, H3.out⟩
  | false =>
    have hsame := HS.out he
    go_wp2_with fail
    refine (truths_any ra n1 rc (outP zs p) w.heap.size sa n1 sc (outS zs p) w2 H2.out.1 (fun h0 => by obtain ⟨g, e1, e2, e3⟩ := H2.out.2.1 h0; exact ⟨g, e1, Nat.le_trans H1.out.2.size e2, e3⟩) hn1 rfl).mono ?_
    rintro _ w3 ⟨rfl, b3⟩
    have H3 := Lib.hid (H2.out.2.2.trans (b3.mono H2.out.2.2.size)); clear b3
    have hs3 : 2 ≤ w3.heap.size := by have := H3.out.size; omega
    rw [hsame]
    go_wp2_with fail
    refine (readBool_any w3 (H.out.1.below h2 H3.out) hs3).mono ?_
    rintro _ w4 ⟨rfl, b4⟩
    have H4 := Lib.hid (H3.out.trans (b4.mono H3.out.size)); clear b4
    go_wp2
    go_ret
    exact ⟨rfl, H4.out⟩

theorem Tabs.two {w : World} (h : Tabs w) : 2 ≤ w.heap.size := by
  have := World.block_lt_of_cell? w _ (h 0 (by decide)).2
  exact this

set_option maxRecDepth 100000 in
set_option maxHeartbeats 800000 in
theorem fnBools_walk (w : World) (ht : Tabs w) (a0 : Option Addr) (n0 c0 : Nat) (z0 : List Int) (h0 : IsRow .u8 w a0 n0 c0 z0) (a1 : Option Addr) (n1 c1 : Nat) (z1 : List Int) (h1 : IsRow .i64 w a1 n1 c1 z1) :
    Calls Tryd.prog 3 #[.slice a0 n0 c0, .slice a1 n1 c1] w fun e w' => e = .returned (.bool true) ∧ Below w.heap.size w w' := by
  have h2 := ht.two
  have m0 : n0 ≤ 9223372036854775807 := by have := h0.arg.2.1; have := h0.arg.2.2.1; unfold maxLen at this; omega
  have m1 : n1 ≤ 9223372036854775807 := by have := h1.arg.2.1; have := h1.arg.2.2.1; unfold maxLen at this; omega
  obtain ⟨zs, hl, hrow, hz⟩ := h0.bytes
  have hp := h1.arg.1
  clear h0
  generalize hq : (fun i => z1.getD i 0) = q at hp
  clear hq h1
  by_cases b0 : 2147483647 < n0
  · clear hl hrow hz hp ht
    go_enter Tryd.func3, Tryd.ntmps3
    go_wp2
    go_ret
    exact ⟨rfl, Below.refl _ _⟩
  by_cases b1 : 2147483647 < n1
  · clear hl hrow hz hp ht
    go_enter Tryd.func3, Tryd.ntmps3
    go_wp2
    go_ret
    exact ⟨rfl, Below.refl _ _⟩
  cases hw : isWr n0 zs with
  | false =>
    have H := Lib.hid (And.intro ht (And.intro hrow hw)); clear ht hl hrow hz hw hp
    go_enter Tryd.func3, Tryd.ntmps3
    go_wp2_with fail
    refine (isWritten_any a0 n0 c0 zs w H.out.2.1 (by omega)).mono ?_
    rintro _ _ ⟨rfl, rfl⟩
    rw [H.out.2.2]
    go_wp2_with fail
    refine (readBool_any w H.out.1 h2).mono ?_
    rintro _ w3 ⟨rfl, b3⟩
    have H3 := Lib.hid b3; clear b3
    go_wp2
    go_ret
    exact ⟨rfl, H3.out⟩
  | true =>
    by_cases b4 : 4096 < n1
    · have H := Lib.hid (And.intro ht (And.intro hrow hw)); clear ht hl hrow hz hw hp
      go_enter Tryd.func3, Tryd.ntmps3
      go_wp2_with fail
      refine (isWritten_any a0 n0 c0 zs w H.out.2.1 (by omega)).mono ?_
      rintro _ _ ⟨rfl, rfl⟩
      rw [H.out.2.2]
      go_wp2_with fail
      refine (readBool_any w H.out.1 h2).mono ?_
      rintro _ w3 ⟨rfl, b3⟩
      have H3 := Lib.hid b3; clear b3
      go_wp2
      go_ret
      exact ⟨rfl, H3.out⟩
    cases hr : inR q 0 255 n1 with
    | true => exact fnBools_good w ht h2 a0 n0 c0 zs a1 n1 c1 q hl hrow hz hw hp (by omega) hr
    | false =>
      have H := Lib.hid (And.intro ht (And.intro hrow (And.intro hw (And.intro hp hr)))); clear ht hl hrow hz hw hp hr
      go_enter Tryd.func3, Tryd.ntmps3
      go_wp2_with fail
      refine (isWritten_any a0 n0 c0 zs w H.out.2.1 (by omega)).mono ?_
      rintro _ _ ⟨rfl, rfl⟩
      rw [H.out.2.2.1]
      go_wp2_with fail
      refine (inRange_any a1 n1 c1 q 0 255 w H.out.2.2.2.1 (by omega)).mono ?_
      rintro _ _ ⟨rfl, rfl⟩
      rw [H.out.2.2.2.2]
      go_wp2_with fail
      refine (readBool_any w H.out.1 h2).mono ?_
      rintro _ w3 ⟨rfl, b3⟩
      have H3 := Lib.hid b3; clear b3
      go_wp2
      go_ret
      exact ⟨rfl, H3.out⟩
end Go.Proofs.YthmkmemocjnleaaDoor
