/- The walk of FnLiterals. -/
import Derived.Test.YthmkmemocjnleaaDoorLitsS
import Derived.Test.YthmkmemocjnleaaDoorFnBoolsWalk
import Derived.Test.YthmkmemocjnleaaDoorOpenArr
namespace Go.Proofs.YthmkmemocjnleaaDoor
open Go.RowKit
set_option linter.unusedVariables false

/-- isLiterals. -/
instance (f : Nat → Int) (n : Nat) : Decidable (LitOk f n) := inferInstanceAs (Decidable (∀ i, i < n → 0 ≤ f (i * 3) ∧ f (i * 3) ≤ 2 ∧ 0 ≤ f (i * 3 + 1) ∧ f (i * 3 + 1) ≤ 255 ∧ 0 ≤ f (i * 3 + 2) ∧ f (i * 3 + 2) ≤ 24))
def isLit (f : Nat → Int) (n : Nat) : Bool := decide (n ≤ 4096 ∧ LitOk f n)
theorem isLit_true {f : Nat → Int} {n : Nat} : isLit f n = true ↔ n ≤ 4096 ∧ LitOk f n := by unfold isLit; exact decide_eq_true_iff
theorem isLit_false {f : Nat → Int} {n : Nat} (h : ¬ (n ≤ 4096 ∧ LitOk f n)) : isLit f n = false := by
  cases e : isLit f n with
  | false => rfl
  | true => exact absurd (isLit_true.1 e) h

set_option maxRecDepth 100000 in
set_option maxHeartbeats 1600000 in
theorem isLiterals_any (a : Option Addr) (n c : Nat) (f : Nat → Int) (w : World) (h : Arg .i64 w a (n * 3) f) (hn : n ≤ 9223372036854775807) :
    Calls Tryd.prog 15 #[.slice a n c] w fun e w' => e = .returned (.bool (isLit f n)) ∧ w = w' := by
  have H := Lib.hid h; clear h
  by_cases hbig : 4096 < n
  · rw [isLit_false (fun h => by omega)]
    go_enter Tryd.func15, Tryd.ntmps15
    go_wp2
    go_ret
    exact ⟨rfl, rfl⟩
  · have hn2 : n ≤ 4096 := by omega
    go_enter Tryd.func15, Tryd.ntmps15
    go_wp2
    go_loopw [3] (fun i wr => ∃ p : Nat, p ≤ n ∧ i = .int .i64 p ∧ Hid (w = wr ∧ LitOk f p)) (fun i _ => n - (intOf i).toNat)
    case atStart => exact ⟨0, by omega, rfl, rfl, fun i hi => absurd hi (by omega)⟩
    case round =>
      obtain ⟨p, hp, rfl, hR⟩ := hrel
      have hw := hR.out.1
      subst hw
      by_cases hlt : p < n
      · obtain ⟨ga, oa, rfl, hga, ra⟩ := H.out (by omega)
        have k0 := ra (p * 3) (by omega)
        have k1 := ra (p * 3 + 1) (by omega)
        have k2 := ra (p * 3 + 2) (by omega)
        obtain ⟨x0, e0⟩ : ∃ x, x = f (p * 3) := ⟨_, rfl⟩
        obtain ⟨x1, e1⟩ : ∃ x, x = f (p * 3 + 1) := ⟨_, rfl⟩
        obtain ⟨x2, e2⟩ : ∃ x, x = f (p * 3 + 2) := ⟨_, rfl⟩
        rw [← e0] at k0
        rw [← e1, ← Nat.add_assoc] at k1
        rw [← e2, ← Nat.add_assoc] at k2
        have HE := Lib.hid (And.intro e0 (And.intro e1 e2))
        clear e0 e1 e2 ra
        by_cases b0 : x0 < 0
        · have e : isLit f n = false := isLit_false (fun h => by
            have := h.2 p hlt
            rw [← HE.out.1, ← HE.out.2.1, ← HE.out.2.2] at this
            omega)
          have e := Lib.hid e
          go_wp2
          go_ret
          try rw [e.out]
          exact ⟨rfl, rfl⟩
        by_cases b1 : 2 < x0
        · have e : isLit f n = false := isLit_false (fun h => by
            have := h.2 p hlt
            rw [← HE.out.1, ← HE.out.2.1, ← HE.out.2.2] at this
            omega)
          have e := Lib.hid e
          go_wp2
          go_ret
          try rw [e.out]
          exact ⟨rfl, rfl⟩
        by_cases b2 : x1 < 0
        · have e : isLit f n = false := isLit_false (fun h => by
            have := h.2 p hlt
            rw [← HE.out.1, ← HE.out.2.1, ← HE.out.2.2] at this
            omega)
          have e := Lib.hid e
          go_wp2
          go_ret
          try rw [e.out]
          exact ⟨rfl, rfl⟩
        by_cases b3 : 255 < x1
        · have e : isLit f n = false := isLit_false (fun h => by
            have := h.2 p hlt
            rw [← HE.out.1, ← HE.out.2.1, ← HE.out.2.2] at this
            omega)
          have e := Lib.hid e
          go_wp2
          go_ret
          try rw [e.out]
          exact ⟨rfl, rfl⟩
        by_cases b4 : x2 < 0
        · have e : isLit f n = false := isLit_false (fun h => by
            have := h.2 p hlt
            rw [← HE.out.1, ← HE.out.2.1, ← HE.out.2.2] at this
            omega)
          have e := Lib.hid e
          go_wp2
          go_ret
          try rw [e.out]
          exact ⟨rfl, rfl⟩
        by_cases b5 : 24 < x2
        · have e : isLit f n = false := isLit_false (fun h => by
            have := h.2 p hlt
            rw [← HE.out.1, ← HE.out.2.1, ← HE.out.2.2] at this
            omega)
          have e := Lib.hid e
          go_wp2
          go_ret
          try rw [e.out]
          exact ⟨rfl, rfl⟩
        go_wp2
        go_roundw
        case rel => exact ⟨p + 1, by omega, by go_num, Lib.hid ⟨by first | rfl | trivial, fun i hi => by
          by_cases h : i < p
          · exact hR.out.2 i h
          · obtain rfl : i = p := by omega
            rw [← HE.out.1, ← HE.out.2.1, ← HE.out.2.2]
            omega⟩⟩
        case measure => simp [intOf]; omega
      · obtain rfl : p = n := by omega
        have e := Lib.hid (isLit_true.2 ⟨hn2, hR.out.2⟩)
        go_wp2
        go_ret
        try rw [e.out]
        exact ⟨rfl, rfl⟩

def sameI (F G : Nat → Int) (n : Nat) : Bool := decide (∀ i, i < n → F i = G i)
/-- ints: whether two rows of numbers are equal. -/
theorem ints_any (a : Option Addr) (n c : Nat) (F : Nat → Int) (b : Option Addr) (m d : Nat) (G : Nat → Int) (w : World) (h1 : Arg .i64 w a n F) (h2 : Arg .i64 w b m G) (hn : n ≤ 4096) (hm : m = n) :
    Calls Tryd.prog 18 #[.slice a n c, .slice b m d] w fun e w' => e = .returned (.bool (sameI F G n)) ∧ Below w.heap.size w w' := by
  subst hm
  have H := Lib.hid (And.intro h1 h2); clear h1 h2
  go_enter Tryd.func18, Tryd.ntmps18
  go_wp2
  go_loopw [5] (fun i wr => ∃ p : Nat, p ≤ m ∧ i = .int .i64 p ∧ Hid (Below w.heap.size w wr ∧ ∀ i, i < p → F i = G i)) (fun i _ => m - (intOf i).toNat)
  case atStart => exact ⟨0, by omega, rfl, Below.refl _ _, fun i hi => absurd hi (by omega)⟩
  case round =>
    obtain ⟨p, hp, rfl, hR⟩ := hrel
    by_cases hlt : p < m
    · obtain ⟨g1, o1, rfl, l1, r1⟩ := H.out.1 (by omega)
      obtain ⟨g2, o2, rfl, l2, r2⟩ := H.out.2 (by omega)
      have c1 : wr.cell? ⟨g1, o1 + p, none⟩ = some (.int .i64 (F p)) := (hR.out.1.cell (p := ⟨g1, o1 + p, none⟩) l1).trans (r1 p hlt)
      have c2 : wr.cell? ⟨g2, o2 + p, none⟩ = some (.int .i64 (G p)) := (hR.out.1.cell (p := ⟨g2, o2 + p, none⟩) l2).trans (r2 p hlt)
      clear r1 r2
      obtain ⟨x, hx⟩ : ∃ x, x = F p := ⟨_, rfl⟩
      obtain ⟨y, hy⟩ : ∃ y, y = G p := ⟨_, rfl⟩
      rw [← hx] at c1
      rw [← hy] at c2
      have HXY := Lib.hid (And.intro hx hy); clear hx hy
      go_wp2
      go_quiet (fail)
      go_wp2
      · go_ret
        have e : sameI F G m = false := decide_eq_false (fun h => by have := h p hlt; rw [← HXY.out.1, ← HXY.out.2] at this; subst this; simp_all)
        rw [e]
        exact ⟨rfl, below_drewN hR.out.1 _⟩
      · go_roundw
        case rel => exact ⟨p + 1, by omega, by go_num, below_drewN hR.out.1 _, fun i hi => by
          by_cases h : i < p
          · exact hR.out.2 i h
          · obtain rfl : i = p := by omega
            rw [← HXY.out.1, ← HXY.out.2]
            simp_all⟩
        case measure => simp [intOf]; omega
    · obtain rfl : p = m := by omega
      go_wp2
      go_ret
      have e : sameI F G p = true := decide_eq_true hR.out.2
      rw [e]
      exact ⟨rfl, hR.out.1⟩

/-- What holds of both decoders while the package's has bytes. -/
def RS (zs : List Int) (d : DS) (s : SS) : Prop := OKP zs d ∧ Rel zs d s
def BothGood (zs : List Int) : Prop := Bytes zs ∧ zs.getD 0 0 ≠ 255
theorem step_both (zs : List Int) (hz : BothGood zs) (d : DS) (s : SS) (h : RS zs d s) (p : Int) (hp0 : 0 ≤ p) (hp1 : p ≤ 255) (he : (stepP zs d p).2.eof = false) :
    d.eof = false ∧ (stepP zs d p).1 = (stepS zs s p).1 ∧ RS zs (stepP zs d p).2 (stepS zs s p).2 := by
  obtain ⟨e1, e2⟩ := stepP_eof zs d p he
  obtain ⟨s1, s2⟩ := step_rel zs d s h.1 hz.1 hz.2 h.2 e2 p hp0 hp1
  exact ⟨e1, s1, stepP_ok zs d h.1 hz.1 hz.2 p hp0 hp1, s2⟩
/-- An end once met stays. -/
theorem eof_bits (zs : List Int) (p : Int) (k : Nat) : ∀ (acc : Int) (d : DS), (bitsG (stepP zs) p k acc d).2.eof = false → d.eof = false := by
  induction k with
  | zero => intro acc d h; exact h
  | succ k ih => intro acc d h; rw [bitsG] at h; exact (stepP_eof zs d p (ih _ _ h)).1
theorem bits_both (zs : List Int) (hz : BothGood zs) (p : Int) (hp0 : 0 ≤ p) (hp1 : p ≤ 255) (k : Nat) : ∀ (acc : Int) (d : DS) (s : SS), RS zs d s → (bitsG (stepP zs) p k acc d).2.eof = false →
    (bitsG (stepP zs) p k acc d).1 = (bitsG (stepS zs) p k acc s).1 ∧ RS zs (bitsG (stepP zs) p k acc d).2 (bitsG (stepS zs) p k acc s).2 := by
  induction k with
  | zero => intro acc d s h _; exact ⟨rfl, h⟩
  | succ k ih =>
    intro acc d s h he
    rw [bitsG] at he
    obtain ⟨_, h2, h3⟩ := step_both zs hz d s h p hp0 hp1 (eof_bits zs p k _ _ he)
    rw [bitsG, bitsG, ← h2]
    exact ih _ _ _ h3 he
theorem eof_sign (zs : List Int) (p : Int) (k : Nat) (d : DS) (h : (signG (stepP zs) p k d).2.eof = false) : d.eof = false := by
  unfold signG at h
  exact eof_bits zs p k _ _ (stepP_eof zs _ p h).1
theorem sign_both (zs : List Int) (hz : BothGood zs) (p : Int) (hp0 : 0 ≤ p) (hp1 : p ≤ 255) (k : Nat) (d : DS) (s : SS) (h : RS zs d s) (he : (signG (stepP zs) p k d).2.eof = false) :
    (signG (stepP zs) p k d).1 = (signG (stepS zs) p k s).1 ∧ RS zs (signG (stepP zs) p k d).2 (signG (stepS zs) p k s).2 := by
  unfold signG at he ⊢
  simp only at he ⊢
  obtain ⟨b1, b2⟩ := bits_both zs hz p hp0 hp1 k 0 d s h (stepP_eof zs _ p he).1
  obtain ⟨_, c1, c2⟩ := step_both zs hz _ _ b2 p hp0 hp1 he
  rw [b1, c1]
  exact ⟨rfl, c2⟩
theorem eof_opt (zs : List Int) (p : Int) (k : Nat) (d : DS) (h : (optG (stepP zs) p k d).2.eof = false) : d.eof = false := by
  unfold optG at h
  split at h
  · exact (stepP_eof zs _ p (eof_sign zs p k _ h)).1
  · exact (stepP_eof zs _ p h).1
theorem opt_both (zs : List Int) (hz : BothGood zs) (p : Int) (hp0 : 0 ≤ p) (hp1 : p ≤ 255) (k : Nat) (d : DS) (s : SS) (h : RS zs d s) (he : (optG (stepP zs) p k d).2.eof = false) :
    (optG (stepP zs) p k d).1 = (optG (stepS zs) p k s).1 ∧ RS zs (optG (stepP zs) p k d).2 (optG (stepS zs) p k s).2 := by
  have e0 : (stepP zs d p).2.eof = false := by
    unfold optG at he
    split at he
    · exact eof_sign zs p k _ he
    · exact he
  obtain ⟨_, c1, c2⟩ := step_both zs hz d s h p hp0 hp1 e0
  unfold optG at he ⊢
  rw [← c1]
  by_cases hb : (stepP zs d p).1 = true
  · rw [if_pos hb] at he; rw [if_pos hb, if_pos hb]; exact sign_both zs hz p hp0 hp1 k _ _ c2 he
  · rw [if_neg hb, if_neg hb]; exact ⟨rfl, c2⟩
theorem eof_lit (zs : List Int) (kd p sz : Int) (d : DS) (h : (litG (stepP zs) kd p sz d).2.eof = false) : d.eof = false := by
  unfold litG at h
  split at h
  · exact eof_bits zs _ _ _ _ h
  · split at h
    · exact eof_sign zs _ _ _ h
    · exact eof_opt zs _ _ _ h
theorem lit_both (zs : List Int) (hz : BothGood zs) (kd p sz : Int) (hp0 : 0 ≤ p) (hp1 : p ≤ 255) (d : DS) (s : SS) (h : RS zs d s) (he : (litG (stepP zs) kd p sz d).2.eof = false) :
    (litG (stepP zs) kd p sz d).1 = (litG (stepS zs) kd p sz s).1 ∧ RS zs (litG (stepP zs) kd p sz d).2 (litG (stepS zs) kd p sz s).2 := by
  unfold litG at he ⊢
  split
  · rename_i h0; rw [if_pos h0] at he; exact bits_both zs hz p hp0 hp1 _ 0 d s h he
  · rename_i h0
    rw [if_neg h0] at he
    split
    · rename_i h1; rw [if_pos h1] at he; exact sign_both zs hz p hp0 hp1 _ d s h he
    · rename_i h1; rw [if_neg h1] at he; exact opt_both zs hz p hp0 hp1 _ d s h he
theorem rs0 (zs : List Int) (hz : BothGood zs) : RS zs ds0 (ss0 zs) := ⟨ds0_ok zs, rel0 zs hz.1⟩
theorem lits_both (zs : List Int) (hz : BothGood zs) (f : Nat → Int) (n : Nat) (hf : LitOk f n) (k : Nat) (hk : k ≤ n) (he : (stL (stepP zs) ds0 f k).eof = false) :
    RS zs (stL (stepP zs) ds0 f k) (stL (stepS zs) (ss0 zs) f k) ∧ ∀ i, i < k → outL (stepP zs) ds0 f i = outL (stepS zs) (ss0 zs) f i := by
  induction k with
  | zero => exact ⟨rs0 zs hz, fun i hi => absurd hi (by omega)⟩
  | succ k ih =>
    rw [stL] at he
    obtain ⟨i1, i2⟩ := ih (by omega) (eof_lit zs _ _ _ _ he)
    have hb := hf k (by omega)
    obtain ⟨l1, l2⟩ := lit_both zs hz _ _ _ hb.2.2.1 hb.2.2.2.1 _ _ i1 he
    refine ⟨l2, fun i hi => ?_⟩
    by_cases h : i < k
    · exact i2 i h
    · obtain rfl : i = k := by omega
      exact l1

theorem wr_good {n : Nat} {zs : List Int} (hl : zs.length = n) (hw : isWr n zs = true) (hz : Bytes zs) : n ≤ 1048576 ∧ BothGood zs := by
  refine ⟨by simp [isWr] at hw; exact hw.1, hz, ?_⟩
  by_cases h : n = 0
  · have : zs = [] := List.length_eq_zero_iff.1 (hl.trans h)
    subst this; decide
  · simp only [isWr, Bool.and_eq_true, Bool.or_eq_true, bne_iff_ne, ne_eq] at hw
    rcases hw.2 with h' | h'
    · simp at h'; exact absurd h' h
    · exact h'

/-- The bytes of a slice. -/
def IsRowB (w : World) (a : Option Addr) (n : Nat) : Prop := ∃ ys : List Int, ys.length = n ∧ Arg .u8 w a n (fun i => ys.getD i 0) ∧ Bytes ys

set_option maxRecDepth 100000 in
set_option maxHeartbeats 800000 in
theorem fnLiterals_core (w : World) (ht : Tabs w) (a0 : Option Addr) (n0 c0 : Nat) (h0 : IsRowB w a0 n0) (m0 : n0 ≤ 9223372036854775807) (a1 : Option Addr) (n1 c1 : Nat) (m1 : n1 ≤ 9223372036854775807) (f : Nat → Int) (hp : Arg .i64 w a1 (n1 * 3) f) :
    Calls Tryd.prog 4 #[.slice a0 n0 c0, .slice a1 n1 c1] w fun e w' => e = .returned (.bool true) ∧ Below w.heap.size w w' := by
  have h2 := ht.two
  obtain ⟨zs, hl, hrow, hz⟩ := h0
  by_cases b0 : 2147483647 < n0
  · clear hl hrow hz hp ht
    go_enter Tryd.func4, Tryd.ntmps4
    go_wp2
    go_ret
    exact ⟨rfl, Below.refl _ _⟩
  by_cases b1 : 2147483647 < n1
  · clear hl hrow hz hp ht
    go_enter Tryd.func4, Tryd.ntmps4
    go_wp2
    go_ret
    exact ⟨rfl, Below.refl _ _⟩
  cases hw : isWr n0 zs with
  | false =>
    have H := Lib.hid (And.intro ht (And.intro hrow hw)); clear ht hl hrow hz hw hp
    go_enter Tryd.func4, Tryd.ntmps4
    go_wp2_with fail
    refine (isWritten_any a0 n0 c0 zs w H.out.2.1 (by omega)).mono ?_
    rintro _ _ ⟨rfl, rfl⟩
    rw [H.out.2.2]
    go_wp2_with fail
    refine (readBool_any w H.out.1 h2).mono ?_
    rintro _ w3 ⟨rfl, b3⟩
    have H3 := Lib.hid b3; clear b3
    go_wp2
    go_ret
    exact ⟨rfl, H3.out⟩
  | true =>
    cases hr : isLit f n1 with
    | false =>
      have H := Lib.hid (And.intro ht (And.intro hrow (And.intro hw (And.intro hp hr)))); clear ht hl hrow hz hw hp hr
      go_enter Tryd.func4, Tryd.ntmps4
      go_wp2_with fail
      refine (isWritten_any a0 n0 c0 zs w H.out.2.1 (by omega)).mono ?_
      rintro _ _ ⟨rfl, rfl⟩
      rw [H.out.2.2.1]
      go_wp2_with fail
      refine (isLiterals_any a1 n1 c1 f w H.out.2.2.2.1 (by omega)).mono ?_
      rintro _ _ ⟨rfl, rfl⟩
      rw [H.out.2.2.2.2]
      go_wp2_with fail
      refine (readBool_any w H.out.1 h2).mono ?_
      rintro _ w3 ⟨rfl, b3⟩
      have H3 := Lib.hid b3; clear b3
      go_wp2
      go_ret
      exact ⟨rfl, H3.out⟩
    | true =>
      obtain ⟨hn0, hg⟩ := wr_good hl hw hz
      obtain ⟨hn1, hf⟩ := isLit_true.1 hr
      have HS : Hid ((stL (stepP zs) ds0 f n1).eof = false → sameI (outL (stepP zs) ds0 f) (outL (stepS zs) (ss0 zs) f) n1 = true) := Lib.hid (fun h => decide_eq_true (lits_both zs hg f n1 hf n1 (Nat.le_refl _) h).2)
      have H := Lib.hid (And.intro ht (And.intro hl (And.intro hrow (And.intro hg (And.intro hw (And.intro hp (And.intro hr hf)))))))
      clear ht hl hrow hz hg hw hp hr hf
      go_enter Tryd.func4, Tryd.ntmps4
      go_wp2_with fail
      refine (isWritten_any a0 n0 c0 zs w H.out.2.2.1 (by omega)).mono ?_
      rintro _ _ ⟨rfl, rfl⟩
      rw [H.out.2.2.2.2.1]
      go_wp2_with fail
      refine (isLiterals_any a1 n1 c1 f w H.out.2.2.2.2.2.1 (by omega)).mono ?_
      rintro _ _ ⟨rfl, rfl⟩
      rw [H.out.2.2.2.2.2.2.1]
      go_wp2_with fail
      refine (Literals_any a0 n0 c0 zs a1 n1 c1 f w H.out.1 h2 H.out.2.1 H.out.2.2.1 H.out.2.2.2.1.1 H.out.2.2.2.1.2 hn0 H.out.2.2.2.2.2.1 H.out.2.2.2.2.2.2.2 hn1).mono ?_
      rintro _ w1 ⟨⟨ra, rc, rfl, ro⟩, b1'⟩
      have H1 := Lib.hid (And.intro ro b1'); clear ro b1'
      go_wp2_with fail
      refine (LiteralsS_any a0 n0 c0 zs a1 n1 c1 f w1 H.out.2.1 (H.out.2.2.1.below H1.out.2) H.out.2.2.2.1.1 H.out.2.2.2.1.2 hn0 (H.out.2.2.2.2.2.1.below H1.out.2) H.out.2.2.2.2.2.2.2 hn1).mono ?_
      rintro _ w2 ⟨⟨sa, sc, sb, rfl, so⟩, b2⟩
      have H2 := Lib.hid (And.intro (Own.below H1.out.1 b2) (And.intro so (H1.out.2.trans (b2.mono H1.out.2.size)))); clear so b2
      have hs2 : 2 ≤ w2.heap.size := by have := H2.out.2.2.size; omega
      cases he : (stL (stepP zs) ds0 f n1).eof with
      | true =>
        go_wp2_with fail
        refine (readBool_any w2 (H.out.1.below h2 H2.out.2.2) hs2).mono ?_
        rintro _ w3 ⟨rfl, b3⟩
        have H3 := Lib.hid (H2.out.2.2.trans (b3.mono H2.out.2.2.size)); clear b3
        go_wp2
        go_ret
        exact ⟨rfl, H3.out⟩
      | false =>
        have hsame := HS.out he
        go_wp2_with fail
        refine (ints_any ra n1 rc (outL (stepP zs) ds0 f) sa n1 sc (outL (stepS zs) (ss0 zs) f) w2 H2.out.1.arg H2.out.2.1.arg hn1 rfl).mono ?_
        rintro _ w3 ⟨rfl, b3⟩
        have H3 := Lib.hid (H2.out.2.2.trans (b3.mono H2.out.2.2.size)); clear b3
        have hs3 : 2 ≤ w3.heap.size := by have := H3.out.size; omega
        rw [hsame]
        go_wp2_with fail
        refine (readBool_any w3 (H.out.1.below h2 H3.out) hs3).mono ?_
        rintro _ w4 ⟨rfl, b4⟩
        have H4 := Lib.hid (H3.out.trans (b4.mono H3.out.size)); clear b4
        go_wp2
        go_ret
        exact ⟨rfl, H4.out⟩

theorem fnLiterals_walk (w : World) (ht : Tabs w) (a0 : Option Addr) (n0 c0 : Nat) (z0 : List Int) (h0 : IsRow .u8 w a0 n0 c0 z0) (a1 : Option Addr) (n1 c1 : Nat) (m1 : n1 ≤ maxLen) (f : Nat → Int) (hp : Arg .i64 w a1 (n1 * 3) f) :
    Calls Tryd.prog 4 #[.slice a0 n0 c0, .slice a1 n1 c1] w fun e w' => e = .returned (.bool true) ∧ Below w.heap.size w w' :=
  fnLiterals_core w ht a0 n0 c0 h0.bytes (by have := h0.arg.2.1; have := h0.arg.2.2.1; unfold maxLen at this; omega) a1 n1 c1 (by unfold maxLen at m1; omega) f hp
end Go.Proofs.YthmkmemocjnleaaDoor
