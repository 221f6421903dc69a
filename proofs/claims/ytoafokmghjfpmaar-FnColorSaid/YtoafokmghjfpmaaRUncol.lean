/- The reference's part, delta, rounded, uncoloured. -/
import Derived.Test.YtoafokmghjfpmaaRJoin
import Derived.Test.YtoafokmghjfpmaaRObj
namespace Go.Proofs.YtoafokmghjfpmaaR
open Go.RowKit
set_option linter.unusedVariables false

theorem u32_255 (y : Int) (h0 : 0 ≤ y) (h1 : y < 4294967296) : bits .and .u32 y 255 = y % 256 := by
  obtain ⟨a, rfl⟩ := Int.eq_ofNat_of_zero_le h0
  have e : bits .and .u32 (a : Int) ((255 : Nat) : Int) = ((a &&& 255 : Nat) : Int) := u32_and_nat a 255 (by omega) (by omega)
  rw [nat_mask8] at e
  exact e.trans (by omega)

theorem part0 (P : Int) (w : World) (h0 : 0 ≤ P) (h1 : P ≤ 4294967295) :
    Calls Try.prog 40 #[.int .u32 P, .int .i64 0] w fun e w' => e = .returned (.int .i64 (P % 256)) ∧ w = w' := by
  have e := u32_255 P h0 (by omega)
  go_enter Try.func40, Try.ntmps40
  go_wp2
  go_ret
  exact ⟨by simp, rfl⟩
theorem part1 (P : Int) (w : World) (h0 : 0 ≤ P) (h1 : P ≤ 4294967295) :
    Calls Try.prog 40 #[.int .u32 P, .int .i64 1] w fun e w' => e = .returned (.int .i64 (P / 256 % 256)) ∧ w = w' := by
  have e := u32_255 (P / 256) (by omega) (by omega)
  go_enter Try.func40, Try.ntmps40
  go_wp2
  go_ret
  exact ⟨by simp, rfl⟩
theorem part2 (P : Int) (w : World) (h0 : 0 ≤ P) (h1 : P ≤ 4294967295) :
    Calls Try.prog 40 #[.int .u32 P, .int .i64 2] w fun e w' => e = .returned (.int .i64 (P / 65536 % 256)) ∧ w = w' := by
  have e := u32_255 (P / 65536) (by omega) (by omega)
  go_enter Try.func40, Try.ntmps40
  go_wp2
  go_ret
  exact ⟨by simp, rfl⟩

/-- A byte as a number with its sign. -/
def sg (x : Int) : Int := if 127 < x then x - 256 else x
def dl (x y : Int) : Int := sg x * sg y / 32
theorem sg_range (x : Int) (h0 : 0 ≤ x) (h1 : x ≤ 255) : -128 ≤ sg x ∧ sg x ≤ 127 := by unfold sg; split <;> omega
theorem sgmul_range (x y : Int) (h0 : 0 ≤ x) (h1 : x ≤ 255) (h2 : 0 ≤ y) (h3 : y ≤ 255) : -16256 ≤ sg x * sg y ∧ sg x * sg y ≤ 16384 := by
  obtain ⟨a0, a1⟩ := sg_range x h0 h1
  obtain ⟨b0, b1⟩ := sg_range y h2 h3
  generalize sg x = a at *
  generalize sg y = b at *
  have k1 := Int.mul_nonneg (show 0 ≤ a + 128 by omega) (show 0 ≤ b + 128 by omega)
  have k2 := Int.mul_nonneg (show 0 ≤ 127 - a by omega) (show 0 ≤ 127 - b by omega)
  have k3 := Int.mul_nonneg (show 0 ≤ a + 128 by omega) (show 0 ≤ 127 - b by omega)
  have k4 := Int.mul_nonneg (show 0 ≤ 127 - a by omega) (show 0 ≤ b + 128 by omega)
  rw [Int.add_mul, Int.mul_add, Int.mul_add] at k1
  rw [Int.sub_mul, Int.mul_sub, Int.mul_sub] at k2
  rw [Int.add_mul, Int.mul_sub, Int.mul_sub] at k3
  rw [Int.sub_mul, Int.mul_add, Int.mul_add] at k4
  omega

theorem signed_any (x : Int) (w : World) (h0 : 0 ≤ x) (h1 : x ≤ 255) :
    Calls Try.prog 45 #[.int .i64 x] w fun e w' => e = .returned (.int .i64 (sg x)) ∧ w = w' := by
  by_cases h : 127 < x
  · rw [show sg x = x - 256 by unfold sg; rw [if_pos h]]
    go_enter Try.func45, Try.ntmps45
    go_wp2
    go_ret
    exact ⟨rfl, rfl⟩
  · rw [show sg x = x by unfold sg; rw [if_neg h]]
    go_enter Try.func45, Try.ntmps45
    go_wp2
    go_ret
    exact ⟨rfl, rfl⟩
theorem delta_any (x y : Int) (w : World) (h0 : 0 ≤ x) (h1 : x ≤ 255) (h2 : 0 ≤ y) (h3 : y ≤ 255) :
    Calls Try.prog 41 #[.int .i64 x, .int .i64 y] w fun e w' => e = .returned (.int .i64 (dl x y)) ∧ w = w' := by
  obtain ⟨k1, k2⟩ := sgmul_range x y h0 h1 h2 h3
  obtain ⟨a0, a1⟩ := sg_range x h0 h1
  obtain ⟨b0, b1⟩ := sg_range y h2 h3
  unfold dl
  go_enter Try.func41, Try.ntmps41
  go_wp2_with fail
  refine (signed_any x w h0 h1).mono ?_
  rintro _ _ ⟨rfl, rfl⟩
  go_wp2_with fail
  refine (signed_any y w h2 h3).mono ?_
  rintro _ _ ⟨rfl, rfl⟩
  go_wp2
  go_ret
  exact ⟨rfl, rfl⟩

theorem rounded_any (s : Int) (n : Nat) (w : World) (h0 : 0 ≤ s) (h1 : s ≤ 100000) (hn : n ≤ 9) :
    Calls Try.prog 39 #[.int .i64 s, .int .i64 n] w fun e w' => e = .returned (.int .i64 ((s + 2 ^ n - 1) / 2 ^ n)) ∧ w = w' := by
  have hp : (1 : Int) ≤ 2 ^ n := Int.pow_pos (by omega)
  have hp2 : (2 : Int) ^ n ≤ 512 := by
    have := Int.ofNat_le.2 (Nat.pow_le_pow_right (n := 2) (by omega) hn)
    simpa using this
  go_enter Try.func39, Try.ntmps39
  go_wp2
  go_ret
  exact ⟨rfl, rfl⟩

/-- The tile of a pixel. -/
def tileOf (W n i : Nat) : Nat := i / W / 2 ^ n * ((W + 2 ^ n - 1) / 2 ^ n) + i % W / 2 ^ n
def redOf (f fd : Nat → Int) (W n i : Nat) : Int := (f (i * 4) + dl (fd (tileOf W n i * 4 + 2)) (f (i * 4 + 1))) % 256
def blueOf (f fd : Nat → Int) (W n i : Nat) : Int := (f (i * 4 + 2) + dl (fd (tileOf W n i * 4 + 1)) (f (i * 4 + 1)) + dl (fd (tileOf W n i * 4)) (redOf f fd W n i)) % 256
def colS (f fd : Nat → Int) (W n i : Nat) : Int := px (f (i * 4 + 3)) (redOf f fd W n i) (f (i * 4 + 1)) (blueOf f fd W n i)

theorem px_parts (a r g b : Int) (a0 : 0 ≤ a) (a1 : a ≤ 255) (r0 : 0 ≤ r) (r1 : r ≤ 255) (g0 : 0 ≤ g) (g1 : g ≤ 255) (b0 : 0 ≤ b) (b1 : b ≤ 255) :
    px a r g b % 256 = b ∧ px a r g b / 256 % 256 = g ∧ px a r g b / 65536 % 256 = r ∧ px a r g b / 16777216 % 256 = a ∧ 0 ≤ px a r g b ∧ px a r g b ≤ 4294967295 := by
  unfold px; omega

theorem and_split (i h l H L : Nat) (hl : l < 2 ^ i) (hL : L < 2 ^ i) : (2 ^ i * h + l) &&& (2 ^ i * H + L) = 2 ^ i * (h &&& H) + (l &&& L) := by
  apply Nat.eq_of_testBit_eq
  intro j
  rw [Nat.testBit_and, Nat.testBit_two_pow_mul_add _ hl, Nat.testBit_two_pow_mul_add _ hL, Nat.testBit_two_pow_mul_add _ (Nat.lt_of_le_of_lt Nat.and_le_left hl)]
  split <;> simp [Nat.testBit_and]

set_option maxRecDepth 10000 in
theorem px_mask (a r g b : Int) (a0 : 0 ≤ a) (a1 : a ≤ 255) (r0 : 0 ≤ r) (r1 : r ≤ 255) (g0 : 0 ≤ g) (g1 : g ≤ 255) (b0 : 0 ≤ b) (b1 : b ≤ 255) :
    bits .and .u32 (px a r g b) 4278255360 = a * 16777216 + g * 256 := by
  obtain ⟨an, rfl⟩ := Int.eq_ofNat_of_zero_le a0
  obtain ⟨rn, rfl⟩ := Int.eq_ofNat_of_zero_le r0
  obtain ⟨gn, rfl⟩ := Int.eq_ofNat_of_zero_le g0
  obtain ⟨bn, rfl⟩ := Int.eq_ofNat_of_zero_le b0
  have e0 : px an rn gn bn = ((an * 16777216 + rn * 65536 + gn * 256 + bn : Nat) : Int) := by unfold px; omega
  have e : bits .and .u32 (px an rn gn bn) ((4278255360 : Nat) : Int) = (((an * 16777216 + rn * 65536 + gn * 256 + bn) &&& 4278255360 : Nat) : Int) := by
    rw [e0]; exact u32_and_nat _ _ (by omega) (by omega)
  have k1 : (an * 16777216 + rn * 65536 + gn * 256 + bn) &&& 4278255360 = an * 16777216 + gn * 256 := by
    have x1 : an * 16777216 + rn * 65536 + gn * 256 + bn = 2 ^ 16 * (2 ^ 8 * an + rn) + (2 ^ 8 * gn + bn) := by omega
    have x2 : (4278255360 : Nat) = 2 ^ 16 * (2 ^ 8 * 255 + 0) + (2 ^ 8 * 255 + 0) := by decide
    rw [x1, x2, and_split 16 _ _ _ _ (by omega) (by omega), and_split 8 _ _ _ _ (by omega) (by omega), and_split 8 _ _ _ _ (by omega) (by omega), nat_mask8, nat_mask8, Nat.and_zero, Nat.and_zero]
    omega
  rw [k1] at e
  exact e.trans (by omega)

set_option maxRecDepth 10000 in
/-- .. with red and blue put into their places. -/
theorem px_put (a r g b : Int) (a0 : 0 ≤ a) (a1 : a ≤ 255) (r0 : 0 ≤ r) (r1 : r ≤ 255) (g0 : 0 ≤ g) (g1 : g ≤ 255) (b0 : 0 ≤ b) (b1 : b ≤ 255) :
    bits .or .u32 (bits .or .u32 (a * 16777216 + g * 256) (r * 65536)) b = px a r g b := by
  obtain ⟨an, rfl⟩ := Int.eq_ofNat_of_zero_le a0
  obtain ⟨rn, rfl⟩ := Int.eq_ofNat_of_zero_le r0
  obtain ⟨gn, rfl⟩ := Int.eq_ofNat_of_zero_le g0
  obtain ⟨bn, rfl⟩ := Int.eq_ofNat_of_zero_le b0
  have k : (an * 16777216 + gn * 256) ||| rn * 65536 = an * 16777216 + rn * 65536 + gn * 256 := by
    have h1 : an * 16777216 + gn * 256 = an * 16777216 ||| gn * 256 := (nat_join 24 _ _ (by omega) (by omega)).symm
    rw [h1, Nat.or_assoc, Nat.or_comm (gn * 256), nat_join 16 (rn * 65536) _ (by omega) (by omega), nat_join 24 _ _ (by omega) (by omega), Nat.add_assoc]
  have e1 : bits .or .u32 ((an : Int) * 16777216 + (gn : Int) * 256) ((rn : Int) * 65536) = ((an * 16777216 + rn * 65536 + gn * 256 : Nat) : Int) := by
    rw [show ((an : Int) * 16777216 + (gn : Int) * 256) = ((an * 16777216 + gn * 256 : Nat) : Int) by omega, show ((rn : Int) * 65536) = ((rn * 65536 : Nat) : Int) by omega, u32_or_nat _ _ (by omega) (by omega), k]
  have e3 : bits .or .u32 ((an * 16777216 + rn * 65536 + gn * 256 : Nat) : Int) (bn : Int) = ((an * 16777216 + rn * 65536 + gn * 256 + bn : Nat) : Int) := by
    rw [u32_or_nat _ _ (by omega) (by omega), nat_join 8 _ _ (by omega) (by omega)]
  rw [e1, e3]
  unfold px
  omega

theorem dl_range (x y : Int) (h0 : 0 ≤ x) (h1 : x ≤ 255) (h2 : 0 ≤ y) (h3 : y ≤ 255) : -508 ≤ dl x y ∧ dl x y ≤ 512 := by
  have := sgmul_range x y h0 h1 h2 h3
  unfold dl
  omega
theorem redOf_range (f fd : Nat → Int) (W n i : Nat) : 0 ≤ redOf f fd W n i ∧ redOf f fd W n i ≤ 255 := by unfold redOf; omega
theorem blueOf_range (f fd : Nat → Int) (W n i : Nat) : 0 ≤ blueOf f fd W n i ∧ blueOf f fd W n i ≤ 255 := by unfold blueOf; omega

set_option maxRecDepth 100000 in
set_option maxHeartbeats 1600000 in
theorem uncol_any (pa : Option Addr) (m pc : Nat) (f : Nat → Int) (W n : Nat) (da : Option Addr) (dm dc : Nat) (fd : Nat → Int) (w : World) (hm : m ≤ 16384) (hW : 1 ≤ W) (hW2 : W ≤ 16384) (hn : n ≤ 9)
    (hp : Arg .u32 w pa m (pxAt f)) (hf : ∀ i, 0 ≤ f i ∧ f i ≤ 255) (hd : Arg .u32 w da dm (pxAt fd)) (hfd : ∀ i, 0 ≤ fd i ∧ fd i ≤ 255) (ht : ∀ i, i < m → tileOf W n i < dm) (hdm : dm ≤ 100000) :
    Calls Try.prog 30 #[.slice pa m pc, .int .i64 W, .agg #[.int .i64 0, .int .i64 n, .slice da dm dc]] w fun e w' =>
      (∃ a' c', e = .returned (.slice a' m c') ∧ Own .u32 w.heap.size w' a' m (colS f fd W n)) ∧ Below w.heap.size w w' := by
  obtain ⟨i0, hi, hz0, hz1, hz2⟩ := info_parts infoU32
  have H := Lib.hid (And.intro hp (And.intro hf (And.intro hd (And.intro hfd ht)))); clear hp hf hd hfd ht
  have hp1 : (1 : Int) ≤ 2 ^ n := Int.pow_pos (by omega)
  have hp2 : (2 : Int) ^ n ≤ 512 := by
    have := Int.ofNat_le.2 (Nat.pow_le_pow_right (n := 2) (by omega) hn)
    simpa using this
  go_enter Try.func30, Try.ntmps30
  have hob : Hid (w.alloc (.cells #[.int .i64 0, .int .i64 n, .slice da dm dc] 49) = w.alloc (.cells #[.int .i64 0, .int .i64 n, .slice da dm dc] 49)) := Lib.hid rfl
  go_wp2_with fail
  refine (rounded_any W n _ (by omega) (by omega) hn).mono ?_
  rintro _ _ ⟨rfl, rfl⟩
  generalize hw1 : World.alloc w _ = w1
  have hso0 : Hid (SObj w1 w.heap.size 49 [.int .i64 0, .int .i64 n, .slice da dm dc] ∧ Below w.heap.size w w1 ∧ w1.heap.size = w.heap.size + 1) := by
    rw [← hw1]
    exact Lib.hid ⟨obj_new w 49 [.int .i64 0, .int .i64 n, .slice da dm dc], (Below.refl _ _).alloc (Nat.le_refl _) _, by simp⟩
  have hso : Hid (SObj w1 w.heap.size 49 [.int .i64 0, .int .i64 n, .slice da dm dc] ∧ Below w.heap.size w w1 ∧ w.heap.size < w1.heap.size) := Lib.hid ⟨hso0.out.1, hso0.out.2.1, by have := hso0.out.2.2; omega⟩
  clear hw1 hob
  obtain ⟨A, hA⟩ : ∃ A : Nat, ((W : Int) + 2 ^ n - 1) / 2 ^ n = (A : Int) := Int.eq_ofNat_of_zero_le (Int.ediv_nonneg (by omega) (by omega))
  have hA2 : (A : Int) ≤ 17000 := by rw [← hA]; exact Int.le_trans (Int.ediv_le_self _ (by omega)) (by omega)
  rw [hA]
  have HA := Lib.hid hA; clear hA
  go_wp2
  go_loopw [7, 9] (fun v i wr => ∃ p : Nat, p ≤ m ∧ i = .int .i64 p ∧ wr.ownsRow (w.heap.size + 1) 43 1 v p (cellsOf .u32 p (colS f fd W n)) ∧ Hid (Below w1.heap.size w1 wr)) (fun _ i _ => m - (intOf i).toNat)
  case atStart => exact ⟨0, by omega, rfl, World.ownsRow_nil _ _ _ _, Below.refl _ _⟩
  case round =>
    obtain ⟨p, hp, rfl, hown, hb⟩ := hrel
    by_cases hlt : p < m
    · obtain ⟨gp, op, rfl, hgp, rp⟩ := H.out.1 (by omega)
      have htl := H.out.2.2.2.2 p hlt
      obtain ⟨gd, od, rfl, hgd, rd⟩ := H.out.2.2.1 (by omega)
      have hbw := hso.out.2.1.trans (hb.out.mono (Nat.le_of_lt hso.out.2.2))
      have kP : wr.cell? ⟨gp, op + p, none⟩ = some (.int .u32 (pxAt f p)) := (hbw.cell (p := ⟨gp, op + p, none⟩) hgp).trans (rp p hlt)
      have kE : wr.cell? ⟨gd, od + tileOf W n p, none⟩ = some (.int .u32 (pxAt fd (tileOf W n p))) := (hbw.cell (p := ⟨gd, od + tileOf W n p, none⟩) hgd).trans (rd _ htl)
      have hsw := SObj.below hso.out.1 hb.out hso.out.2.2
      have s1 := SObj.cell hsw 1 rfl
      have s2 := SObj.cell hsw 2 rfl
      clear hsw rp rd hbw
      obtain ⟨y, ey⟩ : ∃ y, y = p / W := ⟨_, rfl⟩
      obtain ⟨u, eu⟩ : ∃ u, u = y / 2 ^ n := ⟨_, rfl⟩
      obtain ⟨v, ev⟩ : ∃ v, v = u * A := ⟨_, rfl⟩
      obtain ⟨x, ex⟩ : ∃ x, x = p % W := ⟨_, rfl⟩
      obtain ⟨z, ez⟩ : ∃ z, z = x / 2 ^ n := ⟨_, rfl⟩
      have hAn : A = (W + 2 ^ n - 1) / 2 ^ n := by
        have := HA.out
        have hpn : 0 < 2 ^ n := Nat.pow_pos (by omega)
        have e : (W : Int) + 2 ^ n - 1 = ((W + 2 ^ n - 1 : Nat) : Int) := by
          have : ((2 ^ n : Nat) : Int) = 2 ^ n := by simp
          omega
        have e2 : (2 : Int) ^ n = ((2 ^ n : Nat) : Int) := by simp
        rw [e, e2, ← Int.natCast_ediv] at this
        exact (Int.ofNat_inj.1 this).symm
      have et : tileOf W n p = v + z := by unfold tileOf; rw [ev, eu, ey, ez, ex, hAn]
      rw [et] at kE htl
      have e1 : (p : Int) / (W : Int) = (y : Int) := by rw [ey]; exact (Int.natCast_ediv p W).symm
      have e2 : (y : Int) / 2 ^ n = (u : Int) := by rw [eu, Int.natCast_ediv]; simp
      have e3 : (u : Int) * (A : Int) = (v : Int) := by rw [ev]; simp
      have e4 : (p : Int) % (W : Int) = (x : Int) := by rw [ex]; exact (Int.natCast_emod p W).symm
      have e5 : (x : Int) / 2 ^ n = (z : Int) := by rw [ez, Int.natCast_ediv]; simp
      have y1 : y ≤ 16384 := by rw [ey]; exact Nat.le_trans (Nat.div_le_self _ _) (by omega)
      have u1 : u ≤ 16384 := by rw [eu]; exact Nat.le_trans (Nat.div_le_self _ _) y1
      have x1 : x ≤ 16384 := by rw [ex]; exact Nat.le_trans (Nat.le_of_lt (Nat.mod_lt _ (by omega))) hW2
      have z1 : z ≤ 16384 := by rw [ez]; exact Nat.le_trans (Nat.div_le_self _ _) x1
      have v1 : v ≤ 100000 := by omega
      have w0 : ((W : Int) == 0) = false := by simp; omega
      have HT := Lib.hid et
      clear ey eu ev ex ez hAn et
      obtain ⟨f0, f1⟩ := H.out.2.1 (p * 4)
      obtain ⟨f2, f3⟩ := H.out.2.1 (p * 4 + 1)
      obtain ⟨f4, f5⟩ := H.out.2.1 (p * 4 + 2)
      obtain ⟨f6, f7⟩ := H.out.2.1 (p * 4 + 3)
      obtain ⟨g0, g1⟩ := H.out.2.2.2.1 ((v + z) * 4)
      obtain ⟨g2, g3⟩ := H.out.2.2.2.1 ((v + z) * 4 + 1)
      obtain ⟨g4, g5⟩ := H.out.2.2.2.1 ((v + z) * 4 + 2)
      obtain ⟨g6, g7⟩ := H.out.2.2.2.1 ((v + z) * 4 + 3)
      obtain ⟨P, hP⟩ : ∃ P, P = pxAt f p := ⟨_, rfl⟩
      obtain ⟨E, hE⟩ : ∃ E, E = pxAt fd (v + z) := ⟨_, rfl⟩
      rw [← hP] at kP
      rw [← hE] at kE
      have hPp := px_parts _ _ _ _ f6 f7 f0 f1 f2 f3 f4 f5
      have hEp := px_parts _ _ _ _ g6 g7 g0 g1 g2 g3 g4 g5
      have hPm := px_mask _ _ _ _ f6 f7 f0 f1 f2 f3 f4 f5
      rw [show px (f (p * 4 + 3)) (f (p * 4)) (f (p * 4 + 1)) (f (p * 4 + 2)) = P from hP.symm] at hPp hPm
      rw [show px (fd ((v + z) * 4 + 3)) (fd ((v + z) * 4)) (fd ((v + z) * 4 + 1)) (fd ((v + z) * 4 + 2)) = E from hE.symm] at hEp
      have hres : colS f fd W n p = px (f (p * 4 + 3)) ((f (p * 4) + dl (fd ((v + z) * 4 + 2)) (f (p * 4 + 1))) % 256) (f (p * 4 + 1)) ((f (p * 4 + 2) + dl (fd ((v + z) * 4 + 1)) (f (p * 4 + 1)) + dl (fd ((v + z) * 4)) ((f (p * 4) + dl (fd ((v + z) * 4 + 2)) (f (p * 4 + 1))) % 256)) % 256) := by
        unfold colS blueOf redOf; rw [HT.out]
      generalize f (p * 4) = rd at *
      generalize f (p * 4 + 1) = gr at *
      generalize f (p * 4 + 2) = bl at *
      generalize f (p * 4 + 3) = al at *
      generalize fd ((v + z) * 4) = c0 at *
      generalize fd ((v + z) * 4 + 1) = c1 at *
      generalize fd ((v + z) * 4 + 2) = c2 at *
      generalize fd ((v + z) * 4 + 3) = c3 at *
      obtain ⟨pp0, pp1, pp2, pp3, pp4, pp5⟩ := hPp
      obtain ⟨ee0, ee1, ee2, ee3, ee4, ee5⟩ := hEp
      obtain ⟨d1a, d1b⟩ := dl_range c2 gr g4 g5 f2 f3
      obtain ⟨d2a, d2b⟩ := dl_range c1 gr g2 g3 f2 f3
      obtain ⟨d1, hd1⟩ : ∃ d, d = dl c2 gr := ⟨_, rfl⟩
      obtain ⟨d2, hd2⟩ : ∃ d, d = dl c1 gr := ⟨_, rfl⟩
      rw [← hd1] at d1a d1b hres
      rw [← hd2] at d2a d2b hres
      obtain ⟨red, hred⟩ : ∃ r, r = (rd + d1) % 256 := ⟨_, rfl⟩
      rw [← hred] at hres
      have red0 : 0 ≤ red := by omega
      have red1 : red ≤ 255 := by omega
      obtain ⟨d3a, d3b⟩ := dl_range c0 red g0 g1 red0 red1
      obtain ⟨d3, hd3⟩ : ∃ d, d = dl c0 red := ⟨_, rfl⟩
      rw [← hd3] at d3a d3b hres
      obtain ⟨blue, hblue⟩ : ∃ r, r = (bl + d2 + d3) % 256 := ⟨_, rfl⟩
      rw [← hblue] at hres
      have blue0 : 0 ≤ blue := by omega
      have blue1 : blue ≤ 255 := by omega
      have m1 : bits .and .i64 (rd + d1) 255 = red := by rw [mask8, hred]
      have m2 : bits .and .i64 (bl + d2 + d3) 255 = blue := by rw [mask8, hblue]
      have hput := px_put al red gr blue f6 f7 red0 red1 f2 f3 blue0 blue1
      rw [← hres, ← hPm] at hput
      have HH := Lib.hid (And.intro pp0 (And.intro pp1 (And.intro pp2 (And.intro ee0 (And.intro ee1 (And.intro ee2 (And.intro hd1 (And.intro hd2 hd3))))))))
      have HR := Lib.hid hput
      clear pp0 pp1 pp2 pp3 ee0 ee1 ee2 ee3 hd1 hd2 hd3 hP hE hPm hred hblue hres hput HT
      go_wp2
      go_quiet (fail)
      generalize hw2 : World.drewN _ _ = w2
      have H2 : Hid (Below w1.heap.size w1 w2 ∧ w2.ownsRow (w.heap.size + 1) 43 1 u7 p (cellsOf .u32 p (colS f fd W n))) := by
        rw [← hw2]
        exact Lib.hid ⟨below_drewN hb.out _, hown.kept (grownBy_drewN _ _ none) (by cases Value.ownBlock u7 <;> simp)⟩
      have kP : w2.cell? ⟨gp, op + p, none⟩ = some (.int .u32 P) := by rw [← hw2]; exact kP
      clear hw2 hown kE s1 s2 e1 e2 e3 e4 e5 w0
      go_wp2_with fail
      refine (part1 P _ pp4 pp5).mono ?_
      rintro _ _ ⟨rfl, rfl⟩
      rw [HH.out.2.1]
      go_wp2_with fail
      refine (part2 P _ pp4 pp5).mono ?_
      rintro _ _ ⟨rfl, rfl⟩
      rw [HH.out.2.2.1]
      go_wp2_with fail
      refine (part0 E _ ee4 ee5).mono ?_
      rintro _ _ ⟨rfl, rfl⟩
      rw [HH.out.2.2.2.1]
      go_wp2_with fail
      refine (delta_any c2 gr _ g4 g5 f2 f3).mono ?_
      rintro _ _ ⟨rfl, rfl⟩
      rw [← HH.out.2.2.2.2.2.2.1]
      go_wp2_with fail
      refine (part0 P _ pp4 pp5).mono ?_
      rintro _ _ ⟨rfl, rfl⟩
      rw [HH.out.1]
      go_wp2_with fail
      refine (part1 E _ ee4 ee5).mono ?_
      rintro _ _ ⟨rfl, rfl⟩
      rw [HH.out.2.2.2.2.1]
      go_wp2_with fail
      refine (delta_any c1 gr _ g2 g3 f2 f3).mono ?_
      rintro _ _ ⟨rfl, rfl⟩
      rw [← HH.out.2.2.2.2.2.2.2.1]
      go_wp2_with fail
      refine (part2 E _ ee4 ee5).mono ?_
      rintro _ _ ⟨rfl, rfl⟩
      rw [HH.out.2.2.2.2.2.1]
      go_wp2_with fail
      refine (delta_any c0 red _ g0 g1 red0 red1).mono ?_
      rintro _ _ ⟨rfl, rfl⟩
      rw [← HH.out.2.2.2.2.2.2.2.2]
      have hsz : w.heap.size + 1 ≤ w2.heap.size := Nat.le_trans hso.out.2.2 H2.out.1.size
      have hown2 := H2.out.2
      go_wp2_with (at_builtin; rw [HR.out]; refine wpList_append_own _ rfl _ _ 45 rfl (w.heap.size + 1) 43 i0 (.int .u32 0) 1 4 Try.underlying45 hi hz0 hz1 hz2 rfl (by decide) _ _ _ rfl (hown2.alloc _) ⟨w2.heap.size, 0, none⟩ 1 1 [.int .u32 (colS f fd W n p)] rfl rfl (cell_one_new w2 _ _) (by simp [Value.oneCell']) (by unfold maxLen; omega) (by omega) (by simp; omega) ?_)
      intro v' w3 hown3 hgrow _
      have R1 : w3.ownsRow (w.heap.size + 1) 43 1 v' (p + 1) (cellsOf .u32 (p + 1) (colS f fd W n)) := by rw [cellsOf_succ]; exact hown3
      have R2 : Below w1.heap.size w1 w3 := (H2.out.1.alloc H2.out.1.size _).grown hgrow (by have := H2.out.1.size; simp; omega) (fun k hk => by have := (hown2.lt k hk).1; have := hso0.out.2.2; omega)
      clear hown3 hgrow hown2
      go_wp2
      go_roundw
      case rel => exact ⟨p + 1, by omega, by go_num, R1, R2⟩
      case measure => simp [intOf]; omega
    · obtain rfl : p = m := by omega
      go_wp2
      go_ret
      obtain ⟨av, cv, rfl, hcv, ho⟩ := own_of_cells hown
      exact ⟨⟨_, _, rfl, ho.mono (Nat.le_succ _)⟩, hso.out.2.1.trans (hb.out.mono (Nat.le_of_lt hso.out.2.2))⟩
end Go.Proofs.YtoafokmghjfpmaaR
