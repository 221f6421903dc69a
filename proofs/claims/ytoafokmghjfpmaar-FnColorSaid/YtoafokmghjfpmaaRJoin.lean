/- The reference's pixels: joined, split, part, delta, rounded. -/
import Derived.Test.YtoafokmghjfpmaaRMem
import Derived.Test.YtoafokmghjfpmaaRBits
import Derived.Test.YtoafokmghjfpmaaRQuietTail
import Derived.Test.YtoafokmghjfpmaaRClone
import Derived.WalkSmall
namespace Go.Proofs.YtoafokmghjfpmaaR
open Go.RowKit
set_option linter.unusedVariables false

/-- A pixel of four bytes a, r, g, b. -/
def px (a r g b : Int) : Int := a * 16777216 + r * 65536 + g * 256 + b
/-- The i-th pixel of bytes. -/
def pxAt (f : Nat → Int) (i : Nat) : Int := px (f (i * 4 + 3)) (f (i * 4)) (f (i * 4 + 1)) (f (i * 4 + 2))

theorem join4 (a r g b : Int) (a0 : 0 ≤ a) (a1 : a ≤ 255) (r0 : 0 ≤ r) (r1 : r ≤ 255) (g0 : 0 ≤ g) (g1 : g ≤ 255) (b0 : 0 ≤ b) (b1 : b ≤ 255) :
    bits .or .u32 (bits .or .u32 (bits .or .u32 (a * 16777216) (r * 65536)) (g * 256)) b = px a r g b := by
  obtain ⟨an, rfl⟩ := Int.eq_ofNat_of_zero_le a0
  obtain ⟨rn, rfl⟩ := Int.eq_ofNat_of_zero_le r0
  obtain ⟨gn, rfl⟩ := Int.eq_ofNat_of_zero_le g0
  obtain ⟨bn, rfl⟩ := Int.eq_ofNat_of_zero_le b0
  have e1 : bits .or .u32 ((an : Int) * 16777216) ((rn : Int) * 65536) = ((an * 16777216 + rn * 65536 : Nat) : Int) := by
    rw [show ((an : Int) * 16777216) = ((an * 16777216 : Nat) : Int) by omega, show ((rn : Int) * 65536) = ((rn * 65536 : Nat) : Int) by omega, u32_or_nat _ _ (by omega) (by omega), nat_join 24 _ _ (by omega) (by omega)]
  have e2 : bits .or .u32 ((an * 16777216 + rn * 65536 : Nat) : Int) ((gn : Int) * 256) = ((an * 16777216 + rn * 65536 + gn * 256 : Nat) : Int) := by
    rw [show ((gn : Int) * 256) = ((gn * 256 : Nat) : Int) by omega, u32_or_nat _ _ (by omega) (by omega), nat_join 16 _ _ (by omega) (by omega)]
  have e3 : bits .or .u32 ((an * 16777216 + rn * 65536 + gn * 256 : Nat) : Int) (bn : Int) = ((an * 16777216 + rn * 65536 + gn * 256 + bn : Nat) : Int) := by
    rw [u32_or_nat _ _ (by omega) (by omega), nat_join 8 _ _ (by omega) (by omega)]
  rw [e1, e2, e3]
  unfold px
  omega

theorem infoU32 : (Try.prog.info? 43).map (fun i => (i.zero, i.size, i.bytes)) = some (some (.int .u32 0), 1, 4) := by kernel_rfl

set_option maxRecDepth 100000 in
set_option maxHeartbeats 800000 in
theorem joined_any (a : Option Addr) (n c : Nat) (f : Nat → Int) (w : World) (hn : n ≤ 70000) (h4 : n % 4 = 0) (ha : Arg .u8 w a n f) (hf : ∀ i, 0 ≤ f i ∧ f i ≤ 255) :
    Calls Try.prog 31 #[.slice a n c] w fun e w' => (∃ a' c', e = .returned (.slice a' (n / 4) c') ∧ Own .u32 w.heap.size w' a' (n / 4) (pxAt f)) ∧ Below w.heap.size w w' := by
  obtain ⟨i0, hi, hz0, hz1, hz2⟩ := info_parts infoU32
  obtain ⟨m, rfl⟩ : ∃ m, n = m * 4 := ⟨n / 4, by omega⟩
  rw [Nat.mul_div_cancel m (by decide)]
  have HA := Lib.hid (And.intro ha hf); clear ha hf h4
  go_enter Try.func31, Try.ntmps31
  go_wp2
  go_loopw [3, 4] (fun v i wr => ∃ p : Nat, p ≤ m ∧ i = .int .i64 ((p : Int) * 4) ∧ wr.ownsRow w.heap.size 43 1 v p (cellsOf .u32 p (pxAt f)) ∧ Hid (Below w.heap.size w wr)) (fun _ i _ => m * 4 - (intOf i).toNat)
  case atStart => exact ⟨0, by omega, rfl, World.ownsRow_nil _ _ _ _, Below.refl _ _⟩
  case round =>
    obtain ⟨p, hp, rfl, hown, hb⟩ := hrel
    by_cases hlt : p < m
    · obtain ⟨ga, oa, rfl, hga, ra⟩ := HA.out.1 (by omega)
      have k0 : wr.cell? ⟨ga, oa + p * 4, none⟩ = some (.int .u8 (f (p * 4))) := (hb.out.cell (p := ⟨ga, oa + p * 4, none⟩) hga).trans (ra (p * 4) (by omega))
      have k1 : wr.cell? ⟨ga, oa + (p * 4 + 1), none⟩ = some (.int .u8 (f (p * 4 + 1))) := (hb.out.cell (p := ⟨ga, oa + (p * 4 + 1), none⟩) hga).trans (ra (p * 4 + 1) (by omega))
      have k2 : wr.cell? ⟨ga, oa + (p * 4 + 2), none⟩ = some (.int .u8 (f (p * 4 + 2))) := (hb.out.cell (p := ⟨ga, oa + (p * 4 + 2), none⟩) hga).trans (ra (p * 4 + 2) (by omega))
      have k3 : wr.cell? ⟨ga, oa + (p * 4 + 3), none⟩ = some (.int .u8 (f (p * 4 + 3))) := (hb.out.cell (p := ⟨ga, oa + (p * 4 + 3), none⟩) hga).trans (ra (p * 4 + 3) (by omega))
      obtain ⟨b0, b1⟩ := HA.out.2 (p * 4)
      obtain ⟨b2, b3⟩ := HA.out.2 (p * 4 + 1)
      obtain ⟨b4, b5⟩ := HA.out.2 (p * 4 + 2)
      obtain ⟨b6, b7⟩ := HA.out.2 (p * 4 + 3)
      obtain ⟨x0, e0⟩ : ∃ x, x = f (p * 4) := ⟨_, rfl⟩
      obtain ⟨x1, e1⟩ : ∃ x, x = f (p * 4 + 1) := ⟨_, rfl⟩
      obtain ⟨x2, e2⟩ : ∃ x, x = f (p * 4 + 2) := ⟨_, rfl⟩
      obtain ⟨x3, e3⟩ : ∃ x, x = f (p * 4 + 3) := ⟨_, rfl⟩
      rw [← e0] at k0 b0 b1
      rw [← e1] at k1 b2 b3
      rw [← e2] at k2 b4 b5
      rw [← e3] at k3 b6 b7
      have hj : Hid (bits .or .u32 (bits .or .u32 (bits .or .u32 (x3 * 16777216) (x0 * 65536)) (x1 * 256)) x2 = pxAt f p) := Lib.hid (by
        rw [join4 x3 x0 x1 x2 b6 b7 b0 b1 b2 b3 b4 b5, pxAt, ← e0, ← e1, ← e2, ← e3])
      clear e0 e1 e2 e3 ra
      have hi4 : (p : Int) * 4 = ((p * 4 : Nat) : Int) := by omega
      rw [hi4]
      generalize hq : p * 4 = q at *
      go_wp2
      refine wp_region_move_quiet_tail 30 _ rfl rfl (by kernel_rfl) (by kernel_rfl) (fun _ _ _ h => h) ?_
      simp only [List.take_succ_cons, List.take_zero, List.drop_succ_cons, List.drop_zero]
      repeat (go_big_quiet_step (fail))
      refine wpQuiet_nil ?_
      intro wq hwq
      obtain ⟨nq, rfl⟩ := hwq
      rw [hj.out]
      go_wp2_with (at_builtin; refine wpList_append_own _ rfl _ _ 45 rfl w.heap.size 43 i0 (.int .u32 0) 1 4 Try.underlying45 hi hz0 hz1 hz2 rfl (by decide) _ _ _ rfl (World.ownsRow.alloc (World.ownsRow.kept hown (grownBy_drewN _ nq none) (by cases Value.ownBlock u3 <;> simp)) _) ⟨wr.heap.size, 0, none⟩ 1 1 [.int .u32 (pxAt f p)] rfl rfl (cell_one_new (wr.drewN nq) _ _) (by simp [Value.oneCell']) (by unfold maxLen; omega) (by omega) (by have := hb.out.size; simp; omega) ?_)
      intro v' w1 hown1 hgrow _
      have R1 : w1.ownsRow w.heap.size 43 1 v' (p + 1) (cellsOf .u32 (p + 1) (pxAt f)) := by rw [cellsOf_succ]; exact hown1
      have R2 : Below w.heap.size w w1 := ((below_drewN hb.out nq).alloc (by have := hb.out.size; simp; omega) _).grown hgrow (by have := hb.out.size; simp; omega) (fun k hk => (hown.lt k hk).1)
      clear hown1 hgrow k0 k1 k2 k3 hj
      go_wp2
      go_roundw
      case rel => exact ⟨p + 1, by omega, by rw [← hq]; go_num, R1, R2⟩
      case measure => simp [intOf]; omega
    · obtain rfl : p = m := by omega
      go_wp2
      go_ret
      obtain ⟨av, cv, rfl, hcv, ho⟩ := own_of_cells hown
      exact ⟨⟨_, _, rfl, ho⟩, hb.out⟩

theorem news4 (w : World) (v0 v1 v2 v3 : Value) (t : TypeId) : ∀ j u, [v0, v1, v2, v3][j]? = some u → (w.alloc (.cells #[v0, v1, v2, v3] t)).cell? ((⟨w.heap.size, 0, none⟩ : Addr).add j) = some u := fun j u h => by
  rw [Addr.add_lit, Nat.zero_add, cell_of_row _ _ j _ _ _ (heap_alloc_new w _)]
  simpa using h

/-- The i-th byte of pixels: red, green, blue, alpha. -/
def byAt (P : Nat → Int) (i : Nat) : Int :=
  if i % 4 = 0 then P (i / 4) / 65536 % 256 else if i % 4 = 1 then P (i / 4) / 256 % 256 else if i % 4 = 2 then P (i / 4) % 256 else P (i / 4) / 16777216 % 256
theorem byAt4 (P : Nat → Int) (p : Nat) : byAt P (p * 4) = P p / 65536 % 256 ∧ byAt P (p * 4 + 1) = P p / 256 % 256 ∧ byAt P (p * 4 + 2) = P p % 256 ∧ byAt P (p * 4 + 3) = P p / 16777216 % 256 := by
  unfold byAt
  refine ⟨?_, ?_, ?_, ?_⟩
  · rw [if_pos (by omega), show p * 4 / 4 = p by omega]
  · rw [if_neg (by omega), if_pos (by omega), show (p * 4 + 1) / 4 = p by omega]
  · rw [if_neg (by omega), if_neg (by omega), if_pos (by omega), show (p * 4 + 2) / 4 = p by omega]
  · rw [if_neg (by omega), if_neg (by omega), if_neg (by omega), show (p * 4 + 3) / 4 = p by omega]

set_option maxRecDepth 100000 in
set_option maxHeartbeats 800000 in
theorem split_any (a : Option Addr) (m c : Nat) (P : Nat → Int) (w : World) (hm : m ≤ 20000) (ha : Arg .u32 w a m P) (hP : ∀ i, i < m → 0 ≤ P i ∧ P i ≤ 4294967295) :
    Calls Try.prog 29 #[.slice a m c] w fun e w' => (∃ a' c', e = .returned (.slice a' (m * 4) c') ∧ Own .u8 w.heap.size w' a' (m * 4) (byAt P)) ∧ Below w.heap.size w w' := by
  obtain ⟨i0, hi, hz0, hz1, hz2⟩ := info_parts infoU8
  have HA := Lib.hid (And.intro ha hP); clear ha hP
  go_enter Try.func29, Try.ntmps29
  go_wp2
  go_loopw [3, 8] (fun v i wr => ∃ p : Nat, p ≤ m ∧ i = .int .i64 p ∧ wr.ownsRow w.heap.size 5 1 v (p * 4) (cellsOf .u8 (p * 4) (byAt P)) ∧ Hid (Below w.heap.size w wr)) (fun _ i _ => m - (intOf i).toNat)
  case atStart => exact ⟨0, by omega, rfl, World.ownsRow_nil _ _ _ _, Below.refl _ _⟩
  case round =>
    obtain ⟨p, hp, rfl, hown, hb⟩ := hrel
    by_cases hlt : p < m
    · obtain ⟨ga, oa, rfl, hga, ra⟩ := HA.out.1 (by omega)
      have k0 : wr.cell? ⟨ga, oa + p, none⟩ = some (.int .u32 (P p)) := (hb.out.cell (p := ⟨ga, oa + p, none⟩) hga).trans (ra p hlt)
      obtain ⟨b0, b1⟩ := HA.out.2 p hlt
      obtain ⟨y0, y1, y2, y3⟩ := byAt4 P p
      obtain ⟨x, ex⟩ : ∃ x, x = P p := ⟨_, rfl⟩
      rw [← ex] at k0 b0 b1 y0 y1 y2 y3
      have y3 : byAt P (p * 4 + 3) = x / 16777216 := by omega
      have HY := Lib.hid (And.intro y0 (And.intro y1 (And.intro y2 y3))); clear y0 y1 y2 y3 ex ra
      go_wp2_with (at_builtin; refine wpList_append_own _ rfl _ _ 27 rfl w.heap.size 5 i0 (.int .u8 0) 1 1 Try.underlying27 hi hz0 hz1 hz2 rfl (by decide) _ _ _ rfl (hown.alloc _) ⟨wr.heap.size, 0, none⟩ 4 4 [.int .u8 (x / 65536 % 256), .int .u8 (x / 256 % 256), .int .u8 (x % 256), .int .u8 (x / 16777216)] rfl rfl (news4 wr _ _ _ _ _) (by simp [Value.oneCell']) (by unfold maxLen; omega) (by omega) (by have := hb.out.size; simp; omega) ?_)
      intro v' w1 hown1 hgrow _
      have R1 : w1.ownsRow w.heap.size 5 1 v' ((p + 1) * 4) (cellsOf .u8 ((p + 1) * 4) (byAt P)) := by
        rw [show (p + 1) * 4 = p * 4 + 1 + 1 + 1 + 1 by omega, cellsOf_succ, cellsOf_succ, cellsOf_succ, cellsOf_succ, HY.out.1, HY.out.2.1, show p * 4 + 1 + 1 = p * 4 + 2 from rfl, HY.out.2.2.1, show p * 4 + 2 + 1 = p * 4 + 3 from rfl, HY.out.2.2.2]
        simpa using hown1
      have R2 : Below w.heap.size w w1 := (hb.out.alloc hb.out.size _).grown hgrow (by have := hb.out.size; simp; omega) (fun k hk => (hown.lt k hk).1)
      clear hown1 hgrow k0
      go_wp2
      go_roundw
      case rel => exact ⟨p + 1, by omega, by go_num, R1, R2⟩
      case measure => simp [intOf]; omega
    · obtain rfl : p = m := by omega
      go_wp2
      go_ret
      obtain ⟨av, cv, rfl, hcv, ho⟩ := own_of_cells hown
      exact ⟨⟨_, _, rfl, ho⟩, hb.out⟩
end Go.Proofs.YtoafokmghjfpmaaR
