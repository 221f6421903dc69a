/- The contracts of the reference's Unfilter and foretoldAlpha. -/
import Derived.Test.YtoafokmghjfpmaaRUnfPlain
import Derived.Test.YtoafokmghjfpmaaRClone
import Derived.RegionTactic
import Derived.BigRegion
import Derived.BigQuiet
import Derived.Deep.QuietTactic
import Derived.Test.YtoafokmghjfpmaaRQuietTail
import Derived.Outline
import Derived.WalkSmall
import Derived.Maps.AppendAt
namespace Go.Proofs.YtoafokmghjfpmaaR
open Go.RowKit
set_option linter.unusedVariables false

theorem byteOf_any (x : Int) (w : World) : Calls Try.prog 43 #[.int .i64 x] w fun e w' => e = .returned (.int .i64 (held255 x)) ∧ w' = w := by
  by_cases h1 : x < 0
  · go_enter Try.func43, Try.ntmps43
    go_wp2
    go_ret
    exact ⟨ret_int (held_lo h1), rfl⟩
  · by_cases h2 : 255 < x
    · go_enter Try.func43, Try.ntmps43
      go_wp2
      go_ret
      exact ⟨ret_int (held_hi h2), rfl⟩
    · go_enter Try.func43, Try.ntmps43
      go_wp2
      all_goals (go_ret; exact ⟨ret_int (by first | exact held_mid (by omega) (by omega) | (rw [show x = 0 by omega]; rfl)), rfl⟩)

theorem guess_row' {kind s i : Nat} {U : Nat → Int} (hk : kind ≠ 0) (h0 : i ≠ 0) (hm : ¬ i % s = 0) (h : i < s ∨ kind = 1) : guess kind s U i = U (i - 1) := by
  unfold guess
  rw [if_neg (by omega), if_neg hm, if_pos h]

theorem Arg.at {k : IntKind} {w : World} {g o n : Nat} {f : Nat → Int} (h : Row k w g o n f) (i : Nat) (hi : i < n) : w.cell? ⟨g, o + i, none⟩ = some (.int k (f i)) := h i hi

set_option maxRecDepth 100000 in
set_option maxHeartbeats 800000 in
theorem foretold_any (kind i s c : Nat) (ao : Option Addr) (x y : Int) (U : Nat → Int) (w : World) (hk : kind ≤ 3) (hs : 1 ≤ s) (hi : i ≤ 65536) (hss : s ≤ 65536)
    (hx : x = ((i % s : Nat) : Int)) (hy : y = ((i / s : Nat) : Int)) (ha : Arg .u8 w ao i U) (hU : ∀ i, 0 ≤ U i ∧ U i ≤ 255) :
    Calls Try.prog 33 #[.int .i64 kind, .slice ao i c, .int .i64 x, .int .i64 y, .int .i64 s] w fun e w' => e = .returned (.int .i64 (guess kind s U i)) ∧ ∃ d, w' = w.drewN d := by
  have exy : y * (s : Int) + x = (i : Int) := by
    rw [hx, hy, ← Int.natCast_mul, ← Int.natCast_add, Nat.div_add_mod']
  have hy0 : 0 ≤ y := by rw [hy]; exact Int.natCast_nonneg _
  have hx0 : 0 ≤ x := by rw [hx]; exact Int.natCast_nonneg _
  have hm0 : 0 ≤ y * (s : Int) := Int.mul_nonneg hy0 (by omega)
  have hxs : x < s := by rw [hx]; have := Nat.mod_lt i (show 0 < s by omega); exact Int.ofNat_lt.2 this
  have hm1 : y * (s : Int) ≤ 65536 := by omega
  have HX := Lib.hid hx; clear hx
  have HY := Lib.hid hy; clear hy
  have HA := Lib.hid ha; clear ha
  have HU := Lib.hid hU; clear hU
  by_cases k0 : kind = 0
  · subst k0
    go_enter Try.func33, Try.ntmps33
    go_wp2
    go_ret
    exact ⟨ret_int (by unfold guess; rw [if_pos (.inl rfl)]), 0, rfl⟩
  · have tk0 : ((kind : Int) == 0) = false := by simp; omega
    by_cases i0 : i = 0
    · obtain rfl : x = 0 := by rw [HX.out, i0]; simp
      obtain rfl : y = 0 := by rw [HY.out, i0]; simp
      go_enter Try.func33, Try.ntmps33
      go_wp2
      go_ret
      exact ⟨ret_int (by unfold guess; rw [if_pos (.inr i0)]), 0, rfl⟩
    · obtain ⟨g, o, rfl, hg, hr⟩ := HA.out (by omega)
      have c1 := hr (i - 1) (by omega)
      have b1 := HU.out (i - 1)
      have b2 := HU.out (i - s)
      by_cases m0 : i % s = 0
      · have hsi : s ≤ i := Nat.le_of_dvd (by omega) (Nat.dvd_of_mod_eq_zero m0)
        have c2 := hr (i - s) (by omega)
        obtain rfl : x = 0 := by rw [HX.out, m0]; simp
        have ty : (y == 0) = false := by
          have h1 : y ≠ 0 := by intro h; rw [h] at exy; omega
          simpa using h1
        have e1 : y * (s : Int) = (i : Int) := by omega
        have eg : guess kind s U i = U (i - s) := by unfold guess; rw [if_neg (by omega), if_pos m0]
        rw [eg]
        have j1 : (0 : Int) ≤ (i : Int) - (s : Int) := by omega
        clear exy hr eg
        go_enter Try.func33, Try.ntmps33
        go_wp2
        go_ret
        exact ⟨rfl, 0, rfl⟩
      · have tx : (x == 0) = false := by
          have h1 : x ≠ 0 := by rw [HX.out]; omega
          simpa using h1
        have hx1 : 1 ≤ x := by have : x ≠ 0 := by simpa using tx
                               omega
        have j0 : (0 : Int) ≤ (i : Int) - 1 := by omega
        by_cases hlt : i < s
        · obtain rfl : y = 0 := by rw [HY.out, Nat.div_eq_of_lt hlt]; simp
          have e1 : x = (i : Int) := by omega
          have eg : guess kind s U i = U (i - 1) := guess_row' k0 i0 m0 (.inl hlt)
          rw [eg]
          subst e1
          clear exy hr eg
          go_enter Try.func33, Try.ntmps33
          go_wp2
          go_ret
          exact ⟨rfl, 0, rfl⟩
        · have hy1 : 1 ≤ y := by
            have h1 : i / s ≠ 0 := by intro h; rw [Nat.div_eq_zero_iff] at h; omega
            rw [HY.out]; exact Int.ofNat_le.2 (Nat.pos_of_ne_zero h1)
          have ty : (y == 0) = false := by have : y ≠ 0 := by omega
                                           simpa using this
          have c2 := hr (i - s) (by omega)
          by_cases k1 : kind = 1
          · subst k1
            have eg : guess 1 s U i = U (i - 1) := guess_row' k0 i0 m0 (.inr rfl)
            rw [eg]
            clear hr eg
            go_enter Try.func33, Try.ntmps33
            go_wp2
            go_ret
            exact ⟨rfl, 0, rfl⟩
          · have tk1 : ((kind : Int) == 1) = false := by simp; omega
            have j1 : (0 : Int) ≤ (i : Int) - (s : Int) := by omega
            by_cases k2 : kind = 2
            · subst k2
              have eg : guess 2 s U i = U (i - s) := by unfold guess; rw [if_neg (by omega), if_neg m0, if_neg (by omega), if_pos rfl]
              rw [eg]
              clear hr eg
              go_enter Try.func33, Try.ntmps33
              go_wp2
              go_ret
              exact ⟨rfl, 0, rfl⟩
            · obtain rfl : kind = 3 := by omega
              have hs1 : s + 1 ≤ i := by
                have : i ≠ s := by intro h; rw [h, Nat.mod_self] at m0; exact m0 rfl
                omega
              have c3 := hr (i - s - 1) (by omega)
              have j2 : (0 : Int) ≤ (i : Int) - (s : Int) - 1 := by omega
              have eg : guess 3 s U i = held255 (U (i - 1) + U (i - s) - U (i - s - 1)) := by unfold guess; rw [if_neg (by omega), if_neg m0, if_neg (by omega), if_neg (by omega)]
              rw [eg]
              have b3 := HU.out (i - s - 1)
              clear hr eg
              go_enter Try.func33, Try.ntmps33
              go_wp2
              go_quiet ((go_at_call 43; exact Calls.quiet_of_same (byteOf_any _ _)))
              go_wp2
              go_ret
              exact ⟨rfl, _, rfl⟩

set_option maxRecDepth 100000 in
set_option maxHeartbeats 800000 in
theorem unfSpec_any (kind n c s : Nat) (a : Option Addr) (U f : Nat → Int) (h : Int) (w : World) (hk : kind ≤ 3) (hs : 1 ≤ s) (hn : n ≤ 65536) (hsn : s ≤ n) (hm : n % s = 0) (hh : h = ((n / s : Nat) : Int))
    (ha : Arg .u8 w a n f) (hf : ∀ i, 0 ≤ f i ∧ f i ≤ 255) (hU : ∀ i, U i = IntKind.u8.wrap (f i + guess kind s U i)) :
    Calls Try.prog 21 #[.int .i64 kind, .slice a n c, .int .i64 s, .int .i64 h] w fun e w' => (∃ a' c', e = .returned (.tuple #[.slice a' n c', .bool true]) ∧ Own .u8 w.heap.size w' a' n U) ∧ Below w.heap.size w w' := by
  obtain ⟨i0, hi, hz0, hz1, hz2⟩ := info_parts infoU8
  have HF := Lib.hid hf; clear hf
  have HU := Lib.hid hU; clear hU
  have HB : Hid (∀ i, 0 ≤ U i ∧ U i ≤ 255) := Lib.hid (fun i => by rw [HU.out i]; exact wrap_u8 _)
  have HA := Lib.hid ha; clear ha
  have hh1 : 1 ≤ h := by rw [hh]; exact Int.ofNat_le.2 (Nat.div_pos hsn hs)
  have t1 : ((n : Int) % (s : Int) != 0) = false := by rw [← Int.natCast_emod, hm]; rfl
  have t2 : ((n : Int) / (s : Int) != h) = false := by rw [hh, ← Int.natCast_ediv]; simp
  have t3 : ((s : Int) == 0) = false := by simp; omega
  have HH := Lib.hid (And.intro hm hh); clear hm hh
  have q0 : (0 : Int) ≤ (n : Int) / (s : Int) := Int.ediv_nonneg (by omega) (by omega)
  have q1 : (n : Int) / (s : Int) ≤ 65536 := Int.le_trans (Int.ediv_le_self _ (by omega)) (by omega)
  go_enter Try.func21, Try.ntmps21
  go_wp2
  go_loopw [10, 11] (fun v i wr => ∃ p : Nat, p ≤ n ∧ i = .int .i64 p ∧ wr.ownsRow w.heap.size 5 1 v p (cellsOf .u8 p U) ∧ Hid (Below w.heap.size w wr)) (fun _ i _ => n - (intOf i).toNat)
  case atStart => exact ⟨0, by omega, rfl, World.ownsRow_nil _ _ _ _, Below.refl _ _⟩
  case round =>
    obtain ⟨p, hp, rfl, hown, hb⟩ := hrel
    by_cases hlt : p < n
    · obtain ⟨ga, oa, rfl, hga, ra⟩ := HA.out (by omega)
      have hc : wr.cell? ⟨ga, oa + p, none⟩ = some (.int .u8 (f p)) := (hb.out.cell (p := ⟨ga, oa + p, none⟩) hga).trans (ra p hlt)
      obtain ⟨av, cv, rfl, hcv, ho⟩ := own_of_cells hown
      have HO := Lib.hid ho.arg; clear ho
      have m0 : (0 : Int) ≤ (p : Int) % (s : Int) := Int.emod_nonneg _ (by omega)
      have m1 : (p : Int) % (s : Int) ≤ 65536 := by have := Int.emod_lt_of_pos (p : Int) (show (0 : Int) < s by omega); omega
      have d0 : (0 : Int) ≤ (p : Int) / (s : Int) := Int.ediv_nonneg (by omega) (by omega)
      have d1 : (p : Int) / (s : Int) ≤ 65536 := Int.le_trans (Int.ediv_le_self _ (by omega)) (by omega)
      clear q0 q1 t1 t2
      go_wp2
      refine wp_region_move_quiet_tail 17 _ rfl rfl (by kernel_rfl) (by kernel_rfl) (fun _ _ _ h => h) ?_
      simp only [List.take_succ_cons, List.take_zero, List.drop_succ_cons, List.drop_zero]
      repeat (go_big_quiet_step ((go_at_call 33; exact Calls.quiet_of (foretold_any kind p s cv av _ _ U _ hk hs (by omega) (by omega) (Int.natCast_emod p s).symm (Int.natCast_ediv p s).symm HO.out HB.out))))
      refine wpQuiet_nil ?_
      intro wq hq
      obtain ⟨nq, rfl⟩ := hq
      go_wp2_with (at_builtin; refine wpList_append_own _ rfl _ _ 27 rfl w.heap.size 5 i0 (.int .u8 0) 1 1 Try.underlying27 hi hz0 hz1 hz2 rfl (by decide) _ _ _ rfl (World.ownsRow.alloc (World.ownsRow.kept hown (grownBy_drewN _ nq none) (by cases av <;> simp [Value.ownBlock])) _) ⟨wr.heap.size, 0, none⟩ 1 1 [.int .u8 ((f p + guess kind s U p) % 256)] rfl rfl (cell_one_new (wr.drewN nq) _ _) (by simp [Value.oneCell']) (by unfold maxLen; omega) (by omega) (by have := hb.out.size; simp; omega) ?_)
      intro v' w1 hown1 hgrow _
      have e := HU.out p
      rw [wrap_u8_mod] at e
      have R1 : w1.ownsRow w.heap.size 5 1 v' (p + 1) (cellsOf .u8 (p + 1) U) := by rw [cellsOf_succ, e]; exact hown1
      have R2 : Below w.heap.size w w1 := ((below_drewN hb.out nq).alloc (by have := hb.out.size; simp; omega) _).grown hgrow (by have := hb.out.size; simp; omega) (fun k hk => (hown.lt k hk).1)
      clear e hown1 hgrow
      go_wp2
      go_roundw
      case rel => exact ⟨p + 1, by omega, by go_num, R1, R2⟩
      case measure => simp [intOf]; omega
    · obtain rfl : p = n := by omega
      go_wp2
      go_ret2
      obtain ⟨av, cv, rfl, hcv, ho⟩ := own_of_cells hown
      exact ⟨⟨_, _, rfl, ho⟩, hb.out⟩
end Go.Proofs.YtoafokmghjfpmaaR
