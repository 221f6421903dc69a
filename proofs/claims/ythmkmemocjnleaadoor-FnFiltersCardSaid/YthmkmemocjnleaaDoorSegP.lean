/- The package's head of segments: parseSegmentHeader. Printed by wip/gen_segp.py. -/
import Derived.Test.YthmkmemocjnleaaDoorSegG
import Derived.Deep.RegionWith
import Derived.Deep.QuietTactic
namespace Go.Proofs.YthmkmemocjnleaaDoor
open Go.RowKit
open At51 (put_u put_m put_r put_q put_l put_p at_q at_l at_p)
set_option linter.unusedVariables false

theorem fit8 (x : Int) (h0 : -128 ≤ x) (h1 : x ≤ 127) : IntKind.i8.wrap x = x := IntWalk.i8_in x ⟨h0, h1⟩
theorem opt_bd {σ : Type} (step : σ → Int → Bool × σ) (k : Nat) (hk : k ≤ 7) (s : σ) : -127 ≤ (optG step 128 k s).1 ∧ (optG step 128 k s).1 ≤ 127 := by
  have hb := bitsG_range step 128 k 0 (step s 128).2
  have hp : (2 : Int) ^ k ≤ 128 := by
    have := Int.ofNat_le.2 (Nat.pow_le_pow_right (n := 2) (by omega) hk)
    simpa using this
  simp only [Int.zero_mul, Int.zero_add, Int.one_mul] at hb
  unfold optG signG
  split
  · simp only
    split <;> omega
  · simp
theorem pr_bd {σ : Type} (step : σ → Int → Bool × σ) (s : σ) : 0 ≤ (prG step s).1 ∧ (prG step s).1 ≤ 255 := by
  have hb := bitsG_range step 128 8 0 (step s 128).2
  simp only [Int.zero_mul, Int.zero_add, Int.one_mul] at hb
  unfold prG
  split
  · omega
  · simp
theorem itS_okP (zs : List Int) (hz : Bytes zs) (h255 : zs.getD 0 0 ≠ 255) {f : DS → Int × DS} (hf : ∀ d, OKP zs d → OKP zs (f d).2) (d : DS) (h : OKP zs d) : ∀ n, OKP zs (itS f n d)
  | 0 => h
  | n + 1 => hf _ (itS_okP zs hz h255 hf d h n)
theorem partZ_all {x : Int} {E : Nat → Int} {n : Nat} (i : Nat) (hi : i < n) : partZ x E n i = E i := by unfold partZ; rw [if_pos hi]
theorem partZ_zero (x : Int) (E : Nat → Int) (i : Nat) : partZ x E 0 i = x := by unfold partZ; rw [if_neg (by omega)]


set_option maxRecDepth 100000 in
set_option maxHeartbeats 4000000 in
theorem parseSeg_any (g : Nat) (ao : Option Addr) (n c : Nat) (zs : List Int) (d : DS) (z : Nat → Option Value) (w : World) (h : At51.Rd (segR z false false false (fun _ => 0) (fun _ => 0) (fun _ => 255)) w g ao n c zs d) :
    Calls Tryd.prog 63 #[.pointer (some ⟨g, 0, none⟩)] w fun e w' =>
      e = .returned (.tuple #[]) ∧ At51.Rd (segR z (segG (stepP zs) d).1.u (segG (stepP zs) d).1.m ((segG (stepP zs) d).1.t && !(segG (stepP zs) d).1.a) (segG (stepP zs) d).1.q (segG (stepP zs) d).1.l (segG (stepP zs) d).1.p) w' g ao n c zs (segG (stepP zs) d).2 ∧ w.grownBy w' (some g) := by
  obtain ⟨v, hv⟩ : ∃ v, v = segG (stepP zs) d := ⟨_, rfl⟩
  rw [← hv]
  obtain ⟨b1, d1, s1⟩ : ∃ b1 d1, stepP zs d 128 = (b1, d1) := ⟨_, _, rfl⟩
  have H := Lib.hid (And.intro h (And.intro hv s1)); clear h hv s1
  go_enter Tryd.func63, Tryd.ntmps63
  go_wp2_with fail
  refine (At51.readBit_any g ao n c zs d 128 w H.out.1 (by decide) (by decide)).mono ?_
  rintro _ w1 ⟨rfl, ho, hg⟩
  have H1 : Hid (At51.Rd (segR z false false false (fun _ => 0) (fun _ => 0) (fun _ => 255)) w1 g ao n c zs (stepP zs d 128).2 ∧ w.grownBy w1 (some g)) := Lib.hid ⟨H.out.1.step hg ho (stepP_ok zs d H.out.1.ok H.out.1.bytes H.out.1.first 128 (by decide) (by decide)), hg⟩
  clear ho hg
  rw [H.out.2.2] at H1 ⊢
  simp only at H1 ⊢
  have k0 : w1.cell? ⟨g, 21, none⟩ = some (.bool false) := At51.FO.cell H1.out.1.obj 21 (by omega) rfl
  have z0 : w1.frozen? ⟨g, 21, none⟩ = false := At51.FO.free H1.out.1.obj 21
  have k1 : w1.cell? ⟨g, 22, none⟩ = some (.bool false) := At51.FO.cell H1.out.1.obj 22 (by omega) rfl
  have z1 : w1.frozen? ⟨g, 22, none⟩ = false := At51.FO.free H1.out.1.obj 22
  have H2 : Hid (At51.Rd (segR z b1 false false (fun _ => 0) (fun _ => 0) (fun _ => 255)) (w1.setCell ⟨g, 21, none⟩ (.bool b1)) g ao n c zs d1 ∧ w.grownBy (w1.setCell ⟨g, 21, none⟩ (.bool b1)) (some g)) := Lib.hid ⟨put_u H1.out.1 b1, grownBy.trans H1.out.2 (grownBy_setCell _ _ _)⟩
  cases b1 with
  | false =>
    have H3 : Hid (At51.Rd (segR z false false false (fun _ => 0) (fun _ => 0) (fun _ => 255)) ((w1.setCell ⟨g, 21, none⟩ (.bool false)).setCell ⟨g, 22, none⟩ (.bool false)) g ao n c zs d1 ∧ w.grownBy ((w1.setCell ⟨g, 21, none⟩ (.bool false)).setCell ⟨g, 22, none⟩ (.bool false)) (some g)) := Lib.hid ⟨put_m H2.out.1 false, grownBy.trans H2.out.2 (grownBy_setCell _ _ _)⟩
    go_wp2
    (try simp only [Exit.inBlock, Exit.then]); refine bodyPost_ret (results_none rfl _ _ _) rfl ?_
    have e : v = (⟨false, false, false, false, fun _ => 0, fun _ => 0, fun _ => 255⟩, d1) := by rw [H.out.2.1]; unfold segG; rw [H.out.2.2]; rfl
    subst e
    exact ⟨rfl, H3.out⟩
  | true =>
    go_wp2_with fail
    generalize World.setCell w1 _ _ = w2 at H2 ⊢
    clear H1 k0 z0 k1 z1
    obtain ⟨b2, d2, s2⟩ : ∃ b2 d2, stepP zs d1 128 = (b2, d2) := ⟨_, _, rfl⟩
    have HS2 := Lib.hid s2; clear s2
    refine (At51.readBit_any g ao n c zs d1 128 w2 H2.out.1 (by decide) (by decide)).mono ?_
    rintro _ w3 ⟨rfl, ho, hg⟩
    have H3 : Hid (At51.Rd (segR z true false false (fun _ => 0) (fun _ => 0) (fun _ => 255)) w3 g ao n c zs (stepP zs d1 128).2 ∧ w.grownBy w3 (some g)) := Lib.hid ⟨H2.out.1.step hg ho (stepP_ok zs d1 H2.out.1.ok H2.out.1.bytes H2.out.1.first 128 (by decide) (by decide)), grownBy.trans H2.out.2 hg⟩
    clear ho hg
    rw [HS2.out] at H3 ⊢
    simp only at H3 ⊢
    have k1 : w3.cell? ⟨g, 22, none⟩ = some (.bool false) := At51.FO.cell H3.out.1.obj 22 (by omega) rfl
    have z1 : w3.frozen? ⟨g, 22, none⟩ = false := At51.FO.free H3.out.1.obj 22
    have H4 : Hid (At51.Rd (segR z true b2 false (fun _ => 0) (fun _ => 0) (fun _ => 255)) (w3.setCell ⟨g, 22, none⟩ (.bool b2)) g ao n c zs d2 ∧ w.grownBy (w3.setCell ⟨g, 22, none⟩ (.bool b2)) (some g)) := Lib.hid ⟨put_m H3.out.1 b2, grownBy.trans H3.out.2 (grownBy_setCell _ _ _)⟩
    go_wp2_with fail
    generalize World.setCell w3 _ _ = w4 at H4 ⊢
    clear H3 H2 k1 z1
    obtain ⟨b3, d3, s3⟩ : ∃ b3 d3, stepP zs d2 128 = (b3, d3) := ⟨_, _, rfl⟩
    have HS3 := Lib.hid s3; clear s3
    refine (At51.readBit_any g ao n c zs d2 128 w4 H4.out.1 (by decide) (by decide)).mono ?_
    rintro _ w5 ⟨rfl, ho, hg⟩
    have H5 : Hid (At51.Rd (segR z true b2 false (fun _ => 0) (fun _ => 0) (fun _ => 255)) w5 g ao n c zs (stepP zs d2 128).2 ∧ w.grownBy w5 (some g)) := Lib.hid ⟨H4.out.1.step hg ho (stepP_ok zs d2 H4.out.1.ok H4.out.1.bytes H4.out.1.first 128 (by decide) (by decide)), grownBy.trans H4.out.2 hg⟩
    clear ho hg H4
    rw [HS3.out] at H5 ⊢
    simp only at H5 ⊢
    have HE : Hid (v = segB (stepP zs) b2 b3 d3) := Lib.hid (by rw [H.out.2.1]; unfold segG; rw [H.out.2.2]; simp only [if_true]; rw [HS2.out]; simp only; rw [HS3.out])
    clear H HS2 HS3
    cases b3 with
    | false =>
      have HQ : Hid (At51.Rd (segR z true b2 (false && !false) (fun _ => 0) (fun _ => 0) (fun _ => 255)) w5 g ao n c zs d3 ∧ w.grownBy w5 (some g)) := H5
      have HE : Hid (v = segT (stepP zs) b2 false false (fun _ => 0) (fun _ => 0) d3) := HE
      have k1 : w5.cell? ⟨g, 22, none⟩ = some (.bool b2) := At51.FO.cell HQ.out.1.obj 22 (by omega) rfl
      cases b2 with
      | false =>
        go_wp2
        (try simp only [Exit.inBlock, Exit.then]); refine bodyPost_ret (results_none rfl _ _ _) rfl ?_
        have e := HE.out
        unfold segT at e
        simp only [Bool.false_eq_true, if_false] at e
        subst e
        exact ⟨rfl, HQ.out⟩
      | true =>
        have HP : Hid (At51.Rd (segR z true true (false && !false) (fun _ => 0) (fun _ => 0) (partZ 255 (itV (prG (stepP zs)) d3) 0)) w5 g ao n c zs (itS (prG (stepP zs)) 0 d3) ∧ w.grownBy w5 (some g)) := Lib.hid ⟨HQ.out.1.congr (segR_congr _ _ _ _ (fun i hi => rfl) (fun i _ => rfl) (fun i _ => (partZ_zero 255 _ i).symm)), HQ.out.2⟩
        go_wp2
        clear HQ k1
        go_loopw [4, 80] (fun _ i wr => ∃ p : Nat, p ≤ 3 ∧ i = .int .i64 p ∧ Hid (At51.Rd (segR z true true (false && !false) (fun _ => 0) (fun _ => 0) (partZ 255 (itV (prG (stepP zs)) d3) p)) wr g ao n c zs (itS (prG (stepP zs)) p d3) ∧ w.grownBy wr (some g))) (fun _ i _ => 3 - (intOf i).toNat)
        case atStart => exact ⟨0, by omega, rfl, HP⟩
        case round =>
          obtain ⟨p, hp, rfl, hR⟩ := hrel
          by_cases hlt : p < 3
          · obtain ⟨dd, hdd⟩ : ∃ dd, dd = itS (prG (stepP zs)) p d3 := ⟨_, rfl⟩
            have HD : Hid (dd = itS (prG (stepP zs)) p d3) := Lib.hid hdd
            rw [← hdd] at hR; clear hdd
            obtain ⟨bb, d6, s6⟩ : ∃ bb d6, stepP zs dd 128 = (bb, d6) := ⟨_, _, rfl⟩
            have HS6 := Lib.hid s6; clear s6
            go_wp2_with fail
            refine (At51.readBit_any g ao n c zs dd 128 wr hR.out.1 (by decide) (by decide)).mono ?_
            rintro _ w9 ⟨rfl, ho, hg⟩
            have H9 : Hid (At51.Rd (segR z true true (false && !false) (fun _ => 0) (fun _ => 0) (partZ 255 (itV (prG (stepP zs)) d3) p)) w9 g ao n c zs (stepP zs dd 128).2 ∧ w.grownBy w9 (some g)) := Lib.hid ⟨hR.out.1.step hg ho (stepP_ok zs dd hR.out.1.ok hR.out.1.bytes hR.out.1.first 128 (by decide) (by decide)), grownBy.trans hR.out.2 hg⟩
            clear ho hg
            rw [HS6.out] at H9 ⊢
            simp only at H9 ⊢
            cases bb with
            | false =>
              have d0 : w9.cell? ⟨g, 32 + p, none⟩ = some (.int .u8 _) := At51.FO.cell H9.out.1.obj (32 + p) (by omega) (at_p _ _ _ _ _ _ _ p hlt)
              have z0 : w9.frozen? ⟨g, 32 + p, none⟩ = false := At51.FO.free H9.out.1.obj _
              have HV : Hid (255 = itV (prG (stepP zs)) d3 p ∧ itS (prG (stepP zs)) (p + 1) d3 = d6) := Lib.hid (by show (255 : Int) = (prG (stepP zs) (itS _ p _)).1 ∧ (prG (stepP zs) (itS _ p _)).2 = d6; rw [← HD.out]; unfold prG; rw [HS6.out]; exact ⟨rfl, rfl⟩)
              have HN : Hid (At51.Rd (segR z true true (false && !false) (fun _ => 0) (fun _ => 0) (partZ 255 (itV (prG (stepP zs)) d3) (p + 1))) (w9.setCell ⟨g, 32 + p, none⟩ (.int .u8 255)) g ao n c zs (itS (prG (stepP zs)) (p + 1) d3) ∧ w.grownBy (w9.setCell ⟨g, 32 + p, none⟩ (.int .u8 255)) (some g)) := by rw [HV.out.2]; exact Lib.hid ⟨by have key := put_p p hlt H9.out.1; rw [← HV.out.1] at key; exact key, grownBy.trans H9.out.2 (grownBy_setCell _ _ _)⟩
              go_wp2
              go_roundw
              case rel => first | exact ⟨p + 1, by omega, by go_num, HN⟩ | ((repeat apply Exists.intro); refine ⟨?_, rfl⟩; exact ⟨p + 1, by omega, by go_num, HN⟩)
              case measure => simp [intOf]; omega
            | true =>
              go_wp2_with fail
              obtain ⟨x0, x1⟩ := pr_bd (stepP zs) dd
              obtain ⟨x, hx⟩ : ∃ x, x = (bitsG (stepP zs) 128 8 0 d6).1 := ⟨_, rfl⟩
              have hx2 : (prG (stepP zs) dd).1 = x := by unfold prG; rw [HS6.out, hx]; rfl
              rw [hx2] at x0 x1
              have HV : Hid (x = itV (prG (stepP zs)) d3 p ∧ itS (prG (stepP zs)) (p + 1) d3 = (bitsG (stepP zs) 128 8 0 d6).2) := Lib.hid (by refine ⟨by rw [← hx2, HD.out]; rfl, ?_⟩; show (prG (stepP zs) (itS _ p _)).2 = _; rw [← HD.out]; unfold prG; rw [HS6.out]; rfl)
              have HXY := Lib.hid hx; clear hx hx2
              go_region_with (first | (go_at_call 58; refine (At51.readUint_any g ao n c zs d6 128 8 _ (H9.out.1.drewN 1) (by decide) (by decide) (by decide)).mono ?_; rintro _ w8 ⟨rfl, ho, hg⟩; have H8 : Hid (At51.Rd (segR z true true (false && !false) (fun _ => 0) (fun _ => 0) (partZ 255 (itV (prG (stepP zs)) d3) p)) w8 g ao n c zs (bitsG (stepP zs) 128 8 0 d6).2 ∧ w.grownBy w8 (some g)) := Lib.hid ⟨ho, grownBy.trans H9.out.2 (grownBy.trans (grownBy_drewN _ 1 _) hg)⟩; clear ho hg; have d0 : w8.cell? ⟨g, 32 + p, none⟩ = some (.int .u8 _) := At51.FO.cell H8.out.1.obj (32 + p) (by omega) (at_p _ _ _ _ _ _ _ p hlt); have z0 : w8.frozen? ⟨g, 32 + p, none⟩ = false := At51.FO.free H8.out.1.obj _; rw [← HXY.out]))
              all_goals
                have HN : Hid (At51.Rd (segR z true true (false && !false) (fun _ => 0) (fun _ => 0) (partZ 255 (itV (prG (stepP zs)) d3) (p + 1))) (w8.setCell ⟨g, 32 + p, none⟩ (.int .u8 x)) g ao n c zs (itS (prG (stepP zs)) (p + 1) d3) ∧ w.grownBy (w8.setCell ⟨g, 32 + p, none⟩ (.int .u8 x)) (some g)) := by rw [HV.out.2, HV.out.1]; exact Lib.hid ⟨put_p p hlt H8.out.1, grownBy.trans H8.out.2 (grownBy_setCell _ _ _)⟩
                go_wp2
                go_roundw
                case rel => first | exact ⟨p + 1, by omega, by go_num, HN⟩ | ((repeat apply Exists.intro); refine ⟨?_, rfl⟩; exact ⟨p + 1, by omega, by go_num, HN⟩)
                case measure => simp [intOf]; omega
          · obtain rfl : p = 3 := by omega
            have e := HE.out
            unfold segT at e
            simp only [if_true] at e
            have He := Lib.hid e; clear e
            go_wp2
            go_end0
            rw [He.out]
            exact ⟨rfl, hR.out.1.congr (segR_congr _ _ _ _ (fun i hi => rfl) (fun i _ => rfl) (fun i hi => partZ_all i hi)), hR.out.2⟩
    | true =>
      go_wp2_with fail
      obtain ⟨b4, d4, s4⟩ : ∃ b4 d4, stepP zs d3 128 = (b4, d4) := ⟨_, _, rfl⟩
      have HS4 := Lib.hid s4; clear s4
      refine (At51.readBit_any g ao n c zs d3 128 w5 H5.out.1 (by decide) (by decide)).mono ?_
      rintro _ w6 ⟨rfl, ho, hg⟩
      have H6 : Hid (At51.Rd (segR z true b2 false (fun _ => 0) (fun _ => 0) (fun _ => 255)) w6 g ao n c zs (stepP zs d3 128).2 ∧ w.grownBy w6 (some g)) := Lib.hid ⟨H5.out.1.step hg ho (stepP_ok zs d3 H5.out.1.ok H5.out.1.bytes H5.out.1.first 128 (by decide) (by decide)), grownBy.trans H5.out.2 hg⟩
      clear ho hg H5
      rw [HS4.out] at H6 ⊢
      simp only at H6 ⊢
      have HE2 : Hid (v = segA (stepP zs) b2 b4 d4) := Lib.hid (by rw [HE.out]; unfold segB; simp only [if_true]; rw [HS4.out])
      clear HE HS4
      have k1 : w6.cell? ⟨g, 23, none⟩ = some (.bool false) := At51.FO.cell H6.out.1.obj 23 (by omega) rfl
      have z1 : w6.frozen? ⟨g, 23, none⟩ = false := At51.FO.free H6.out.1.obj 23
      have H7 : Hid (At51.Rd (segR z true b2 (!b4) (partZ 0 (itV (optG (stepP zs) 128 7) d4) 0) (fun _ => 0) (fun _ => 255)) (w6.setCell ⟨g, 23, none⟩ (.bool (!b4))) g ao n c zs (itS (optG (stepP zs) 128 7) 0 d4) ∧ w.grownBy (w6.setCell ⟨g, 23, none⟩ (.bool (!b4))) (some g)) := Lib.hid ⟨(put_r H6.out.1 (!b4)).congr (segR_congr _ _ _ _ (fun i _ => (partZ_zero 0 _ i).symm) (fun _ _ => rfl) (fun _ _ => rfl)), grownBy.trans H6.out.2 (grownBy_setCell _ _ _)⟩
      go_wp2_with fail
      generalize World.setCell w6 _ _ = w7 at H7 ⊢
      clear H6 k1 z1
      go_loopw [2, 44] (fun _ i wr => ∃ p : Nat, p ≤ 4 ∧ i = .int .i64 p ∧ Hid (At51.Rd (segR z true b2 (!b4) (partZ 0 (itV (optG (stepP zs) 128 7) d4) p) (fun _ => 0) (fun _ => 255)) wr g ao n c zs (itS (optG (stepP zs) 128 7) p d4) ∧ w.grownBy wr (some g))) (fun _ i _ => 4 - (intOf i).toNat)
      case atStart => exact ⟨0, by omega, rfl, H7⟩
      case round =>
        obtain ⟨p, hp, rfl, hR⟩ := hrel
        by_cases hlt : p < 4
        · go_wp2_with fail
          obtain ⟨x0, x1⟩ := opt_bd (stepP zs) 7 (by decide) (itS (optG (stepP zs) 128 7) p d4)
          obtain ⟨x, hx⟩ : ∃ x, x = (optG (stepP zs) 128 7 (itS (optG (stepP zs) 128 7) p d4)).1 := ⟨_, rfl⟩
          rw [← hx] at x0 x1
          have HXX : Hid (x = (itV (optG (stepP zs) 128 7) d4) p) := Lib.hid hx
          have HXY := Lib.hid hx; clear hx
          go_region_with (first | (go_at_call 60; refine (At51.readOpt_any g ao n c zs (itS (optG (stepP zs) 128 7) p d4) 128 7 _ (hR.out.1.drewN 1) (by decide) (by decide) (by decide)).mono ?_; rintro _ w8 ⟨rfl, ho, hg⟩; have H8 : Hid (At51.Rd (segR z true b2 (!b4) (partZ 0 (itV (optG (stepP zs) 128 7) d4) p) (fun _ => 0) (fun _ => 255)) w8 g ao n c zs (itS (optG (stepP zs) 128 7) (p + 1) d4) ∧ w.grownBy w8 (some g)) := Lib.hid ⟨ho, grownBy.trans hR.out.2 (grownBy.trans (grownBy_drewN _ 1 _) hg)⟩; clear ho hg; have d0 : w8.cell? ⟨g, 24 + p, none⟩ = some (.int .i8 _) := At51.FO.cell H8.out.1.obj (24 + p) (by omega) (at_q _ _ _ _ _ _ _ p hlt); have z0 : w8.frozen? ⟨g, 24 + p, none⟩ = false := At51.FO.free H8.out.1.obj _; rw [← HXY.out]))
          all_goals
            have HN : Hid (At51.Rd (segR z true b2 (!b4) (partZ 0 (itV (optG (stepP zs) 128 7) d4) (p + 1)) (fun _ => 0) (fun _ => 255)) (w8.setCell ⟨g, 24 + p, none⟩ (.int .i8 x)) g ao n c zs (itS (optG (stepP zs) 128 7) (p + 1) d4) ∧ w.grownBy (w8.setCell ⟨g, 24 + p, none⟩ (.int .i8 x)) (some g)) := by rw [HXX.out]; exact Lib.hid ⟨put_q p hlt H8.out.1, grownBy.trans H8.out.2 (grownBy_setCell _ _ _)⟩
            go_wp2
            go_roundw
            case rel => first | exact ⟨p + 1, by omega, by go_num, HN⟩ | ((repeat apply Exists.intro); refine ⟨?_, rfl⟩; exact ⟨p + 1, by omega, by go_num, HN⟩)
            case measure => simp [intOf]; omega
        · obtain rfl : p = 4 := by omega
          have HL : Hid (At51.Rd (segR z true b2 (!b4) (itV (optG (stepP zs) 128 7) d4) (partZ 0 (itV (optG (stepP zs) 128 6) (itS (optG (stepP zs) 128 7) 4 d4)) 0) (fun _ => 255)) wr g ao n c zs (itS (optG (stepP zs) 128 6) 0 (itS (optG (stepP zs) 128 7) 4 d4)) ∧ w.grownBy wr (some g)) := Lib.hid ⟨hR.out.1.congr (segR_congr _ _ _ _ (fun i hi => partZ_all i hi) (fun i _ => (partZ_zero 0 _ i).symm) (fun _ _ => rfl)), hR.out.2⟩
          clear hR hlt hp
          go_wp2
          go_loopw [3, 59] (fun _ i wr => ∃ p : Nat, p ≤ 4 ∧ i = .int .i64 p ∧ Hid (At51.Rd (segR z true b2 (!b4) (itV (optG (stepP zs) 128 7) d4) (partZ 0 (itV (optG (stepP zs) 128 6) (itS (optG (stepP zs) 128 7) 4 d4)) p) (fun _ => 255)) wr g ao n c zs (itS (optG (stepP zs) 128 6) p (itS (optG (stepP zs) 128 7) 4 d4)) ∧ w.grownBy wr (some g))) (fun _ i _ => 4 - (intOf i).toNat)
          case atStart => exact ⟨0, by omega, rfl, HL⟩
          case round =>
            obtain ⟨p, hp, rfl, hR⟩ := hrel
            by_cases hlt : p < 4
            · go_wp2_with fail
              obtain ⟨x0, x1⟩ := opt_bd (stepP zs) 6 (by decide) (itS (optG (stepP zs) 128 6) p (itS (optG (stepP zs) 128 7) 4 d4))
              obtain ⟨x, hx⟩ : ∃ x, x = (optG (stepP zs) 128 6 (itS (optG (stepP zs) 128 6) p (itS (optG (stepP zs) 128 7) 4 d4))).1 := ⟨_, rfl⟩
              rw [← hx] at x0 x1
              have HXX : Hid (x = (itV (optG (stepP zs) 128 6) (itS (optG (stepP zs) 128 7) 4 d4)) p) := Lib.hid hx
              have HXY := Lib.hid hx; clear hx
              go_region_with (first | (go_at_call 60; refine (At51.readOpt_any g ao n c zs (itS (optG (stepP zs) 128 6) p (itS (optG (stepP zs) 128 7) 4 d4)) 128 6 _ (hR.out.1.drewN 1) (by decide) (by decide) (by decide)).mono ?_; rintro _ w8 ⟨rfl, ho, hg⟩; have H8 : Hid (At51.Rd (segR z true b2 (!b4) (itV (optG (stepP zs) 128 7) d4) (partZ 0 (itV (optG (stepP zs) 128 6) (itS (optG (stepP zs) 128 7) 4 d4)) p) (fun _ => 255)) w8 g ao n c zs (itS (optG (stepP zs) 128 6) (p + 1) (itS (optG (stepP zs) 128 7) 4 d4)) ∧ w.grownBy w8 (some g)) := Lib.hid ⟨ho, grownBy.trans hR.out.2 (grownBy.trans (grownBy_drewN _ 1 _) hg)⟩; clear ho hg; have d0 : w8.cell? ⟨g, 28 + p, none⟩ = some (.int .i8 _) := At51.FO.cell H8.out.1.obj (28 + p) (by omega) (at_l _ _ _ _ _ _ _ p hlt); have z0 : w8.frozen? ⟨g, 28 + p, none⟩ = false := At51.FO.free H8.out.1.obj _; rw [← HXY.out]))
              all_goals
                have HN : Hid (At51.Rd (segR z true b2 (!b4) (itV (optG (stepP zs) 128 7) d4) (partZ 0 (itV (optG (stepP zs) 128 6) (itS (optG (stepP zs) 128 7) 4 d4)) (p + 1)) (fun _ => 255)) (w8.setCell ⟨g, 28 + p, none⟩ (.int .i8 x)) g ao n c zs (itS (optG (stepP zs) 128 6) (p + 1) (itS (optG (stepP zs) 128 7) 4 d4)) ∧ w.grownBy (w8.setCell ⟨g, 28 + p, none⟩ (.int .i8 x)) (some g)) := by rw [HXX.out]; exact Lib.hid ⟨put_l p hlt H8.out.1, grownBy.trans H8.out.2 (grownBy_setCell _ _ _)⟩
                go_wp2
                go_roundw
                case rel => first | exact ⟨p + 1, by omega, by go_num, HN⟩ | ((repeat apply Exists.intro); refine ⟨?_, rfl⟩; exact ⟨p + 1, by omega, by go_num, HN⟩)
                case measure => simp [intOf]; omega
            · obtain rfl : p = 4 := by omega
              have HQ : Hid (At51.Rd (segR z true b2 (true && !b4) (itV (optG (stepP zs) 128 7) d4) (itV (optG (stepP zs) 128 6) (itS (optG (stepP zs) 128 7) 4 d4)) (fun _ => 255)) wr g ao n c zs (itS (optG (stepP zs) 128 6) 4 (itS (optG (stepP zs) 128 7) 4 d4)) ∧ w.grownBy wr (some g)) := Lib.hid ⟨hR.out.1.congr (segR_congr _ _ _ _ (fun i hi => rfl) (fun i hi => partZ_all i hi) (fun _ _ => rfl)), hR.out.2⟩
              have HE : Hid (v = segT (stepP zs) b2 true b4 (itV (optG (stepP zs) 128 7) d4) (itV (optG (stepP zs) 128 6) (itS (optG (stepP zs) 128 7) 4 d4)) (itS (optG (stepP zs) 128 6) 4 (itS (optG (stepP zs) 128 7) 4 d4))) := Lib.hid HE2.out
              clear hR hlt hp HE2
              have k1 : wr.cell? ⟨g, 22, none⟩ = some (.bool b2) := At51.FO.cell HQ.out.1.obj 22 (by omega) rfl
              cases b2 with
              | false =>
                go_wp2
                (try simp only [Exit.inBlock, Exit.then]); refine bodyPost_ret (results_none rfl _ _ _) rfl ?_
                have e := HE.out
                unfold segT at e
                simp only [Bool.false_eq_true, if_false] at e
                subst e
                exact ⟨rfl, HQ.out⟩
              | true =>
                have HP : Hid (At51.Rd (segR z true true (true && !b4) (itV (optG (stepP zs) 128 7) d4) (itV (optG (stepP zs) 128 6) (itS (optG (stepP zs) 128 7) 4 d4)) (partZ 255 (itV (prG (stepP zs)) (itS (optG (stepP zs) 128 6) 4 (itS (optG (stepP zs) 128 7) 4 d4))) 0)) wr g ao n c zs (itS (prG (stepP zs)) 0 (itS (optG (stepP zs) 128 6) 4 (itS (optG (stepP zs) 128 7) 4 d4))) ∧ w.grownBy wr (some g)) := Lib.hid ⟨HQ.out.1.congr (segR_congr _ _ _ _ (fun i hi => rfl) (fun i _ => rfl) (fun i _ => (partZ_zero 255 _ i).symm)), HQ.out.2⟩
                go_wp2
                clear HQ k1
                go_loopw [4, 80] (fun _ i wr => ∃ p : Nat, p ≤ 3 ∧ i = .int .i64 p ∧ Hid (At51.Rd (segR z true true (true && !b4) (itV (optG (stepP zs) 128 7) d4) (itV (optG (stepP zs) 128 6) (itS (optG (stepP zs) 128 7) 4 d4)) (partZ 255 (itV (prG (stepP zs)) (itS (optG (stepP zs) 128 6) 4 (itS (optG (stepP zs) 128 7) 4 d4))) p)) wr g ao n c zs (itS (prG (stepP zs)) p (itS (optG (stepP zs) 128 6) 4 (itS (optG (stepP zs) 128 7) 4 d4))) ∧ w.grownBy wr (some g))) (fun _ i _ => 3 - (intOf i).toNat)
                case atStart => exact ⟨0, by omega, rfl, HP⟩
                case round =>
                  obtain ⟨p, hp, rfl, hR⟩ := hrel
                  by_cases hlt : p < 3
                  · obtain ⟨dd, hdd⟩ : ∃ dd, dd = itS (prG (stepP zs)) p (itS (optG (stepP zs) 128 6) 4 (itS (optG (stepP zs) 128 7) 4 d4)) := ⟨_, rfl⟩
                    have HD : Hid (dd = itS (prG (stepP zs)) p (itS (optG (stepP zs) 128 6) 4 (itS (optG (stepP zs) 128 7) 4 d4))) := Lib.hid hdd
                    rw [← hdd] at hR; clear hdd
                    obtain ⟨bb, d6, s6⟩ : ∃ bb d6, stepP zs dd 128 = (bb, d6) := ⟨_, _, rfl⟩
                    have HS6 := Lib.hid s6; clear s6
                    go_wp2_with fail
                    refine (At51.readBit_any g ao n c zs dd 128 wr hR.out.1 (by decide) (by decide)).mono ?_
                    rintro _ w9 ⟨rfl, ho, hg⟩
                    have H9 : Hid (At51.Rd (segR z true true (true && !b4) (itV (optG (stepP zs) 128 7) d4) (itV (optG (stepP zs) 128 6) (itS (optG (stepP zs) 128 7) 4 d4)) (partZ 255 (itV (prG (stepP zs)) (itS (optG (stepP zs) 128 6) 4 (itS (optG (stepP zs) 128 7) 4 d4))) p)) w9 g ao n c zs (stepP zs dd 128).2 ∧ w.grownBy w9 (some g)) := Lib.hid ⟨hR.out.1.step hg ho (stepP_ok zs dd hR.out.1.ok hR.out.1.bytes hR.out.1.first 128 (by decide) (by decide)), grownBy.trans hR.out.2 hg⟩
                    clear ho hg
                    rw [HS6.out] at H9 ⊢
                    simp only at H9 ⊢
                    cases bb with
                    | false =>
                      have d0 : w9.cell? ⟨g, 32 + p, none⟩ = some (.int .u8 _) := At51.FO.cell H9.out.1.obj (32 + p) (by omega) (at_p _ _ _ _ _ _ _ p hlt)
                      have z0 : w9.frozen? ⟨g, 32 + p, none⟩ = false := At51.FO.free H9.out.1.obj _
                      have HV : Hid (255 = itV (prG (stepP zs)) (itS (optG (stepP zs) 128 6) 4 (itS (optG (stepP zs) 128 7) 4 d4)) p ∧ itS (prG (stepP zs)) (p + 1) (itS (optG (stepP zs) 128 6) 4 (itS (optG (stepP zs) 128 7) 4 d4)) = d6) := Lib.hid (by show (255 : Int) = (prG (stepP zs) (itS _ p _)).1 ∧ (prG (stepP zs) (itS _ p _)).2 = d6; rw [← HD.out]; unfold prG; rw [HS6.out]; exact ⟨rfl, rfl⟩)
                      have HN : Hid (At51.Rd (segR z true true (true && !b4) (itV (optG (stepP zs) 128 7) d4) (itV (optG (stepP zs) 128 6) (itS (optG (stepP zs) 128 7) 4 d4)) (partZ 255 (itV (prG (stepP zs)) (itS (optG (stepP zs) 128 6) 4 (itS (optG (stepP zs) 128 7) 4 d4))) (p + 1))) (w9.setCell ⟨g, 32 + p, none⟩ (.int .u8 255)) g ao n c zs (itS (prG (stepP zs)) (p + 1) (itS (optG (stepP zs) 128 6) 4 (itS (optG (stepP zs) 128 7) 4 d4))) ∧ w.grownBy (w9.setCell ⟨g, 32 + p, none⟩ (.int .u8 255)) (some g)) := by rw [HV.out.2]; exact Lib.hid ⟨by have key := put_p p hlt H9.out.1; rw [← HV.out.1] at key; exact key, grownBy.trans H9.out.2 (grownBy_setCell _ _ _)⟩
                      go_wp2
                      go_roundw
                      case rel => first | exact ⟨p + 1, by omega, by go_num, HN⟩ | ((repeat apply Exists.intro); refine ⟨?_, rfl⟩; exact ⟨p + 1, by omega, by go_num, HN⟩)
                      case measure => simp [intOf]; omega
                    | true =>
                      go_wp2_with fail
                      obtain ⟨x0, x1⟩ := pr_bd (stepP zs) dd
                      obtain ⟨x, hx⟩ : ∃ x, x = (bitsG (stepP zs) 128 8 0 d6).1 := ⟨_, rfl⟩
                      have hx2 : (prG (stepP zs) dd).1 = x := by unfold prG; rw [HS6.out, hx]; rfl
                      rw [hx2] at x0 x1
                      have HV : Hid (x = itV (prG (stepP zs)) (itS (optG (stepP zs) 128 6) 4 (itS (optG (stepP zs) 128 7) 4 d4)) p ∧ itS (prG (stepP zs)) (p + 1) (itS (optG (stepP zs) 128 6) 4 (itS (optG (stepP zs) 128 7) 4 d4)) = (bitsG (stepP zs) 128 8 0 d6).2) := Lib.hid (by refine ⟨by rw [← hx2, HD.out]; rfl, ?_⟩; show (prG (stepP zs) (itS _ p _)).2 = _; rw [← HD.out]; unfold prG; rw [HS6.out]; rfl)
                      have HXY := Lib.hid hx; clear hx hx2
                      go_region_with (first | (go_at_call 58; refine (At51.readUint_any g ao n c zs d6 128 8 _ (H9.out.1.drewN 1) (by decide) (by decide) (by decide)).mono ?_; rintro _ w8 ⟨rfl, ho, hg⟩; have H8 : Hid (At51.Rd (segR z true true (true && !b4) (itV (optG (stepP zs) 128 7) d4) (itV (optG (stepP zs) 128 6) (itS (optG (stepP zs) 128 7) 4 d4)) (partZ 255 (itV (prG (stepP zs)) (itS (optG (stepP zs) 128 6) 4 (itS (optG (stepP zs) 128 7) 4 d4))) p)) w8 g ao n c zs (bitsG (stepP zs) 128 8 0 d6).2 ∧ w.grownBy w8 (some g)) := Lib.hid ⟨ho, grownBy.trans H9.out.2 (grownBy.trans (grownBy_drewN _ 1 _) hg)⟩; clear ho hg; have d0 : w8.cell? ⟨g, 32 + p, none⟩ = some (.int .u8 _) := At51.FO.cell H8.out.1.obj (32 + p) (by omega) (at_p _ _ _ _ _ _ _ p hlt); have z0 : w8.frozen? ⟨g, 32 + p, none⟩ = false := At51.FO.free H8.out.1.obj _; rw [← HXY.out]))
                      all_goals
                        have HN : Hid (At51.Rd (segR z true true (true && !b4) (itV (optG (stepP zs) 128 7) d4) (itV (optG (stepP zs) 128 6) (itS (optG (stepP zs) 128 7) 4 d4)) (partZ 255 (itV (prG (stepP zs)) (itS (optG (stepP zs) 128 6) 4 (itS (optG (stepP zs) 128 7) 4 d4))) (p + 1))) (w8.setCell ⟨g, 32 + p, none⟩ (.int .u8 x)) g ao n c zs (itS (prG (stepP zs)) (p + 1) (itS (optG (stepP zs) 128 6) 4 (itS (optG (stepP zs) 128 7) 4 d4))) ∧ w.grownBy (w8.setCell ⟨g, 32 + p, none⟩ (.int .u8 x)) (some g)) := by rw [HV.out.2, HV.out.1]; exact Lib.hid ⟨put_p p hlt H8.out.1, grownBy.trans H8.out.2 (grownBy_setCell _ _ _)⟩
                        go_wp2
                        go_roundw
                        case rel => first | exact ⟨p + 1, by omega, by go_num, HN⟩ | ((repeat apply Exists.intro); refine ⟨?_, rfl⟩; exact ⟨p + 1, by omega, by go_num, HN⟩)
                        case measure => simp [intOf]; omega
                  · obtain rfl : p = 3 := by omega
                    have e := HE.out
                    unfold segT at e
                    simp only [if_true] at e
                    have He := Lib.hid e; clear e
                    go_wp2
                    go_end0
                    rw [He.out]
                    exact ⟨rfl, hR.out.1.congr (segR_congr _ _ _ _ (fun i hi => rfl) (fun i _ => rfl) (fun i hi => partZ_all i hi)), hR.out.2⟩
end Go.Proofs.YthmkmemocjnleaaDoor
