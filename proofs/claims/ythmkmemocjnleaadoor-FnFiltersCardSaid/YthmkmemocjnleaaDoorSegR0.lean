/- The reference's head of segments: readSegments. Printed by wip/gen_segr.py. -/
import Derived.Test.YthmkmemocjnleaaDoorSegD
import Derived.Test.YthmkmemocjnleaaDoorSegRa
import Derived.Deep.RegionWith
import Derived.Deep.QuietTactic
namespace Go.Proofs.YthmkmemocjnleaaDoor
open Go.RowKit
set_option linter.unusedVariables false

set_option maxRecDepth 100000 in
set_option maxHeartbeats 8000000 in
theorem readSegS_0 (w0 : World) (B gd g : Nat) (ao : Option Addr) (n c : Nat) (zs : List Int) (s : SS) (z : Nat → Option Value) (w : World) (hk : SK w0 B gd g ao n) (h : SW w0 B (sgD z g false false false (fun _ => 0) (fun _ => 0) (fun _ => 0) false false false) w gd g ao n c zs s) (hok : OKS zs s) (hpos : s.pos ≤ 1000) (hmm : (stepS zs (stepS zs s 128).2 128).1 = false) :
    Calls Tryd.prog 45 #[.pointer (some ⟨gd, 0, none⟩)] w fun e w' => e = .returned (.tuple #[]) ∧ SWe w0 B z (segG (stepS zs) s) w' gd g ao n c zs := by
  obtain ⟨v, hv⟩ : ∃ v, v = segG (stepS zs) s := ⟨_, rfl⟩
  rw [← hv]
  obtain ⟨b1, s1, e1⟩ : ∃ b1 s1, stepS zs s 128 = (b1, s1) := ⟨_, _, rfl⟩
  have hok1 := stepS_ok' zs s hok 128 (by decide) (by decide)
  have hp1 := stepS_pos zs s hok 128 (by decide) (by decide)
  rw [e1] at hok1 hp1
  simp only at hok1 hp1
  have H := Lib.hid (And.intro h (And.intro hv (And.intro e1 (And.intro hk (And.intro hok hok1))))); clear h hv e1 hk hok hok1
  have kf : w.cell? ⟨gd, 256, none⟩ = some (.pointer (some ⟨g, 0, none⟩)) := H.out.1.cell 256 rfl
  have HMM := Lib.hid hmm; clear hmm
  go_enter Tryd.func45, Tryd.ntmps45
  go_wp2
  go_quiet (fail)
  clear kf
  have H1 : Hid (SW w0 B (sgD z g false false false (fun _ => 0) (fun _ => 0) (partZ 0 (fun _ => 255) 0) false false false) (w.drewN nq) gd g ao n c zs s) := Lib.hid ((H.out.1.drewN H.out.2.2.2.1 nq).congr (sgD_congr _ _ _ _ _ _ _ _ (fun _ _ => rfl) (fun _ _ => rfl) (fun i _ => (partZ_zero' 0 _ i).symm)))
  generalize World.drewN w nq = w1 at H1 ⊢
  have k0 : w1.cell? ⟨gd, 269, none⟩ = some _ := H1.out.cell 269 rfl
  have k1 : w1.cell? ⟨gd, 270, none⟩ = some _ := H1.out.cell 270 rfl
  have k2 : w1.cell? ⟨gd, 271, none⟩ = some _ := H1.out.cell 271 rfl
  have z0 : w1.frozen? ⟨gd, 269, none⟩ = false := H1.out.free 269
  have z1 : w1.frozen? ⟨gd, 270, none⟩ = false := H1.out.free 270
  have z2 : w1.frozen? ⟨gd, 271, none⟩ = false := H1.out.free 271
  have H2 : Hid (SW w0 B (sgD z g false false false (fun _ => 0) (fun _ => 0) (fun _ => 255) false false false) (((w1.setCell ⟨gd, 269, none⟩ (.int .i64 255)).setCell ⟨gd, 270, none⟩ (.int .i64 255)).setCell ⟨gd, 271, none⟩ (.int .i64 255)) gd g ao n c zs s) := by
    have p0 := H1.out.put H.out.2.2.2.1 (sput_p 0 (by decide) H1.out.2.1)
    have p1 := p0.put H.out.2.2.2.1 (sput_p 1 (by decide) p0.2.1)
    have p2 := p1.put H.out.2.2.2.1 (sput_p 2 (by decide) p1.2.1)
    exact Lib.hid (p2.congr (sgD_congr _ _ _ _ _ _ _ _ (fun _ _ => rfl) (fun _ _ => rfl) (fun i hi => partZ_all' i hi)))
  go_wp2_with fail
  generalize World.setCell _ (⟨gd, 271, none⟩ : Addr) _ = w2 at H2 ⊢
  clear k0 k1 k2 z0 z1 z2 H1
  refine (flag_any g ao n c zs s w2 H2.out.1 H.out.2.2.2.2.1 (by omega)).mono ?_
  rintro _ w3 ⟨rfl, hs, hg⟩
  rw [H.out.2.2.1] at hs ⊢
  simp only at hs ⊢
  have H3 := Lib.hid (H2.out.read H.out.2.2.2.1 hs hg); clear hs hg H2
  have k0 : w3.cell? ⟨gd, 258, none⟩ = some _ := H3.out.cell 258 rfl
  have z0 : w3.frozen? ⟨gd, 258, none⟩ = false := H3.out.free 258
  have H4 := Lib.hid (H3.out.put H.out.2.2.2.1 (sput_on H3.out.2.1 b1))
  cases b1 with
  | false =>
    go_wp2
    (try simp only [Exit.inBlock, Exit.then]); refine bodyPost_ret (results_none rfl _ _ _) rfl ?_
    have e : v = (⟨false, false, false, false, fun _ => 0, fun _ => 0, fun _ => 255⟩, s1) := by rw [H.out.2.1]; unfold segG; rw [H.out.2.2.1]; rfl
    subst e
    exact ⟨rfl, ⟨false, false, H4.out⟩⟩
  | true =>
    go_wp2_with fail
    generalize World.setCell w3 _ _ = w4 at H4 ⊢
    clear H3 k0 z0
    obtain ⟨b2, s2, e2⟩ : ∃ b2 s2, stepS zs s1 128 = (b2, s2) := ⟨_, _, rfl⟩
    have hb2 : b2 = false := by have h := HMM.out; rw [H.out.2.2.1] at h; simp only at h; rw [e2] at h; exact h
    subst hb2
    clear HMM
    have hok2 := stepS_ok' zs s1 H.out.2.2.2.2.2 128 (by decide) (by decide)
    have hp2 := stepS_pos zs s1 H.out.2.2.2.2.2 128 (by decide) (by decide)
    rw [e2] at hok2 hp2
    simp only at hok2 hp2
    have HS2 := Lib.hid (And.intro e2 hok2); clear e2 hok2
    refine (flag_any g ao n c zs s1 w4 H4.out.1 H.out.2.2.2.2.2 (by omega)).mono ?_
    rintro _ w5 ⟨rfl, hs, hg⟩
    rw [HS2.out.1] at hs ⊢
    simp only at hs ⊢
    have H5 := Lib.hid (H4.out.read H.out.2.2.2.1 hs hg); clear hs hg H4
    have k0 : w5.cell? ⟨gd, 259, none⟩ = some _ := H5.out.cell 259 rfl
    have z0 : w5.frozen? ⟨gd, 259, none⟩ = false := H5.out.free 259
    have H6 := Lib.hid (H5.out.put H.out.2.2.2.1 (sput_mp H5.out.2.1 false))
    go_wp2_with fail
    generalize World.setCell w5 _ _ = w6 at H6 ⊢
    clear H5 k0 z0
    obtain ⟨b3, s3, e3⟩ : ∃ b3 s3, stepS zs s2 128 = (b3, s3) := ⟨_, _, rfl⟩
    have hok3 := stepS_ok' zs s2 HS2.out.2 128 (by decide) (by decide)
    have hp3 := stepS_pos zs s2 HS2.out.2 128 (by decide) (by decide)
    rw [e3] at hok3 hp3
    simp only at hok3 hp3
    have HS3 := Lib.hid (And.intro e3 hok3); clear e3 hok3
    refine (flag_any g ao n c zs s2 w6 H6.out.1 HS2.out.2 (by omega)).mono ?_
    rintro _ w7 ⟨rfl, hs, hg⟩
    rw [HS3.out.1] at hs ⊢
    simp only at hs ⊢
    have H7 := Lib.hid (H6.out.read H.out.2.2.2.1 hs hg); clear hs hg H6
    have HE : Hid (v = segB (stepS zs) false b3 s3) := Lib.hid (by rw [H.out.2.1]; unfold segG; rw [H.out.2.2.1]; simp only [if_true]; rw [HS2.out.1]; simp only; rw [HS3.out.1])
    have HK := Lib.hid H.out.2.2.2.1
    have hp3' : s3.pos ≤ 1021 := by omega
    have HO3 := Lib.hid HS3.out.2
    clear H HS2 HS3 hp1 hp2 hp3
    have km : w7.cell? ⟨gd, 259, none⟩ = some (.bool false) := H7.out.cell 259 rfl
    have k0 : w7.cell? ⟨gd, 351, none⟩ = some (.bool false) := H7.out.cell 351 rfl
    have z0 : w7.frozen? ⟨gd, 351, none⟩ = false := H7.out.free 351
    have k1 : w7.cell? ⟨gd, 352, none⟩ = some (.bool false) := H7.out.cell 352 rfl
    have z1 : w7.frozen? ⟨gd, 352, none⟩ = false := H7.out.free 352
    have k2 : w7.cell? ⟨gd, 350, none⟩ = some (.bool false) := H7.out.cell 350 rfl
    have z2 : w7.frozen? ⟨gd, 350, none⟩ = false := H7.out.free 350
    have H8 : Hid (SW w0 B (sgD z g true false false (fun _ => 0) (fun _ => 0) (fun _ => 255) (!b3) (!false || !b3) b3) (((w7.setCell ⟨gd, 351, none⟩ (.bool (!false || !b3))).setCell ⟨gd, 352, none⟩ (.bool b3)).setCell ⟨gd, 350, none⟩ (.bool (!b3))) gd g ao n c zs s3) := by
      have p0 := H7.out.put HK.out (sput_keeps H7.out.2.1 (!false || !b3))
      have p1 := p0.put HK.out (sput_told p0.2.1 b3)
      exact Lib.hid (p1.put HK.out (sput_odd p1.2.1 (!b3)))
    cases b3 with
    | false =>
      have H9 : Hid (SW w0 B (sgD z g true false false (fun _ => 0) (fun _ => 0) (fun _ => 255) true true false) (((w7.setCell ⟨gd, 351, none⟩ (.bool true)).setCell ⟨gd, 352, none⟩ (.bool false)).setCell ⟨gd, 350, none⟩ (.bool true)) gd g ao n c zs s3) := H8
      clear H8 H7
      go_wp2_with fail
      generalize World.setCell _ (⟨gd, 350, none⟩ : Addr) _ = wa at H9 ⊢
      clear km k0 k1 k2 z0 z1 z2
      have HE : Hid (v = segT (stepS zs) false false false (fun _ => 0) (fun _ => 0) s3) := HE
      go_loopw [7] (fun i wr => i = .int .i64 0 ∧ Hid (SW w0 B (sgD z g true false false (fun _ => 0) (fun _ => 0) (fun _ => 255) true true false) wr gd g ao n c zs s3)) (fun i _ => 4 - (intOf i).toNat)
      case atStart => exact ⟨rfl, H9⟩
      case round =>
        obtain ⟨rfl, hR⟩ := hrel
        have km : wr.cell? ⟨gd, 259, none⟩ = some (.bool false) := hR.out.cell 259 rfl
        have e := HE.out
        unfold segT at e
        simp only [Bool.false_eq_true, if_false] at e
        have He := Lib.hid e; clear e
        go_wp2
        go_end0
        rw [He.out]
        exact ⟨rfl, ⟨_, _, hR.out⟩⟩
    | true =>
      have H9 : Hid (SW w0 B (sgD z g true false false (fun _ => 0) (fun _ => 0) (fun _ => 255) false true true) (((w7.setCell ⟨gd, 351, none⟩ (.bool true)).setCell ⟨gd, 352, none⟩ (.bool true)).setCell ⟨gd, 350, none⟩ (.bool false)) gd g ao n c zs s3) := H8
      clear H8 H7
      go_wp2_with fail
      generalize World.setCell _ (⟨gd, 350, none⟩ : Addr) _ = wa at H9 ⊢
      clear km k0 k1 k2 z0 z1 z2
      obtain ⟨b4, s4, e4⟩ : ∃ b4 s4, stepS zs s3 128 = (b4, s4) := ⟨_, _, rfl⟩
      have hok4 := stepS_ok' zs s3 HO3.out 128 (by decide) (by decide)
      have hp4 := stepS_pos zs s3 HO3.out 128 (by decide) (by decide)
      rw [e4] at hok4 hp4
      simp only at hok4 hp4
      have HS4 := Lib.hid (And.intro e4 hok4); clear e4 hok4
      refine (flag_any g ao n c zs s3 wa H9.out.1 HO3.out (by omega)).mono ?_
      rintro _ wb ⟨rfl, hs, hg⟩
      rw [HS4.out.1] at hs ⊢
      simp only at hs ⊢
      have HB := Lib.hid (H9.out.read HK.out hs hg); clear hs hg H9
      have k0 : wb.cell? ⟨gd, 260, none⟩ = some _ := HB.out.cell 260 rfl
      have z0 : wb.frozen? ⟨gd, 260, none⟩ = false := HB.out.free 260
      have HC : Hid (SW w0 B (sgD z g true false b4 (partZ 0 (itV (optG (stepS zs) 128 7) s4) 0) (fun _ => 0) (fun _ => 255) false true true) (wb.setCell ⟨gd, 260, none⟩ (.bool b4)) gd g ao n c zs (itS (optG (stepS zs) 128 7) 0 s4)) := Lib.hid ((HB.out.put HK.out (sput_ab HB.out.2.1 b4)).congr (sgD_congr _ _ _ _ _ _ _ _ (fun i _ => (partZ_zero' 0 _ i).symm) (fun _ _ => rfl) (fun _ _ => rfl)))
      have HE2 : Hid (v = segA (stepS zs) false b4 s4) := Lib.hid (by rw [HE.out]; unfold segB; simp only [if_true]; rw [HS4.out.1])
      have HOK7 : Hid (∀ p, OKS zs (itS (optG (stepS zs) 128 7) p s4) ∧ (itS (optG (stepS zs) 128 7) p s4).pos ≤ s4.pos + 63 * p) := Lib.hid (it_okS zs (fun s h => optS_ok zs 128 (by decide) (by decide) 7 s h) _ HS4.out.2)
      have HOK6 : Hid (∀ p, OKS zs (itS (optG (stepS zs) 128 6) p (itS (optG (stepS zs) 128 7) 4 s4)) ∧ (itS (optG (stepS zs) 128 6) p (itS (optG (stepS zs) 128 7) 4 s4)).pos ≤ (itS (optG (stepS zs) 128 7) 4 s4).pos + 56 * p) := Lib.hid (it_okS zs (fun s h => optS_ok zs 128 (by decide) (by decide) 6 s h) _ (HOK7.out 4).1)
      have hp5 := (HOK7.out 4).2
      have hp6 := (HOK6.out 4).2
      go_wp2_with fail
      generalize World.setCell wb _ _ = wc at HC ⊢
      clear HB k0 z0 HE HS4
      go_loopw [5] (fun i wr => ∃ p : Nat, p ≤ 4 ∧ i = .int .i64 p ∧ Hid (SW w0 B (sgD z g true false b4 (partZ 0 (itV (optG (stepS zs) 128 7) s4) p) (fun _ => 0) (fun _ => 255) false true true) wr gd g ao n c zs (itS (optG (stepS zs) 128 7) p s4))) (fun i _ => 4 - (intOf i).toNat)
      case atStart => exact ⟨0, by omega, rfl, HC⟩
      case round =>
        obtain ⟨p, hp, rfl, hR⟩ := hrel
        by_cases hlt : p < 4
        · obtain ⟨x0, x1⟩ := opt_bd' (stepS zs) 7 (by decide) (itS (optG (stepS zs) 128 7) p s4)
          obtain ⟨y1, y2⟩ := HOK7.out p
          have HY := Lib.hid y1; clear y1
          obtain ⟨x, hx⟩ : ∃ x, x = (optG (stepS zs) 128 7 (itS (optG (stepS zs) 128 7) p s4)).1 := ⟨_, rfl⟩
          rw [← hx] at x0 x1
          have HXX : Hid (x = (itV (optG (stepS zs) 128 7) s4) p) := Lib.hid hx
          have HXY := Lib.hid hx; clear hx
          go_wp2_with fail
          go_region_with (first | (go_at_call 65; refine (optional_any g ao n c zs (itS (optG (stepS zs) 128 7) p s4) 7 _ (hR.out.drewN HK.out 1).1 HY.out (by omega) (by decide)).mono ?_; rintro _ w8 ⟨rfl, ho, hg⟩; have H8 : Hid (SW w0 B (sgD z g true false b4 (partZ 0 (itV (optG (stepS zs) 128 7) s4) p) (fun _ => 0) (fun _ => 255) false true true) w8 gd g ao n c zs (itS (optG (stepS zs) 128 7) (p + 1) s4)) := Lib.hid ((hR.out.drewN HK.out 1).read HK.out ho hg); clear ho hg; have d0 : w8.cell? ⟨gd, 261 + p, none⟩ = some _ := H8.out.cell (261 + p) (sat_q _ _ _ _ _ _ _ _ _ _ _ p hlt); have z0 : w8.frozen? ⟨gd, 261 + p, none⟩ = false := H8.out.free _; rw [← HXY.out]))
          all_goals
            have HN : Hid (SW w0 B (sgD z g true false b4 (partZ 0 (itV (optG (stepS zs) 128 7) s4) (p + 1)) (fun _ => 0) (fun _ => 255) false true true) (w8.setCell ⟨gd, 261 + p, none⟩ (.int .i64 x)) gd g ao n c zs (itS (optG (stepS zs) 128 7) (p + 1) s4)) := by rw [HXX.out]; exact Lib.hid (H8.out.put HK.out (sput_q p hlt H8.out.2.1))
            go_wp2
            go_roundw
            case rel => first | exact ⟨p + 1, by omega, by go_num, HN⟩ | ((repeat apply Exists.intro); refine ⟨?_, rfl⟩; exact ⟨p + 1, by omega, by go_num, HN⟩)
            case measure => simp [intOf]; omega
        · obtain rfl : p = 4 := by omega
          have HL : Hid (SW w0 B (sgD z g true false b4 (itV (optG (stepS zs) 128 7) s4) (partZ 0 (itV (optG (stepS zs) 128 6) (itS (optG (stepS zs) 128 7) 4 s4)) 0) (fun _ => 255) false true true) wr gd g ao n c zs (itS (optG (stepS zs) 128 6) 0 (itS (optG (stepS zs) 128 7) 4 s4))) := Lib.hid (hR.out.congr (sgD_congr _ _ _ _ _ _ _ _ (fun i hi => partZ_all' i hi) (fun i _ => (partZ_zero' 0 _ i).symm) (fun _ _ => rfl)))
          clear hR hlt hp
          go_wp2
          go_loopw [6] (fun i wr => ∃ p : Nat, p ≤ 4 ∧ i = .int .i64 p ∧ Hid (SW w0 B (sgD z g true false b4 (itV (optG (stepS zs) 128 7) s4) (partZ 0 (itV (optG (stepS zs) 128 6) (itS (optG (stepS zs) 128 7) 4 s4)) p) (fun _ => 255) false true true) wr gd g ao n c zs (itS (optG (stepS zs) 128 6) p (itS (optG (stepS zs) 128 7) 4 s4)))) (fun i _ => 4 - (intOf i).toNat)
          case atStart => exact ⟨0, by omega, rfl, HL⟩
          case round =>
            obtain ⟨p, hp, rfl, hR⟩ := hrel
            by_cases hlt : p < 4
            · obtain ⟨x0, x1⟩ := opt_bd' (stepS zs) 6 (by decide) (itS (optG (stepS zs) 128 6) p (itS (optG (stepS zs) 128 7) 4 s4))
              obtain ⟨y1, y2⟩ := HOK6.out p
              have HY := Lib.hid y1; clear y1
              obtain ⟨x, hx⟩ : ∃ x, x = (optG (stepS zs) 128 6 (itS (optG (stepS zs) 128 6) p (itS (optG (stepS zs) 128 7) 4 s4))).1 := ⟨_, rfl⟩
              rw [← hx] at x0 x1
              have HXX : Hid (x = (itV (optG (stepS zs) 128 6) (itS (optG (stepS zs) 128 7) 4 s4)) p) := Lib.hid hx
              have HXY := Lib.hid hx; clear hx
              go_wp2_with fail
              go_region_with (first | (go_at_call 65; refine (optional_any g ao n c zs (itS (optG (stepS zs) 128 6) p (itS (optG (stepS zs) 128 7) 4 s4)) 6 _ (hR.out.drewN HK.out 1).1 HY.out (by omega) (by decide)).mono ?_; rintro _ w8 ⟨rfl, ho, hg⟩; have H8 : Hid (SW w0 B (sgD z g true false b4 (itV (optG (stepS zs) 128 7) s4) (partZ 0 (itV (optG (stepS zs) 128 6) (itS (optG (stepS zs) 128 7) 4 s4)) p) (fun _ => 255) false true true) w8 gd g ao n c zs (itS (optG (stepS zs) 128 6) (p + 1) (itS (optG (stepS zs) 128 7) 4 s4))) := Lib.hid ((hR.out.drewN HK.out 1).read HK.out ho hg); clear ho hg; have d0 : w8.cell? ⟨gd, 265 + p, none⟩ = some _ := H8.out.cell (265 + p) (sat_l _ _ _ _ _ _ _ _ _ _ _ p hlt); have z0 : w8.frozen? ⟨gd, 265 + p, none⟩ = false := H8.out.free _; rw [← HXY.out]))
              all_goals
                have HN : Hid (SW w0 B (sgD z g true false b4 (itV (optG (stepS zs) 128 7) s4) (partZ 0 (itV (optG (stepS zs) 128 6) (itS (optG (stepS zs) 128 7) 4 s4)) (p + 1)) (fun _ => 255) false true true) (w8.setCell ⟨gd, 265 + p, none⟩ (.int .i64 x)) gd g ao n c zs (itS (optG (stepS zs) 128 6) (p + 1) (itS (optG (stepS zs) 128 7) 4 s4))) := by rw [HXX.out]; exact Lib.hid (H8.out.put HK.out (sput_l p hlt H8.out.2.1))
                go_wp2
                go_roundw
                case rel => first | exact ⟨p + 1, by omega, by go_num, HN⟩ | ((repeat apply Exists.intro); refine ⟨?_, rfl⟩; exact ⟨p + 1, by omega, by go_num, HN⟩)
                case measure => simp [intOf]; omega
            · obtain rfl : p = 4 := by omega
              have HQ : Hid (SW w0 B (sgD z g true false b4 (itV (optG (stepS zs) 128 7) s4) (itV (optG (stepS zs) 128 6) (itS (optG (stepS zs) 128 7) 4 s4)) (fun _ => 255) false true true) wr gd g ao n c zs (itS (optG (stepS zs) 128 6) 4 (itS (optG (stepS zs) 128 7) 4 s4))) := Lib.hid (hR.out.congr (sgD_congr _ _ _ _ _ _ _ _ (fun _ _ => rfl) (fun i hi => partZ_all' i hi) (fun _ _ => rfl)))
              have HE : Hid (v = segT (stepS zs) false true b4 (itV (optG (stepS zs) 128 7) s4) (itV (optG (stepS zs) 128 6) (itS (optG (stepS zs) 128 7) 4 s4)) (itS (optG (stepS zs) 128 6) 4 (itS (optG (stepS zs) 128 7) 4 s4))) := Lib.hid HE2.out
              clear hR hlt hp HE2
              go_wp2
              go_loopw [7] (fun i wr => i = .int .i64 0 ∧ Hid (SW w0 B (sgD z g true false b4 (itV (optG (stepS zs) 128 7) s4) (itV (optG (stepS zs) 128 6) (itS (optG (stepS zs) 128 7) 4 s4)) (fun _ => 255) false true true) wr gd g ao n c zs (itS (optG (stepS zs) 128 6) 4 (itS (optG (stepS zs) 128 7) 4 s4)))) (fun i _ => 4 - (intOf i).toNat)
              case atStart => exact ⟨rfl, HQ⟩
              case round =>
                obtain ⟨rfl, hR⟩ := hrel
                have km : wr.cell? ⟨gd, 259, none⟩ = some (.bool false) := hR.out.cell 259 rfl
                have e := HE.out
                unfold segT at e
                simp only [Bool.false_eq_true, if_false] at e
                have He := Lib.hid e; clear e
                go_wp2
                go_end0
                rw [He.out]
                exact ⟨rfl, ⟨_, _, hR.out⟩⟩
end Go.Proofs.YthmkmemocjnleaaDoor
