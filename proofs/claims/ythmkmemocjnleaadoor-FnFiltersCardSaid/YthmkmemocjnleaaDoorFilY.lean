/- The walk of the reference's readFilters. Printed by wip/gen_fily.py. -/
import Derived.Test.YthmkmemocjnleaaDoorFilU
namespace Go.Proofs.YthmkmemocjnleaaDoor
open Go.RowKit
set_option linter.unusedVariables false

set_option maxRecDepth 100000 in
set_option maxHeartbeats 8000000 in
theorem readFilS_any (w0 : World) (B gd g : Nat) (ao : Option Addr) (n c : Nat) (zs : List Int) (s : SS) (D0 : Nat → Option Value) (w : World) (hk : SK w0 B gd g ao n) (h : FilZ w0 B D0 w gd g ao n c zs s false 0 0 false (fun _ => 0) (fun _ => 0)) (hf : D0 256 = some (.pointer (some ⟨g, 0, none⟩))) (hok : OKS zs s) (hpos : s.pos ≤ 1000) (v : FG × SS) (hv : v = filG (stepS zs) s) :
    Calls Tryd.prog 51 #[.pointer (some ⟨gd, 0, none⟩)] w fun e w' => e = .returned (.tuple #[]) ∧ FilZ w0 B D0 w' gd g ao n c zs v.2 v.1.simple v.1.level v.1.sharp v.1.deltas v.1.ref v.1.mode := by
  obtain ⟨b1, s1, e1⟩ : ∃ b1 s1, stepS zs s 128 = (b1, s1) := ⟨_, _, rfl⟩
  have hok1 := stepS_ok' zs s hok 128 (by decide) (by decide)
  have hp1 := stepS_pos zs s hok 128 (by decide) (by decide)
  rw [e1] at hok1 hp1
  simp only at hok1 hp1
  have kf : w.cell? ⟨gd, 256, none⟩ = some (.pointer (some ⟨g, 0, none⟩)) := by obtain ⟨D, a, b⟩ := h; exact a.cell 256 ((b.oth 256 (by omega) (by omega)).trans hf)
  have H := Lib.hid (And.intro h (And.intro hv (And.intro e1 (And.intro hk (And.intro hok hok1))))); clear h hv e1 hk hok hok1 hf
  go_enter Tryd.func51, Tryd.ntmps51
  go_wp2
  go_quiet (fail)
  clear kf
  have H1 : Hid (FilZ w0 B D0 (w.drewN nq) gd g ao n c zs s false 0 0 false (fun _ => 0) (fun _ => 0)) := Lib.hid (H.out.1.drewN H.out.2.2.2.1 nq)
  generalize World.drewN w nq = w1 at H1 ⊢
  go_wp2_with fail
  refine (flag_any g ao n c zs s w1 (by obtain ⟨D, a, b⟩ := H1.out; exact a.1) H.out.2.2.2.2.1 (by omega)).mono ?_
  rintro _ w2 ⟨rfl, hs, hg⟩
  rw [H.out.2.2.1] at hs ⊢
  simp only at hs ⊢
  have H2 := Lib.hid (H1.out.read H.out.2.2.2.1 hs hg); clear hs hg H1
  have k0 : w2.cell? ⟨gd, 272, none⟩ = some (.bool false) := H2.out.at_sm.1
  have z0 : w2.frozen? ⟨gd, 272, none⟩ = false := H2.out.at_sm.2
  have H3 := Lib.hid (H2.out.put_sm H.out.2.2.2.1 b1)
  go_wp2_with fail
  generalize World.setCell w2 _ _ = w3 at H3 ⊢
  clear k0 z0 H2
  obtain ⟨lv, s2, e2⟩ : ∃ lv s2, bitsG (stepS zs) 128 6 0 s1 = (lv, s2) := ⟨_, _, rfl⟩
  have bk := bitsS_ok zs 128 (by decide) (by decide) 6 0 _ H.out.2.2.2.2.2
  have bl := bits_bd' (stepS zs) 6 s1 64 (by decide)
  rw [e2] at bk bl
  obtain ⟨hok2, hp2⟩ := bk
  obtain ⟨bl2, bm2⟩ := bl
  simp only at hok2 hp2 bl2 bm2
  have HN2 := Lib.hid (And.intro e2 hok2); clear e2 hok2
  refine (number_any g ao n c zs s1 6 w3 (by obtain ⟨D, a, b⟩ := H3.out; exact a.1) H.out.2.2.2.2.2 (by omega) (by decide)).mono ?_
  rintro _ w4 ⟨rfl, hs, hg⟩
  rw [HN2.out.1] at hs ⊢
  simp only at hs ⊢
  have H4 := Lib.hid (H3.out.read H.out.2.2.2.1 hs hg); clear hs hg H3
  have k0 : w4.cell? ⟨gd, 273, none⟩ = some (.int .i64 0) := H4.out.at_lv.1
  have z0 : w4.frozen? ⟨gd, 273, none⟩ = false := H4.out.at_lv.2
  have H5 := Lib.hid (H4.out.put_lv H.out.2.2.2.1 lv)
  go_wp2_with fail
  generalize World.setCell w4 _ _ = w5 at H5 ⊢
  clear k0 z0 H4
  obtain ⟨sh, s3, e3⟩ : ∃ sh s3, bitsG (stepS zs) 128 3 0 s2 = (sh, s3) := ⟨_, _, rfl⟩
  have bk := bitsS_ok zs 128 (by decide) (by decide) 3 0 _ HN2.out.2
  have bl := bits_bd' (stepS zs) 3 s2 8 (by decide)
  rw [e3] at bk bl
  obtain ⟨hok3, hp3⟩ := bk
  obtain ⟨bl3, bm3⟩ := bl
  simp only at hok3 hp3 bl3 bm3
  have HN3 := Lib.hid (And.intro e3 hok3); clear e3 hok3
  refine (number_any g ao n c zs s2 3 w5 (by obtain ⟨D, a, b⟩ := H5.out; exact a.1) HN2.out.2 (by omega) (by decide)).mono ?_
  rintro _ w6 ⟨rfl, hs, hg⟩
  rw [HN3.out.1] at hs ⊢
  simp only at hs ⊢
  have H6 := Lib.hid (H5.out.read H.out.2.2.2.1 hs hg); clear hs hg H5
  have k0 : w6.cell? ⟨gd, 274, none⟩ = some (.int .i64 0) := H6.out.at_sh.1
  have z0 : w6.frozen? ⟨gd, 274, none⟩ = false := H6.out.at_sh.2
  have H7 := Lib.hid (H6.out.put_sh H.out.2.2.2.1 sh)
  go_wp2_with fail
  generalize World.setCell w6 _ _ = w7 at H7 ⊢
  clear k0 z0 H6
  obtain ⟨b4, s4, e4⟩ : ∃ b4 s4, stepS zs s3 128 = (b4, s4) := ⟨_, _, rfl⟩
  have hok4 := stepS_ok' zs s3 HN3.out.2 128 (by decide) (by decide)
  have hp4 := stepS_pos zs s3 HN3.out.2 128 (by decide) (by decide)
  rw [e4] at hok4 hp4
  simp only at hok4 hp4
  have HN4 := Lib.hid (And.intro e4 hok4); clear e4 hok4
  refine (flag_any g ao n c zs s3 w7 (by obtain ⟨D, a, b⟩ := H7.out; exact a.1) HN3.out.2 (by omega)).mono ?_
  rintro _ w8 ⟨rfl, hs, hg⟩
  rw [HN4.out.1] at hs ⊢
  simp only at hs ⊢
  have H8 := Lib.hid (H7.out.read H.out.2.2.2.1 hs hg); clear hs hg H7
  have HE : Hid (v = filC (stepS zs) b1 lv sh s3) := Lib.hid (by rw [H.out.2.1]; unfold filG; rw [H.out.2.2.1]; simp only; rw [HN2.out.1]; simp only; rw [HN3.out.1])
  have k0 : w8.cell? ⟨gd, 275, none⟩ = some (.bool false) := H8.out.at_dl.1
  have z0 : w8.frozen? ⟨gd, 275, none⟩ = false := H8.out.at_dl.2
  have H9 := Lib.hid (H8.out.put_dl H.out.2.2.2.1 b4)
  go_upto_region 5 with fail
  generalize World.setCell w8 _ _ = w9 at H9 ⊢
  clear k0 z0 H8
  have c5 : w9.cell? ⟨gd, 275, none⟩ = some (.bool b4) := H9.out.at_dl.1
  cases b4 with
  | false =>
    have e : Hid (v = (⟨b1, lv, sh, false, fun _ => 0, fun _ => 0⟩, s4)) := Lib.hid (by rw [HE.out]; unfold filC; rw [HN4.out.1]; rfl)
    go_wp2
    (try simp only [Exit.inBlock, Exit.then]); refine bodyPost_ret (results_none rfl _ _ _) rfl ?_
    rw [e.out]
    exact ⟨rfl, H9.out⟩
  | true =>
    obtain ⟨b5, s5, e5⟩ : ∃ b5 s5, stepS zs s4 128 = (b5, s5) := ⟨_, _, rfl⟩
    have hok5 := stepS_ok' zs s4 HN4.out.2 128 (by decide) (by decide)
    have hp5 := stepS_pos zs s4 HN4.out.2 128 (by decide) (by decide)
    rw [e5] at hok5 hp5
    simp only at hok5 hp5
    have HN5 := Lib.hid (And.intro e5 hok5); clear e5 hok5
    go_wp2_with fail
    refine (flag_any g ao n c zs s4 w9 (by obtain ⟨D, a, b⟩ := H9.out; exact a.1) HN4.out.2 (by omega)).mono ?_
    rintro _ w10 ⟨rfl, hs, hg⟩
    rw [HN5.out.1] at hs ⊢
    simp only at hs ⊢
    have H10 := Lib.hid (H9.out.read H.out.2.2.2.1 hs hg); clear hs hg c5 H9
    cases b5 with
    | false =>
      have e : Hid (v = (⟨b1, lv, sh, true, fun _ => 0, fun _ => 0⟩, s5)) := Lib.hid (by rw [HE.out]; unfold filC; rw [HN4.out.1]; simp only [if_true]; unfold filB; rw [HN5.out.1]; rfl)
      obtain ⟨x, k0⟩ := H10.out.at_keeps.1
      have z0 := H10.out.at_keeps.2
      have H11 := Lib.hid (H10.out.put_keeps H.out.2.2.2.1 true)
      go_wp2
      (try simp only [Exit.inBlock, Exit.then]); refine bodyPost_ret (results_none rfl _ _ _) rfl ?_
      rw [e.out]
      exact ⟨rfl, H11.out⟩
    | true =>
      have e : Hid (v = filD (stepS zs) b1 lv sh s5) := Lib.hid (by rw [HE.out]; unfold filC; rw [HN4.out.1]; simp only [if_true]; unfold filB; rw [HN5.out.1]; rfl)
      have HOK : Hid (∀ p, OKS zs (itS (optG (stepS zs) 128 6) p s5) ∧ (itS (optG (stepS zs) 128 6) p s5).pos ≤ s5.pos + 56 * p) := Lib.hid (it_okS zs (fun s h => optS_ok zs 128 (by decide) (by decide) 6 s h) _ HN5.out.2)
      have HL : Hid (FilZ w0 B D0 w10 gd g ao n c zs (itS (optG (stepS zs) 128 6) 0 s5) b1 lv sh true (partZ 0 (itV (optG (stepS zs) 128 6) s5) (min 0 4)) (partZ 0 (fun i => itV (optG (stepS zs) 128 6) s5 (4 + i)) (0 - 4))) := Lib.hid (H10.out.congr (fun i _ => by unfold partZ; rw [if_neg (by omega)]) (fun i _ => by unfold partZ; rw [if_neg (by omega)]))
      clear H10
      go_wp2_with fail
      go_loopw [4] (fun i wr => ∃ p : Nat, p ≤ 8 ∧ i = .int .i64 p ∧ Hid (FilZ w0 B D0 wr gd g ao n c zs (itS (optG (stepS zs) 128 6) p s5) b1 lv sh true (partZ 0 (itV (optG (stepS zs) 128 6) s5) (min p 4)) (partZ 0 (fun i => itV (optG (stepS zs) 128 6) s5 (4 + i)) (p - 4)))) (fun i _ => 8 - (intOf i).toNat)
      case atStart => exact ⟨0, by omega, rfl, HL⟩
      case round =>
        obtain ⟨p, hp, rfl, hR⟩ := hrel
        by_cases hlt : p < 8
        · obtain ⟨st, hst⟩ : ∃ st, st = itS (optG (stepS zs) 128 6) p s5 := ⟨_, rfl⟩
          rw [← hst] at hR
          have hok := (HOK.out p).1
          have hpp := (HOK.out p).2
          rw [← hst] at hok hpp
          obtain ⟨b, t, et⟩ : ∃ b t, stepS zs st 128 = (b, t) := ⟨_, _, rfl⟩
          have hokt := stepS_ok' zs st hok 128 (by decide) (by decide)
          have hpt := stepS_pos zs st hok 128 (by decide) (by decide)
          rw [et] at hokt hpt
          simp only at hokt hpt
          have HT := Lib.hid (And.intro hst (And.intro et (And.intro hok hokt))); clear hst et hok hokt
          go_wp2_with fail
          refine (flag_any g ao n c zs st wr (by obtain ⟨D, a, b⟩ := hR.out; exact a.1) HT.out.2.2.1 (by omega)).mono ?_
          rintro _ w11 ⟨rfl, hs, hg⟩
          rw [HT.out.2.1] at hs ⊢
          simp only at hs ⊢
          have H11 := Lib.hid (hR.out.read H.out.2.2.2.1 hs hg); clear hs hg
          cases b with
          | false =>
            obtain ⟨x, k0⟩ := H11.out.at_keeps.1
            have z0 := H11.out.at_keeps.2
            have HN : Hid (FilZ w0 B D0 (w11.setCell ⟨gd, 351, none⟩ (.bool true)) gd g ao n c zs (itS (optG (stepS zs) 128 6) (p + 1) s5) b1 lv sh true (partZ 0 (itV (optG (stepS zs) 128 6) s5) (min (p + 1) 4)) (partZ 0 (fun i => itV (optG (stepS zs) 128 6) s5 (4 + i)) (p + 1 - 4))) := Lib.hid (by
              have e0 : (optG (stepS zs) 128 6) st = (0, t) := by unfold optG; rw [HT.out.2.1]; rfl
              have e1 : itS (optG (stepS zs) 128 6) (p + 1) s5 = t := by show ((optG (stepS zs) 128 6) (itS (optG (stepS zs) 128 6) p s5)).2 = t; rw [← HT.out.1, e0]
              have e2 : itV (optG (stepS zs) 128 6) s5 p = 0 := by unfold itV; rw [← HT.out.1, e0]
              rw [e1]
              refine (H11.out.put_keeps H.out.2.2.2.1 true).congr (fun i hi => ?_) (fun i hi => ?_)
              · unfold partZ
                by_cases h1 : i < min p 4
                · rw [if_pos h1, if_pos (by omega)]
                · rw [if_neg h1]
                  by_cases h2 : i < min (p + 1) 4
                  · obtain rfl : i = p := by omega
                    rw [if_pos h2, e2]
                  · rw [if_neg h2]
              · unfold partZ
                by_cases h1 : i < p - 4
                · rw [if_pos h1, if_pos (by omega)]
                · rw [if_neg h1]
                  by_cases h2 : i < p + 1 - 4
                  · have : 4 + i = p := by omega
                    rw [if_pos h2]; show 0 = itV (optG (stepS zs) 128 6) s5 (4 + i); rw [this, e2]
                  · rw [if_neg h2])
            go_wp2
            go_roundw
            case rel => exact ⟨p + 1, by omega, by go_num, HN⟩
            case measure => simp [intOf]; omega
          | true =>
            obtain ⟨x, t2, ex⟩ : ∃ x t2, signG (stepS zs) 128 6 t = (x, t2) := ⟨_, _, rfl⟩
            have HX := Lib.hid ex; clear ex
            have HX0 : Hid ((optG (stepS zs) 128 6) st = (x, t2)) := Lib.hid (by unfold optG; rw [HT.out.2.1]; simp only [if_true]; exact HX.out)
            have HX1 : Hid (itS (optG (stepS zs) 128 6) (p + 1) s5 = t2 ∧ x = itV (optG (stepS zs) 128 6) s5 p) := Lib.hid ⟨by show ((optG (stepS zs) 128 6) (itS (optG (stepS zs) 128 6) p s5)).2 = t2; rw [← HT.out.1, HX0.out], by unfold itV; rw [← HT.out.1, HX0.out]⟩
            have p1000 : p ≤ 8 := hp
            go_wp2_with fail
            refine (signed_any g ao n c zs t 6 w11 (by obtain ⟨D, a, b⟩ := H11.out; exact a.1) HT.out.2.2.2 (by omega) (by decide)).mono ?_
            rintro _ w12 ⟨rfl, hs, hg⟩
            rw [HX.out] at hs ⊢
            simp only at hs ⊢
            have H12 := Lib.hid (H11.out.read H.out.2.2.2.1 hs hg); clear hs hg H11
            by_cases h4 : p < 4
            · have i4 : (p : Int) < 4 := by omega
              have k0 : w12.cell? ⟨gd, 276 + p, none⟩ = some (.int .i64 (partZ 0 (itV (optG (stepS zs) 128 6) s5) (min p 4) p)) := by obtain ⟨D, a, b⟩ := H12.out; exact a.cell (276 + p) (b.rf p h4)
              have z0 : w12.frozen? ⟨gd, 276 + p, none⟩ = false := by obtain ⟨D, a, b⟩ := H12.out; exact a.free _
              have HN : Hid (FilZ w0 B D0 (w12.setCell ⟨gd, 276 + p, none⟩ (.int .i64 x)) gd g ao n c zs (itS (optG (stepS zs) 128 6) (p + 1) s5) b1 lv sh true (partZ 0 (itV (optG (stepS zs) 128 6) s5) (min (p + 1) 4)) (partZ 0 (fun i => itV (optG (stepS zs) 128 6) s5 (4 + i)) (p + 1 - 4))) := Lib.hid (by
                obtain ⟨D, a, b⟩ := H12.out
                rw [HX1.out.1, HX1.out.2, show min (p + 1) 4 = p + 1 by omega, show p + 1 - 4 = 0 by omega]
                rw [show min p 4 = p by omega, show p - 4 = 0 by omega] at b
                exact ⟨_, a.upd H.out.2.2.2.1 (276 + p) _ (b.rf p h4), FilT.put_rf p h4 b⟩)
              go_wp2
              go_roundw
              case rel => exact ⟨p + 1, by omega, by go_num, HN⟩
              case measure => simp [intOf]; omega
            · have i4 : ¬ (p : Int) < 4 := by omega
              have k0 : w12.cell? ⟨gd, 280 + (p - 4), none⟩ = some (.int .i64 (partZ 0 (fun i => itV (optG (stepS zs) 128 6) s5 (4 + i)) (p - 4) (p - 4))) := by obtain ⟨D, a, b⟩ := H12.out; exact a.cell (280 + (p - 4)) (b.md (p - 4) (by omega))
              have z0 : w12.frozen? ⟨gd, 280 + (p - 4), none⟩ = false := by obtain ⟨D, a, b⟩ := H12.out; exact a.free _
              have HN : Hid (FilZ w0 B D0 (w12.setCell ⟨gd, 280 + (p - 4), none⟩ (.int .i64 x)) gd g ao n c zs (itS (optG (stepS zs) 128 6) (p + 1) s5) b1 lv sh true (partZ 0 (itV (optG (stepS zs) 128 6) s5) (min (p + 1) 4)) (partZ 0 (fun i => itV (optG (stepS zs) 128 6) s5 (4 + i)) (p + 1 - 4))) := Lib.hid (by
                obtain ⟨D, a, b⟩ := H12.out
                obtain ⟨q, hq⟩ : ∃ q, q = p - 4 := ⟨_, rfl⟩
                have hx : x = (fun i => itV (optG (stepS zs) 128 6) s5 (4 + i)) q := by rw [HX1.out.2]; show _ = itV (optG (stepS zs) 128 6) s5 (4 + q); rw [show 4 + q = p by omega]
                rw [HX1.out.1, show min (p + 1) 4 = min p 4 by omega, show p + 1 - 4 = q + 1 by omega, ← hq, hx]
                rw [← hq] at b
                exact ⟨_, a.upd H.out.2.2.2.1 (280 + q) _ (b.md q (by omega)), FilT.put_md q (by omega) b⟩)
              go_wp2
              go_roundw
              case rel => exact ⟨p + 1, by omega, by go_num, HN⟩
              case measure => simp [intOf]; omega
        · obtain rfl : p = 8 := by omega
          have HF : Hid (FilZ w0 B D0 wr gd g ao n c zs v.2 v.1.simple v.1.level v.1.sharp v.1.deltas v.1.ref v.1.mode) := Lib.hid (by
            rw [e.out]
            unfold filD
            simp only
            rw [← itS_add (optG (stepS zs) 128 6) 4 s5 4]
            refine hR.out.congr (fun i hi => partZ_all' i (by omega)) (fun i hi => ?_)
            rw [partZ_all' i (by omega), ← itV_add])
          go_wp2
          go_end0
          exact ⟨rfl, HF.out⟩
end Go.Proofs.YthmkmemocjnleaaDoor
