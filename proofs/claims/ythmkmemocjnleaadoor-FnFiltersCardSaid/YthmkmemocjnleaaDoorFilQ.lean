/- The walk of parseFilterHeader. Printed by wip/gen_filq.py. -/
import Derived.Test.YthmkmemocjnleaaDoorFilP
namespace Go.Proofs.YthmkmemocjnleaaDoor
open Go.RowKit
set_option linter.unusedVariables false

theorem Par.congr {P : Nat → Nat → Int} {R R' : Nat → Option Value} {n : Nat} (h : Par P R n) (e : ∀ i, 1188 ≤ i → R i = R' i) : Par P R' n :=
  ⟨fun m k hm hk => by rw [← e _ (by omega)]; exact h.1 m k hm hk, fun m hm => by rw [← e _ (by omega)]; exact h.2 m hm⟩
/-- What parseFilterHeader leaves. -/
def FilE (w0 : World) (R0 : Nat → Option Value) (P : Nat → Nat → Int) (w : World) (g : Nat) (ao : Option Addr) (n c : Nat) (zs : List Int) (v : FG × DS) : Prop :=
  ∃ R1 R, At51.Rd R w g ao n c zs v.2 ∧ FilS R0 R1 v.1.simple v.1.level v.1.sharp v.1.deltas v.1.ref v.1.mode ∧ (∀ i, i < 1188 → R i = R1 i) ∧ Par P R (if v.1.level = 0 then 0 else 8) ∧ w0.grownBy w (some g)
theorem bits_bd {σ : Type} (step : σ → Int → Bool × σ) (k : Nat) (s : σ) (m : Int) (hm : (2 : Int) ^ k = m) : 0 ≤ (bitsG step 128 k 0 s).1 ∧ (bitsG step 128 k 0 s).1 < m := by
  have hb := bitsG_range step 128 k 0 s
  simp only [Int.zero_mul, Int.zero_add, Int.one_mul] at hb
  rw [← hm]; exact hb
theorem bits_okP (zs : List Int) (d : DS) (h : OKP zs d) (hz : Bytes zs) (h255 : zs.getD 0 0 ≠ 255) (k : Nat) : ∀ acc, OKP zs (bitsG (stepP zs) 128 k acc d).2 := by
  induction k generalizing d with
  | zero => intro acc; exact h
  | succ k ih => intro acc; rw [bitsG]; exact ih _ (stepP_ok zs d h hz h255 128 (by decide) (by decide)) _
theorem filG_bd {σ : Type} (step : σ → Int → Bool × σ) (s : σ) : (0 ≤ (filG step s).1.level ∧ (filG step s).1.level ≤ 63) ∧ (0 ≤ (filG step s).1.sharp ∧ (filG step s).1.sharp ≤ 7) ∧ (∀ i, -63 ≤ (filG step s).1.ref i ∧ (filG step s).1.ref i ≤ 63) ∧ ∀ i, -63 ≤ (filG step s).1.mode i ∧ (filG step s).1.mode i ≤ 63 := by
  have b6 := bits_bd step 6 (step s 128).2 64 (by decide)
  have b3 := bits_bd step 3 (bitsG step 128 6 0 (step s 128).2).2 8 (by decide)
  have o6 : ∀ s', -63 ≤ (optG step 128 6 s').1 ∧ (optG step 128 6 s').1 ≤ 63 := fun s' => by
    have hb := bits_bd step 6 (step s' 128).2 64 (by decide)
    unfold optG signG
    split
    · simp only
      split <;> omega
    · simp
  unfold filG filC
  split
  · unfold filB
    split
    · unfold filD
      exact ⟨by simp only; omega, by simp only; omega, fun i => o6 _, fun i => o6 _⟩
    · exact ⟨by simp only; omega, by simp only; omega, fun i => by simp, fun i => by simp⟩
  · exact ⟨by simp only; omega, by simp only; omega, fun i => by simp, fun i => by simp⟩

set_option maxRecDepth 100000 in
set_option maxHeartbeats 8000000 in
theorem parseFil_any (g : Nat) (ao : Option Addr) (n c : Nat) (zs : List Int) (d : DS) (R0 : Nat → Option Value) (w : World) (h : FilX w R0 w g ao n c zs d false 0 0 false (fun _ => 0) (fun _ => 0)) (u r : Bool) (st : Nat → Int)
    (k13 : R0 13 = some (.bool true)) (k21 : R0 21 = some (.bool u)) (k23 : R0 23 = some (.bool r)) (k28 : ∀ i, i < 4 → R0 (28 + i) = some (.int .i8 (st i))) (hst : ∀ i, -128 ≤ st i ∧ st i ≤ 127)
    (v : FG × DS) (hv : v = filG (stepP zs) d) (P : Nat → Nat → Int) (hP : P = parM u r v.1 st) (hpar : Par P R0 0) :
    Calls Tryd.prog 71 #[.pointer (some ⟨g, 0, none⟩)] w fun e w' => e = .returned (.tuple #[]) ∧ FilE w R0 P w' g ao n c zs v := by
  obtain ⟨⟨bl0, bl1⟩, ⟨bs0, bs1⟩, bref, bmode⟩ := filG_bd (stepP zs) d
  rw [← hv] at bl0 bl1 bs0 bs1 bref bmode
  have HK := Lib.hid (And.intro k13 (And.intro k21 (And.intro k23 (And.intro k28 (And.intro hst (And.intro hP (And.intro hpar (And.intro bref bmode)))))))); clear k13 k21 k23 k28 hst hP hpar bref bmode
  obtain ⟨R, h1, h2, h3⟩ := h
  obtain ⟨b1, d1, s1⟩ : ∃ b1 d1, stepP zs d 128 = (b1, d1) := ⟨_, _, rfl⟩
  have H := Lib.hid (And.intro h1 (And.intro h2 (And.intro h3 (And.intro hv s1)))); clear h1 h2 h3 hv s1
  go_enter Tryd.func71, Tryd.ntmps71
  go_wp2_with fail
  refine (At51.readBit_any g ao n c zs d 128 w H.out.1 (by decide) (by decide)).mono ?_
  rintro _ w1 ⟨rfl, ho, hg⟩
  have H1 : Hid (At51.Rd R w1 g ao n c zs (stepP zs d 128).2 ∧ FilS R0 R false 0 0 false (fun _ => 0) (fun _ => 0) ∧ w.grownBy w1 (some g)) := Lib.hid ⟨H.out.1.step hg ho (stepP_ok zs d H.out.1.ok H.out.1.bytes H.out.1.first 128 (by decide) (by decide)), H.out.2.1, grownBy.trans H.out.2.2.1 hg⟩
  clear ho hg
  rw [H.out.2.2.2.2] at H1 ⊢
  simp only at H1 ⊢
  have k0 : w1.cell? ⟨g, 35, none⟩ = some (.bool false) := At51.FO.cell H1.out.1.obj 35 (by omega) H1.out.2.1.sm
  have z0 : w1.frozen? ⟨g, 35, none⟩ = false := At51.FO.free H1.out.1.obj 35
  have H2 : Hid (At51.Rd (At51.updR R 35 (.bool b1)) (w1.setCell ⟨g, 35, none⟩ (.bool b1)) g ao n c zs d1 ∧ FilS R0 (At51.updR R 35 (.bool b1)) b1 0 0 false (fun _ => 0) (fun _ => 0) ∧ w.grownBy (w1.setCell ⟨g, 35, none⟩ (.bool b1)) (some g)) := Lib.hid ⟨rput H1.out.1 35 _ (by omega) H1.out.2.1.sm, H1.out.2.1.put_sm _, grownBy.trans H1.out.2.2 (grownBy_setCell _ _ _)⟩
  go_wp2_with fail
  generalize World.setCell w1 _ _ = w2 at H2 ⊢
  generalize At51.updR R _ _ = R2 at H2
  clear k0 z0 H1
  obtain ⟨lv, d2, s2⟩ : ∃ lv d2, bitsG (stepP zs) 128 6 0 d1 = (lv, d2) := ⟨_, _, rfl⟩
  have bl := bits_bd (stepP zs) 6 d1 64 (by decide)
  rw [s2] at bl
  obtain ⟨lv0, lv1⟩ := bl
  simp only at lv0 lv1
  have HS2 := Lib.hid s2; clear s2
  refine (At51.readUint_any g ao n c zs d1 128 6 w2 H2.out.1 (by decide) (by decide) (by decide)).mono ?_
  rintro _ w3 ⟨rfl, ho, hg⟩
  have H3 : Hid (At51.Rd R2 w3 g ao n c zs (bitsG (stepP zs) 128 6 0 d1).2 ∧ FilS R0 R2 b1 0 0 false (fun _ => 0) (fun _ => 0) ∧ w.grownBy w3 (some g)) := Lib.hid ⟨ho, H2.out.2.1, grownBy.trans H2.out.2.2 hg⟩
  clear ho hg H2
  rw [HS2.out] at H3 ⊢
  simp only at H3 ⊢
  have k0 : w3.cell? ⟨g, 36, none⟩ = some (.int .i8 0) := At51.FO.cell H3.out.1.obj 36 (by omega) H3.out.2.1.lv
  have z0 : w3.frozen? ⟨g, 36, none⟩ = false := At51.FO.free H3.out.1.obj 36
  have H4 : Hid (At51.Rd (At51.updR R2 36 (.int .i8 lv)) (w3.setCell ⟨g, 36, none⟩ (.int .i8 lv)) g ao n c zs d2 ∧ FilS R0 (At51.updR R2 36 (.int .i8 lv)) b1 lv 0 false (fun _ => 0) (fun _ => 0) ∧ w.grownBy (w3.setCell ⟨g, 36, none⟩ (.int .i8 lv)) (some g)) := Lib.hid ⟨rput H3.out.1 36 _ (by omega) H3.out.2.1.lv, H3.out.2.1.put_lv _, grownBy.trans H3.out.2.2 (grownBy_setCell _ _ _)⟩
  go_wp2_with fail
  generalize World.setCell w3 _ _ = w4 at H4 ⊢
  generalize At51.updR R2 _ _ = R3 at H4
  clear k0 z0 H3
  obtain ⟨sh, d3, s3⟩ : ∃ sh d3, bitsG (stepP zs) 128 3 0 d2 = (sh, d3) := ⟨_, _, rfl⟩
  have bl := bits_bd (stepP zs) 3 d2 8 (by decide)
  rw [s3] at bl
  obtain ⟨sh0, sh1⟩ := bl
  simp only at sh0 sh1
  have HS3 := Lib.hid s3; clear s3
  refine (At51.readUint_any g ao n c zs d2 128 3 w4 H4.out.1 (by decide) (by decide) (by decide)).mono ?_
  rintro _ w5 ⟨rfl, ho, hg⟩
  have H5 : Hid (At51.Rd R3 w5 g ao n c zs (bitsG (stepP zs) 128 3 0 d2).2 ∧ FilS R0 R3 b1 lv 0 false (fun _ => 0) (fun _ => 0) ∧ w.grownBy w5 (some g)) := Lib.hid ⟨ho, H4.out.2.1, grownBy.trans H4.out.2.2 hg⟩
  clear ho hg H4
  rw [HS3.out] at H5 ⊢
  simp only at H5 ⊢
  have k0 : w5.cell? ⟨g, 37, none⟩ = some (.int .u8 0) := At51.FO.cell H5.out.1.obj 37 (by omega) H5.out.2.1.sh
  have z0 : w5.frozen? ⟨g, 37, none⟩ = false := At51.FO.free H5.out.1.obj 37
  have H6 : Hid (At51.Rd (At51.updR R3 37 (.int .u8 sh)) (w5.setCell ⟨g, 37, none⟩ (.int .u8 sh)) g ao n c zs d3 ∧ FilS R0 (At51.updR R3 37 (.int .u8 sh)) b1 lv sh false (fun _ => 0) (fun _ => 0) ∧ w.grownBy (w5.setCell ⟨g, 37, none⟩ (.int .u8 sh)) (some g)) := Lib.hid ⟨rput H5.out.1 37 _ (by omega) H5.out.2.1.sh, H5.out.2.1.put_sh _, grownBy.trans H5.out.2.2 (grownBy_setCell _ _ _)⟩
  go_wp2_with fail
  generalize World.setCell w5 _ _ = w6 at H6 ⊢
  generalize At51.updR R3 _ _ = R4 at H6
  clear k0 z0 H5
  obtain ⟨b4, d4, s4⟩ : ∃ b4 d4, stepP zs d3 128 = (b4, d4) := ⟨_, _, rfl⟩
  have HS4 := Lib.hid s4; clear s4
  refine (At51.readBit_any g ao n c zs d3 128 w6 H6.out.1 (by decide) (by decide)).mono ?_
  rintro _ w7 ⟨rfl, ho, hg⟩
  have H7 : Hid (At51.Rd R4 w7 g ao n c zs (stepP zs d3 128).2 ∧ FilS R0 R4 b1 lv sh false (fun _ => 0) (fun _ => 0) ∧ w.grownBy w7 (some g)) := Lib.hid ⟨H6.out.1.step hg ho (stepP_ok zs d3 H6.out.1.ok H6.out.1.bytes H6.out.1.first 128 (by decide) (by decide)), H6.out.2.1, grownBy.trans H6.out.2.2 hg⟩
  clear ho hg H6
  rw [HS4.out] at H7 ⊢
  simp only at H7 ⊢
  have HE : Hid (v = filC (stepP zs) b1 lv sh d3) := Lib.hid (by rw [H.out.2.2.2.1]; unfold filG; rw [H.out.2.2.2.2]; simp only; rw [HS2.out]; simp only; rw [HS3.out])
  clear HS2 HS3 H
  have k0 : w7.cell? ⟨g, 38, none⟩ = some (.bool false) := At51.FO.cell H7.out.1.obj 38 (by omega) H7.out.2.1.dl
  have z0 : w7.frozen? ⟨g, 38, none⟩ = false := At51.FO.free H7.out.1.obj 38
  have H8 : Hid (At51.Rd (At51.updR R4 38 (.bool b4)) (w7.setCell ⟨g, 38, none⟩ (.bool b4)) g ao n c zs d4 ∧ FilS R0 (At51.updR R4 38 (.bool b4)) b1 lv sh b4 (fun _ => 0) (fun _ => 0) ∧ w.grownBy (w7.setCell ⟨g, 38, none⟩ (.bool b4)) (some g)) := Lib.hid ⟨rput H7.out.1 38 _ (by omega) H7.out.2.1.dl, H7.out.2.1.put_dl _, grownBy.trans H7.out.2.2 (grownBy_setCell _ _ _)⟩
  go_upto_region 4 with fail
  generalize World.setCell w7 _ _ = w8 at H8 ⊢
  generalize At51.updR R4 _ _ = R5 at H8
  clear k0 z0 H7
  have c38 : w8.cell? ⟨g, 38, none⟩ = some (.bool b4) := At51.FO.cell H8.out.1.obj 38 (by omega) H8.out.2.1.dl
  obtain ⟨bb, hbb⟩ : ∃ bb, bb = (b4 && (stepP zs d4 128).1) := ⟨_, rfl⟩
  obtain ⟨dd, hdd⟩ : ∃ dd, dd = (if b4 then (stepP zs d4 128).2 else d4) := ⟨_, rfl⟩
  have HB := Lib.hid (And.intro hbb hdd); clear hbb hdd
  go_cut [50] from 40 (fun s50 wx => s50 = .bool bb ∧ Hid (At51.Rd R5 wx g ao n c zs dd ∧ FilS R0 R5 b1 lv sh b4 (fun _ => 0) (fun _ => 0) ∧ w.grownBy wx (some g)))
  case first =>
    cases b4 with
    | false =>
      have e1 := Lib.hid (show bb = false from HB.out.1)
      have e2 := Lib.hid (show dd = d4 from HB.out.2)
      go_wp2
      go_meet
      exact ⟨by rw [e1.out], by rw [e2.out]; exact H8⟩
    | true =>
      go_wp2_with fail
      have H9 : Hid (∀ w9, At51.PTd R5 w9 g ao n c (stepP zs d4 128).2 → w8.grownBy w9 (some g) → At51.Rd R5 w9 g ao n c zs dd ∧ FilS R0 R5 b1 lv sh true (fun _ => 0) (fun _ => 0) ∧ w.grownBy w9 (some g)) := Lib.hid (fun w9 ho hg => by
        rw [show dd = (stepP zs d4 128).2 from HB.out.2]
        exact ⟨H8.out.1.step hg ho (stepP_ok zs d4 H8.out.1.ok H8.out.1.bytes H8.out.1.first 128 (by decide) (by decide)), H8.out.2.1, grownBy.trans H8.out.2.2 hg⟩)
      have e1 := Lib.hid (show bb = (stepP zs d4 128).1 by rw [HB.out.1]; rfl)
      refine (At51.readBit_any g ao n c zs d4 128 w8 H8.out.1 (by decide) (by decide)).mono ?_
      rw [← e1.out]
      rintro _ w9 ⟨rfl, ho, hg⟩
      have HA := Lib.hid (H9.out w9 ho hg); clear ho hg
      go_wp2
      go_meet
      exact ⟨rfl, HA⟩
  case rest =>
    obtain ⟨rfl, H9⟩ := hcut
    clear c38 H8
    have HE2 : Hid (bb = true → b4 = true ∧ v = filD (stepP zs) b1 lv sh dd) := Lib.hid (fun hb => by
      have e1 := HB.out.1
      have e2 := HB.out.2
      rw [hb] at e1
      have h4 : b4 = true := by cases b4 with | true => rfl | false => simp at e1
      subst h4
      have h5 : (stepP zs d4 128).1 = true := by simpa using e1.symm
      refine ⟨rfl, ?_⟩
      rw [HE.out]; unfold filC; rw [HS4.out]; simp only [if_true]; unfold filB; rw [if_pos h5, e2]; rfl)
    have HE3 : Hid (bb = false → v = (⟨b1, lv, sh, b4, fun _ => 0, fun _ => 0⟩, dd)) := Lib.hid (fun hb => by
      have e1 := HB.out.1
      have e2 := HB.out.2
      rw [hb] at e1
      rw [HE.out]; unfold filC; rw [HS4.out]
      cases b4 with
      | false => rw [e2]; rfl
      | true =>
        have h5 : ¬ (stepP zs d4 128).1 = true := by simpa using e1.symm
        simp only [if_true]; unfold filB; rw [if_neg h5, e2]; rfl)
    clear HE HB
    go_upto_if 50 with fail
    go_cut [2, 3] from 40 (fun s2 s3 wx => Hid (FilX w R0 wx g ao n c zs v.2 v.1.simple v.1.level v.1.sharp v.1.deltas v.1.ref v.1.mode))
    case first =>
      cases bb with
      | false =>
        have e := HE3.out rfl
        have e := Lib.hid e
        go_wp2
        go_meet
        rw [e.out]
        exact Lib.hid ⟨R5, H9.out⟩
      | true =>
        obtain ⟨h4, e⟩ := HE2.out rfl
        subst h4
        have e := Lib.hid e
        have HL : Hid (FilX w R0 wc g ao n c zs (itS (optG (stepP zs) 128 6) 0 dd) b1 lv sh true (partZ 0 (itV (optG (stepP zs) 128 6) dd) 0) (fun _ => 0)) := Lib.hid (FilX.congr ⟨R5, H9.out⟩ (fun i _ => (partZ_zero 0 _ i).symm) (fun _ _ => rfl))
        clear H9 HE2 HE3
        go_wp2
        go_loopw [2, 51] (fun _ i wr => ∃ p : Nat, p ≤ 4 ∧ i = .int .i64 p ∧ Hid (FilX w R0 wr g ao n c zs (itS (optG (stepP zs) 128 6) p dd) b1 lv sh true (partZ 0 (itV (optG (stepP zs) 128 6) dd) p) (fun _ => 0))) (fun _ i _ => 4 - (intOf i).toNat)
        case atStart => exact ⟨0, by omega, rfl, HL⟩
        case round =>
          obtain ⟨p, hp, rfl, hR⟩ := hrel
          by_cases hlt : p < 4
          · go_wp2_with fail
            obtain ⟨Rp, hR1, hR2, hR3⟩ := hR.out
            have HP := Lib.hid (And.intro hR1 (And.intro hR2 hR3)); clear hR1 hR2 hR3
            obtain ⟨x0, x1⟩ := opt_bd (stepP zs) 6 (by decide) (itS (optG (stepP zs) 128 6) p dd)
            obtain ⟨x, hx⟩ : ∃ x, x = (optG (stepP zs) 128 6 (itS (optG (stepP zs) 128 6) p dd)).1 := ⟨_, rfl⟩
            rw [← hx] at x0 x1
            have HXX : Hid (x = (itV (optG (stepP zs) 128 6) dd) p) := Lib.hid hx
            have HXY := Lib.hid hx; clear hx
            go_region_with (first | (go_at_call 60; refine (At51.readOpt_any g ao n c zs (itS (optG (stepP zs) 128 6) p dd) 128 6 _ (HP.out.1.drewN 1) (by decide) (by decide) (by decide)).mono ?_; rintro _ w8 ⟨rfl, ho, hg⟩; have H8 : Hid (At51.Rd Rp w8 g ao n c zs (itS (optG (stepP zs) 128 6) (p + 1) dd) ∧ w.grownBy w8 (some g)) := Lib.hid ⟨ho, grownBy.trans HP.out.2.2 (grownBy.trans (grownBy_drewN _ 1 _) hg)⟩; clear ho hg; have d0 : w8.cell? ⟨g, 39 + p, none⟩ = some (.int .i8 _) := At51.FO.cell H8.out.1.obj (39 + p) (by omega) (HP.out.2.1.rf p hlt); have z0 : w8.frozen? ⟨g, 39 + p, none⟩ = false := At51.FO.free H8.out.1.obj _; rw [← HXY.out]))
            all_goals
              have HN : Hid (FilX w R0 (w8.setCell ⟨g, 39 + p, none⟩ (.int .i8 x)) g ao n c zs (itS (optG (stepP zs) 128 6) (p + 1) dd) b1 lv sh true (partZ 0 (itV (optG (stepP zs) 128 6) dd) (p + 1)) (fun _ => 0)) := by rw [HXX.out]; exact Lib.hid ⟨_, rput H8.out.1 (39 + p) _ (by omega) (HP.out.2.1.rf p hlt), FilS.put_rf p hlt HP.out.2.1, grownBy.trans H8.out.2 (grownBy_setCell _ _ _)⟩
              go_wp2
              go_roundw
              case rel => first | exact ⟨p + 1, by omega, by go_num, HN⟩ | ((repeat apply Exists.intro); refine ⟨?_, rfl⟩; exact ⟨p + 1, by omega, by go_num, HN⟩)
              case measure => simp [intOf]; omega
          · obtain rfl : p = 4 := by omega
            have HL : Hid (FilX w R0 wr g ao n c zs (itS (optG (stepP zs) 128 6) 0 (itS (optG (stepP zs) 128 6) 4 dd)) b1 lv sh true (itV (optG (stepP zs) 128 6) dd) (partZ 0 (itV (optG (stepP zs) 128 6) (itS (optG (stepP zs) 128 6) 4 dd)) 0)) := Lib.hid (hR.out.congr (fun i hi => partZ_all i hi) (fun i _ => (partZ_zero 0 _ i).symm))
            clear hR hlt hp
            go_wp2
            go_loopw [3, 66] (fun _ i wr => ∃ p : Nat, p ≤ 4 ∧ i = .int .i64 p ∧ Hid (FilX w R0 wr g ao n c zs (itS (optG (stepP zs) 128 6) p (itS (optG (stepP zs) 128 6) 4 dd)) b1 lv sh true (itV (optG (stepP zs) 128 6) dd) (partZ 0 (itV (optG (stepP zs) 128 6) (itS (optG (stepP zs) 128 6) 4 dd)) p))) (fun _ i _ => 4 - (intOf i).toNat)
            case atStart => exact ⟨0, by omega, rfl, HL⟩
            case round =>
              obtain ⟨p, hp, rfl, hR⟩ := hrel
              by_cases hlt : p < 4
              · go_wp2_with fail
                obtain ⟨Rp, hR1, hR2, hR3⟩ := hR.out
                have HP := Lib.hid (And.intro hR1 (And.intro hR2 hR3)); clear hR1 hR2 hR3
                obtain ⟨x0, x1⟩ := opt_bd (stepP zs) 6 (by decide) (itS (optG (stepP zs) 128 6) p (itS (optG (stepP zs) 128 6) 4 dd))
                obtain ⟨x, hx⟩ : ∃ x, x = (optG (stepP zs) 128 6 (itS (optG (stepP zs) 128 6) p (itS (optG (stepP zs) 128 6) 4 dd))).1 := ⟨_, rfl⟩
                rw [← hx] at x0 x1
                have HXX : Hid (x = (itV (optG (stepP zs) 128 6) (itS (optG (stepP zs) 128 6) 4 dd)) p) := Lib.hid hx
                have HXY := Lib.hid hx; clear hx
                go_region_with (first | (go_at_call 60; refine (At51.readOpt_any g ao n c zs (itS (optG (stepP zs) 128 6) p (itS (optG (stepP zs) 128 6) 4 dd)) 128 6 _ (HP.out.1.drewN 1) (by decide) (by decide) (by decide)).mono ?_; rintro _ w8 ⟨rfl, ho, hg⟩; have H8 : Hid (At51.Rd Rp w8 g ao n c zs (itS (optG (stepP zs) 128 6) (p + 1) (itS (optG (stepP zs) 128 6) 4 dd)) ∧ w.grownBy w8 (some g)) := Lib.hid ⟨ho, grownBy.trans HP.out.2.2 (grownBy.trans (grownBy_drewN _ 1 _) hg)⟩; clear ho hg; have d0 : w8.cell? ⟨g, 43 + p, none⟩ = some (.int .i8 _) := At51.FO.cell H8.out.1.obj (43 + p) (by omega) (HP.out.2.1.md p hlt); have z0 : w8.frozen? ⟨g, 43 + p, none⟩ = false := At51.FO.free H8.out.1.obj _; rw [← HXY.out]))
                all_goals
                  have HN : Hid (FilX w R0 (w8.setCell ⟨g, 43 + p, none⟩ (.int .i8 x)) g ao n c zs (itS (optG (stepP zs) 128 6) (p + 1) (itS (optG (stepP zs) 128 6) 4 dd)) b1 lv sh true (itV (optG (stepP zs) 128 6) dd) (partZ 0 (itV (optG (stepP zs) 128 6) (itS (optG (stepP zs) 128 6) 4 dd)) (p + 1))) := by rw [HXX.out]; exact Lib.hid ⟨_, rput H8.out.1 (43 + p) _ (by omega) (HP.out.2.1.md p hlt), FilS.put_md p hlt HP.out.2.1, grownBy.trans H8.out.2 (grownBy_setCell _ _ _)⟩
                  go_wp2
                  go_roundw
                  case rel => first | exact ⟨p + 1, by omega, by go_num, HN⟩ | ((repeat apply Exists.intro); refine ⟨?_, rfl⟩; exact ⟨p + 1, by omega, by go_num, HN⟩)
                  case measure => simp [intOf]; omega
              · obtain rfl : p = 4 := by omega
                go_wp2
                go_meet
                rw [e.out]
                exact Lib.hid (hR.out.congr (fun _ _ => rfl) (fun i hi => partZ_all i hi))
    case rest =>
      have HX : Hid (FilX w R0 wc g ao n c zs v.2 v.1.simple v.1.level v.1.sharp v.1.deltas v.1.ref v.1.mode) := hcut
      clear hcut HE2 HE3 H9 HS4
      have c36 : wc.cell? ⟨g, 36, none⟩ = some (.int .i8 v.1.level) := by obtain ⟨R1, a, b, _⟩ := HX.out; exact At51.FO.cell a.obj 36 (by omega) b.lv
      obtain ⟨l0, hl0⟩ : ∃ l0, l0 = v.1.level := ⟨_, rfl⟩
      rw [← hl0] at c36 bl0 bl1
      have HL0 := Lib.hid hl0; clear hl0
      by_cases hz : l0 = 0
      · subst hz
        have HE : Hid (FilE w R0 P wc g ao n c zs v) := Lib.hid (by
          obtain ⟨R1, a, b, c⟩ := HX.out
          exact ⟨R1, R1, a, b, fun _ _ => rfl, by rw [← HL0.out, if_pos rfl]; exact HK.out.2.2.2.2.2.2.1.congr (fun i hi => (b.hi i (by omega)).symm), c⟩)
        go_wp2
        (try simp only [Exit.inBlock, Exit.then]); refine bodyPost_ret (results_none rfl _ _ _) rfl ?_
        exact ⟨rfl, HE.out⟩
      · have hz' : (l0 == 0) = false := by simpa using hz
        have c21 : wc.cell? ⟨g, 21, none⟩ = some (.bool u) := by obtain ⟨R1, a, b, _⟩ := HX.out; exact At51.FO.cell a.obj 21 (by omega) ((b.lo 21 (by omega)).trans HK.out.2.1)
        have HZ := Lib.hid hz; clear hz
        go_upto_if 91 with fail
        go_cut [4, 5] from 92 (fun s4 s5 wx => Hid (FilX w R0 wx g ao n c zs v.2 v.1.simple v.1.level v.1.sharp v.1.deltas v.1.ref v.1.mode))
        case first =>
          cases u with
          | false =>
            have d0 : ∃ x0, wc.cell? ⟨g, 47, none⟩ = some (.int .i8 x0) := by
              obtain ⟨R1, a, b, _⟩ := HX.out
              obtain ⟨x, hx⟩ := b.per 0 (by omega)
              exact ⟨x, At51.FO.cell a.obj 47 (by omega) hx⟩
            obtain ⟨x0, d0⟩ := d0
            have z0 : wc.frozen? ⟨g, 47, none⟩ = false := by obtain ⟨R1, a, b, _⟩ := HX.out; exact At51.FO.free a.obj _
            have HN : Hid (FilX w R0 (wc.setCell ⟨g, 47, none⟩ (.int .i8 l0)).drew g ao n c zs v.2 v.1.simple v.1.level v.1.sharp v.1.deltas v.1.ref v.1.mode) := Lib.hid (by
              obtain ⟨R1, a, b, c⟩ := HX.out
              obtain ⟨x, hx⟩ := b.per 0 (by omega)
              exact ⟨_, (rput a 47 (.int .i8 l0) (by omega) hx).drewN 1, FilS.put_per b 0 (by omega) l0, grownBy.trans (grownBy.trans c (grownBy_setCell _ _ _)) (grownBy_drewN _ 1 _)⟩)
            go_wp2_with fail
            go_region_with fail
            all_goals
              go_wp2
              go_meet
              exact HN
          | true =>
            go_wp2
            go_loopw [92] (fun i wr => ∃ p : Nat, p ≤ 4 ∧ i = .int .i64 p ∧ Hid (FilX w R0 wr g ao n c zs v.2 v.1.simple v.1.level v.1.sharp v.1.deltas v.1.ref v.1.mode)) (fun i _ => 4 - (intOf i).toNat)
            case atStart => exact ⟨0, by omega, rfl, HX⟩
            case round =>
              obtain ⟨p, hp, rfl, hR⟩ := hrel
              by_cases hlt : p < 4
              · have e36 : wr.cell? ⟨g, 36, none⟩ = some (.int .i8 l0) := by obtain ⟨R1, a, b, _⟩ := hR.out; rw [HL0.out]; exact At51.FO.cell a.obj 36 (by omega) b.lv
                have e23 : wr.cell? ⟨g, 23, none⟩ = some (.bool r) := by obtain ⟨R1, a, b, _⟩ := hR.out; exact At51.FO.cell a.obj 23 (by omega) ((b.lo 23 (by omega)).trans HK.out.2.2.1)
                obtain ⟨s, hs⟩ : ∃ s, s = st p := ⟨_, rfl⟩
                obtain ⟨s0, s1⟩ := HK.out.2.2.2.2.1 p
                rw [← hs] at s0 s1
                have e28 : wr.cell? ⟨g, 28 + p, none⟩ = some (.int .i8 s) := by obtain ⟨R1, a, b, _⟩ := hR.out; rw [hs]; exact At51.FO.cell a.obj (28 + p) (by omega) ((b.lo _ (by omega)).trans (HK.out.2.2.2.1 p hlt))
                clear hs
                have d0 : ∃ x0, wr.cell? ⟨g, 47 + p, none⟩ = some (.int .i8 x0) := by
                  obtain ⟨R1, a, b, _⟩ := hR.out
                  obtain ⟨x, hx⟩ := b.per p hlt
                  exact ⟨x, At51.FO.cell a.obj (47 + p) (by omega) hx⟩
                obtain ⟨x0, d0⟩ := d0
                have z0 : wr.frozen? ⟨g, 47 + p, none⟩ = false := by obtain ⟨R1, a, b, _⟩ := hR.out; exact At51.FO.free a.obj _
                have HN : Hid (∀ y, FilX w R0 (wr.setCell ⟨g, 47 + p, none⟩ (.int .i8 y)) g ao n c zs v.2 v.1.simple v.1.level v.1.sharp v.1.deltas v.1.ref v.1.mode) := Lib.hid (fun y => by
                  obtain ⟨R1, a, b, c⟩ := hR.out
                  obtain ⟨x, hx⟩ := b.per p hlt
                  exact ⟨_, rput a (47 + p) (.int .i8 y) (by omega) hx, FilS.put_per b p hlt y, grownBy.trans c (grownBy_setCell _ _ _)⟩)
                cases r <;>
                · go_wp2
                  go_roundw
                  case rel => exact ⟨p + 1, by omega, by go_num, Lib.hid (HN.out _)⟩
                  case measure => simp [intOf]; omega
              · obtain rfl : p = 4 := by omega
                go_wp2
                go_meet
                exact hR
        case rest =>
          obtain ⟨R1, a1, a2, a3⟩ := hcut.out
          have HY := Lib.hid (And.intro a1 (And.intro a2 a3)); clear a1 a2 a3 hcut HX c36 c21
          go_wp2_with fail
          refine (compute_any g _ R1 _ u r v.1.deltas v.1.level v.1.sharp (v.1.ref 0) (v.1.mode 0) st HY.out.1.obj P (fun m k => by rw [HK.out.2.2.2.2.2.1]; rfl) ((HY.out.2.1.lo 13 (by omega)).trans HK.out.1) ((HY.out.2.1.lo 21 (by omega)).trans HK.out.2.1) ((HY.out.2.1.lo 23 (by omega)).trans HK.out.2.2.1) (fun i hi => (HY.out.2.1.lo (28 + i) (by omega)).trans (HK.out.2.2.2.1 i hi)) HY.out.2.1.lv HY.out.2.1.sh HY.out.2.1.dl (HY.out.2.1.rf 0 (by omega)) (HY.out.2.1.md 0 (by omega)) (HK.out.2.2.2.2.2.2.1.congr (fun i hi => (HY.out.2.1.hi i (by omega)).symm)) (by rw [← HL0.out]; have := HZ.out; omega) (by rw [← HL0.out]; exact bl1) bs0 bs1 HK.out.2.2.2.2.1 (HK.out.2.2.2.2.2.2.2.1 0) (HK.out.2.2.2.2.2.2.2.2 0)).mono ?_
          rintro _ w9 ⟨rfl, R2, f1, f2, f3, f4⟩
          have HF : Hid (FilE w R0 P w9 g ao n c zs v) := Lib.hid ⟨R1, R2, HY.out.1.step2 f2 f1 HY.out.1.ok, HY.out.2.1, f3, by rw [← HL0.out, if_neg HZ.out]; exact f4, grownBy.trans HY.out.2.2 f2⟩
          clear f1 f2 f3 f4
          go_wp2
          (try simp only [Exit.inBlock, Exit.then])
          go_end0
          exact ⟨rfl, HF.out⟩
end Go.Proofs.YthmkmemocjnleaaDoor
