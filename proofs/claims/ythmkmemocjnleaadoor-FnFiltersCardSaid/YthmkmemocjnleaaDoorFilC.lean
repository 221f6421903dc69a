/- The package's computeFilterParams. -/
import Derived.Test.YthmkmemocjnleaaDoorFilG
import Derived.Deep.DeepCutAuto
import Derived.Deep.CutRange
namespace Go.Proofs.YthmkmemocjnleaaDoor
open Go.RowKit
set_option linter.unusedVariables false

/-- What the round's head knows: the decoder's block. -/
def FilW (P : Nat → Nat → Int) (R : Nat → Option Value) (w : World) (g : Nat) (vs : List Value) (n : Nat) (wr : World) : Prop :=
  ∃ R', At51.FO R' wr g vs ∧ w.grownBy wr (some g) ∧ (∀ i, i < 1188 → R' i = R i) ∧ Par P R' n

theorem fin3 {P : Nat → Nat → Int} {R : Nat → Option Value} {n o : Nat} {jb : Bool} {v0 v1 v2 : Int} (h : Par P R n) (hn : n < 8) (ho : o = 1188 + 4 * n) (hj : jb = decide (n % 2 = 1)) (e0 : v0 = P n 0) (e1 : v1 = P n 1) (e2 : v2 = P n 2) :
    Par P (At51.updR (At51.updR (At51.updR (At51.updR R (o + 3) (.bool jb)) (o + 1) (.int .u8 v1)) o (.int .u8 v0)) (o + 2) (.int .u8 v2)) (n + 1) := by
  subst ho hj e0 e1 e2
  refine h.step hn (fun k hk => ?_) ?_ (fun i _ hi => ?_)
  · unfold At51.updR
    obtain rfl | rfl | rfl : k = 0 ∨ k = 1 ∨ k = 2 := by omega
    · rw [if_neg (by omega), if_pos (by omega)]
    · rw [if_neg (by omega), if_neg (by omega), if_pos (by omega)]
    · rw [if_pos (by omega)]
  · unfold At51.updR
    rw [if_neg (by omega), if_neg (by omega), if_neg (by omega), if_pos (by omega)]
  · unfold At51.updR
    rw [if_neg (by omega), if_neg (by omega), if_neg (by omega), if_neg (by omega)]
theorem fin1 {P : Nat → Nat → Int} {R : Nat → Option Value} {n o : Nat} {jb : Bool} (h : Par P R n) (hn : n < 8) (ho : o = 1188 + 4 * n) (hj : jb = decide (n % 2 = 1)) (e : ∀ k, P n k = 0) :
    Par P (At51.updR (At51.updR R (o + 3) (.bool jb)) o (.int .u8 0)) (n + 1) := by
  subst ho hj
  refine h.step hn (fun k hk => ?_) ?_ (fun i _ hi => ?_)
  · rw [e k]
    unfold At51.updR
    obtain rfl | rfl | rfl : k = 0 ∨ k = 1 ∨ k = 2 := by omega
    · rw [if_pos (by omega)]
    · rw [if_neg (by omega), if_neg (by omega), h.1 n 1 hn (by omega), if_neg (by omega)]
    · rw [if_neg (by omega), if_neg (by omega), h.1 n 2 hn (by omega), if_neg (by omega)]
  · unfold At51.updR
    rw [if_neg (by omega), if_pos (by omega)]
  · unfold At51.updR
    rw [if_neg (by omega), if_neg (by omega)]
theorem updR_lo {R R' : Nat → Option Value} {o : Nat} {v : Value} (h : ∀ i, i < 1188 → R' i = R i) (ho : 1188 ≤ o) : ∀ i, i < 1188 → At51.updR R' o v i = R i := fun i hi => by
  unfold At51.updR; rw [if_neg (by omega)]; exact h i hi
theorem u8i8 {x : Int} (h0 : 0 ≤ x) (h1 : x ≤ 255) : IntKind.u8.wrap (IntKind.i8.wrap x) = x := by
  simp [IntKind.wrap, IntKind.signed, IntKind.bits]; omega

set_option maxRecDepth 100000 in
set_option maxHeartbeats 4000000 in
theorem compute_any (g : Nat) (vs : List Value) (R : Nat → Option Value) (w : World) (u r dl : Bool) (lv sh r0 m0 : Int) (st : Nat → Int) (h : At51.FO R w g vs) (P : Nat → Nat → Int) (hP : ∀ m k, P m k = parI sh (lvlI dl (baseI u r lv (st (m / 2))) r0 m0 (m % 2)) k)
    (k13 : R 13 = some (.bool true)) (k21 : R 21 = some (.bool u)) (k23 : R 23 = some (.bool r)) (k28 : ∀ i, i < 4 → R (28 + i) = some (.int .i8 (st i))) (k36 : R 36 = some (.int .i8 lv)) (k37 : R 37 = some (.int .u8 sh)) (k38 : R 38 = some (.bool dl)) (k39 : R 39 = some (.int .i8 r0)) (k43 : R 43 = some (.int .i8 m0))
    (hpar : Par P R 0) (hlv : 1 ≤ lv) (hlv1 : lv ≤ 63) (hs0 : 0 ≤ sh) (hs1 : sh ≤ 7) (hst : ∀ i, -128 ≤ st i ∧ st i ≤ 127) (hr : -63 ≤ r0 ∧ r0 ≤ 63) (hm : -63 ≤ m0 ∧ m0 ≤ 63) :
    Calls Tryd.prog 77 #[.pointer (some ⟨g, 0, none⟩)] w fun e w' => e = .returned (.tuple #[]) ∧ FilW P R w g vs 8 w' := by
  have H := Lib.hid (And.intro h (And.intro hP (And.intro k28 (And.intro hpar (And.intro hst (And.intro hr hm)))))); clear h hP k28 hpar hst hr hm
  have HK := Lib.hid (And.intro k13 (And.intro k21 (And.intro k23 (And.intro k36 (And.intro k37 (And.intro k38 (And.intro k39 k43))))))); clear k13 k21 k23 k36 k37 k38 k39 k43
  go_enter Tryd.func77, Tryd.ntmps77
  go_wp2
  go_loopw [9] (fun i wr => ∃ p : Nat, p ≤ 4 ∧ i = .int .i64 p ∧ Hid (FilW P R w g vs (2 * p) wr)) (fun i _ => 4 - (intOf i).toNat)
  case atStart => exact ⟨0, by omega, rfl, R, H.out.1, World.grownBy.refl _ _, fun _ _ => rfl, H.out.2.2.2.1⟩
  case round =>
    obtain ⟨p, hp, rfl, hR⟩ := hrel
    by_cases hlt : p < 4
    · obtain ⟨b, hb⟩ : ∃ b, b = baseI u r lv (st p) := ⟨_, rfl⟩
      obtain ⟨s, hs⟩ : ∃ s, s = st p := ⟨_, rfl⟩
      obtain ⟨s0, s1⟩ := H.out.2.2.2.2.1 p
      have bb := baseI_bd u r (by omega) hlv1 s0 s1
      rw [← hs] at hb s0 s1
      rw [← hs, ← hb] at bb
      obtain ⟨bb0, bb1⟩ := bb
      obtain ⟨wo, hwo⟩ : ∃ wo : World, wo = wr := ⟨_, rfl⟩
      subst hwo
      have c36 : wo.cell? ⟨g, 36, none⟩ = some (.int .i8 lv) := by obtain ⟨R', f, _, e, _⟩ := hR.out; exact At51.FO.cell f 36 (by omega) ((e 36 (by omega)).trans HK.out.2.2.2.1)
      have c21 : wo.cell? ⟨g, 21, none⟩ = some (.bool u) := by obtain ⟨R', f, _, e, _⟩ := hR.out; exact At51.FO.cell f 21 (by omega) ((e 21 (by omega)).trans HK.out.2.1)
      have c23 : wo.cell? ⟨g, 23, none⟩ = some (.bool r) := by obtain ⟨R', f, _, e, _⟩ := hR.out; exact At51.FO.cell f 23 (by omega) ((e 23 (by omega)).trans HK.out.2.2.1)
      have c28 : wo.cell? ⟨g, 28 + p, none⟩ = some (.int .i8 s) := by obtain ⟨R', f, _, e, _⟩ := hR.out; rw [hs]; exact At51.FO.cell f (28 + p) (by omega) ((e _ (by omega)).trans (H.out.2.2.1 p hlt))
      have HB := Lib.hid (And.intro hb hs); clear hb hs
      go_upto_if 21 with fail
      go_cut [3, 9] from 9 to 167 (fun s3 s9 wx => s3 = .int .i8 b ∧ s9 = .int .i64 p ∧ wo = wx)
      case first =>
        cases u with
        | false =>
          have e := Lib.hid (show b = lv from HB.out.1)
          go_wp2
          go_meet
          exact ⟨by rw [e.out], rfl, rfl⟩
        | true =>
          cases r with
          | false =>
            have e := Lib.hid (show b = s from HB.out.1)
            go_wp2
            go_meet
            exact ⟨by rw [e.out], rfl, rfl⟩
          | true =>
            have e := Lib.hid (show b = IntKind.i8.wrap (s + lv) from HB.out.1)
            go_wp2
            go_meet
            exact ⟨by rw [e.out], rfl, rfl⟩
      case rest =>
        obtain ⟨rfl, rfl, rfl⟩ := hcut
        clear c36 c21 c23 c28
        go_wp2
        go_loopw [41] (fun i wr => ∃ q : Nat, q ≤ 2 ∧ i = .int .i64 q ∧ Hid (FilW P R w g vs (2 * p + q) wr)) (fun i _ => 2 - (intOf i).toNat)
        case atStart => exact ⟨0, by omega, rfl, hR⟩
        case round =>
          obtain ⟨q, hq, rfl, hQ⟩ := hrel
          by_cases hq2 : q < 2
          · as_aux_lemma =>
            obtain ⟨R', f, hg, e, par⟩ := hQ.out
            obtain ⟨o, ho⟩ : ∃ o, o = 1188 + p * 8 + q * 4 := ⟨_, rfl⟩
            have ho4 : o = 1188 + 4 * (2 * p + q) := by omega
            have c3 : wr.cell? ⟨g, o + 3, none⟩ = some (.bool false) := At51.FO.cell f _ (by omega) (by rw [ho4, par.2 (2 * p + q) (by omega)]; simp)
            have z3 : wr.frozen? ⟨g, o + 3, none⟩ = false := At51.FO.free f _
            have HQ0 := Lib.hid (And.intro f (And.intro hg (And.intro e (And.intro par (And.intro ho ho4))))); clear f hg e par ho4
            go_upto_region 12 with fail
            rw [← ho]
            clear ho
            go_upto_region 13 with fail
            obtain ⟨jb, hjb⟩ : ∃ jb, jb = ((q : Int) != 0) := ⟨_, rfl⟩
            have H1 : Hid (At51.FO (At51.updR R' (o + 3) (.bool jb)) (wr.setCell ⟨g, o + 3, none⟩ (.bool jb)) g vs ∧ w.grownBy (wr.setCell ⟨g, o + 3, none⟩ (.bool jb)) (some g) ∧ (∀ i, i < 1188 → At51.updR R' (o + 3) (.bool jb) i = R i)) := Lib.hid (by
              obtain ⟨f, hg, e, par, ho, ho4⟩ := HQ0.out
              refine ⟨At51.FO.put f _ _ (by omega) (by rw [ho4, par.2 (2 * p + q) (by omega)]), grownBy.trans hg (grownBy_setCell _ _ _), updR_lo e (by omega)⟩)
            rw [hjb] at H1
            generalize World.setCell _ _ _ = w1 at H1 ⊢
            rw [← hjb] at H1
            clear c3 z3
            have HJ : Hid (jb = decide ((2 * p + q) % 2 = 1)) := Lib.hid (by
              rw [hjb]
              obtain rfl | rfl : q = 0 ∨ q = 1 := by omega
              · rw [decide_eq_false (by omega)]; rfl
              · rw [decide_eq_true (by omega)]; rfl)
            clear hjb
            obtain ⟨L0, hL0⟩ : ∃ L0, L0 = lvlI dl b r0 m0 q := ⟨_, rfl⟩
            have bl := lvlI_bd dl (r := r0) (m := m0) q bb0 bb1
            rw [← hL0] at bl
            obtain ⟨bl0, bl1⟩ := bl
            have HL0 := Lib.hid hL0; clear hL0
            have HPk : Hid (∀ k, P (2 * p + q) k = parI sh L0 k) := Lib.hid (fun k => by
              rw [H.out.2.1, HL0.out, HB.out.1, HB.out.2, show (2 * p + q) / 2 = p by omega, show (2 * p + q) % 2 = q by omega])
            have c38 : w1.cell? ⟨g, 38, none⟩ = some (.bool dl) := At51.FO.cell H1.out.1 38 (by omega) ((H1.out.2.2 38 (by omega)).trans HK.out.2.2.2.2.2.1)
            have c39 : w1.cell? ⟨g, 39, none⟩ = some (.int .i8 r0) := At51.FO.cell H1.out.1 39 (by omega) ((H1.out.2.2 39 (by omega)).trans HK.out.2.2.2.2.2.2.1)
            have c43 : w1.cell? ⟨g, 43, none⟩ = some (.int .i8 m0) := At51.FO.cell H1.out.1 43 (by omega) ((H1.out.2.2 43 (by omega)).trans HK.out.2.2.2.2.2.2.2)
            go_upto_if 61 with fail
            go_cut [6, 41] from 41 to 166 (fun s6 s41 wx => s6 = .int .i8 L0 ∧ s41 = .int .i64 q ∧ w1 = wx)
            case first =>
              cases dl with
              | false =>
                have e := Lib.hid (show L0 = b from HL0.out)
                go_wp2
                go_meet
                exact ⟨by rw [e.out], rfl, rfl⟩
              | true =>
                by_cases hq0 : q = 0
                · subst hq0
                  have e := Lib.hid (show L0 = IntKind.i8.wrap (b + r0) from HL0.out)
                  go_wp2
                  go_meet
                  exact ⟨by rw [e.out], rfl, rfl⟩
                · obtain rfl : q = 1 := by omega
                  have e := Lib.hid (show L0 = IntKind.i8.wrap (IntKind.i8.wrap (b + r0) + m0) from HL0.out)
                  go_wp2
                  go_meet
                  exact ⟨by rw [e.out], rfl, rfl⟩
            case rest =>
              obtain ⟨rfl, rfl, rfl⟩ := hcut
              clear c38 c39 c43
              by_cases hle : L0 ≤ 0
              · have hle' : decide (L0 ≤ 0) = true := decide_eq_true hle
                have co : w1.cell? ⟨g, o, none⟩ = some (.int .u8 0) := At51.FO.cell H1.out.1 o (by have := HQ0.out; omega) (by
                  obtain ⟨f, hg, e, par, ho, ho4⟩ := HQ0.out
                  unfold At51.updR
                  rw [if_neg (by omega), ho4, show 1188 + 4 * (2 * p + q) = 1188 + 4 * (2 * p + q) + 0 by omega, par.1 (2 * p + q) 0 (by omega) (by omega), if_neg (by omega)])
                have zo : w1.frozen? ⟨g, o, none⟩ = false := At51.FO.free H1.out.1 o
                have HE : Hid (FilW P R w g vs (2 * p + (q + 1)) (w1.setCell ⟨g, o, none⟩ (.int .u8 0))) := Lib.hid (by
                  obtain ⟨f, hg, e, par, ho, ho4⟩ := HQ0.out
                  have co' := At51.FO.put H1.out.1 o (.int .u8 0) (by omega) (old := .int .u8 0) (by
                    unfold At51.updR
                    rw [if_neg (by omega), ho4, show 1188 + 4 * (2 * p + q) = 1188 + 4 * (2 * p + q) + 0 by omega, par.1 (2 * p + q) 0 (by omega) (by omega), if_neg (by omega)])
                  exact ⟨_, co', grownBy.trans H1.out.2.1 (grownBy_setCell _ _ _), updR_lo H1.out.2.2 (by omega), fin1 (n := 2 * p + q) par (by omega) ho4 HJ.out (fun k => by rw [HPk.out k]; unfold parI; rw [if_pos hle])⟩)
                go_wp2
                go_roundw
                case rel => exact ⟨q + 1, by omega, by go_num, HE⟩
                case measure => simp [intOf]; omega
              · have hle' : decide (L0 ≤ 0) = false := decide_eq_false hle
                obtain ⟨L, hL⟩ : ∃ L, L = capI L0 := ⟨_, rfl⟩
                have bL := capI_bd (show 0 < L0 by omega)
                rw [← hL] at bL
                obtain ⟨bL0, bL1⟩ := bL
                have HL := Lib.hid hL; clear hL
                go_upto_if 86 with fail
                go_cut [6, 41] from 41 to 166 (fun s6 s41 wx => s6 = .int .i8 L ∧ s41 = .int .i64 q ∧ w1 = wx)
                case first =>
                  by_cases h63 : 63 < L0
                  · have e := Lib.hid (show L = 63 by rw [HL.out]; unfold capI; rw [if_pos h63])
                    go_wp2
                    go_meet
                    exact ⟨by rw [e.out], rfl, rfl⟩
                  · have h63' : decide (63 < L0) = false := decide_eq_false h63
                    have e := Lib.hid (show L = L0 by rw [HL.out]; unfold capI; rw [if_neg h63])
                    go_wp2
                    go_meet
                    exact ⟨by rw [e.out], rfl, rfl⟩
                case rest =>
                  obtain ⟨rfl, rfl, rfl⟩ := hcut
                  obtain ⟨a, ha⟩ : ∃ a, a = ilA sh L := ⟨_, rfl⟩
                  have ba := ilA_bd hs0 hs1 bL0 bL1
                  rw [← ha] at ba
                  obtain ⟨ba0, ba1⟩ := ba
                  have HAA := Lib.hid ha; clear ha
                  have c37 : w1.cell? ⟨g, 37, none⟩ = some (.int .u8 sh) := At51.FO.cell H1.out.1 37 (by omega) ((H1.out.2.2 37 (by omega)).trans HK.out.2.2.2.2.1)
                  go_upto_if 93 with fail
                  go_cut [7, 8, 41] from 41 to 166 (fun s7 s8 s41 wx => s7 = .int .i8 a ∧ s41 = .int .i64 q ∧ w1 = wx)
                  case first =>
                    by_cases h0 : 0 < sh
                    · by_cases h4 : 4 < sh
                      · by_cases hx : 9 - sh < L / 4
                        · have e := Lib.hid (show a = 9 - sh by rw [HAA.out]; unfold ilA; rw [if_pos h0, if_pos h4, if_pos hx])
                          go_wp2
                          go_meet
                          exact ⟨by rw [e.out], rfl, rfl⟩
                        · have hx' : decide (9 - sh < L / 4) = false := decide_eq_false hx
                          have e := Lib.hid (show a = L / 4 by rw [HAA.out]; unfold ilA; rw [if_pos h0, if_pos h4, if_neg hx])
                          go_wp2
                          go_meet
                          exact ⟨by rw [e.out], rfl, rfl⟩
                      · have h4' : decide (4 < sh) = false := decide_eq_false h4
                        by_cases hx : 9 - sh < L / 2
                        · have e := Lib.hid (show a = 9 - sh by rw [HAA.out]; unfold ilA; rw [if_pos h0, if_neg h4, if_pos hx])
                          go_wp2
                          go_meet
                          exact ⟨by rw [e.out], rfl, rfl⟩
                        · have hx' : decide (9 - sh < L / 2) = false := decide_eq_false hx
                          have e := Lib.hid (show a = L / 2 by rw [HAA.out]; unfold ilA; rw [if_pos h0, if_neg h4, if_neg hx])
                          go_wp2
                          go_meet
                          exact ⟨by rw [e.out], rfl, rfl⟩
                    · have h0' : decide (0 < sh) = false := decide_eq_false h0
                      have e := Lib.hid (show a = L by rw [HAA.out]; unfold ilA; rw [if_neg h0])
                      go_wp2
                      go_meet
                      exact ⟨by rw [e.out], rfl, rfl⟩
                  case rest =>
                    obtain ⟨rfl, rfl, rfl⟩ := hcut
                    clear c37
                    obtain ⟨il, hil⟩ : ∃ il, il = ilI sh L := ⟨_, rfl⟩
                    have bi := ilI_bd hs0 hs1 bL0 bL1
                    rw [← hil] at bi
                    obtain ⟨bi0, bi1⟩ := bi
                    have HIL := Lib.hid hil; clear hil
                    go_upto_if 116 with fail
                    go_cut [7, 41] from 41 to 166 (fun s7 s41 wx => s7 = .int .i8 il ∧ s41 = .int .i64 q ∧ w1 = wx)
                    case first =>
                      by_cases ha1 : a < 1
                      · have e := Lib.hid (show il = 1 by rw [HIL.out]; unfold ilI; rw [← HAA.out, if_pos ha1])
                        go_wp2
                        go_meet
                        exact ⟨by rw [e.out], rfl, rfl⟩
                      · have ha1' : decide (a < 1) = false := decide_eq_false ha1
                        have e := Lib.hid (show il = a by rw [HIL.out]; unfold ilI; rw [← HAA.out, if_neg ha1])
                        go_wp2
                        go_meet
                        exact ⟨by rw [e.out], rfl, rfl⟩
                    case rest =>
                      obtain ⟨rfl, rfl, rfl⟩ := hcut
                      have HC : Hid (∀ k, k < 3 → At51.updR R' (o + 3) (.bool jb) (o + k) = some (.int .u8 0)) := Lib.hid (fun k hk => by
                        obtain ⟨f, hg, e, par, ho, ho4⟩ := HQ0.out
                        unfold At51.updR
                        rw [if_neg (by omega), ho4, par.1 (2 * p + q) k (by omega) hk, if_neg (by omega)])
                      have HO8 : Hid (1188 ≤ o) := Lib.hid (by have := HQ0.out; omega)
                      have co0 : w1.cell? ⟨g, o, none⟩ = some (.int .u8 0) := At51.FO.cell H1.out.1 o (by have := HO8.out; omega) (HC.out 0 (by omega))
                      have co1 : w1.cell? ⟨g, o + 1, none⟩ = some (.int .u8 0) := At51.FO.cell H1.out.1 (o + 1) (by have := HO8.out; omega) (HC.out 1 (by omega))
                      have co2 : w1.cell? ⟨g, o + 2, none⟩ = some (.int .u8 0) := At51.FO.cell H1.out.1 (o + 2) (by have := HO8.out; omega) (HC.out 2 (by omega))
                      have zo0 : w1.frozen? ⟨g, o, none⟩ = false := At51.FO.free H1.out.1 o
                      have zo1 : w1.frozen? ⟨g, o + 1, none⟩ = false := At51.FO.free H1.out.1 (o + 1)
                      have zo2 : w1.frozen? ⟨g, o + 2, none⟩ = false := At51.FO.free H1.out.1 (o + 2)
                      have c13 : w1.cell? ⟨g, 13, none⟩ = some (.bool true) := At51.FO.cell H1.out.1 13 (by omega) ((H1.out.2.2 13 (by omega)).trans HK.out.1)
                      have c13b : ((w1.setCell ⟨g, o + 1, none⟩ (.int .u8 il)).setCell ⟨g, o, none⟩ (.int .u8 (2 * L + il))).cell? ⟨g, 13, none⟩ = some (.bool true) := by
                        have := HO8.out
                        rw [World.cell?_setCell_other _ _ _ _ (by intro c; injection c; omega), World.cell?_setCell_other _ _ _ _ (by intro c; injection c; omega)]
                        exact c13
                      clear c13
                      have HFin : Hid (∀ x, x = hiI L → FilW P R w g vs (2 * p + (q + 1)) (((w1.setCell ⟨g, o + 1, none⟩ (.int .u8 il)).setCell ⟨g, o, none⟩ (.int .u8 (2 * L + il))).setCell ⟨g, o + 2, none⟩ (.int .u8 x))) := Lib.hid (fun x hx => by
                        have h8 := HO8.out
                        obtain ⟨f, hg, e, par, ho, ho4⟩ := HQ0.out
                        have f1 := At51.FO.put H1.out.1 (o + 1) (.int .u8 il) (by omega) (HC.out 1 (by omega))
                        have f2 := At51.FO.put f1 o (.int .u8 (2 * L + il)) (by omega) (old := .int .u8 0) (by unfold At51.updR; rw [if_neg (by omega)]; exact HC.out 0 (by omega))
                        have f3 := At51.FO.put f2 (o + 2) (.int .u8 x) (by omega) (old := .int .u8 0) (by unfold At51.updR; rw [if_neg (by omega), if_neg (by omega)]; exact HC.out 2 (by omega))
                        have hp0 : ¬ L0 ≤ 0 := by omega
                        refine ⟨_, f3, grownBy.trans H1.out.2.1 (grownBy.trans (grownBy_setCell _ _ _) (grownBy.trans (grownBy_setCell _ _ _) (grownBy_setCell _ _ _))), updR_lo (updR_lo (updR_lo H1.out.2.2 (by omega)) (by omega)) (by omega), fin3 (n := 2 * p + q) par (by omega) ho4 HJ.out ?_ ?_ ?_⟩
                        · rw [HPk.out 0]; unfold parI; rw [if_neg hp0, if_pos rfl, ← HL.out, HIL.out]
                        · rw [HPk.out 1]; unfold parI; rw [if_neg hp0, if_neg (by omega), if_pos rfl, ← HL.out, HIL.out]
                        · rw [HPk.out 2]; unfold parI; rw [if_neg hp0, if_neg (by omega), if_neg (by omega), ← HL.out, hx])
                      have hu8 := u8i8 (x := 2 * L + il) (by omega) (by omega)
                      by_cases h15 : L < 15
                      · have e := Lib.hid (HFin.out 0 (by unfold hiI; rw [if_pos h15]))
                        go_wp2
                        go_roundw
                        case rel => exact ⟨q + 1, by omega, by go_num, e⟩
                        case measure => simp [intOf]; omega
                      · have h15' : decide (L < 15) = false := decide_eq_false h15
                        by_cases h40 : L < 40
                        · have e := Lib.hid (HFin.out 1 (by unfold hiI; rw [if_neg h15, if_pos h40]))
                          go_wp2
                          go_roundw
                          case rel => exact ⟨q + 1, by omega, by go_num, e⟩
                          case measure => simp [intOf]; omega
                        · have h40' : decide (L < 40) = false := decide_eq_false h40
                          have e := Lib.hid (HFin.out 2 (by unfold hiI; rw [if_neg h15, if_neg h40]))
                          go_wp2
                          go_roundw
                          case rel => exact ⟨q + 1, by omega, by go_num, e⟩
                          case measure => simp [intOf]; omega
          · obtain rfl : q = 2 := by omega
            go_wp2
            go_roundw
            case rel => exact ⟨p + 1, by omega, by go_num, hQ⟩
            case measure => simp [intOf]; omega
    · obtain rfl : p = 4 := by omega
      go_wp2
      go_end0
      exact ⟨rfl, hR.out⟩
end Go.Proofs.YthmkmemocjnleaaDoor
