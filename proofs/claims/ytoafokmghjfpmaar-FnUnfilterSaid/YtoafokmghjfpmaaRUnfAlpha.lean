/- The contract of unfilterAlpha: in place, for every plane of whole rows and every kind. -/
import Derived.Test.YtoafokmghjfpmaaRUnfPlain
import Derived.RegionTactic
import Derived.BigRegion
import Derived.BigQuiet
import Derived.Deep.QuietTactic
import Derived.Outline
namespace Go.Proofs.YtoafokmghjfpmaaR
open Go.RowKit
set_option linter.unusedVariables false

def St (w wr : World) (g n : Nat) (U f : Nat → Int) (p : Nat) : Prop := w.grownBy wr (some g) ∧ Row .u8 wr g 0 n (mix U f p) ∧ Wr wr g 0 n
theorem St.done {w wr : World} {g n p : Nat} {U f : Nat → Int} (h : St w wr g n U f p) (i : Nat) (hi : i < p) (hn : i < n) : wr.cell? ⟨g, i, none⟩ = some (.int .u8 (U i)) := by
  have := h.2.1 i hn; rwa [Nat.zero_add, mix_lt _ _ _ _ hi] at this
theorem St.todo {w wr : World} {g n p : Nat} {U f : Nat → Int} (h : St w wr g n U f p) (i : Nat) (hi : p ≤ i) (hn : i < n) : wr.cell? ⟨g, i, none⟩ = some (.int .u8 (f i)) := by
  have := h.2.1 i hn; rwa [Nat.zero_add, mix_ge _ _ _ _ hi] at this
theorem St.free {w wr : World} {g n p : Nat} {U f : Nat → Int} (h : St w wr g n U f p) (i : Nat) (hn : i < n) : wr.frozen? ⟨g, i, none⟩ = false := by
  have := h.2.2 i hn; rwa [Nat.zero_add] at this
theorem St.drewN {w wr : World} {g n p : Nat} {U f : Nat → Int} (h : St w wr g n U f p) (d : Nat) : St w (wr.drewN d) g n U f p := ⟨grownBy.trans h.1 (grownBy_drewN _ _ _), h.2.1, h.2.2⟩
theorem St.drew {w wr : World} {g n p : Nat} {U f : Nat → Int} (h : St w wr g n U f p) : St w wr.drew g n U f p := h.drewN 1
theorem St.next {w wr : World} {g n p : Nat} {U f : Nat → Int} {v : Int} (h : St w wr g n U f p) (hn : p < n) (hv : v = U p) : St w (wr.setCell ⟨g, p, none⟩ (.int .u8 v)) g n U f (p + 1) :=
  mix_round hv hn h.1 h.2.1 h.2.2

theorem rows_step {p n s : Nat} (hp : p % s = 0) (hn : n % s = 0) (h : p < n) : p + s ≤ n := by
  obtain ⟨a, rfl⟩ := Nat.dvd_of_mod_eq_zero hp
  obtain ⟨b, rfl⟩ := Nat.dvd_of_mod_eq_zero hn
  have hab : a < b := Nat.lt_of_mul_lt_mul_left h
  calc s * a + s = s * (a + 1) := by rw [Nat.mul_add, Nat.mul_one]
    _ ≤ s * b := Nat.mul_le_mul_left _ hab

theorem guess_row {kind s i : Nat} {U : Nat → Int} (hk : kind ≠ 0) (h0 : 0 < i) (hi : i < s) : guess kind s U i = U (i - 1) := by
  unfold guess
  rw [if_neg (by omega), if_neg (by rw [Nat.mod_eq_of_lt hi]; omega), if_pos (.inl hi)]
theorem guess_col {kind s i : Nat} {U : Nat → Int} (hk : kind ≠ 0) (h0 : 0 < i) (hi : i % s = 0) : guess kind s U i = U (i - s) := by
  unfold guess
  rw [if_neg (by omega), if_pos hi]
theorem guess_in1 {s p j : Nat} {U : Nat → Int} (hp : p % s = 0) (h0 : 0 < j) (hj : j < s) : guess 1 s U (p + j) = U (p + j - 1) := by
  unfold guess
  rw [if_neg (by omega), if_neg (by rw [Nat.add_mod, hp, Nat.zero_add, Nat.mod_mod, Nat.mod_eq_of_lt hj]; omega), if_pos (.inr rfl)]
theorem guess_in2 {s i : Nat} {U : Nat → Int} (hi : s ≤ i) (h0 : 0 < i) : guess 2 s U i = U (i - s) := by
  unfold guess
  rw [if_neg (by omega)]
  split
  · rfl
  · rw [if_neg (by omega), if_pos rfl]
theorem guess_in3 {s p j : Nat} {U : Nat → Int} (hp : p % s = 0) (h0 : 0 < j) (hj : j < s) (hs : s ≤ p) : guess 3 s U (p + j) = held255 (U (p + j - 1) + U (p + j - s) - U (p + j - s - 1)) := by
  unfold guess
  rw [if_neg (by omega), if_neg (by rw [Nat.add_mod, hp, Nat.zero_add, Nat.mod_mod, Nat.mod_eq_of_lt hj]; omega), if_neg (by omega), if_neg (by omega)]

set_option maxRecDepth 100000 in
set_option maxHeartbeats 1600000 in
theorem unf1 (g n c s : Nat) (U f : Nat → Int) (w : World) (hs : 1 ≤ s) (hn : n ≤ 65536) (hsn : s ≤ n) (hm : n % s = 0) (hU : ∀ i, U i = IntKind.u8.wrap (f i + guess 1 s U i)) (h0 : St w w g n U f 1) :
    Calls Try.prog 42 #[.slice (some ⟨g, 0, none⟩) n c, .int .i64 s, .int .u8 1] w fun e w' => e = .returned (.tuple #[]) ∧ St w w' g n U f n := by
  have HM := Lib.hid hm; clear hm
  have HU := Lib.hid hU; clear hU
  have H0 := Lib.hid h0; clear h0
  have tn : ((n : Int) == 0) = false := by simp; omega
  have ts : ((s : Int) == 0) = false := by simp; omega
  go_enter Try.func42, Try.ntmps42
  go_wp2
  go_loopw [6] (fun i wr => ∃ p : Nat, 1 ≤ p ∧ p ≤ s ∧ i = .int .i64 p ∧ Hid (St w wr g n U f p)) (fun i _ => s - (intOf i).toNat)
  case atStart => exact ⟨1, by omega, by omega, rfl, H0.out⟩
  case round =>
    obtain ⟨p, hp1, hp, rfl, hR⟩ := hrel
    by_cases hlt : p < s
    · have c0 := hR.out.todo p (Nat.le_refl _) (by omega)
      have c1 := hR.out.done (p - 1) (by omega) (by omega)
      have z0 := hR.out.free p (by omega)
      have i1 : (0 : Int) ≤ (p : Int) - 1 := by omega
      go_wp2
      go_region
      go_wp2
      go_roundw
      case rel => exact ⟨p + 1, by omega, by omega, by go_num, by
        have e := HU.out p
        rw [guess_row (by decide) (by omega) hlt] at e
        exact (hR.out.next (by omega) e.symm).drew⟩
      case measure => simp [intOf]; omega
    · obtain rfl : p = s := by omega
      go_wp2
      go_loopw [7] (fun i wr => ∃ q : Nat, p ≤ q ∧ q ≤ n ∧ i = .int .i64 q ∧ Hid (q % p = 0 ∧ St w wr g n U f q)) (fun i _ => n - (intOf i).toNat)
      case atStart => exact ⟨p, by omega, by omega, rfl, ⟨Nat.mod_self p, hR.out⟩⟩
      case round =>
        obtain ⟨q, hq1, hq, rfl, hQ⟩ := hrel
        by_cases hlt : q < n
        · have hqs := rows_step hQ.out.1 HM.out hlt
          have c0 := hQ.out.2.todo q (Nat.le_refl _) (by omega)
          have c1 := hQ.out.2.done (q - p) (by omega) (by omega)
          have z0 := hQ.out.2.free q (by omega)
          have i1 : (0 : Int) ≤ (q : Int) - (p : Int) := by omega
          go_wp2
          go_region
          go_wp2
          obtain ⟨wo, hwo⟩ : ∃ wo : World, wo = wr := ⟨_, rfl⟩
          go_loopw [8] (fun j wr => ∃ k : Nat, 1 ≤ k ∧ k ≤ p ∧ j = .int .i64 k ∧ Hid (St w wr g n U f (q + k))) (fun j _ => p - (intOf j).toNat)
          case atStart => exact ⟨1, by omega, by omega, rfl, by
            have e := HU.out q
            rw [guess_col (by decide) (by omega) hQ.out.1] at e
            exact (hQ.out.2.next (by omega) e.symm).drew⟩
          case round =>
            obtain ⟨k, hk1, hk, rfl, hK⟩ := hrel
            by_cases hlt2 : k < p
            · have d0 := hK.out.todo (q + k) (Nat.le_refl _) (by omega)
              have d1 := hK.out.done (q + k - 1) (by omega) (by omega)
              have y0 := hK.out.free (q + k) (by omega)
              have j1 : (0 : Int) ≤ (q : Int) + (k : Int) - 1 := by omega
              go_wp2
              go_region
              go_wp2
              go_roundw
              case rel => exact ⟨k + 1, by omega, by omega, by go_num, by
                have e := HU.out (q + k)
                rw [guess_in1 hQ.out.1 (by omega) hlt2] at e
                exact (hK.out.next (by omega) e.symm).drew⟩
              case measure => simp [intOf]; omega
            · obtain rfl : k = p := by omega
              go_wp2
              go_roundw
              case rel => exact ⟨q + k, by omega, by omega, by go_num, ⟨by rw [Nat.add_mod_right]; exact hQ.out.1, hK.out⟩⟩
              case measure => simp [intOf]; omega
        · obtain rfl : q = n := by omega
          go_wp2
          go_end0
          exact ⟨rfl, hQ.out.2⟩
set_option maxRecDepth 100000 in
set_option maxHeartbeats 1600000 in
theorem unf2 (g n c s : Nat) (U f : Nat → Int) (w : World) (hs : 1 ≤ s) (hn : n ≤ 65536) (hsn : s ≤ n) (hm : n % s = 0) (hU : ∀ i, U i = IntKind.u8.wrap (f i + guess 2 s U i)) (h0 : St w w g n U f 1) :
    Calls Try.prog 42 #[.slice (some ⟨g, 0, none⟩) n c, .int .i64 s, .int .u8 2] w fun e w' => e = .returned (.tuple #[]) ∧ St w w' g n U f n := by
  have HM := Lib.hid hm; clear hm
  have HU := Lib.hid hU; clear hU
  have H0 := Lib.hid h0; clear h0
  have tn : ((n : Int) == 0) = false := by simp; omega
  have ts : ((s : Int) == 0) = false := by simp; omega
  go_enter Try.func42, Try.ntmps42
  go_wp2
  go_loopw [9] (fun i wr => ∃ p : Nat, 1 ≤ p ∧ p ≤ s ∧ i = .int .i64 p ∧ Hid (St w wr g n U f p)) (fun i _ => s - (intOf i).toNat)
  case atStart => exact ⟨1, by omega, by omega, rfl, H0.out⟩
  case round =>
    obtain ⟨p, hp1, hp, rfl, hR⟩ := hrel
    by_cases hlt : p < s
    · have c0 := hR.out.todo p (Nat.le_refl _) (by omega)
      have c1 := hR.out.done (p - 1) (by omega) (by omega)
      have z0 := hR.out.free p (by omega)
      have i1 : (0 : Int) ≤ (p : Int) - 1 := by omega
      go_wp2
      go_region
      go_wp2
      go_roundw
      case rel => exact ⟨p + 1, by omega, by omega, by go_num, by
        have e := HU.out p
        rw [guess_row (by decide) (by omega) hlt] at e
        exact (hR.out.next (by omega) e.symm).drew⟩
      case measure => simp [intOf]; omega
    · obtain rfl : p = s := by omega
      go_wp2
      go_loopw [10] (fun i wr => ∃ q : Nat, p ≤ q ∧ q ≤ n ∧ i = .int .i64 q ∧ Hid (St w wr g n U f q)) (fun i _ => n - (intOf i).toNat)
      case atStart => exact ⟨p, by omega, by omega, rfl, hR.out⟩
      case round =>
        obtain ⟨q, hq1, hq, rfl, hQ⟩ := hrel
        by_cases hlt : q < n
        · have c0 := hQ.out.todo q (Nat.le_refl _) (by omega)
          have c1 := hQ.out.done (q - p) (by omega) (by omega)
          have z0 := hQ.out.free q (by omega)
          have i1 : (0 : Int) ≤ (q : Int) - (p : Int) := by omega
          go_wp2
          go_region
          go_wp2
          go_roundw
          case rel => exact ⟨q + 1, by omega, by omega, by go_num, by
            have e := HU.out q
            rw [guess_in2 (by omega) (by omega)] at e
            exact (hQ.out.next (by omega) e.symm).drew⟩
          case measure => simp [intOf]; omega
        · obtain rfl : q = n := by omega
          go_wp2
          go_end0
          exact ⟨rfl, hQ.out⟩

set_option maxRecDepth 100000 in
set_option maxHeartbeats 1600000 in
theorem unf3 (g n c s : Nat) (U f : Nat → Int) (w : World) (hs : 1 ≤ s) (hn : n ≤ 65536) (hsn : s ≤ n) (hm : n % s = 0) (hU : ∀ i, U i = IntKind.u8.wrap (f i + guess 3 s U i)) (h0 : St w w g n U f 1) :
    Calls Try.prog 42 #[.slice (some ⟨g, 0, none⟩) n c, .int .i64 s, .int .u8 3] w fun e w' => e = .returned (.tuple #[]) ∧ St w w' g n U f n := by
  have HM := Lib.hid hm; clear hm
  have HU := Lib.hid hU; clear hU
  have H0 := Lib.hid h0; clear h0
  have hB : Hid (∀ i, 0 ≤ U i ∧ U i ≤ 255) := Lib.hid (fun i => by rw [HU.out i]; exact wrap_u8 _)
  have tn : ((n : Int) == 0) = false := by simp; omega
  have ts : ((s : Int) == 0) = false := by simp; omega
  go_enter Try.func42, Try.ntmps42
  go_wp2
  go_loopw [11] (fun i wr => ∃ p : Nat, 1 ≤ p ∧ p ≤ s ∧ i = .int .i64 p ∧ Hid (St w wr g n U f p)) (fun i _ => s - (intOf i).toNat)
  case atStart => exact ⟨1, by omega, by omega, rfl, H0.out⟩
  case round =>
    obtain ⟨p, hp1, hp, rfl, hR⟩ := hrel
    by_cases hlt : p < s
    · have c0 := hR.out.todo p (Nat.le_refl _) (by omega)
      have c1 := hR.out.done (p - 1) (by omega) (by omega)
      have z0 := hR.out.free p (by omega)
      have i1 : (0 : Int) ≤ (p : Int) - 1 := by omega
      go_wp2
      go_region
      go_wp2
      go_roundw
      case rel => exact ⟨p + 1, by omega, by omega, by go_num, by
        have e := HU.out p
        rw [guess_row (by decide) (by omega) hlt] at e
        exact (hR.out.next (by omega) e.symm).drew⟩
      case measure => simp [intOf]; omega
    · obtain rfl : p = s := by omega
      go_wp2
      go_loopw [12] (fun i wr => ∃ q : Nat, p ≤ q ∧ q ≤ n ∧ i = .int .i64 q ∧ Hid (q % p = 0 ∧ St w wr g n U f q)) (fun i _ => n - (intOf i).toNat)
      case atStart => exact ⟨p, by omega, by omega, rfl, ⟨Nat.mod_self p, hR.out⟩⟩
      case round =>
        obtain ⟨q, hq1, hq, rfl, hQ⟩ := hrel
        by_cases hlt : q < n
        · have hqs := rows_step hQ.out.1 HM.out hlt
          have c0 := hQ.out.2.todo q (Nat.le_refl _) (by omega)
          have c1 := hQ.out.2.done (q - p) (by omega) (by omega)
          have z0 := hQ.out.2.free q (by omega)
          have i1 : (0 : Int) ≤ (q : Int) - (p : Int) := by omega
          go_wp2
          go_region
          go_wp2
          obtain ⟨wo, hwo⟩ : ∃ wo : World, wo = wr := ⟨_, rfl⟩
          go_loopw [13] (fun j wr => ∃ k : Nat, 1 ≤ k ∧ k ≤ p ∧ j = .int .i64 k ∧ Hid (St w wr g n U f (q + k))) (fun j _ => p - (intOf j).toNat)
          case atStart => exact ⟨1, by omega, by omega, rfl, by
            have e := HU.out q
            rw [guess_col (by decide) (by omega) hQ.out.1] at e
            exact (hQ.out.2.next (by omega) e.symm).drew⟩
          case round =>
            obtain ⟨k, hk1, hk, rfl, hK⟩ := hrel
            by_cases hlt2 : k < p
            · have d0 := hK.out.todo (q + k) (Nat.le_refl _) (by omega)
              have d1 := hK.out.done (q + k - 1) (by omega) (by omega)
              have d2 := hK.out.done (q + k - p) (by omega) (by omega)
              have d3 := hK.out.done (q + k - p - 1) (by omega) (by omega)
              have y0 := hK.out.free (q + k) (by omega)
              have j1 : (0 : Int) ≤ (q : Int) + (k : Int) - 1 := by omega
              have j2 : (0 : Int) ≤ (q : Int) + (k : Int) - (p : Int) := by omega
              have j3 : (0 : Int) ≤ (q : Int) + (k : Int) - (p : Int) - 1 := by omega
              have b1 := hB.out (q + k - 1)
              have b2 := hB.out (q + k - p)
              have b3 := hB.out (q + k - p - 1)
              have e := HU.out (q + k)
              rw [guess_in3 hQ.out.1 (by omega) hlt2 (by omega)] at e
              have HE := Lib.hid e; clear e
              obtain ⟨x1, hx1⟩ : ∃ x, x = U (q + k - 1) := ⟨_, rfl⟩
              obtain ⟨x2, hx2⟩ : ∃ x, x = U (q + k - p) := ⟨_, rfl⟩
              obtain ⟨x3, hx3⟩ : ∃ x, x = U (q + k - p - 1) := ⟨_, rfl⟩
              rw [← hx1] at b1 d1
              rw [← hx2] at b2 d2
              rw [← hx3] at b3 d3
              have HX := Lib.hid (And.intro hx1 (And.intro hx2 hx3)); clear hx1 hx2 hx3
              by_cases lo : x1 + x2 - x3 < 0
              · go_wp2
                go_roundw
                case rel => exact ⟨k + 1, by omega, by omega, by go_num, hK.out.next (by omega) (by
                  rw [HE.out, ← HX.out.1, ← HX.out.2.1, ← HX.out.2.2, ← held_lo lo]; rw [wrap_u8_mod]; congr 1; omega)⟩
                case measure => simp [intOf]; omega
              · by_cases hi : 255 < x1 + x2 - x3
                · go_wp2
                  go_roundw
                  case rel => exact ⟨k + 1, by omega, by omega, by go_num, hK.out.next (by omega) (by
                    rw [HE.out, ← HX.out.1, ← HX.out.2.1, ← HX.out.2.2, ← held_hi hi]; rw [wrap_u8_mod])⟩
                  case measure => simp [intOf]; omega
                · go_wp2
                  go_roundw
                  case rel => exact ⟨k + 1, by omega, by omega, by go_num, hK.out.next (by omega) (by
                    rw [HE.out, ← HX.out.1, ← HX.out.2.1, ← HX.out.2.2, ← held_mid (by omega) (by omega)]; rw [wrap_u8_mod])⟩
                  case measure => simp [intOf]; omega
            · obtain rfl : k = p := by omega
              go_wp2
              go_roundw
              case rel => exact ⟨q + k, by omega, by omega, by go_num, ⟨by rw [Nat.add_mod_right]; exact hQ.out.1, hK.out⟩⟩
              case measure => simp [intOf]; omega
        · obtain rfl : q = n := by omega
          go_wp2
          go_end0
          exact ⟨rfl, hQ.out.2⟩
set_option maxRecDepth 100000 in
theorem unf0 (a : Option Addr) (n c : Nat) (s k : Int) (w : World) (hk : k = 0) :
    Calls Try.prog 42 #[.slice a n c, .int .i64 s, .int .u8 0] w fun e w' => e = .returned (.tuple #[]) ∧ w = w' := by
  go_enter Try.func42, Try.ntmps42
  go_wp2
  all_goals (first | go_end0 | refine bodyPost_ret (results_none rfl _ _ _) rfl ?_)
  all_goals exact ⟨rfl, rfl⟩

/-- Every kind, on a plane of the call's own. -/
theorem unf_any (kind g n c s : Nat) (U f : Nat → Int) (w : World) (hk : kind ≤ 3) (hs : 1 ≤ s) (hn : n ≤ 65536) (hsn : s ≤ n) (hm : n % s = 0)
    (hf : ∀ i, 0 ≤ f i ∧ f i ≤ 255) (hU : ∀ i, U i = IntKind.u8.wrap (f i + guess kind s U i)) (hr : Row .u8 w g 0 n f) (hw : Wr w g 0 n) :
    Calls Try.prog 42 #[.slice (some ⟨g, 0, none⟩) n c, .int .i64 s, .int .u8 kind] w fun e w' => e = .returned (.tuple #[]) ∧ St w w' g n U f n := by
  have u0 : U 0 = f 0 := by
    rw [hU 0, show guess kind s U 0 = 0 by unfold guess; rw [if_pos (.inr rfl)], Int.add_zero, wrap_u8_id (hf 0).1 (hf 0).2]
  have h0 : St w w g n U f 1 := ⟨World.grownBy.refl _ _, hr.congr (fun i _ => by
    unfold mix; split
    · obtain rfl : i = 0 := by omega
      exact u0.symm
    · rfl), hw⟩
  obtain rfl | rfl | rfl | rfl : kind = 0 ∨ kind = 1 ∨ kind = 2 ∨ kind = 3 := by omega
  · refine (unf0 _ n c s 0 w rfl).mono ?_
    rintro e w' ⟨rfl, rfl⟩
    refine ⟨rfl, World.grownBy.refl _ _, hr.congr (fun i hi => ?_), hw⟩
    rw [mix_lt _ _ _ _ hi, hU i, show guess 0 s U i = 0 by unfold guess; rw [if_pos (.inl rfl)], Int.add_zero, wrap_u8_id (hf i).1 (hf i).2]
  · exact unf1 g n c s U f w hs hn hsn hm hU h0
  · exact unf2 g n c s U f w hs hn hsn hm hU h0
  · exact unf3 g n c s U f w hs hn hsn hm hU h0
end Go.Proofs.YtoafokmghjfpmaaR
