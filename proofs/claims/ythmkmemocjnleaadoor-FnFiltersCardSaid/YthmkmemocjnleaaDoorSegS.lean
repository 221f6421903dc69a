/- The reference's numbers: Flag, Number, Signed, Optional. -/
import Derived.Test.YthmkmemocjnleaaDoorSegG
namespace Go.Proofs.YthmkmemocjnleaaDoor
open Go.RowKit
set_option linter.unusedVariables false

/-- The reference's decoder in a state. -/
def SdX (w : World) (g : Nat) (ao : Option Addr) (n c : Nat) (zs : List Int) (s : SS) : Prop := ∃ over, Sd w g ao n c zs s.pos s.v s.z over

theorem flag_any (g : Nat) (ao : Option Addr) (n c : Nat) (zs : List Int) (s : SS) (w : World) (h : SdX w g ao n c zs s) (hok : OKS zs s) (hpos : s.pos ≤ 1000000) :
    Calls Tryd.prog 64 #[.pointer (some ⟨g, 0, none⟩)] w fun e w' => e = .returned (.bool (stepS zs s 128).1) ∧ SdX w' g ao n c zs (stepS zs s 128).2 ∧ w.grownBy w' (some g) := by
  obtain ⟨over, h⟩ := h
  have H := Lib.hid (boolS_any g ao n c zs s over 128 w h hok (by decide) (by decide) (by omega)); clear h hok
  go_enter Tryd.func64, Tryd.ntmps64
  go_wp2_with fail
  refine H.out.mono ?_
  rintro _ w1 ⟨rfl, h1, g1⟩
  have H1 := Lib.hid (And.intro h1 g1); clear h1 g1
  go_wp2
  go_ret
  exact ⟨rfl, H1.out⟩

set_option maxRecDepth 100000 in
set_option maxHeartbeats 800000 in
theorem number_any (g : Nat) (ao : Option Addr) (n c : Nat) (zs : List Int) (s : SS) (k : Nat) (w : World) (h : SdX w g ao n c zs s) (hok : OKS zs s) (hpos : s.pos ≤ 100000) (hk : k ≤ 24) :
    Calls Tryd.prog 66 #[.pointer (some ⟨g, 0, none⟩), .int .i64 k] w fun e w' => e = .returned (.int .i64 (bitsG (stepS zs) 128 k 0 s).1) ∧ SdX w' g ao n c zs (bitsG (stepS zs) 128 k 0 s).2 ∧ w.grownBy w' (some g) := by
  obtain ⟨R, hR⟩ : ∃ R, R = bitsG (stepS zs) 128 k 0 s := ⟨_, rfl⟩
  rw [← hR]
  have H := Lib.hid (And.intro h (And.intro hok hR)); clear h hok hR
  go_enter Tryd.func66, Tryd.ntmps66
  go_wp2
  go_loopw [5, 6] (fun u i wr => ∃ (j : Nat) (acc : Int), j ≤ k ∧ i = .int .i64 j ∧ u = .int .i64 acc ∧ Hid (0 ≤ acc ∧ (acc + 1) ≤ 2 ^ j ∧ ∃ s', R = bitsG (stepS zs) 128 (k - j) acc s' ∧ SdX wr g ao n c zs s' ∧ OKS zs s' ∧ s'.pos ≤ s.pos + 7 * j ∧ w.grownBy wr (some g))) (fun _ i _ => k - (intOf i).toNat)
  case atStart => exact ⟨0, 0, by omega, rfl, rfl, by decide, by decide, s, H.out.2.2, H.out.1, H.out.2.1, by omega, World.grownBy.refl _ _⟩
  case round =>
    obtain ⟨j, acc, hj, rfl, rfl, hR⟩ := hrel
    obtain ⟨hacc, hle, s', hr, hs, ho, hp, hg⟩ := hR.out
    clear hR
    have HE := Lib.hid (And.intro hr (And.intro hs (And.intro ho hg))); clear hr hs ho hg
    have hpw : (2 : Int) ^ j ≤ 16777216 := by
      have := Int.ofNat_le.2 (Nat.pow_le_pow_right (n := 2) (by omega) (show j ≤ 24 by omega))
      simpa using this
    have hpj : Hid ((2 : Int) ^ (j + 1) = 2 * 2 ^ j) := Lib.hid (by rw [Int.pow_succ, Int.mul_comm])
    generalize (2 : Int) ^ j = P at *
    by_cases hlt : j < k
    · go_wp2_with fail
      refine (flag_any g ao n c zs s' wr HE.out.2.1 HE.out.2.2.1 (by omega)).mono ?_
      rintro _ w2 ⟨rfl, h1, g1⟩
      obtain ⟨b, s2, hS⟩ : ∃ b s2, stepS zs s' 128 = (b, s2) := ⟨_, _, rfl⟩
      have HN : Hid (SdX w2 g ao n c zs s2 ∧ OKS zs s2 ∧ s2.pos ≤ s.pos + 7 * (j + 1) ∧ w.grownBy w2 (some g)) := by
        have h2 := stepS_ok' zs s' HE.out.2.2.1 128 (by decide) (by decide)
        have h3 := stepS_pos zs s' HE.out.2.2.1 128 (by decide) (by decide)
        rw [hS] at h1 h2 h3
        exact Lib.hid ⟨h1, h2, by simp only at h3; omega, grownBy.trans HE.out.2.2.2 g1⟩
      clear h1 g1
      have HB : Hid (R = bitsG (stepS zs) 128 (k - (j + 1)) (2 * acc + (if b then 1 else 0)) s2) := Lib.hid (by
        rw [HE.out.1, show k - j = (k - (j + 1)) + 1 by omega, bitsG, hS])
      rw [hS]
      simp only
      clear HE hS
      cases b with
      | false =>
        go_wp2
        go_roundw
        case rel => exact ⟨j + 1, 2 * acc, by omega, by go_num, by first | rfl | (congr 1; omega), Lib.hid ⟨by omega, by rw [hpj.out]; omega, s2, by simpa using HB.out, HN.out⟩⟩
        case measure => simp [intOf]; omega
      | true =>
        go_wp2
        go_roundw
        case rel => exact ⟨j + 1, 2 * acc + 1, by omega, by go_num, by first | rfl | (congr 1; omega), Lib.hid ⟨by omega, by rw [hpj.out]; omega, s2, by simpa using HB.out, HN.out⟩⟩
        case measure => simp [intOf]; omega
    · obtain rfl : j = k := by omega
      go_wp2
      go_ret
      have e := HE.out.1
      rw [Nat.sub_self, bitsG] at e
      rw [e]
      exact ⟨rfl, HE.out.2.1, HE.out.2.2.2⟩

set_option maxRecDepth 100000 in
theorem signed_any (g : Nat) (ao : Option Addr) (n c : Nat) (zs : List Int) (s : SS) (k : Nat) (w : World) (h : SdX w g ao n c zs s) (hok : OKS zs s) (hpos : s.pos ≤ 100000) (hk : k ≤ 24) :
    Calls Tryd.prog 72 #[.pointer (some ⟨g, 0, none⟩), .int .i64 k] w fun e w' => e = .returned (.int .i64 (signG (stepS zs) 128 k s).1) ∧ SdX w' g ao n c zs (signG (stepS zs) 128 k s).2 ∧ w.grownBy w' (some g) := by
  obtain ⟨v, s1, hR⟩ : ∃ v s1, bitsG (stepS zs) 128 k 0 s = (v, s1) := ⟨_, _, rfl⟩
  obtain ⟨b, s2, hS⟩ : ∃ b s2, stepS zs s1 128 = (b, s2) := ⟨_, _, rfl⟩
  have hv := bitsG24 (stepS zs) 128 k s hk
  have hb := bitsS_ok zs 128 (by decide) (by decide) k 0 s hok
  unfold signG
  rw [hR] at hv hb ⊢
  simp only at hv hb ⊢
  rw [hS]
  simp only
  obtain ⟨v0, v1⟩ := hv
  obtain ⟨ho1, hp1⟩ := hb
  have H := Lib.hid (And.intro h (And.intro hok (And.intro hR (And.intro hS ho1)))); clear h hok hR hS ho1
  go_enter Tryd.func72, Tryd.ntmps72
  go_wp2_with fail
  refine (number_any g ao n c zs s k w H.out.1 H.out.2.1 hpos hk).mono ?_
  rintro _ w1 ⟨rfl, h1, g1⟩
  have H1 := Lib.hid (And.intro h1 g1); clear h1 g1
  rw [H.out.2.2.1] at H1 ⊢
  simp only at H1 ⊢
  go_wp2_with fail
  refine (flag_any g ao n c zs s1 w1 H1.out.1 H.out.2.2.2.2 (by omega)).mono ?_
  rintro _ w2 ⟨rfl, h1, g1⟩
  have H2 := Lib.hid (And.intro h1 (grownBy.trans H1.out.2 g1)); clear h1 g1
  rw [H.out.2.2.2.1] at H2 ⊢
  simp only at H2 ⊢
  cases b with
  | true =>
    go_wp2
    go_ret
    exact ⟨by simp, H2.out⟩
  | false =>
    go_wp2
    go_ret
    exact ⟨by simp, H2.out⟩

set_option maxRecDepth 100000 in
theorem optional_any (g : Nat) (ao : Option Addr) (n c : Nat) (zs : List Int) (s : SS) (k : Nat) (w : World) (h : SdX w g ao n c zs s) (hok : OKS zs s) (hpos : s.pos ≤ 10000) (hk : k ≤ 24) :
    Calls Tryd.prog 65 #[.pointer (some ⟨g, 0, none⟩), .int .i64 k] w fun e w' => e = .returned (.int .i64 (optG (stepS zs) 128 k s).1) ∧ SdX w' g ao n c zs (optG (stepS zs) 128 k s).2 ∧ w.grownBy w' (some g) := by
  obtain ⟨b, s1, hS⟩ : ∃ b s1, stepS zs s 128 = (b, s1) := ⟨_, _, rfl⟩
  have ho1 := stepS_ok' zs s hok 128 (by decide) (by decide)
  have hp1 := stepS_pos zs s hok 128 (by decide) (by decide)
  unfold optG
  rw [hS] at ho1 hp1 ⊢
  simp only at ho1 hp1 ⊢
  have H := Lib.hid (And.intro h (And.intro hok (And.intro hS ho1))); clear h hok hS ho1
  go_enter Tryd.func65, Tryd.ntmps65
  go_wp2_with fail
  refine (flag_any g ao n c zs s w H.out.1 H.out.2.1 (by omega)).mono ?_
  rintro _ w1 ⟨rfl, h1, g1⟩
  have H1 := Lib.hid (And.intro h1 g1); clear h1 g1
  rw [H.out.2.2.1] at H1 ⊢
  simp only at H1 ⊢
  cases b with
  | false =>
    go_wp2
    go_ret
    exact ⟨rfl, H1.out⟩
  | true =>
    go_wp2_with fail
    refine (signed_any g ao n c zs s1 k w1 H1.out.1 H.out.2.2.2 (by omega) hk).mono ?_
    rintro _ w2 ⟨rfl, h1, g1⟩
    have H2 := Lib.hid (And.intro h1 (grownBy.trans H1.out.2 g1)); clear h1 g1
    go_wp2
    go_ret
    exact ⟨rfl, H2.out⟩

end Go.Proofs.YthmkmemocjnleaaDoor
