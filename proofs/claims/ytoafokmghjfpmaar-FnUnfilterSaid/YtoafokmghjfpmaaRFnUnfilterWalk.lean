/- The walk of FnUnfilter, and the contracts of impl.Unfilter, isPlane and readPlane. -/
import Derived.Test.YtoafokmghjfpmaaRUnfAlpha
import Derived.Test.YtoafokmghjfpmaaRUnfSpec
import Derived.Test.YtoafokmghjfpmaaRBytesEq
namespace Go.Proofs.YtoafokmghjfpmaaR
open Go.RowKit
set_option linter.unusedVariables false

def PlaneGood (n : Nat) (s : Int) : Prop := 1 ≤ s ∧ s ≤ n ∧ n ≤ 65536 ∧ (n : Int) % s = 0

/-- impl.Unfilter: the plane U in new memory. -/
theorem implUnf_any (kind n c s : Nat) (a : Option Addr) (U f : Nat → Int) (w : World) (hk : kind ≤ 3) (hs : 1 ≤ s) (hn : n ≤ 65536) (hsn : s ≤ n) (hm : n % s = 0)
    (ha : Arg .u8 w a n f) (hnil : a = none → n = 0) (hf : ∀ i, 0 ≤ f i ∧ f i ≤ 255) (hU : ∀ i, U i = IntKind.u8.wrap (f i + guess kind s U i)) :
    Calls Try.prog 20 #[.int .i64 kind, .slice a n c, .int .i64 s] w fun e w' => (∃ a' c', e = .returned (.slice a' n c') ∧ Own .u8 w.heap.size w' a' n U) ∧ Below w.heap.size w w' := by
  have HA := Lib.hid (And.intro ha hnil); clear ha hnil
  have HM := Lib.hid (And.intro hm (And.intro hf hU)); clear hm hf hU
  go_enter Try.func20, Try.ntmps20
  go_wp2_with fail
  refine (clone_any a n c f w (by omega) HA.out.1 HA.out.2).mono ?_
  rintro e w1 ⟨⟨a1, c1, rfl, ho1⟩, hb1⟩
  obtain ⟨g, rfl, hB, hg, hr, hw⟩ := ho1 (by omega)
  have HR := Lib.hid (And.intro hB (And.intro hg (And.intro hr hw))); clear hB hg hr hw ho1
  have HB := Lib.hid hb1; clear hb1
  go_wp2_with (first
    | (go_at_call 32; go_in)
    | (go_at_call 42; refine (unf_any kind g n c1 s U f w1 hk hs hn hsn HM.out.1 HM.out.2.1 HM.out.2.2 HR.out.2.2.1 HR.out.2.2.2).mono ?_; rintro e w2 ⟨rfl, hst⟩; have HS := Lib.hid hst; clear hst))
  go_end0
  go_wp2
  go_ret
  exact ⟨⟨_, _, rfl, fun _ => ⟨g, rfl, HR.out.1, Nat.lt_of_lt_of_le HR.out.2.1 HS.out.1.size, HS.out.2.1.congr (fun i hi => mix_lt _ _ _ _ hi), HS.out.2.2⟩⟩,
    HB.out.trans (below_of_grown HS.out.1 HB.out.size (fun r hr => by cases hr; exact HR.out.1))⟩

theorem isPlane_good (a : Option Addr) (n c : Nat) (s : Int) (w : World) (hg : PlaneGood n s) :
    Calls Try.prog 18 #[.slice a n c, .int .i64 s] w fun e w' => e = .returned (.bool true) ∧ w = w' := by
  obtain ⟨h1, h2, h3, h4⟩ := hg
  have t1 : ((n : Int) % s == 0) = true := by simpa using h4
  have t2 : (s == 0) = false := by simp; omega
  clear h4
  go_enter Try.func18, Try.ntmps18
  go_wp2
  go_ret
  exact ⟨by simp, rfl⟩

theorem isPlane_bad (a : Option Addr) (n c : Nat) (s : Int) (w : World) (hn : n ≤ 9223372036854775807) (hg : ¬ PlaneGood n s) :
    Calls Try.prog 18 #[.slice a n c, .int .i64 s] w fun e w' => e = .returned (.bool false) ∧ w = w' := by
  have HG := Lib.hid hg; clear hg
  go_enter Try.func18, Try.ntmps18
  go_wp2
  all_goals (go_ret; refine ⟨?_, rfl⟩)
  all_goals first
    | rfl
    | (have h0 : ¬ (n : Int) % s = 0 := fun h => HG.out ⟨by omega, by omega, by omega, h⟩
       simp [h0])

theorem own_lit4 (B : Nat) (w : World) (x0 x1 x2 x3 : Int) (h : B ≤ w.heap.size) :
    Own .u8 B (w.alloc (.cells #[.int .u8 x0, .int .u8 x1, .int .u8 x2, .int .u8 x3] 5)) (some ⟨w.heap.size, 0, none⟩) 4 (fun i => [x0, x1, x2, x3].getD i 0) := by
  have h1 := World.ownsRow_lit (base := B) (e := 5) (size := 1) w #[.int .u8 x0, .int .u8 x1, .int .u8 x2, .int .u8 x3] 4 h (by decide) rfl
  obtain ⟨a, c, e, _, ho⟩ := own_of_ownsRow (k := .u8) (l := [x0, x1, x2, x3]) h1
  cases e
  exact ho

theorem readPlane_any (w : World) :
    Calls Try.prog 19 #[] w fun e w' => e = .returned (.bool true) ∧ Below w.heap.size w w' := by
  obtain ⟨U, hU⟩ := exists_U 1 2 (fun i => [(5 : Int), 1, 2, 3].getD i 0) (by omega)
  have hl := own_lit4 w.heap.size w 5 1 2 3 (Nat.le_refl _)
  have u0 : U 0 = 5 := by rw [hU 0]; rfl
  have u1 : U 1 = 6 := by rw [hU 1, show guess 1 2 U 1 = U 0 from rfl, u0]; rfl
  have u2 : U 2 = 7 := by rw [hU 2, show guess 1 2 U 2 = U 0 from rfl, u0]; rfl
  have u3 : U 3 = 10 := by rw [hU 3, show guess 1 2 U 3 = U 2 from rfl, u2]; rfl
  have HU := Lib.hid (And.intro hU (And.intro u0 (And.intro u1 (And.intro u2 u3)))); clear hU u0 u1 u2 u3
  have HL := Lib.hid hl.arg; clear hl
  go_enter Try.func19, Try.ntmps19
  go_wp2_with fail
  refine (implUnf_any 1 4 _ 2 _ U _ _ (by omega) (by omega) (by omega) (by omega) (by omega) HL.out (by intro h; cases h) (by intro i; match i with | 0 => decide | 1 => decide | 2 => decide | 3 => decide | i + 4 => simp) HU.out.1).mono ?_
  rintro e w1 ⟨⟨a1, c1, rfl, ho1⟩, hb1⟩
  have hl2 := own_lit4 0 w1 5 6 7 10 (Nat.zero_le _)
  have HO := Lib.hid (ho1.arg.alloc (.cells #[.int .u8 5, .int .u8 6, .int .u8 7, .int .u8 10] 5)); clear ho1
  have HL2 := Lib.hid hl2.arg; clear hl2
  have HB := Lib.hid hb1; clear hb1
  go_wp2_with fail
  refine (bytes_eq _ _ 4 _ _ U _ _ (by decide) HO.out HL2.out (by
    obtain ⟨_, u0, u1, u2, u3⟩ := HU.out
    intro i hi
    match i, hi with
    | 0, _ => exact u0
    | 1, _ => exact u1
    | 2, _ => exact u2
    | 3, _ => exact u3)).mono ?_
  rintro e w2 ⟨rfl, d, rfl⟩
  go_wp2
  go_ret
  exact ⟨rfl, below_drewN ((((Below.refl _ _).alloc (Nat.le_refl _) _).trans (HB.out.mono (by simp))).alloc (by have := HB.out.size; simp at this; omega) _) d⟩

def UnfGood (kind : Int) (n : Nat) (s : Int) : Prop := 0 ≤ kind ∧ kind ≤ 3 ∧ PlaneGood n s

theorem fnUnfilter_bad (kind : Int) (a : Option Addr) (n c : Nat) (s : Int) (w : World) (hn : n ≤ 9223372036854775807) (hg : ¬ UnfGood kind n s) :
    Calls Try.prog 6 #[.int .i64 kind, .slice a n c, .int .i64 s] w fun e w' => e = .returned (.bool true) ∧ Below w.heap.size w w' := by
  by_cases k1 : kind < 0
  · clear hg
    go_enter Try.func6, Try.ntmps6
    go_wp2_with (go_at_call 19; refine (readPlane_any _).mono ?_; rintro e w' ⟨rfl, hb⟩)
    all_goals (go_ret; exact ⟨rfl, by first | assumption | exact Below.refl _ _⟩)
  · by_cases k2 : 3 < kind
    · clear hg
      go_enter Try.func6, Try.ntmps6
      go_wp2_with (go_at_call 19; refine (readPlane_any _).mono ?_; rintro e w' ⟨rfl, hb⟩)
      all_goals (go_ret; exact ⟨rfl, by first | assumption | exact Below.refl _ _⟩)
    · have HP := Lib.hid (fun h : PlaneGood n s => hg ⟨by omega, by omega, h⟩); clear hg
      go_enter Try.func6, Try.ntmps6
      go_wp2_with (first
        | (go_at_call 19; refine (readPlane_any _).mono ?_; rintro e w' ⟨rfl, hb⟩)
        | (go_at_call 18; refine (isPlane_bad _ _ _ _ _ hn HP.out).mono ?_; rintro e w' ⟨rfl, rfl⟩))
      all_goals (go_ret; exact ⟨rfl, by first | assumption | exact Below.refl _ _⟩)

theorem fnUnfilter_good (kind s n c : Nat) (a : Option Addr) (f : Nat → Int) (w : World) (ha : Arg .u8 w a n f) (hnil : a = none → n = 0) (hf : ∀ i, 0 ≤ f i ∧ f i ≤ 255) (hg : UnfGood kind n s) :
    Calls Try.prog 6 #[.int .i64 kind, .slice a n c, .int .i64 s] w fun e w' => e = .returned (.bool true) ∧ Below w.heap.size w w' := by
  obtain ⟨hk0, hk, hp⟩ := hg
  obtain ⟨p1, p2, p3, p4⟩ := hp
  have hm : n % s = 0 := by rw [← Int.natCast_emod] at p4; exact Int.ofNat_eq_zero.1 p4
  obtain ⟨U, hU⟩ := exists_U kind s f (by omega)
  have q0 : (0 : Int) ≤ (n : Int) / (s : Int) := Int.ediv_nonneg (by omega) (by omega)
  have q1 : (n : Int) / (s : Int) ≤ 65536 := Int.le_trans (Int.ediv_le_self _ (by omega)) (by omega)
  have HP := Lib.hid (show PlaneGood n s from ⟨p1, p2, p3, p4⟩); clear p4
  have HM := Lib.hid (And.intro hm (And.intro hf hU)); clear hm hf hU
  have HA := Lib.hid (And.intro ha hnil); clear ha hnil
  go_enter Try.func6, Try.ntmps6
  go_wp2_with (go_at_call 18; refine (isPlane_good _ _ _ _ _ HP.out).mono ?_; rintro e w' ⟨rfl, rfl⟩)
  refine (implUnf_any kind n c s a U f w (by omega) (by omega) (by omega) (by omega) HM.out.1 HA.out.1 HA.out.2 HM.out.2.1 HM.out.2.2).mono ?_
  rintro e w1 ⟨⟨a1, c1, rfl, ho1⟩, hb1⟩
  have HO := Lib.hid ho1; clear ho1
  have HB := Lib.hid hb1; clear hb1
  go_wp2_with fail
  refine (unfSpec_any kind n c s a U f _ w1 (by omega) (by omega) (by omega) (by omega) HM.out.1 (Int.natCast_ediv n s).symm (HA.out.1.below HB.out) HM.out.2.1 HM.out.2.2).mono ?_
  rintro e w2 ⟨⟨a2, c2, rfl, ho2⟩, hb2⟩
  have HO2 := Lib.hid ho2; clear ho2
  have HB2 := Lib.hid hb2; clear hb2
  go_wp2_with fail
  refine (bytes_eq _ _ n _ _ U U _ (by unfold maxLen; omega) (HO.out.arg.below HB2.out) HO2.out.arg (fun _ _ => rfl)).mono ?_
  rintro e w3 ⟨rfl, d, rfl⟩
  go_wp2_with fail
  refine (readPlane_any _).mono ?_
  rintro e w4 ⟨rfl, hb4⟩
  have HB4 := Lib.hid hb4; clear hb4
  go_wp2
  go_ret
  exact ⟨rfl, (below_drewN (HB.out.trans (HB2.out.mono HB.out.size)) d).trans (HB4.out.mono (by have h1 := HB.out.size; have h2 := HB2.out.size; simp; omega))⟩

theorem fnUnfilter_walk (w : World) (kind : Int) (wk : (Lit.int .i64 kind).wf = true) (a : Option Addr) (n c : Nat) (zs : List Int) (hz : IsRow .u8 w a n c zs) (s : Int) (ws : (Lit.int .i64 s).wf = true) :
    Calls Try.prog 6 #[.int .i64 kind, .slice a n c, .int .i64 s] w fun e w' => e = .returned (.bool true) ∧ Below w.heap.size w w' := by
  obtain ⟨h1, h2, h3, h4, h5⟩ := hz.arg
  by_cases hg : UnfGood kind n s
  · obtain ⟨k, rfl⟩ := Int.eq_ofNat_of_zero_le hg.1
    obtain ⟨t, rfl⟩ := Int.eq_ofNat_of_zero_le (show 0 ≤ s by have := hg.2.2.1; omega)
    exact fnUnfilter_good k t n c a _ w h1 h4 (fun i => u8_bounds (h5 i)) hg
  · exact fnUnfilter_bad kind a n c s w (by unfold maxLen at h3; omega) hg
end Go.Proofs.YtoafokmghjfpmaaR
