/- spec.Color. -/
import Derived.Test.YtoafokmghjfpmaaRUncol
namespace Go.Proofs.YtoafokmghjfpmaaR
open Go.RowKit
set_option linter.unusedVariables false

theorem pxAt_range (f : Nat → Int) (hf : ∀ i, 0 ≤ f i ∧ f i ≤ 255) (i : Nat) : 0 ≤ pxAt f i ∧ pxAt f i ≤ 4294967295 := by
  have := hf (i * 4); have := hf (i * 4 + 1); have := hf (i * 4 + 2); have := hf (i * 4 + 3)
  unfold pxAt px; omega
theorem colS_range (f fd : Nat → Int) (W n : Nat) (hf : ∀ i, 0 ≤ f i ∧ f i ≤ 255) (i : Nat) : 0 ≤ colS f fd W n i ∧ colS f fd W n i ≤ 4294967295 := by
  have := hf (i * 4 + 1); have := hf (i * 4 + 3); have := redOf_range f fd W n i; have := blueOf_range f fd W n i
  unfold colS px; omega

set_option maxRecDepth 100000 in
theorem specColor_any (W n h : Nat) (da : Option Addr) (dn dc : Nat) (fd : Nat → Int) (pa : Option Addr) (pn pc : Nat) (f : Nat → Int) (w : World) (hW : 1 ≤ W) (hW2 : W ≤ 16384) (hn : n ≤ 9)
    (hpn : pn ≤ 65536) (hp4 : pn % 4 = 0) (hdn : dn ≤ 70000) (hd4 : dn % 4 = 0) (hp : Arg .u8 w pa pn f) (hf : ∀ i, 0 ≤ f i ∧ f i ≤ 255) (hd : Arg .u8 w da dn fd) (hfd : ∀ i, 0 ≤ fd i ∧ fd i ≤ 255) (ht : ∀ i, i < pn / 4 → tileOf W n i < dn / 4) :
    Calls Try.prog 17 #[.int .i64 W, .int .i64 h, .int .i64 n, .slice da dn dc, .slice pa pn pc] w fun e w' =>
      (∃ a' c', e = .returned (.slice a' pn c') ∧ Own .u8 w.heap.size w' a' pn (byAt (colS f fd W n))) ∧ Below w.heap.size w w' := by
  have H := Lib.hid (And.intro hp (And.intro hf (And.intro hd (And.intro hfd (And.intro ht (And.intro hp4 hd4)))))); clear hp hf hd hfd ht hp4 hd4
  go_enter Try.func17, Try.ntmps17
  go_wp2_with fail
  refine (joined_any pa pn pc f w (by omega) H.out.2.2.2.2.2.1 H.out.1 H.out.2.1).mono ?_
  rintro _ w1 ⟨⟨a1, c1, rfl, o1⟩, b1⟩
  have H1 := Lib.hid (And.intro o1 b1); clear o1 b1
  go_wp2_with fail
  refine (joined_any da dn dc fd w1 (by omega) H.out.2.2.2.2.2.2 (H.out.2.2.1.below H1.out.2) H.out.2.2.2.1).mono ?_
  rintro _ w2 ⟨⟨a2, c2, rfl, o2⟩, b2⟩
  have H2 := Lib.hid (And.intro (H1.out.1.below b2) (And.intro o2 (H1.out.2.trans (b2.mono H1.out.2.size)))); clear o2 b2
  go_wp2_with fail
  refine (uncol_any a1 (pn / 4) c1 f W n a2 (dn / 4) c2 fd w2 (by omega) hW hW2 hn H2.out.1.arg H.out.2.1 H2.out.2.1.arg H.out.2.2.2.1 H.out.2.2.2.2.1 (by omega)).mono ?_
  rintro _ w3 ⟨⟨a3, c3, rfl, o3⟩, b3⟩
  have H3 := Lib.hid (And.intro o3 (H2.out.2.2.trans (b3.mono H2.out.2.2.size))); clear o3 b3
  go_wp2_with fail
  refine (split_any a3 (pn / 4) c3 (colS f fd W n) w3 (by omega) H3.out.1.arg (fun i _ => colS_range f fd W n H.out.2.1 i)).mono ?_
  rintro _ w4 ⟨⟨a4, c4, rfl, o4⟩, b4⟩
  have e : pn / 4 * 4 = pn := by have := H.out.2.2.2.2.2.1; omega
  rw [e] at o4 ⊢
  have H4 := Lib.hid (And.intro (o4.mono H3.out.2.size) (H3.out.2.trans (b4.mono H3.out.2.size))); clear o4 b4
  go_wp2
  go_ret
  exact ⟨⟨_, _, rfl, H4.out.1⟩, H4.out.2⟩
end Go.Proofs.YtoafokmghjfpmaaR
