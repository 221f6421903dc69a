/- The normal filter as the law calls it: the package's (impl.FilterNormal) and the reference's (spec.FilterNormal). -/
import Derived.Test.YtmdijdoaijnpaaaDoorFiltI
import Derived.Test.YtmdijdoaijnpaaaDoorFiltE
namespace Go.Proofs.YtmdijdoaijnpaaaDoor
open Go.RowKit
set_option linter.unusedVariables false

set_option maxRecDepth 100000 in
set_option maxHeartbeats 2000000 in
theorem implNormal_any (a : Nat) (o m c n : Nat) (f : Nat → Int) (lev il hl I0 S J : Int) (inner : Bool) (w : World) (hm : m ≤ 16384) (hm1 : 1 ≤ m) (hn : n ≤ 16) (hJ : -16384 ≤ J) (hJ2 : J ≤ 16384) (hJ0 : J ≠ 0) (hS : -16384 ≤ S) (hS2 : S ≤ 16384)
    (hI : -16384 ≤ I0) (hI2 : I0 ≤ 16384) (hpos : ∀ i : Nat, i < n → ∀ j : Nat, j < 8 → 0 ≤ I0 + (i : Int) * S + ((j : Int) - 4) * J ∧ I0 + (i : Int) * S + ((j : Int) - 4) * J < m) (ha : Arg .u8 w (some ⟨a, o, none⟩) m f) (hf : ∀ x, 0 ≤ f x ∧ f x ≤ 255) :
    Calls Tryd.prog 15 #[.slice (some ⟨a, o, none⟩) m c, .int .i64 n, .int .i64 lev, .int .i64 il, .int .i64 hl, .int .i64 I0, .int .i64 S, .int .i64 J, .bool inner] w fun e w' =>
      (∃ a' c', e = .returned (.slice a' m c') ∧ Own .u8 w.heap.size w' a' m (lines (nrm lev il hl inner) I0 S J f n)) ∧ Below w.heap.size w w' := by
  obtain ⟨i0, hi, hz0, hz1, hz2⟩ := info_parts infoU8
  have HP := Lib.hid hpos
  have Hf := Lib.hid hf
  have HA := Lib.hid ha
  have HJ := Lib.hid hJ0
  clear hpos hf ha hJ0
  go_enter Tryd.func15, Tryd.ntmps15
  go_wp2_with (at_builtin; refine wpList_append_own _ rfl _ _ 22 rfl w.heap.size 5 i0 (.int .u8 0) 1 1 Tryd.underlying22 hi hz0 hz1 hz2 rfl (by decide) (.slice none 0 0) 0 [] rfl (World.ownsRow_nil _ _ _ _) ⟨a, o, none⟩ m c (cellsOf .u8 m f) rfl (cellsOf_length _ _ _) HA.out.news (cellsOf_one _ _ _) (by unfold maxLen; omega) (by omega) (by simp) ?_)
  intro v' w1 hown1 hgrow _
  obtain ⟨a', c', rfl, _, ho⟩ := own_of_cells (k := .u8) (n := m) (f := f) (by simpa using hown1)
  obtain ⟨g, rfl, hg1, hg2, hr, hw⟩ := ho (by omega)
  have HV : Hid (FL w1 w1 g m f ∧ Below w.heap.size w w1 ∧ w.heap.size ≤ g) := Lib.hid ⟨⟨World.grownBy.refl _ _, hr, hw, hg2⟩, (Below.refl _ _).grown hgrow (by simp) (fun k hk => by simp [Value.ownBlock] at hk), hg1⟩
  clear hown1 hgrow ho hr hw hg1 hg2
  go_wp2_with (first | (go_at_call 26; go_in))
  refine (filter246_any g m c' n f lev il hl I0 S J inner w1 hm hn hJ hJ2 HJ.out hS hS2 hI hI2 (fun i j h1 h2 => HP.out i h1 j h2) HV.out.1 Hf.out).mono ?_
  rintro _ w2 ⟨rfl, hF⟩
  have HF := Lib.hid hF; clear hF
  go_wp2
  go_end0
  go_wp2
  go_ret
  exact ⟨⟨_, _, rfl, fun _ => ⟨g, rfl, HV.out.2.2, HF.out.lt, HF.out.row, HF.out.wr⟩⟩, HV.out.2.1.trans (below_of_grown HF.out.gr HV.out.2.1.size (fun r hr => by cases hr; exact HV.out.2.2))⟩

set_option maxRecDepth 100000 in
set_option maxHeartbeats 2000000 in
theorem specNormal_any (a : Nat) (o m c n : Nat) (f : Nat → Int) (lev il hl I0 S J : Int) (inner : Bool) (w : World) (hm : m ≤ 16384) (hm1 : 1 ≤ m) (hn : n ≤ 16) (hJ : -16384 ≤ J) (hJ2 : J ≤ 16384) (hS : -16384 ≤ S) (hS2 : S ≤ 16384)
    (hI : -16384 ≤ I0) (hI2 : I0 ≤ 16384) (hpos : ∀ i : Nat, i < n → ∀ j : Nat, j < 8 → 0 ≤ I0 + (i : Int) * S + ((j : Int) - 4) * J ∧ I0 + (i : Int) * S + ((j : Int) - 4) * J < m) (ha : Arg .u8 w (some ⟨a, o, none⟩) m f) (hf : ∀ x, 0 ≤ f x ∧ f x ≤ 255) :
    Calls Tryd.prog 16 #[.slice (some ⟨a, o, none⟩) m c, .int .i64 n, .int .i64 lev, .int .i64 il, .int .i64 hl, .int .i64 I0, .int .i64 S, .int .i64 J, .bool inner] w fun e w' =>
      (∃ a' c', e = .returned (.slice a' m c') ∧ Own .u8 w.heap.size w' a' m (lines (nrm lev il hl inner) I0 S J f n)) ∧ Below w.heap.size w w' := by
  have HP := Lib.hid hpos
  have Hf := Lib.hid hf
  have HA := Lib.hid ha
  clear hpos hf ha
  go_enter Tryd.func16, Tryd.ntmps16
  go_wp2_with fail
  refine (over_any a o m c n f lev il hl I0 S J (!inner) w hm hm1 hn hJ hJ2 hS hS2 hI hI2 (fun i j h1 h2 => HP.out i h1 j h2) HA.out Hf.out).mono ?_
  rintro _ w1 ⟨⟨a', c', rfl, ho⟩, hb⟩
  rw [Bool.not_not] at ho
  have HO := Lib.hid (And.intro ho hb); clear ho hb
  go_wp2
  go_ret
  exact ⟨⟨_, _, rfl, HO.out.1⟩, HO.out.2⟩
end Go.Proofs.YtmdijdoaijnpaaaDoor
