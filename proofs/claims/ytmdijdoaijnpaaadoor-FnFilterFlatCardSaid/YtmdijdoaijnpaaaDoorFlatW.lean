/- The package's filters over a copy of equal values. -/
import Derived.Test.YtmdijdoaijnpaaaDoorFlatT
import Derived.Test.YtmdijdoaijnpaaaDoorFlatF
import Derived.Laws.AppendOwn
namespace Go.Proofs.YtmdijdoaijnpaaaDoor
open Go.RowKit
set_option linter.unusedVariables false

theorem infoU8 : (Tryd.prog.info? 5).map (fun i => (i.zero, i.size, i.bytes)) = some (some (.int .u8 0), 1, 1) := by kernel_rfl

set_option maxRecDepth 100000 in
set_option maxHeartbeats 2000000 in
theorem simple_flat (a m c : Nat) (v lev I0 S J : Int) (w : World) (hlev : 0 ≤ lev) (hm : m ≤ 16384) (hm1 : 1 ≤ m) (hJ : -16384 ≤ J) (hJ2 : J ≤ 16384) (hS : -16384 ≤ S) (hS2 : S ≤ 16384)
    (hI : -16384 ≤ I0) (hI2 : I0 ≤ 16384) (hpos : ∀ i : Nat, i < 16 → ∀ j : Nat, j < 8 → 0 ≤ I0 + (i : Int) * S + ((j : Int) - 4) * J ∧ I0 + (i : Int) * S + ((j : Int) - 4) * J < m) (v0 : 0 ≤ v) (v1 : v ≤ 255) (ha : Arg .u8 w (some ⟨a, 0, none⟩) m (fun _ => v)) :
    Calls Tryd.prog 17 #[.slice (some ⟨a, 0, none⟩) m c, .int .i64 lev, .int .i64 I0, .int .i64 S, .int .i64 J] w fun e w' =>
      (∃ a' c', e = .returned (.slice a' m c') ∧ Own .u8 w.heap.size w' a' m (fun _ => v)) ∧ Below w.heap.size w w' := by
  obtain ⟨i0, hi, hz0, hz1, hz2⟩ := info_parts infoU8
  have HP := Lib.hid hpos
  have HA := Lib.hid ha
  clear hpos ha
  go_enter Tryd.func17, Tryd.ntmps17
  go_wp2_with (at_builtin; refine wpList_append_own _ rfl _ _ 22 rfl w.heap.size 5 i0 (.int .u8 0) 1 1 Tryd.underlying22 hi hz0 hz1 hz2 rfl (by decide) (.slice none 0 0) 0 [] rfl (World.ownsRow_nil _ _ _ _) ⟨a, 0, none⟩ m c (cellsOf .u8 m (fun _ => v)) rfl (cellsOf_length _ _ _) HA.out.news (cellsOf_one _ _ _) (by unfold maxLen; omega) (by omega) (by simp) ?_)
  intro v' w1 hown1 hgrow _
  obtain ⟨a', c', rfl, _, ho⟩ := own_of_cells (k := .u8) (n := m) (f := fun _ => v) (by simpa using hown1)
  obtain ⟨g, rfl, hg1, hg2, hr, hw⟩ := ho (by omega)
  have HV : Hid (Row .u8 w1 g 0 m (fun _ => v) ∧ Wr w1 g 0 m ∧ Below w.heap.size w w1 ∧ w.heap.size ≤ g ∧ g < w1.heap.size) := Lib.hid ⟨hr, hw, (Below.refl _ _).grown hgrow (by simp) (fun k hk => by simp [Value.ownBlock] at hk), hg1, hg2⟩
  clear hown1 hgrow ho hr hw hg1 hg2
  go_wp2_with (first | (go_at_call 28; go_in))
  refine (filter2_flat g m c' v I0 S J lev hlev w1 hm hJ hJ2 hS hS2 hI hI2 HP.out v0 v1 HV.out.1 HV.out.2.1).mono ?_
  rintro _ _ ⟨rfl, rfl⟩
  go_wp2
  go_end0
  go_wp2
  go_ret
  exact ⟨⟨_, _, rfl, fun _ => ⟨g, rfl, HV.out.2.2.2.1, HV.out.2.2.2.2, HV.out.1, HV.out.2.1⟩⟩, HV.out.2.2.1⟩

set_option maxRecDepth 100000 in
set_option maxHeartbeats 2000000 in
theorem normal_flat (a m c : Nat) (v lev il hl I0 S J : Int) (fo : Bool) (w : World) (hlev : 0 ≤ lev) (hil : 0 ≤ il) (hhl : 0 ≤ hl) (hm : m ≤ 16384) (hm1 : 1 ≤ m) (hJ : -16384 ≤ J) (hJ2 : J ≤ 16384) (hS : -16384 ≤ S) (hS2 : S ≤ 16384)
    (hI : -16384 ≤ I0) (hI2 : I0 ≤ 16384) (hpos : ∀ i : Nat, i < 16 → ∀ j : Nat, j < 8 → 0 ≤ I0 + (i : Int) * S + ((j : Int) - 4) * J ∧ I0 + (i : Int) * S + ((j : Int) - 4) * J < m) (v0 : 0 ≤ v) (v1 : v ≤ 255) (ha : Arg .u8 w (some ⟨a, 0, none⟩) m (fun _ => v)) :
    Calls Tryd.prog 15 #[.slice (some ⟨a, 0, none⟩) m c, .int .i64 16, .int .i64 lev, .int .i64 il, .int .i64 hl, .int .i64 I0, .int .i64 S, .int .i64 J, .bool fo] w fun e w' =>
      (∃ a' c', e = .returned (.slice a' m c') ∧ Own .u8 w.heap.size w' a' m (fun _ => v)) ∧ Below w.heap.size w w' := by
  obtain ⟨i0, hi, hz0, hz1, hz2⟩ := info_parts infoU8
  have HP := Lib.hid hpos
  have HA := Lib.hid ha
  have H246 : Hid (∀ g c (w : World), Row .u8 w g 0 m (fun _ => v) → Wr w g 0 m → Calls Tryd.prog 42 #[.slice (some ⟨g, 0, none⟩) m c, .int .i64 16, .int .i64 lev, .int .i64 il, .int .i64 hl, .int .i64 I0, .int .i64 S, .int .i64 J, .bool fo] w fun e w' => e = .returned (.tuple #[]) ∧ w = w') := Lib.hid (fun g c w h1 h2 => by
    cases fo with
    | true => exact filter246_flat_t g m c v I0 S J lev il hl hlev hil hhl w hm hJ hJ2 hS hS2 hI hI2 HP.out v0 v1 h1 h2
    | false => exact filter246_flat_f g m c v I0 S J lev il hl hlev hil hhl w hm hJ hJ2 hS hS2 hI hI2 HP.out v0 v1 h1 h2)
  clear hpos ha
  go_enter Tryd.func15, Tryd.ntmps15
  go_wp2_with (at_builtin; refine wpList_append_own _ rfl _ _ 22 rfl w.heap.size 5 i0 (.int .u8 0) 1 1 Tryd.underlying22 hi hz0 hz1 hz2 rfl (by decide) (.slice none 0 0) 0 [] rfl (World.ownsRow_nil _ _ _ _) ⟨a, 0, none⟩ m c (cellsOf .u8 m (fun _ => v)) rfl (cellsOf_length _ _ _) HA.out.news (cellsOf_one _ _ _) (by unfold maxLen; omega) (by omega) (by simp) ?_)
  intro v' w1 hown1 hgrow _
  obtain ⟨a', c', rfl, _, ho⟩ := own_of_cells (k := .u8) (n := m) (f := fun _ => v) (by simpa using hown1)
  obtain ⟨g, rfl, hg1, hg2, hr, hw⟩ := ho (by omega)
  have HV : Hid (Row .u8 w1 g 0 m (fun _ => v) ∧ Wr w1 g 0 m ∧ Below w.heap.size w w1 ∧ w.heap.size ≤ g ∧ g < w1.heap.size) := Lib.hid ⟨hr, hw, (Below.refl _ _).grown hgrow (by simp) (fun k hk => by simp [Value.ownBlock] at hk), hg1, hg2⟩
  clear hown1 hgrow ho hr hw hg1 hg2
  go_wp2_with (first | (go_at_call 26; go_in))
  refine (H246.out g c' w1 HV.out.1 HV.out.2.1).mono ?_
  rintro _ _ ⟨rfl, rfl⟩
  go_wp2
  go_end0
  go_wp2
  go_ret
  exact ⟨⟨_, _, rfl, fun _ => ⟨g, rfl, HV.out.2.2.2.1, HV.out.2.2.2.2, HV.out.1, HV.out.2.1⟩⟩, HV.out.2.2.1⟩
end Go.Proofs.YtmdijdoaijnpaaaDoor
