/- The contract of bytes.Clone. -/
import Derived.Test.YtoafokmghjfpmaaRMem
import Derived.BigQuiet
import Derived.Deep.QuietTactic
import Derived.WalkSpells
import Derived.Outline
namespace Go.Proofs.YtoafokmghjfpmaaR
open Go.RowKit
set_option linter.unusedVariables false

theorem infoU8 : (Try.prog.info? 5).map (fun i => (i.zero, i.size, i.bytes)) = some (some (.int .u8 0), 1, 1) := by kernel_rfl

set_option maxHeartbeats 400000 in
theorem clone_any (a : Option Addr) (n c : Nat) (f : Nat → Int) (w : World) (hn : n ≤ 140737488351232) (ha : Arg .u8 w a n f) (hnil : a = none → n = 0) :
    Calls Try.prog 26 #[.slice a n c] w fun e w' => (∃ a' c', e = .returned (.slice a' n c') ∧ Own .u8 w.heap.size w' a' n f) ∧ Below w.heap.size w w' := by
  obtain ⟨i0, hi, hz0, hz1, hz2⟩ := info_parts infoU8
  have HA := Lib.hid ha; clear ha
  have hq := fun (wx : World) => Lib.run_eql_slice_nil (P := Try.prog) wx 27 5 a n c 0 0 Try.underlying27
  cases a with
  | none =>
    obtain rfl : n = 0 := hnil rfl
    clear hnil
    go_enter Try.func26, Try.ntmps26
    go_wp2
    go_ret
    exact ⟨⟨_, _, rfl, fun h => absurd h (by omega)⟩, Below.refl _ _⟩
  | some ad =>
    clear hnil
    have hown := World.ownsRow_lit (base := w.heap.size) (e := 5) (size := 1) w #[] 0 (Nat.le_refl _) (by decide) rfl
    have hnews := (HA.out.alloc (.cells #[] 5)).news
    clear HA
    go_enter Try.func26, Try.ntmps26
    go_wp2_with (at_builtin; refine wpList_append_own _ rfl _ _ 27 rfl w.heap.size 5 i0 (.int .u8 0) 1 1 Try.underlying27 hi hz0 hz1 hz2 rfl (by decide) _ _ _ rfl hown ad n c (cellsOf .u8 n f) rfl (cellsOf_length _ _ _) hnews (cellsOf_one _ _ _) (by unfold maxLen; omega) (by omega) (by simp) ?_)
    intro v' w1 hown1 hgrow _
    clear hown hnews
    obtain ⟨a', c', rfl, _, ho⟩ := own_of_cells (k := .u8) (n := n) (f := f) (by simpa using hown1)
    go_wp2
    go_ret
    refine ⟨⟨_, _, rfl, ho⟩, ?_⟩
    exact ((Below.refl _ _).alloc (Nat.le_refl _) _).grown hgrow (by simp) (fun k hk => by simp [Value.ownBlock] at hk; omega)
end Go.Proofs.YtoafokmghjfpmaaR
