/- The reference's large predictions: bytesOf, foretoldLarge. Printed by wip/gen_preds.py. -/
import Derived.Test.YtmdijdoaijnpaaaDoorPredB
import Derived.Test.YtmdijdoaijnpaaaDoorFiltL
import Derived.Laws.AppendOwn
import Derived.Deep.AppendLies
import Derived.Deep.RegionWith
import Derived.BigQuiet
import Derived.WalkLawsBesides
import Derived.Deep.QuietTactic
namespace Go.Proofs.YtmdijdoaijnpaaaDoor
open Go.RowKit
set_option linter.unusedVariables false

theorem infoI : (Tryd.prog.info? 3).map (fun i => (i.zero, i.size, i.bytes)) = some (some (.int .i64 0), 1, 8) := by kernel_rfl
theorem infoB8 : (Tryd.prog.info? 5).map (fun i => (i.zero, i.size, i.bytes)) = some (some (.int .u8 0), 1, 1) := by kernel_rfl
theorem u8_in (x : Int) (h : 0 ≤ x ∧ x ≤ 255) : IntKind.u8.wrap x = x := by rw [IntKind.wrap_u8]; omega

set_option maxRecDepth 100000 in
set_option maxHeartbeats 800000 in
theorem bytesOf_any (a : Option Addr) (n c : Nat) (f : Nat → Int) (w : World) (hn : n ≤ 65536) (ha : Arg .i64 w a n f) (hf : ∀ k, 0 ≤ f k ∧ f k ≤ 255) :
    Calls Tryd.prog 32 #[.slice a n c] w fun e w' => (∃ a' c', e = .returned (.slice a' n c') ∧ Own .u8 w.heap.size w' a' n f) ∧ Below w.heap.size w w' := by
  obtain ⟨i0, hi, hz0, hz1, hz2⟩ := info_parts infoB8
  have HA := Lib.hid (And.intro ha hf); clear ha hf
  go_enter Tryd.func32, Tryd.ntmps32
  go_wp2
  go_loopw [3, 4] (fun v i wr => ∃ p : Nat, p ≤ n ∧ i = .int .i64 p ∧ Hid (wr.ownsRow w.heap.size 5 1 v p (cellsOf .u8 p f) ∧ Below w.heap.size w wr)) (fun _ i _ => n - (intOf i).toNat)
  case atStart => exact ⟨0, by omega, rfl, Lib.hid ⟨World.ownsRow_nil _ _ _ _, Below.refl _ _⟩⟩
  case round =>
    obtain ⟨p, hp, rfl, hR⟩ := hrel
    by_cases hlt : p < n
    · obtain ⟨ga, oa, rfl, hga, ra⟩ := HA.out.1 (by omega)
      have c0 : wr.cell? ⟨ga, oa + p, none⟩ = some (.int .i64 (f p)) := (hR.out.2.cell (p := ⟨ga, oa + p, none⟩) hga).trans (ra p hlt)
      obtain ⟨f0, f1⟩ := HA.out.2 p
      have HO : Hid (wr.ownsRow w.heap.size 5 1 u3 p (cellsOf .u8 p f)) := Lib.hid hR.out.1
      have hsz := hR.out.2.size
      clear ra
      obtain ⟨v, hv⟩ : ∃ v, v = f p := ⟨_, rfl⟩
      rw [← hv] at c0 f0 f1
      have HV := Lib.hid hv; clear hv
      go_wp2_with (at_builtin; refine wpList_append_own _ rfl _ _ 22 rfl w.heap.size 5 i0 (.int .u8 0) 1 1 Tryd.underlying22 hi hz0 hz1 hz2 rfl (by decide) _ _ _ rfl (HO.out.alloc _) ⟨wr.heap.size, 0, none⟩ 1 1 [.int .u8 v] rfl rfl (cell_one_new _ _ _) (by simp [Value.oneCell']) (by unfold maxLen; omega) (by omega) (by simp; omega) ?_)
      intro v' w3 hown3 hgrow _
      have HR : Hid (w3.ownsRow w.heap.size 5 1 v' (p + 1) (cellsOf .u8 (p + 1) f) ∧ Below w.heap.size w w3) := Lib.hid ⟨by
        rw [cellsOf_succ, ← HV.out]; exact hown3, (hR.out.2.alloc hsz _).grown hgrow (by simp; omega) (fun k hk => (HO.out.lt k hk).1)⟩
      clear hown3 hgrow
      go_wp2
      go_roundw
      case rel => exact ⟨p + 1, by omega, by go_num, HR⟩
      case measure => simp [intOf]; omega
    · obtain rfl : p = n := by omega
      go_wp2
      go_ret
      obtain ⟨a, c, rfl, _, ho⟩ := own_of_cells hR.out.1
      exact ⟨⟨_, _, rfl, ho⟩, hR.out.2⟩

theorem byteOf_any (x : Int) (w : World) :
    Calls Tryd.prog 30 #[.int .i64 x] w fun e w' => e = .returned (.int .i64 (hld 0 255 x)) ∧ w = w' := by
  go_enter Tryd.func30, Tryd.ntmps30
  go_wp2_with fail
  refine (within_any x 0 255 w (by decide)).mono ?_
  rintro _ _ ⟨rfl, rfl⟩
  go_wp2
  go_ret
  exact ⟨rfl, rfl⟩

theorem sumF_in (f : Nat → Int) (hf : ∀ k, 0 ≤ f k ∧ f k ≤ 255) (n : Nat) : 0 ≤ sumF f n ∧ sumF f n ≤ 255 * n := by
  induction n with
  | zero => simp [sumF]
  | succ n ih => have := hf n; simp only [sumF]; omega
/-- The block, row by row. -/
def rowF (V : Nat → Nat → Int) (k : Nat) : Int := V (k / 16) (k % 16)
theorem rowF_at (V : Nat → Nat → Int) (p i : Nat) (hi : i < 16) : rowF V (16 * p + i) = V p i := by
  unfold rowF
  rw [show (16 * p + i) / 16 = p by omega, show (16 * p + i) % 16 = i by omega]
end Go.Proofs.YtmdijdoaijnpaaaDoor
