/- What is read of the workspace: n rows of n values (values). -/
import Derived.Test.YtmdijdoaijnpaaaDoorSquare
import Derived.Laws.AppendOwn
namespace Go.Proofs.YtmdijdoaijnpaaaDoor
open Go.RowKit
set_option linter.unusedVariables false

theorem infoB : (Tryd.prog.info? 5).map (fun i => (i.zero, i.size, i.bytes)) = some (some (.int .u8 0), 1, 1) := by kernel_rfl
/-- The values of the block, row by row. -/
def valF (n : Nat) (y : Nat → Int) (k : Nat) : Int := y (32 * (k / n + 1) + 8 + k % n)
theorem valF_row (n : Nat) (y : Nat → Int) (p i : Nat) (hi : i < n) : valF n y (n * p + i) = y (32 * (p + 1) + 8 + i) := by
  unfold valF
  rw [Nat.mul_add_div (by omega), Nat.mul_add_mod, Nat.div_eq_of_lt hi, Nat.mod_eq_of_lt hi, Nat.add_zero]
theorem cellsOf_add (k : IntKind) (a b : Nat) (f : Nat → Int) : cellsOf k (a + b) f = cellsOf k a f ++ cellsOf k b (fun i => f (a + i)) := by
  simp [cellsOf, List.range_add, List.map_append, Function.comp_def]
set_option maxRecDepth 100000 in
set_option maxHeartbeats 1600000 in
theorem values_any (g n : Nat) (y : Nat → Int) (w : World) (hn0 : 1 ≤ n) (hn : n ≤ 16) (hY : Ybr w g y) (hg : g < w.heap.size) :
    Calls Tryd.prog 40 #[.pointer (some ⟨g, 0, none⟩), .int .i64 n] w fun e w' => (∃ a' c', e = .returned (.slice a' (n * n) c') ∧ Own .u8 w.heap.size w' a' (n * n) (valF n y)) ∧ Below w.heap.size w w' := by
  obtain ⟨i0, hi, hz0, hz1, hz2⟩ := info_parts infoB
  have HY := Lib.hid hY
  clear hY
  go_enter Tryd.func40, Tryd.ntmps40
  go_wp2
  go_loopw [5, 6] (fun v i wr => ∃ p : Nat, p ≤ n ∧ i = .int .i64 p ∧ Hid (wr.ownsRow w.heap.size 5 1 v (n * p) (cellsOf .u8 (n * p) (valF n y)) ∧ Below w.heap.size w wr)) (fun _ i _ => n - (intOf i).toNat)
  case atStart => exact ⟨0, by omega, rfl, Lib.hid ⟨World.ownsRow_nil _ _ _ _, Below.refl _ _⟩⟩
  case round =>
    obtain ⟨p, hp, rfl, hR⟩ := hrel
    by_cases hlt : p < n
    · have hnn : n * p + n ≤ 256 := by
        have h1 := Nat.mul_le_mul_left n (show p + 1 ≤ n by omega)
        rw [Nat.mul_add, Nat.mul_one] at h1
        exact Nat.le_trans h1 (Nat.mul_le_mul hn hn)
      have HA : Hid (Arg .u8 wr (some ⟨g, 1650 + (1 + p) * 32 + 8, none⟩) n (fun i => valF n y (n * p + i))) := Lib.hid (fun _ => ⟨g, _, rfl, Nat.lt_of_lt_of_le hg hR.out.2.size, fun i hi => by
        show _ = some (Value.int .u8 (valF n y (n * p + i)))
        rw [valF_row n y p i hi, show 1650 + (1 + p) * 32 + 8 + i = 1650 + (32 * (p + 1) + 8 + i) by omega]
        exact (hR.out.2.cell (p := ⟨g, 1650 + (32 * (p + 1) + 8 + i), none⟩) hg).trans (HY.out.1 (32 * (p + 1) + 8 + i) (by omega))⟩)
      have HO : Hid (wr.ownsRow w.heap.size 5 1 u5 (n * p) (cellsOf .u8 (n * p) (valF n y))) := Lib.hid hR.out.1
      have hsz := hR.out.2.size
      have q1 : (0 : Int) ≤ 1 + (p : Int) := by omega
      have q2 : 1 + (p : Int) < 26 := by omega
      have q3 : (1 + (p : Int)).toNat = 1 + p := by omega
      have s1 : (8 + (n : Int)) ≤ 32 := by omega
      have s2 : (0 : Int) ≤ 8 + (n : Int) := by omega
      have s3 : (8 + (n : Int)).toNat = 8 + n := by omega
      have s4 : (8 : Int) ≤ 8 + (n : Int) := by omega
      go_wp2_with (at_builtin; refine wpList_append_own _ rfl _ _ 22 rfl w.heap.size 5 i0 (.int .u8 0) 1 1 Tryd.underlying22 hi hz0 hz1 hz2 rfl (by decide) _ _ _ rfl HO.out ⟨g, 1650 + (1 + p) * 32 + 8, none⟩ n 24 (cellsOf .u8 n (fun i => valF n y (n * p + i))) rfl (cellsOf_length _ _ _) HA.out.news (cellsOf_one _ _ _) (by unfold maxLen; omega) (by omega) hsz ?_)
      intro v' w3 hown3 hgrow _
      have HR : Hid (w3.ownsRow w.heap.size 5 1 v' (n * (p + 1)) (cellsOf .u8 (n * (p + 1)) (valF n y)) ∧ Below w.heap.size w w3) := Lib.hid ⟨by
        rw [Nat.mul_add, Nat.mul_one, cellsOf_add]; exact hown3, hR.out.2.grown hgrow hsz (fun k hk => (HO.out.lt k hk).1)⟩
      clear hown3 hgrow
      go_wp2
      go_roundw
      case rel => exact ⟨p + 1, by omega, by go_num, HR⟩
      case measure => simp [intOf]; omega
    · obtain rfl : p = n := by omega
      go_wp2
      go_ret
      obtain ⟨a, c, rfl, _, ho⟩ := own_of_cells hR.out.1
      exact ⟨⟨_, _, rfl, ho⟩, hR.out.2⟩
end Go.Proofs.YtmdijdoaijnpaaaDoor
