/- impl.Near and laws.near. -/
import Derived.Test.YtoafokmghjfpmaaRDoorDistN
import Derived.Test.YtoafokmghjfpmaaRDoorBits
namespace Go.Proofs.YtoafokmghjfpmaaRDoor
open Go.RowKit
set_option linter.unusedVariables false

theorem info22 : (Tryd.prog.info? 26).map (fun i => (i.zero, i.size, i.bytes)) = some (some (.agg #[.int .i64 0, .int .i64 0]), 2, 16) := by kernel_rfl
theorem news2 (w : World) (v0 v1 : Value) (t : TypeId) : ∀ j u, [v0, v1][j]? = some u → (w.alloc (.cells #[v0, v1] t)).cell? ((⟨w.heap.size, 0, none⟩ : Addr).add j) = some u := fun j u h => by
  rw [Addr.add_lit, Nat.zero_add, cell_of_row _ _ j _ _ _ (heap_alloc_new w _)]
  simpa using h
/-- A row of pairs, read as an Own. -/
theorem own_of_pairs {w : World} {B : Nat} {e : TypeId} {v : Value} {n : Nat} {f : Nat → Int} (h : w.ownsRow B e 2 v n (cellsOf .i64 (2 * n) f)) :
    ∃ a c, v = .slice a n c ∧ Own .i64 B w a (2 * n) f := by
  rcases h.2 with ⟨rfl, h0⟩ | ⟨g, cap, cur, rfl, hb, hg, _⟩
  · subst h0; exact ⟨none, 0, rfl, fun h => absurd h (by omega)⟩
  · refine ⟨_, cap, rfl, fun _ => ⟨g, rfl, hb, (Array.getElem?_eq_some_iff.1 hg).1, fun i hi => ?_, fun i hi => ?_⟩⟩
    · rw [Nat.zero_add, h.cellAt i (by first | omega | (simp [cellsOf]; omega))]
      simp [cellsOf, hi]
    · exact h.frozenAt _

set_option maxRecDepth 100000 in
set_option maxHeartbeats 800000 in
theorem implNear_any (w : World) (ht : TabD w) :
    Calls Tryd.prog 6 #[] w fun e w' => (∃ a c, e = .returned (.slice a 120 c) ∧ Own .i64 w.heap.size w' a 240 nearF) ∧ Below w.heap.size w w' := by
  obtain ⟨i0, hi, hz0, hz1, hz2⟩ := info_parts info22
  have H := Lib.hid (And.intro ht ht.lt); clear ht
  go_enter Tryd.func6, Tryd.ntmps6
  go_wp2
  go_loopw [1, 4] (fun v i wr => ∃ p : Nat, p ≤ 120 ∧ i = .int .i64 p ∧ Hid (wr.ownsRow w.heap.size 26 2 v p (cellsOf .i64 (2 * p) nearF) ∧ Below w.heap.size w wr)) (fun _ i _ => 120 - (intOf i).toNat)
  case atStart => exact ⟨0, by omega, rfl, Lib.hid ⟨World.ownsRow_nil _ _ _ _, Below.refl _ _⟩⟩
  case round =>
    obtain ⟨p, hp, rfl, hR⟩ := hrel
    by_cases hlt : p < 120
    · have hr := dTab_range p hlt
      obtain ⟨x, hx⟩ : ∃ x, x = dTab.getD p 0 := ⟨_, rfl⟩
      have HX := Lib.hid hx
      rw [← hx] at hr
      obtain ⟨x0, x1⟩ := hr
      clear hx
      go_wp2_with fail
      refine (doorNear_any p wr hlt (H.out.1.below hR.out.2 H.out.2)).mono ?_
      rintro _ _ ⟨rfl, rfl⟩
      rw [← HX.out]
      have HO : Hid (wr.ownsRow w.heap.size 26 2 u1 p (cellsOf .i64 (2 * p) nearF)) := Lib.hid hR.out.1
      have hb0 := hR.out.2.size
      go_wp2_with (at_builtin; refine wpList_append_own _ rfl _ _ 24 rfl w.heap.size 26 i0 (.agg #[.int .i64 0, .int .i64 0]) 2 16 Tryd.underlying24 hi hz0 hz1 hz2 rfl (by decide) _ _ _ rfl (HO.out.alloc _) ⟨wr.heap.size, 0, none⟩ 1 1 [.int .i64 (8 - x % 16), .int .i64 (x / 16)] rfl rfl (news2 wr _ _ _) (by simp [Value.oneCell']) (by unfold maxLen; omega) (by omega) (by simp; omega) ?_)
      intro v' w3 hown3 hgrow _
      have R1 : w3.ownsRow w.heap.size 26 2 v' (p + 1) (cellsOf .i64 (2 * (p + 1)) nearF) := by
        rw [show 2 * (p + 1) = 2 * p + 1 + 1 by omega, cellsOf_succ, cellsOf_succ, nearF_even, nearF_odd, ← HX.out, List.append_assoc]; exact hown3
      have R2 : Below w.heap.size w w3 := (hR.out.2.alloc hR.out.2.size _).grown hgrow (by simp; omega) (fun k hk => (HO.out.lt k hk).1)
      have HR := Lib.hid (And.intro R1 R2)
      clear hown3 hgrow R1 R2
      go_wp2
      go_roundw
      case rel => exact ⟨p + 1, by omega, by go_num, HR⟩
      case measure => simp [intOf]; omega
    · obtain rfl : p = 120 := by omega
      go_wp2
      go_ret
      obtain ⟨a, c, rfl, ho⟩ := own_of_pairs hR.out.1
      exact ⟨⟨_, _, rfl, ho⟩, hR.out.2⟩
end Go.Proofs.YtoafokmghjfpmaaRDoor
