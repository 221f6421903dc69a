/- The reference's function common. -/
import Derived.Test.YtmdijdoaijnpaaaDoorFiltS
import Derived.Deep.RegionWith
namespace Go.Proofs.YtmdijdoaijnpaaaDoor
open Go.RowKit
set_option linter.unusedVariables false

theorem cellsOf_set (k : IntKind) (n : Nat) (f : Nat → Int) (i : Nat) (v : Int) : (cellsOf k n f).set i (.int k v) = cellsOf k n (upd f i v) := by
  apply List.ext_getElem?
  intro j
  by_cases h : i = j
  · subst h
    by_cases hi : i < n
    · simp [cellsOf, hi, upd_same]
    · simp [cellsOf, hi]
  · rw [List.getElem?_set_ne h]
    by_cases hj : j < n
    · simp [cellsOf, hj, upd_other _ _ _ _ (show j ≠ i by omega)]
    · simp [cellsOf, hj]
theorem cellsOf_congr (k : IntKind) (n : Nat) {f f' : Nat → Int} (h : ∀ i, i < n → f i = f' i) : cellsOf k n f = cellsOf k n f' := by
  unfold cellsOf
  exact List.map_congr_left fun i hi => by rw [h i (by simpa using hi)]
theorem common_end {w w3 : World} {g : Nat} {T : TypeId} {l l' : Nat → Int} {x3 x4 s1 s2 : Int} (hO : SObj w3 g T (cellsOf .i64 8 l)) (hg : w.grownBy w3 (some g)) (hT : l' = upd (upd l 4 (hld 0 255 (x4 - s1))) 3 (hld 0 255 (x3 + s2))) :
    SObj ((w3.setCell ⟨g, 4, none⟩ (.int .i64 (hld 0 255 (x4 - s1)))).setCell ⟨g, 3, none⟩ (.int .i64 (hld 0 255 (x3 + s2)))).drew g T (cellsOf .i64 8 l') ∧
      w.grownBy ((w3.setCell ⟨g, 4, none⟩ (.int .i64 (hld 0 255 (x4 - s1)))).setCell ⟨g, 3, none⟩ (.int .i64 (hld 0 255 (x3 + s2)))).drew (some g) := by
  refine ⟨SObj.drew ?_, grownBy.trans (grownBy.trans (grownBy.trans hg (grownBy_setCell _ _ _)) (grownBy_setCell _ _ _)) (grownBy_drewN _ 1 _)⟩
  have := (hO.set 4 (.int .i64 (hld 0 255 (x4 - s1)))).set 3 (.int .i64 (hld 0 255 (x3 + s2)))
  rw [cellsOf_set, cellsOf_set, ← hT] at this
  exact this

theorem grownBy_drewR {w w' : World} {row : Option Nat} (h : w.grownBy w' row) (d : Nat) : w.grownBy (w'.drewN d) row := grownBy.trans h (grownBy_drewN _ _ _)

set_option maxRecDepth 100000 in
set_option maxHeartbeats 4000000 in
theorem common_any (g : Nat) (l : Nat → Int) (outer : Bool) (w : World) (hl : In8 l) (hO : SObj w g 70 (cellsOf .i64 8 l)) :
    Calls Tryd.prog 64 #[.pointer (some ⟨g, 0, none⟩), .bool outer] w fun e w' => e = .returned (.int .i64 (st1 l outer)) ∧ SObj w' g 70 (cellsOf .i64 8 (two l outer)) ∧ w.grownBy w' (some g) := by
  obtain ⟨p0, p1⟩ := hl 2 (by decide)
  obtain ⟨p2, p3⟩ := hl 3 (by decide)
  obtain ⟨p4, p5⟩ := hl 4 (by decide)
  obtain ⟨p6, p7⟩ := hl 5 (by decide)
  have c2 := hO.cell 2 (v := .int .i64 (l 2)) rfl
  have c3 := hO.cell 3 (v := .int .i64 (l 3)) rfl
  have c4 := hO.cell 4 (v := .int .i64 (l 4)) rfl
  have c5 := hO.cell 5 (v := .int .i64 (l 5)) rfl
  have z3 := hO.free 3
  have z4 := hO.free 4
  have HA : Hid (stA l outer = (if outer then hld (-128) 127 (l 2 - l 5) else 0) + 3 * (l 4 - l 3)) := Lib.hid rfl
  have H1 : Hid (st1 l outer = hld (-16) 15 ((stA l outer + 4) / 8)) := Lib.hid rfl
  have H2 : Hid (st2 l outer = hld (-16) 15 ((stA l outer + 3) / 8)) := Lib.hid rfl
  have HT : Hid (two l outer = upd (upd l 4 (hld 0 255 (l 4 - st1 l outer))) 3 (hld 0 255 (l 3 + st2 l outer))) := Lib.hid rfl
  have HO := Lib.hid hO; clear hO hl
  generalize st1 l outer = s1 at *
  generalize st2 l outer = s2 at *
  generalize stA l outer = A at *
  generalize two l outer = l' at *
  generalize l 2 = x2 at *
  generalize l 3 = x3 at *
  generalize l 4 = x4 at *
  generalize l 5 = x5 at *
  obtain ⟨q0, q1⟩ := hld_range (lo := -128) (hi := 127) (by decide) (x2 - x5)
  cases outer with
  | true =>
    have HA' : Hid (A = hld (-128) 127 (x2 - x5) + 3 * (x4 - x3)) := Lib.hid (HA.out.trans (by simp))
    go_enter Tryd.func64, Tryd.ntmps64
    go_wp2_with fail
    go_quiet ((go_at_call 67; exact quiet_same' (short_any _ _)))
    generalize hld (-128) 127 (x2 - x5) = S at *
    generalize hw2 : World.drewN w _ = w2
    have HO : Hid (SObj w2 g 70 (cellsOf .i64 8 l) ∧ w.grownBy w2 (some g)) := Lib.hid (by rw [← hw2]; exact ⟨HO.out, grownBy_drewN _ _ _⟩)
    have c3 : w2.cell? ⟨g, 3, none⟩ = some (.int .i64 x3) := by rw [← hw2]; exact c3
    have c4 : w2.cell? ⟨g, 4, none⟩ = some (.int .i64 x4) := by rw [← hw2]; exact c4
    have z3 : w2.frozen? ⟨g, 3, none⟩ = false := by rw [← hw2]; exact z3
    have z4 : w2.frozen? ⟨g, 4, none⟩ = false := by rw [← hw2]; exact z4
    clear hw2
    go_wp2_with fail
    go_quiet ((go_at_call 67; exact quiet_same' (short_any _ _)))
    obtain ⟨A0, A1⟩ := hld_range (lo := -128) (hi := 127) (by decide) (S + 3 * (x4 - x3))
    obtain ⟨r0, r1⟩ := hld_range (lo := -128) (hi := 127) (by decide) (hld (-128) 127 (S + 3 * (x4 - x3)) + 3)
    obtain ⟨t0, t1⟩ := hld_range (lo := -128) (hi := 127) (by decide) (hld (-128) 127 (S + 3 * (x4 - x3)) + 4)
    have HS1 : Hid (hld (-128) 127 (hld (-128) 127 (S + 3 * (x4 - x3)) + 4) / 8 = s1) := Lib.hid (by rw [H1.out, HA'.out, step_a1])
    have HS2 : Hid (hld (-128) 127 (hld (-128) 127 (S + 3 * (x4 - x3)) + 3) / 8 = s2) := Lib.hid (by rw [H2.out, HA'.out, step_a2])
    have HS0 : Hid (-17 ≤ s1 ∧ s1 ≤ 17 ∧ -17 ≤ s2 ∧ s2 ≤ 17) := Lib.hid (by rw [← HS1.out, ← HS2.out]; omega)
    obtain ⟨u0, u1, u2, u3⟩ := HS0.out
    generalize hld (-128) 127 (S + 3 * (x4 - x3)) = B at *
    generalize hw3 : World.drewN w2 _ = w3
    have HO3 : Hid (SObj w3 g 70 (cellsOf .i64 8 l) ∧ w.grownBy w3 (some g)) := Lib.hid (by rw [← hw3]; exact ⟨HO.out.1, grownBy_drewR HO.out.2 _⟩)
    have c3 : w3.cell? ⟨g, 3, none⟩ = some (.int .i64 x3) := by rw [← hw3]; exact c3
    have c4 : w3.cell? ⟨g, 4, none⟩ = some (.int .i64 x4) := by rw [← hw3]; exact c4
    have z3 : w3.frozen? ⟨g, 3, none⟩ = false := by rw [← hw3]; exact z3
    have z4 : w3.frozen? ⟨g, 4, none⟩ = false := by rw [← hw3]; exact z4
    clear hw3 HO
    go_wp2_with fail
    refine (short_any (B + 3) _).mono ?_
    rintro _ _ ⟨rfl, rfl⟩
    go_wp2_with fail
    refine (short_any (B + 4) _).mono ?_
    rintro _ _ ⟨rfl, rfl⟩
    go_wp2_with fail
    rw [HS1.out, HS2.out]
    have v1 : IntKind.i64.wrap (-s2) = -s2 := by rw [IntKind.wrap_i64]; omega
    go_region_with (first | (go_at_call 68; refine (moved_any _ _ _ (by omega) (by omega) (by omega) (by omega)).mono ?_; rintro e w' ⟨rfl, rfl⟩))
    all_goals
      go_wp2
      go_ret
      exact ⟨rfl, common_end HO3.out.1 HO3.out.2 HT.out⟩
  | false =>
    have HA' : Hid (A = 3 * (x4 - x3)) := Lib.hid (HA.out.trans (by simp))
    go_enter Tryd.func64, Tryd.ntmps64
    go_wp2_with fail
    go_quiet ((go_at_call 67; exact quiet_same' (short_any _ _)))
    obtain ⟨A0, A1⟩ := hld_range (lo := -128) (hi := 127) (by decide) (3 * (x4 - x3))
    obtain ⟨r0, r1⟩ := hld_range (lo := -128) (hi := 127) (by decide) (hld (-128) 127 (3 * (x4 - x3)) + 3)
    obtain ⟨t0, t1⟩ := hld_range (lo := -128) (hi := 127) (by decide) (hld (-128) 127 (3 * (x4 - x3)) + 4)
    have HS1 : Hid (hld (-128) 127 (hld (-128) 127 (3 * (x4 - x3)) + 4) / 8 = s1) := Lib.hid (by rw [H1.out, HA'.out, step_a1])
    have HS2 : Hid (hld (-128) 127 (hld (-128) 127 (3 * (x4 - x3)) + 3) / 8 = s2) := Lib.hid (by rw [H2.out, HA'.out, step_a2])
    have HS0 : Hid (-17 ≤ s1 ∧ s1 ≤ 17 ∧ -17 ≤ s2 ∧ s2 ≤ 17) := Lib.hid (by rw [← HS1.out, ← HS2.out]; omega)
    obtain ⟨u0, u1, u2, u3⟩ := HS0.out
    generalize hld (-128) 127 (3 * (x4 - x3)) = B at *
    generalize hw3 : World.drewN w _ = w3
    have HO3 : Hid (SObj w3 g 70 (cellsOf .i64 8 l) ∧ w.grownBy w3 (some g)) := Lib.hid (by rw [← hw3]; exact ⟨HO.out, grownBy_drewN _ _ _⟩)
    have c3 : w3.cell? ⟨g, 3, none⟩ = some (.int .i64 x3) := by rw [← hw3]; exact c3
    have c4 : w3.cell? ⟨g, 4, none⟩ = some (.int .i64 x4) := by rw [← hw3]; exact c4
    have z3 : w3.frozen? ⟨g, 3, none⟩ = false := by rw [← hw3]; exact z3
    have z4 : w3.frozen? ⟨g, 4, none⟩ = false := by rw [← hw3]; exact z4
    clear hw3 HO
    go_wp2_with fail
    refine (short_any (B + 3) _).mono ?_
    rintro _ _ ⟨rfl, rfl⟩
    go_wp2_with fail
    refine (short_any (B + 4) _).mono ?_
    rintro _ _ ⟨rfl, rfl⟩
    go_wp2_with fail
    rw [HS1.out, HS2.out]
    have v1 : IntKind.i64.wrap (-s2) = -s2 := by rw [IntKind.wrap_i64]; omega
    go_region_with (first | (go_at_call 68; refine (moved_any _ _ _ (by omega) (by omega) (by omega) (by omega)).mono ?_; rintro e w' ⟨rfl, rfl⟩))
    all_goals
      go_wp2
      go_ret
      exact ⟨rfl, common_end HO3.out.1 HO3.out.2 HT.out⟩
end Go.Proofs.YtmdijdoaijnpaaaDoor
