/- The reference's functions over a row of eight numbers: isNear, isSmooth, common, normalRow. -/
import Derived.Test.YtmdijdoaijnpaaaDoorFiltL
import Derived.Test.YtmdijdoaijnpaaaDoorObj
import Derived.BigQuiet
import Derived.Deep.QuietTactic
import Derived.StillTailTactics
import Derived.WalkSpells
import Derived.WalkSmall
namespace Go.Proofs.YtmdijdoaijnpaaaDoor
open Go.RowKit
set_option linter.unusedVariables false

theorem quiet_same' {P : Program} {f : FuncId} {args : Array Value} {w : World} {n : Nat} {v : Value}
    (h : Calls P f args (w.drewN n) fun e w' => e = .returned v ∧ w.drewN n = w') : Calls P f args (w.drewN n) fun e w'' => e = .returned v ∧ ∃ m, w'' = w.drewN m :=
  Calls.quiet_of_same (h.mono fun _ _ ⟨a, b⟩ => ⟨a, b.symm⟩)

/-- A row of eight numbers as a value. -/
def row8 (l : Nat → Int) : Array Value := #[.int .i64 (l 0), .int .i64 (l 1), .int .i64 (l 2), .int .i64 (l 3), .int .i64 (l 4), .int .i64 (l 5), .int .i64 (l 6), .int .i64 (l 7)]
theorem row8_cells (l : Nat → Int) : (row8 l).toList = cellsOf .i64 8 l := rfl

set_option maxRecDepth 100000 in
set_option maxHeartbeats 400000 in
theorem isNear_any (l : Nat → Int) (most : Int) (w : World) (hl : In8 l) :
    Calls Tryd.prog 63 #[.agg (row8 l), .int .i64 most] w fun e w' => e = .returned (.bool (isNr l most)) ∧ Below w.heap.size w w' := by
  obtain ⟨p0, p1⟩ := hl 2 (by decide)
  obtain ⟨p2, p3⟩ := hl 3 (by decide)
  obtain ⟨p4, p5⟩ := hl 4 (by decide)
  obtain ⟨p6, p7⟩ := hl 5 (by decide)
  obtain ⟨a0, a1⟩ := dst_range (l 3) (l 4) p2 p3 p4 p5
  obtain ⟨b0, b1⟩ := dst_range (l 2) (l 5) p0 p1 p6 p7
  clear hl
  unfold row8 isNr
  generalize l 0 = x0 at *
  generalize l 1 = x1 at *
  generalize l 2 = x2 at *
  generalize l 3 = x3 at *
  generalize l 4 = x4 at *
  generalize l 5 = x5 at *
  generalize l 6 = x6 at *
  generalize l 7 = x7 at *
  go_enter Tryd.func63, Tryd.ntmps63
  go_wp2_with fail
  go_quiet ((go_at_call 66; exact quiet_same' (distance_any _ _ _ (by omega) (by omega) (by omega) (by omega))))
  go_wp2
  go_ret
  exact ⟨rfl, below_drewN ((Below.refl _ _).alloc (Nat.le_refl _) _) _⟩
theorem isSm_of {l : Nat → Int} {near : Int} (h : ∀ j, j < 7 → j ≠ 3 → dst (l j) (l (j + 1)) ≤ near) : isSm l near = true :=
  decide_eq_true ⟨h 0 (by decide) (by decide), h 1 (by decide) (by decide), h 2 (by decide) (by decide), h 4 (by decide) (by decide), h 5 (by decide) (by decide), h 6 (by decide) (by decide)⟩
theorem isSm_not {l : Nat → Int} {near : Int} (p : Nat) (hp : p < 7) (h3 : p ≠ 3) (h : near < dst (l p) (l (p + 1))) : isSm l near = false := by
  refine decide_eq_false fun ⟨h0, h1, h2, h4, h5, h6⟩ => ?_
  obtain rfl | rfl | rfl | rfl | rfl | rfl : p = 0 ∨ p = 1 ∨ p = 2 ∨ p = 4 ∨ p = 5 ∨ p = 6 := by omega
  · exact Int.not_lt.2 h0 h
  · exact Int.not_lt.2 h1 h
  · exact Int.not_lt.2 h2 h
  · exact Int.not_lt.2 h4 h
  · exact Int.not_lt.2 h5 h
  · exact Int.not_lt.2 h6 h

set_option maxRecDepth 100000 in
set_option maxHeartbeats 800000 in
theorem isSmooth_any (l : Nat → Int) (near : Int) (w : World) (hl : In8 l) :
    Calls Tryd.prog 65 #[.agg (row8 l), .int .i64 near] w fun e w' => e = .returned (.bool (isSm l near)) ∧ Below w.heap.size w w' := by
  have HO : Hid (SObj (w.alloc (.cells (row8 l) 70)) w.heap.size 70 (cellsOf .i64 8 l)) := Lib.hid (obj_new w 70 (cellsOf .i64 8 l))
  have HL := Lib.hid hl; clear hl
  generalize row8 l = rl at *
  go_enter Tryd.func65, Tryd.ntmps65
  go_wp2_with fail
  go_loopw [5] (fun i wr => ∃ p : Nat, p ≤ 7 ∧ i = .int .i64 p ∧ Hid (SObj wr w.heap.size 70 (cellsOf .i64 8 l) ∧ Below w.heap.size w wr ∧ ∀ j, j < p → j ≠ 3 → dst (l j) (l (j + 1)) ≤ near)) (fun i _ => 7 - (intOf i).toNat)
  case atStart => exact ⟨0, by omega, rfl, HO.out, (Below.refl _ _).alloc (Nat.le_refl _) _, fun j hj => absurd hj (by omega)⟩
  case round =>
    obtain ⟨p, hp, rfl, hR⟩ := hrel
    by_cases hlt : p < 7
    · by_cases h3 : p = 3
      · subst h3
        go_wp2
        go_quiet (fail)
        go_wp2
        go_roundw
        case rel => exact ⟨4, by omega, by rfl, hR.out.1.drewN _, below_drewN hR.out.2.1 _, fun j hj hne => hR.out.2.2 j (by omega) hne⟩
        case measure => simp [intOf]
      · have k3 : ((p : Int) != 3) = true := by simp; omega
        have k3' : ((p : Int) == 3) = false := by simp; omega
        have c0 := hR.out.1.cell p (v := .int .i64 (l p)) (by simp [cellsOf, show p < 8 by omega])
        have c1 := hR.out.1.cell (p + 1) (v := .int .i64 (l (p + 1))) (by simp [cellsOf, show p + 1 < 8 by omega])
        obtain ⟨a0, a1⟩ := HL.out p (by omega)
        obtain ⟨b0, b1⟩ := HL.out (p + 1) (by omega)
        have HSM := Lib.hid (isSm_not (l := l) (near := near) p hlt h3)
        obtain ⟨x, hx⟩ : ∃ x, x = l p := ⟨_, rfl⟩
        obtain ⟨y, hy⟩ : ∃ y, y = l (p + 1) := ⟨_, rfl⟩
        have HXY : Hid (dst (l p) (l (p + 1)) = dst x y) := Lib.hid (by rw [hx, hy])
        rw [← hx] at c0 a0 a1
        rw [← hy] at c1 b0 b1
        clear hx hy
        obtain ⟨d0, d1⟩ := dst_range x y a0 a1 b0 b1
        by_cases hd : near < dst x y
        · go_wp2
          go_quiet ((go_at_call 66; exact quiet_same' (distance_any _ _ _ (by omega) (by omega) (by omega) (by omega))))
          go_wp2
          go_ret
          rw [HSM.out (by rw [HXY.out]; exact hd)]
          exact ⟨rfl, below_drewN hR.out.2.1 _⟩
        · go_wp2
          go_quiet ((go_at_call 66; exact quiet_same' (distance_any _ _ _ (by omega) (by omega) (by omega) (by omega))))
          go_wp2
          go_roundw
          case rel => exact ⟨p + 1, by omega, by go_num, hR.out.1.drewN _, below_drewN hR.out.2.1 _, fun j hj hne => by
            by_cases h : j < p
            · exact hR.out.2.2 j h hne
            · obtain rfl : j = p := by omega
              rw [HXY.out]; omega⟩
          case measure => simp [intOf]; omega
    · obtain rfl : p = 7 := by omega
      go_wp2
      go_ret
      rw [isSm_of hR.out.2.2]
      exact ⟨rfl, hR.out.2.1⟩
end Go.Proofs.YtmdijdoaijnpaaaDoor
