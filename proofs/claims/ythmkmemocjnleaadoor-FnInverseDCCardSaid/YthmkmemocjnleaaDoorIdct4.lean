/- The package's inverse transform (inverseDCT4), where only the first coefficient is not nought. -/
import Derived.Test.YthmkmemocjnleaaDoorIdct
import Derived.Test.YthmkmemocjnleaaDoorQuietTail
import Derived.Test.YthmkmemocjnleaaDoorOnly
import Derived.Outline
namespace Go.Proofs.YthmkmemocjnleaaDoor
open Go.RowKit
set_option linter.unusedVariables false

theorem quiet_same {P : Program} {f : FuncId} {args : Array Value} {w : World} {n : Nat} {v : Value}
    (h : Calls P f args (w.drewN n) fun e w' => e = .returned v ∧ w.drewN n = w') : Calls P f args (w.drewN n) fun e w'' => e = .returned v ∧ ∃ m, w'' = w.drewN m :=
  h.mono fun _ _ ⟨he, hm⟩ => ⟨he, n, hm.symm⟩
def cellsM (h : Nat → Int) : List Value := (List.range 16).map fun l => .int .i32 (h l)
theorem cellsM_at (h : Nat → Int) (l : Nat) (hl : l < 16) : (cellsM h)[l]? = some (.int .i32 (h l)) := by simp [cellsM, hl]
theorem cellsM_set (h : Nat → Int) (l : Nat) (x : Int) : (cellsM h).set l (.int .i32 x) = cellsM (upd h l x) := by
  apply List.ext_getElem
  · simp [cellsM]
  · intro i h1 h2
    simp only [cellsM, List.getElem_set, List.getElem_map, List.getElem_range, upd]
    by_cases e : l = i
    · subst e; simp
    · simp [e, show ¬ i = l from fun h => e h.symm]
theorem cellsM_congr {h h' : Nat → Int} (e : ∀ l, l < 16 → h l = h' l) : cellsM h = cellsM h' := by
  simp only [cellsM]
  exact List.map_congr_left fun i hi => by rw [e i (List.mem_range.1 hi)]
/-- The first pass after k rounds. -/
def mF (c : Int) (k l : Nat) : Int := if l < 4 ∧ 1 ≤ k then c else 0
def firstF (c : Int) (k : Nat) : Int := if k = 0 then c else 0
theorem mF_step (c : Int) (k : Nat) (hk : k < 4) : ∀ l, l < 16 → upd (upd (upd (upd (mF c k) (k * 4) (firstF c k)) (k * 4 + 1) (firstF c k)) (k * 4 + 2) (firstF c k)) (k * 4 + 3) (firstF c k) l = mF c (k + 1) l := by
  intro l hl
  unfold upd mF firstF
  by_cases h0 : k = 0
  · subst h0
    simp only [if_pos, Nat.zero_mul, Nat.zero_add]
    by_cases h : l < 4
    · rw [if_pos (show l < 4 ∧ 1 ≤ 1 from ⟨h, Nat.le_refl _⟩)]
      repeat' split
      all_goals first | rfl | omega
    · rw [if_neg (show ¬ (l < 4 ∧ 1 ≤ 1) from fun h' => h h'.1)]
      repeat' split
      all_goals first | rfl | omega
  · rw [if_neg h0]
    by_cases h : l < 4
    · rw [if_pos (show l < 4 ∧ 1 ≤ k + 1 from ⟨h, by omega⟩), if_pos (show l < 4 ∧ 1 ≤ k from ⟨h, by omega⟩), if_neg (by omega), if_neg (by omega), if_neg (by omega), if_neg (by omega)]
    · rw [if_neg (show ¬ (l < 4 ∧ 1 ≤ k + 1) from fun h' => h h'.1), if_neg (show ¬ (l < 4 ∧ 1 ≤ k) from fun h' => h h'.1)]
      repeat' split
      all_goals rfl

/-- What holds in the second pass, m values being done. -/
def Pass (w wr : World) (g gm : Nat) (y : Nat → Int) (c : Int) (m : Nat) : Prop :=
  SObj wr gm 185 (cellsM (mF c 4)) ∧ Ybr wr g (blk4 y (dcV y c) m) ∧ w.grownBy wr (some g)
theorem pass_step {w wr : World} {g gm : Nat} {y : Nat → Int} {c : Int} {p i : Nat} (h : Pass w wr g gm y c (4 * p + i)) (hp : p < 4) (hi : i < 4) (hne : g ≠ gm) (d : Nat) :
    Pass w ((wr.drewN d).setCell ⟨g, 1650 + (1 + p) * 32 + (8 + i), none⟩ (.int .u8 (dcV y c p i))) g gm y c (4 * p + (i + 1)) := by
  rw [adr4]
  refine ⟨(h.1.drewN d).far _ (fun e => hne e.symm) _, ?_, grownBy.trans (grownBy.trans h.2.2 (grownBy_drewN _ d _)) (grownBy_setCell _ _ _)⟩
  exact (Ybr.set (w := wr.drewN d) h.2.1 (32 * (p + 1) + 8 + i) (by omega) _).congr (fun k _ => blk4_step y (dcV y c) p i k hp hi)
theorem pass_drew {w wr : World} {g gm : Nat} {y : Nat → Int} {c : Int} {m : Nat} (h : Pass w wr g gm y c m) (d : Nat) : Pass w (wr.drewN d) g gm y c m :=
  ⟨h.1.drewN d, h.2.1, grownBy.trans h.2.2 (grownBy_drewN _ d _)⟩
theorem grown_of_only {w wr : World} {g gm : Nat} (h : Only (fun k => k = gm) w wr) (hg : w.heap.size ≤ gm) : w.grownBy wr (some g) :=
  ⟨h.os, h.tape, h.output, h.size, fun k hk _ => h.block k hk (by omega)⟩
theorem pass_cell {w wr : World} {g gm : Nat} {y : Nat → Int} {c : Int} {p i : Nat} (h : Pass w wr g gm y c (4 * p + i)) (hp : p < 4) (hi : i < 4) :
    wr.cell? ⟨g, 1650 + (1 + p) * 32 + (8 + i), none⟩ = some (.int .u8 (y (32 * (p + 1) + 8 + i))) ∧ wr.frozen? ⟨g, 1650 + (1 + p) * 32 + (8 + i), none⟩ = false := by
  rw [adr4]
  refine ⟨?_, h.2.1.2 _ (by omega)⟩
  rw [h.2.1.1 _ (by omega), blk4_next y _ p i hp hi]

set_option maxRecDepth 100000 in
set_option maxHeartbeats 3000000 in
theorem idct4_any (g : Nat) (y : Nat → Int) (c : Int) (w : World) (hY : Ybr w g y) (hv : ∀ k, 0 ≤ y k ∧ y k ≤ 255) (hC : Cof w g (firstF c)) (h1 : -32768 ≤ c) (h2 : c ≤ 32767) (hg : g < w.heap.size) :
    Calls Tryd.prog 70 #[.pointer (some ⟨g, 0, none⟩), .int .i64 1, .int .i64 8, .int .i64 0] w fun e w' => e = .returned (.tuple #[]) ∧ Ybr w' g (blk4 y (dcV y c) 16) ∧ w.grownBy w' (some g) := by
  have HY := Lib.hid (And.intro hY (And.intro hv hC))
  clear hY hv hC
  go_enter Tryd.func70, Tryd.ntmps70
  go_wp2
  obtain ⟨gm, hgm⟩ : ∃ gm, gm = w.heap.size := ⟨_, rfl⟩
  obtain ⟨w1, hw1⟩ : ∃ w1, w1 = w.alloc (.cells #[.int .i32 0, .int .i32 0, .int .i32 0, .int .i32 0, .int .i32 0, .int .i32 0, .int .i32 0, .int .i32 0, .int .i32 0, .int .i32 0, .int .i32 0, .int .i32 0, .int .i32 0, .int .i32 0, .int .i32 0, .int .i32 0] 185) := ⟨_, rfl⟩
  have hne : g ≠ gm := by omega
  have H1 : Hid (SObj w1 gm 185 (cellsM (mF c 0)) ∧ Only (fun k => k = gm) w w1 ∧ g < w.heap.size ∧ g ≠ gm ∧ w.heap.size ≤ gm) := by
    rw [hw1, hgm]
    refine Lib.hid ⟨?_, Only.alloc _ _ _, hg, by omega, Nat.le_refl _⟩
    rw [cellsM_congr (h' := fun _ => 0) (fun l _ => by unfold mF; rw [if_neg (by omega)])]
    exact obj_new w 185 (cellsM (fun _ => 0))
  rw [← hw1, ← hgm]
  clear hw1 hgm hne hg
  go_loopw [3, 9] (fun b i wr => ∃ k : Nat, k ≤ 4 ∧ i = .int .i64 k ∧ b = .int .i64 k ∧ Hid (SObj wr gm 185 (cellsM (mF c k)) ∧ Only (fun k => k = gm) w wr)) (fun _ i _ => 4 - (intOf i).toNat)
  case atStart => exact ⟨0, by omega, rfl, rfl, H1.out.1, H1.out.2.1⟩
  case round =>
    obtain ⟨k, hk, rfl, rfl, hR⟩ := hrel
    by_cases hlt : k < 4
    · have HC : Hid (Cof wr g (firstF c)) := Lib.hid ⟨HY.out.2.2.1.only hR.out.2 H1.out.2.2.1 H1.out.2.2.2.1, fun i hi => by
        rw [World.frozen?_of_block (w := w) (hR.out.2.block g H1.out.2.2.1 H1.out.2.2.2.1)]; exact HY.out.2.2.2 i hi⟩
      have c0 : wr.cell? ⟨g, 1250 + k, none⟩ = some (.int .i16 (firstF c k)) := HC.out.1 k (by omega)
      have c4 : wr.cell? ⟨g, 1250 + (k + 4), none⟩ = some (.int .i16 0) := by rw [HC.out.1 (k + 4) (by omega)]; unfold firstF; rw [if_neg (by omega)]
      have c8 : wr.cell? ⟨g, 1250 + (k + 8), none⟩ = some (.int .i16 0) := by rw [HC.out.1 (k + 8) (by omega)]; unfold firstF; rw [if_neg (by omega)]
      have c12 : wr.cell? ⟨g, 1250 + (k + 12), none⟩ = some (.int .i16 0) := by rw [HC.out.1 (k + 12) (by omega)]; unfold firstF; rw [if_neg (by omega)]
      have u1 : -32768 ≤ firstF c k ∧ firstF c k ≤ 32767 := by unfold firstF; split <;> omega
      obtain ⟨u, hu⟩ : ∃ u, u = firstF c k := ⟨_, rfl⟩
      rw [← hu] at c0 u1
      have HU := Lib.hid hu; clear hu
      obtain ⟨u1, u2⟩ := u1
      have t4 : ((k : Int) + 4).toNat = k + 4 := by omega
      have t8 : ((k : Int) + 8).toNat = k + 8 := by omega
      have t12 : ((k : Int) + 12).toNat = k + 12 := by omega
      have n4 : (0 : Int) ≤ (k : Int) + 4 := by omega
      have n8 : (0 : Int) ≤ (k : Int) + 8 := by omega
      have n12 : (0 : Int) ≤ (k : Int) + 12 := by omega
      have l4 : (k : Int) + 4 < 400 := by omega
      have l8 : (k : Int) + 8 < 400 := by omega
      have l12 : (k : Int) + 12 < 400 := by omega
      have l0 : (k : Int) < 400 := by omega
      have HW : Hid (IntKind.i64.wrap ((k : Int) + 4) = (k : Int) + 4 ∧ IntKind.i64.wrap ((k : Int) + 8) = (k : Int) + 8 ∧ IntKind.i64.wrap ((k : Int) + 12) = (k : Int) + 12 ∧ IntKind.i64.wrap (k : Int) = (k : Int) ∧ IntKind.i32.wrap u = u) := Lib.hid ⟨IntWalk.i64_in _ (by omega), IntWalk.i64_in _ (by omega), IntWalk.i64_in _ (by omega), IntWalk.i64_in _ (by omega), IntWalk.i32_in _ (by omega)⟩
      obtain ⟨x1, x2, x3, x4, x5⟩ := HW.out
      go_wp2
      go_quiet (fail)
      go_wp2
      go_quiet (fail)
      go_wp2
      go_quiet (fail)
      go_wp2
      go_quiet (fail)
      clear x1 x2 x3 x4 x5 t4 t8 t12 n4 n8 n12 l4 l8 l12 l0 c0 c4 c8 c12
      have d0 : wr.cell? ⟨gm, k * 4, none⟩ = some (.int .i32 (mF c k (k * 4))) := hR.out.1.cell (k * 4) (cellsM_at _ _ (by omega))
      have d1 : wr.cell? ⟨gm, k * 4 + 1, none⟩ = some (.int .i32 (mF c k (k * 4 + 1))) := hR.out.1.cell (k * 4 + 1) (cellsM_at _ _ (by omega))
      have d2 : wr.cell? ⟨gm, k * 4 + 2, none⟩ = some (.int .i32 (mF c k (k * 4 + 2))) := hR.out.1.cell (k * 4 + 2) (cellsM_at _ _ (by omega))
      have d3 : wr.cell? ⟨gm, k * 4 + 3, none⟩ = some (.int .i32 (mF c k (k * 4 + 3))) := hR.out.1.cell (k * 4 + 3) (cellsM_at _ _ (by omega))
      have z0 := hR.out.1.free (k * 4)
      have z1 := hR.out.1.free (k * 4 + 1)
      have z2 := hR.out.1.free (k * 4 + 2)
      have z3 := hR.out.1.free (k * 4 + 3)
      generalize mF c k (k * 4) = o0 at d0
      generalize mF c k (k * 4 + 1) = o1 at d1
      generalize mF c k (k * 4 + 2) = o2 at d2
      generalize mF c k (k * 4 + 3) = o3 at d3
      go_wp2
      go_roundw
      case rel =>
        refine ⟨k + 1, by omega, by go_num, by go_num, Lib.hid ⟨?_, ?_⟩⟩
        · have := ((((hR.out.1.drewN 0).set (k * 4) (.int .i32 u)).set (k * 4 + 1) (.int .i32 u)).set (k * 4 + 2) (.int .i32 u)).set (k * 4 + 3) (.int .i32 u)
          rw [cellsM_set, cellsM_set, cellsM_set, cellsM_set, HU.out, cellsM_congr (mF_step c k hlt), ← HU.out] at this
          exact this
        · exact ((((hR.out.2.dN _).tr (Only.setCell (S := fun k => k = gm) _ _ _ rfl)).tr (Only.setCell _ _ _ rfl)).tr (Only.setCell _ _ _ rfl)).tr (Only.setCell _ _ _ rfl)
      case measure => simp [intOf]; omega
    · obtain rfl : k = 4 := by omega
      have HP : Hid (Pass w wr g gm y c (4 * 0)) := Lib.hid ⟨hR.out.1, ⟨⟨HY.out.1.1.only hR.out.2 H1.out.2.2.1 H1.out.2.2.2.1, fun i hi => by
        rw [World.frozen?_of_block (w := w) (hR.out.2.block g H1.out.2.2.1 H1.out.2.2.2.1)]; exact HY.out.1.2 i hi⟩ |> (fun h => Ybr.congr h (fun i _ => (blk4_zero _ _ i).symm)), grown_of_only hR.out.2 H1.out.2.2.2.2⟩⟩
      clear hR
      go_wp2
      go_loopw [14] (fun i wr => ∃ q : Nat, q ≤ 4 ∧ i = .int .i64 q ∧ Hid (Pass w wr g gm y c (4 * q))) (fun i _ => 4 - (intOf i).toNat)
      case atStart => exact ⟨0, by omega, rfl, HP⟩
      case round =>
        obtain ⟨q, hq, rfl, hR⟩ := hrel
        by_cases hlt2 : q < 4
        · have e0 : wr.cell? ⟨gm, q, none⟩ = some (.int .i32 c) := by rw [hR.out.1.cell q (cellsM_at _ _ (by omega))]; unfold mF; rw [if_pos (by omega)]
          have e4 : wr.cell? ⟨gm, 4 + q, none⟩ = some (.int .i32 0) := by rw [hR.out.1.cell (4 + q) (cellsM_at _ _ (by omega))]; unfold mF; rw [if_neg (by omega)]
          have e8 : wr.cell? ⟨gm, 8 + q, none⟩ = some (.int .i32 0) := by rw [hR.out.1.cell (8 + q) (cellsM_at _ _ (by omega))]; unfold mF; rw [if_neg (by omega)]
          have e12 : wr.cell? ⟨gm, 12 + q, none⟩ = some (.int .i32 0) := by rw [hR.out.1.cell (12 + q) (cellsM_at _ _ (by omega))]; unfold mF; rw [if_neg (by omega)]
          go_wp2
          go_quiet (fail)
          go_wp2
          go_quiet (fail)
          clear e0 e4 e8 e12
          have hgm : g ≠ gm := H1.out.2.2.2.1
          have HNE := Lib.hid hgm; clear hgm
          go_wp2
          generalize hw0 : World.drewN _ _ = wa0
          have HP0 : Hid (Pass w wa0 g gm y c (4 * q + 0)) := by rw [← hw0]; exact Lib.hid (pass_drew (pass_drew hR.out _) _)
          clear hw0 hR
          have s0 : IntKind.i64.wrap (1 + (q : Int)) = 1 + (q : Int) := IntWalk.i64_in _ (by omega)
          have s1 : IntKind.i32.wrap (c + 4) = c + 4 := IntWalk.i32_in _ (by omega)
          have HS := Lib.hid (And.intro s0 s1); clear s0 s1
          have q3 : (1 + (q : Int)).toNat = 1 + q := by omega
          have q6 : (0 : Int) ≤ 1 + (q : Int) := by omega
          have q7 : 1 + (q : Int) < 26 := by omega
          have d0 : wa0.cell? ⟨g, 1650 + (1 + q) * 32 + 8, none⟩ = some (.int .u8 (y (32 * (q + 1) + 8 + 0))) := (pass_cell (i := 0) HP0.out hlt2 (by omega)).1
          have z0 : wa0.frozen? ⟨g, 1650 + (1 + q) * 32 + 8, none⟩ = false := (pass_cell (i := 0) HP0.out hlt2 (by omega)).2
          obtain ⟨yl, yh⟩ := HY.out.2.1 (32 * (q + 1) + 8 + 0)
          obtain ⟨yt, hyt⟩ : ∃ yt, yt = y (32 * (q + 1) + 8 + 0) := ⟨_, rfl⟩
          rw [← hyt] at d0 yl yh
          have HD : Hid (clp (yt + (c + 4) / 8) = dcV y c q 0) := Lib.hid (by unfold dcV; rw [hyt])
          clear hyt
          obtain ⟨r1, r2⟩ : IntKind.i32.wrap yt = yt ∧ IntKind.i32.wrap (yt + (c + 4) / 8) = yt + (c + 4) / 8 := ⟨IntWalk.i32_in _ (by omega), IntWalk.i32_in _ (by omega)⟩
          obtain ⟨s0, s1⟩ := HS.out
          refine wp_region_quiet_tail 28 (by kernel_rfl) (by kernel_rfl) ?_
          simp only [List.take_succ_cons, List.take_zero, List.drop_succ_cons, List.drop_zero]
          repeat (go_big_quiet_step ((go_at_call 76; exact quiet_same (clip8_any _ _ (by clear r1 r2 s0 s1; omega) (by clear r1 r2 s0 s1; omega)))))
          clear r1 r2 s0 s1
          refine wpQuiet_nil ?_
          intro wq hwq
          obtain ⟨nr0, rfl⟩ := hwq
          rw [HD.out]
          go_wp2
          have HP1 := Lib.hid (pass_step (i := 0) HP0.out hlt2 (by omega) HNE.out nr0)
          generalize hb0 : World.setCell _ _ _ = wa1 at HP1 ⊢
          clear hb0 HD d0 z0 yl yh HP0
          have d1 : wa1.cell? ⟨g, 1650 + (1 + q) * 32 + 9, none⟩ = some (.int .u8 (y (32 * (q + 1) + 8 + 1))) := (pass_cell (i := 1) HP1.out hlt2 (by omega)).1
          have z1 : wa1.frozen? ⟨g, 1650 + (1 + q) * 32 + 9, none⟩ = false := (pass_cell (i := 1) HP1.out hlt2 (by omega)).2
          obtain ⟨yl, yh⟩ := HY.out.2.1 (32 * (q + 1) + 8 + 1)
          obtain ⟨yt, hyt⟩ : ∃ yt, yt = y (32 * (q + 1) + 8 + 1) := ⟨_, rfl⟩
          rw [← hyt] at d1 yl yh
          have HD : Hid (clp (yt + (c + 4) / 8) = dcV y c q 1) := Lib.hid (by unfold dcV; rw [hyt])
          clear hyt
          obtain ⟨r1, r2⟩ : IntKind.i32.wrap yt = yt ∧ IntKind.i32.wrap (yt + (c + 4) / 8) = yt + (c + 4) / 8 := ⟨IntWalk.i32_in _ (by omega), IntWalk.i32_in _ (by omega)⟩
          obtain ⟨s0, s1⟩ := HS.out
          refine wp_region_quiet_tail 28 (by kernel_rfl) (by kernel_rfl) ?_
          simp only [List.take_succ_cons, List.take_zero, List.drop_succ_cons, List.drop_zero]
          repeat (go_big_quiet_step ((go_at_call 76; exact quiet_same (clip8_any _ _ (by clear r1 r2 s0 s1; omega) (by clear r1 r2 s0 s1; omega)))))
          clear r1 r2 s0 s1
          refine wpQuiet_nil ?_
          intro wq hwq
          obtain ⟨nr1, rfl⟩ := hwq
          rw [HD.out]
          go_wp2
          have HP2 := Lib.hid (pass_step (i := 1) HP1.out hlt2 (by omega) HNE.out nr1)
          generalize hb1 : World.setCell _ _ _ = wa2 at HP2 ⊢
          clear hb1 HD d1 z1 yl yh HP1
          have d2 : wa2.cell? ⟨g, 1650 + (1 + q) * 32 + 10, none⟩ = some (.int .u8 (y (32 * (q + 1) + 8 + 2))) := (pass_cell (i := 2) HP2.out hlt2 (by omega)).1
          have z2 : wa2.frozen? ⟨g, 1650 + (1 + q) * 32 + 10, none⟩ = false := (pass_cell (i := 2) HP2.out hlt2 (by omega)).2
          obtain ⟨yl, yh⟩ := HY.out.2.1 (32 * (q + 1) + 8 + 2)
          obtain ⟨yt, hyt⟩ : ∃ yt, yt = y (32 * (q + 1) + 8 + 2) := ⟨_, rfl⟩
          rw [← hyt] at d2 yl yh
          have HD : Hid (clp (yt + (c + 4) / 8) = dcV y c q 2) := Lib.hid (by unfold dcV; rw [hyt])
          clear hyt
          obtain ⟨r1, r2⟩ : IntKind.i32.wrap yt = yt ∧ IntKind.i32.wrap (yt + (c + 4) / 8) = yt + (c + 4) / 8 := ⟨IntWalk.i32_in _ (by omega), IntWalk.i32_in _ (by omega)⟩
          obtain ⟨s0, s1⟩ := HS.out
          refine wp_region_quiet_tail 28 (by kernel_rfl) (by kernel_rfl) ?_
          simp only [List.take_succ_cons, List.take_zero, List.drop_succ_cons, List.drop_zero]
          repeat (go_big_quiet_step ((go_at_call 76; exact quiet_same (clip8_any _ _ (by clear r1 r2 s0 s1; omega) (by clear r1 r2 s0 s1; omega)))))
          clear r1 r2 s0 s1
          refine wpQuiet_nil ?_
          intro wq hwq
          obtain ⟨nr2, rfl⟩ := hwq
          rw [HD.out]
          go_wp2
          have HP3 := Lib.hid (pass_step (i := 2) HP2.out hlt2 (by omega) HNE.out nr2)
          generalize hb2 : World.setCell _ _ _ = wa3 at HP3 ⊢
          clear hb2 HD d2 z2 yl yh HP2
          have d3 : wa3.cell? ⟨g, 1650 + (1 + q) * 32 + 11, none⟩ = some (.int .u8 (y (32 * (q + 1) + 8 + 3))) := (pass_cell (i := 3) HP3.out hlt2 (by omega)).1
          have z3 : wa3.frozen? ⟨g, 1650 + (1 + q) * 32 + 11, none⟩ = false := (pass_cell (i := 3) HP3.out hlt2 (by omega)).2
          obtain ⟨yl, yh⟩ := HY.out.2.1 (32 * (q + 1) + 8 + 3)
          obtain ⟨yt, hyt⟩ : ∃ yt, yt = y (32 * (q + 1) + 8 + 3) := ⟨_, rfl⟩
          rw [← hyt] at d3 yl yh
          have HD : Hid (clp (yt + (c + 4) / 8) = dcV y c q 3) := Lib.hid (by unfold dcV; rw [hyt])
          clear hyt
          obtain ⟨r1, r2⟩ : IntKind.i32.wrap yt = yt ∧ IntKind.i32.wrap (yt + (c + 4) / 8) = yt + (c + 4) / 8 := ⟨IntWalk.i32_in _ (by omega), IntWalk.i32_in _ (by omega)⟩
          obtain ⟨s0, s1⟩ := HS.out
          refine wp_region_quiet_tail 28 (by kernel_rfl) (by kernel_rfl) ?_
          simp only [List.take_succ_cons, List.take_zero, List.drop_succ_cons, List.drop_zero]
          repeat (go_big_quiet_step ((go_at_call 76; exact quiet_same (clip8_any _ _ (by clear r1 r2 s0 s1; omega) (by clear r1 r2 s0 s1; omega)))))
          clear r1 r2 s0 s1
          refine wpQuiet_nil ?_
          intro wq hwq
          obtain ⟨nr3, rfl⟩ := hwq
          rw [HD.out]
          go_wp2
          have HP4 := Lib.hid (pass_step (i := 3) HP3.out hlt2 (by omega) HNE.out nr3)
          generalize hb3 : World.setCell _ _ _ = wa4 at HP4 ⊢
          clear hb3 HD d3 z3 yl yh HP3
          go_roundw
          case rel => exact ⟨q + 1, by omega, by go_num, HP4⟩
          case measure => simp [intOf]; omega
        · obtain rfl : q = 4 := by omega
          go_wp2
          go_end0
          exact ⟨rfl, hR.out.2.1, hR.out.2.2⟩
end Go.Proofs.YthmkmemocjnleaaDoor
