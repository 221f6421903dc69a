/- The reference's function normalRow, a theorem a way (printed by wip/gen_filtn.py). -/
import Derived.Test.YtmdijdoaijnpaaaDoorFiltC
import Derived.Laws.CopyOwn
namespace Go.Proofs.YtmdijdoaijnpaaaDoor
open Go.RowKit
set_option linter.unusedVariables false

/-- The cells of a row of eight. -/
theorem cells8 {w : World} {g : Nat} {T : TypeId} {l : Nat → Int} (h : SObj w g T (cellsOf .i64 8 l)) :
    w.cell? ⟨g, 0, none⟩ = some (.int .i64 (l 0)) ∧ w.cell? ⟨g, 1, none⟩ = some (.int .i64 (l 1)) ∧ w.cell? ⟨g, 2, none⟩ = some (.int .i64 (l 2)) ∧ w.cell? ⟨g, 3, none⟩ = some (.int .i64 (l 3)) ∧ w.cell? ⟨g, 4, none⟩ = some (.int .i64 (l 4)) ∧ w.cell? ⟨g, 5, none⟩ = some (.int .i64 (l 5)) ∧ w.cell? ⟨g, 6, none⟩ = some (.int .i64 (l 6)) ∧ w.cell? ⟨g, 7, none⟩ = some (.int .i64 (l 7)) :=
  ⟨h.cell 0 rfl, h.cell 1 rfl, h.cell 2 rfl, h.cell 3 rfl, h.cell 4 rfl, h.cell 5 rfl, h.cell 6 rfl, h.cell 7 rfl⟩
theorem frees8 {w : World} {g : Nat} {T : TypeId} {vs : List Value} (h : SObj w g T vs) :
    w.frozen? ⟨g, 0, none⟩ = false ∧ w.frozen? ⟨g, 1, none⟩ = false ∧ w.frozen? ⟨g, 2, none⟩ = false ∧ w.frozen? ⟨g, 3, none⟩ = false ∧ w.frozen? ⟨g, 4, none⟩ = false ∧ w.frozen? ⟨g, 5, none⟩ = false ∧ w.frozen? ⟨g, 6, none⟩ = false ∧ w.frozen? ⟨g, 7, none⟩ = false :=
  ⟨h.free 0, h.free 1, h.free 2, h.free 3, h.free 4, h.free 5, h.free 6, h.free 7⟩
/-- Both variables of the call, and the world before. -/
structure NR (w w' : World) (l z : Nat → Int) : Prop where
  own : SObj w' w.heap.size 70 (cellsOf .i64 8 l)
  res : SObj w' (w.heap.size + 1) 70 (cellsOf .i64 8 z)
  bel : Below w.heap.size w w'
  two : w.heap.size + 2 ≤ w'.heap.size
theorem NR.below {w w' w'' : World} {l z : Nat → Int} (h : NR w w' l z) (hb : Below w'.heap.size w' w'') : NR w w'' l z :=
  ⟨h.own.below hb (by have := h.two; omega), h.res.below hb (by have := h.two; omega), h.bel.trans (hb.mono (by have := h.two; omega)), Nat.le_trans h.two hb.size⟩
theorem NR.grown {w w' w'' : World} {l l' z : Nat → Int} (h : NR w w' l z) (hg : w'.grownBy w'' (some w.heap.size)) (ho : SObj w'' w.heap.size 70 (cellsOf .i64 8 l')) : NR w w'' l' z :=
  ⟨ho, h.res.grown hg (by simp), h.bel.trans (below_of_grown hg (by have := h.two; omega) (fun r hr => by cases hr; exact Nat.le_refl _)), Nat.le_trans h.two hg.size⟩
theorem NR.start (w : World) (l : Nat → Int) : NR w ((w.alloc (.cells (row8 l) 70)).alloc (.cells #[.int .i64 0, .int .i64 0, .int .i64 0, .int .i64 0, .int .i64 0, .int .i64 0, .int .i64 0, .int .i64 0] 70)) l (fun _ => 0) := by
  refine ⟨(obj_new w 70 (cellsOf .i64 8 l)).alloc _, ?_, ((Below.refl _ _).alloc (Nat.le_refl _) _).alloc (by simp) _, by simp⟩
  have := obj_new (w.alloc (.cells (row8 l) 70)) 70 (cellsOf .i64 8 (fun _ => 0))
  simp only [World.size_alloc] at this
  exact this
theorem NR.fin {w w' : World} {l z : Nat → Int} (h : NR w w' l z) : SObj ((((((((w'.setCell ⟨w.heap.size + 1, 0, none⟩ (.int .i64 (l 0))).setCell ⟨w.heap.size + 1, 1, none⟩ (.int .i64 (l 1))).setCell ⟨w.heap.size + 1, 2, none⟩ (.int .i64 (l 2))).setCell ⟨w.heap.size + 1, 3, none⟩ (.int .i64 (l 3))).setCell ⟨w.heap.size + 1, 4, none⟩ (.int .i64 (l 4))).setCell ⟨w.heap.size + 1, 5, none⟩ (.int .i64 (l 5))).setCell ⟨w.heap.size + 1, 6, none⟩ (.int .i64 (l 6))).setCell ⟨w.heap.size + 1, 7, none⟩ (.int .i64 (l 7))) (w.heap.size + 1) 70 (cellsOf .i64 8 l) ∧ Below w.heap.size w ((((((((w'.setCell ⟨w.heap.size + 1, 0, none⟩ (.int .i64 (l 0))).setCell ⟨w.heap.size + 1, 1, none⟩ (.int .i64 (l 1))).setCell ⟨w.heap.size + 1, 2, none⟩ (.int .i64 (l 2))).setCell ⟨w.heap.size + 1, 3, none⟩ (.int .i64 (l 3))).setCell ⟨w.heap.size + 1, 4, none⟩ (.int .i64 (l 4))).setCell ⟨w.heap.size + 1, 5, none⟩ (.int .i64 (l 5))).setCell ⟨w.heap.size + 1, 6, none⟩ (.int .i64 (l 6))).setCell ⟨w.heap.size + 1, 7, none⟩ (.int .i64 (l 7))) :=
  ⟨((((((((h.res.set 0 (.int .i64 (l 0))).set 1 (.int .i64 (l 1))).set 2 (.int .i64 (l 2))).set 3 (.int .i64 (l 3))).set 4 (.int .i64 (l 4))).set 5 (.int .i64 (l 5))).set 6 (.int .i64 (l 6))).set 7 (.int .i64 (l 7))), ((((((((h.bel.setCell (by simp) _).setCell (by simp) _).setCell (by simp) _).setCell (by simp) _).setCell (by simp) _).setCell (by simp) _).setCell (by simp) _).setCell (by simp) _)⟩
theorem info8 : (Tryd.prog.info? 70).map (·.size) = some 8 := by kernel_rfl
theorem results_cell {P : Program} {fn : Func} {tmps : Array Value} {w : World} {a : Nat} {t : TypeId} {ad : Addr} {v : Value} (hr : fn.results = #[.cell a t]) (ha : tmps.getD a undef = .pointer (some ad)) (hl : (loadVar t ad).run P w = .ok v w) :
    (results fn tmps).run P w = .ok v w := by
  unfold results
  rw [hr]
  rw [Array.getD_eq_getD_getElem?] at ha
  simp [ha, asAddr, hl]

set_option maxRecDepth 100000 in
set_option maxHeartbeats 4000000 in
theorem nr_A (l : Nat → Int) (most near high : Int) (w : World) (hl : In8 l) (large : Bool) (hn : isNr l most = false) :
    Calls Tryd.prog 44 #[.agg (row8 l), .int .i64 most, .int .i64 near, .int .i64 high, .bool large] w fun e w' => e = .returned (.agg (row8 l)) ∧ Below w.heap.size w w' := by
  have HL := Lib.hid hl
  have HN := Lib.hid (NR.start w l)
  clear hl
  unfold row8 at HN ⊢
  go_enter Tryd.func44, Tryd.ntmps44
  go_wp2_with fail
  generalize World.alloc _ _ = w1 at HN ⊢
  refine (isNear_any l most w1 HL.out).mono ?_
  rintro _ w2 ⟨rfl, hb⟩
  have HN := Lib.hid (HN.out.below hb); clear hb
  rw [hn]
  obtain ⟨c0, c1, c2, c3, c4, c5, c6, c7⟩ := cells8 HN.out.own
  obtain ⟨r0, r1, r2, r3, r4, r5, r6, r7⟩ := cells8 HN.out.res
  obtain ⟨f0, f1, f2, f3, f4, f5, f6, f7⟩ := frees8 HN.out.res
  go_wp2
  have HF := Lib.hid HN.out.fin
  refine bodyPost_ret (v := .agg (cellsOf .i64 8 l).toArray) ?_ rfl ⟨rfl, HF.out.2⟩
  exact results_cell Tryd.results44 rfl (run_loadVar_row (P := Tryd.prog) _ (w.heap.size + 1) 70 70 _ (0, 0) _ HF.out.1 Tryd.underlying70 rfl info8)

set_option maxRecDepth 100000 in
set_option maxHeartbeats 4000000 in
theorem nr_B (l : Nat → Int) (most near high : Int) (w : World) (hl : In8 l) (large : Bool) (hn : isNr l most = true) (hs : isSm l near = false) :
    Calls Tryd.prog 44 #[.agg (row8 l), .int .i64 most, .int .i64 near, .int .i64 high, .bool large] w fun e w' => e = .returned (.agg (row8 l)) ∧ Below w.heap.size w w' := by
  have HL := Lib.hid hl
  have HN := Lib.hid (NR.start w l)
  clear hl
  unfold row8 at HN ⊢
  go_enter Tryd.func44, Tryd.ntmps44
  go_wp2_with fail
  generalize World.alloc _ _ = w1 at HN ⊢
  refine (isNear_any l most w1 HL.out).mono ?_
  rintro _ w2 ⟨rfl, hb⟩
  have HN := Lib.hid (HN.out.below hb); clear hb
  rw [hn]
  obtain ⟨c0, c1, c2, c3, c4, c5, c6, c7⟩ := cells8 HN.out.own
  go_wp2_with fail
  refine (isSmooth_any l near w2 HL.out).mono ?_
  rintro _ w3 ⟨rfl, hb⟩
  have HN := Lib.hid (HN.out.below hb); clear hb
  rw [hs]
  clear c0 c1 c2 c3 c4 c5 c6 c7
  obtain ⟨c0, c1, c2, c3, c4, c5, c6, c7⟩ := cells8 HN.out.own
  obtain ⟨r0, r1, r2, r3, r4, r5, r6, r7⟩ := cells8 HN.out.res
  obtain ⟨f0, f1, f2, f3, f4, f5, f6, f7⟩ := frees8 HN.out.res
  go_wp2
  have HF := Lib.hid HN.out.fin
  refine bodyPost_ret (v := .agg (cellsOf .i64 8 l).toArray) ?_ rfl ⟨rfl, HF.out.2⟩
  exact results_cell Tryd.results44 rfl (run_loadVar_row (P := Tryd.prog) _ (w.heap.size + 1) 70 70 _ (0, 0) _ HF.out.1 Tryd.underlying70 rfl info8)

theorem NR.pair {w w' : World} {l l' z : Nat → Int} {i j : Nat} {x y : Int} (h : NR w w' l z) (hT : l' = upd (upd l i x) j y) :
    NR w ((w'.setCell ⟨w.heap.size, i, none⟩ (.int .i64 x)).setCell ⟨w.heap.size, j, none⟩ (.int .i64 y)).drew l' z := by
  subst hT
  refine ⟨SObj.drew ?_, SObj.drew ((h.res.far _ (by simp) _).far _ (by simp) _), ((h.bel.setCell (by simp) _).setCell (by simp) _).drew, ?_⟩
  · have := (h.own.set i (.int .i64 x)).set j (.int .i64 y)
    rw [cellsOf_set, cellsOf_set] at this
    exact this
  · have e1 := size_setCell w' ⟨w.heap.size, i, none⟩ (.int .i64 x)
    have e2 := size_setCell (w'.setCell ⟨w.heap.size, i, none⟩ (.int .i64 x)) ⟨w.heap.size, j, none⟩ (.int .i64 y)
    have := h.two
    show w.heap.size + 2 ≤ ((w'.setCell ⟨w.heap.size, i, none⟩ (.int .i64 x)).setCell ⟨w.heap.size, j, none⟩ (.int .i64 y)).heap.size
    omega
theorem NR.drewN {w w' : World} {l z : Nat → Int} (h : NR w w' l z) (d : Nat) : NR w (w'.drewN d) l z :=
  ⟨h.own.drewN d, h.res.drewN d, below_drewN h.bel d, h.two⟩
/-- The six-value step, so far. -/
def sixA (l : Nat → Int) : Nat → Int := upd (upd l 4 (hld 0 255 (l 4 - (27 * stW l + 63) / 128))) 3 (hld 0 255 (l 3 + (27 * stW l + 63) / 128))
def sixB (l : Nat → Int) : Nat → Int := upd (upd (sixA l) 5 (hld 0 255 (l 5 - (18 * stW l + 63) / 128))) 2 (hld 0 255 (l 2 + (18 * stW l + 63) / 128))
def sixTo (l : Nat → Int) (p : Nat) : Nat → Int := match p with | 0 => l | 1 => sixA l | 2 => sixB l | _ => six l

set_option maxRecDepth 100000 in
set_option maxHeartbeats 4000000 in
theorem nr_C1t1 (l : Nat → Int) (most near high : Int) (w : World) (hl : In8 l) (hn : isNr l most = true) (hs : isSm l near = true) (k1 : high < dst (l 2) (l 3)) :
    Calls Tryd.prog 44 #[.agg (row8 l), .int .i64 most, .int .i64 near, .int .i64 high, .bool true] w fun e w' => e = .returned (.agg (row8 (two l true))) ∧ Below w.heap.size w w' := by
  have HL := Lib.hid hl
  have HN := Lib.hid (NR.start w l)
  clear hl
  unfold row8 at HN ⊢
  go_enter Tryd.func44, Tryd.ntmps44
  go_wp2_with fail
  generalize World.alloc _ _ = w1 at HN ⊢
  refine (isNear_any l most w1 HL.out).mono ?_
  rintro _ w2 ⟨rfl, hb⟩
  have HN := Lib.hid (HN.out.below hb); clear hb
  rw [hn]
  obtain ⟨c0, c1, c2, c3, c4, c5, c6, c7⟩ := cells8 HN.out.own
  go_wp2_with fail
  refine (isSmooth_any l near w2 HL.out).mono ?_
  rintro _ w3 ⟨rfl, hb⟩
  have HN := Lib.hid (HN.out.below hb); clear hb
  rw [hs]
  clear c0 c1 c2 c3 c4 c5 c6 c7
  obtain ⟨c0, c1, c2, c3, c4, c5, c6, c7⟩ := cells8 HN.out.own
  clear c0 c1 c6 c7
  obtain ⟨g1a, g1b⟩ := HL.out 1 (by decide)
  obtain ⟨g2a, g2b⟩ := HL.out 2 (by decide)
  obtain ⟨g3a, g3b⟩ := HL.out 3 (by decide)
  obtain ⟨g4a, g4b⟩ := HL.out 4 (by decide)
  obtain ⟨g5a, g5b⟩ := HL.out 5 (by decide)
  obtain ⟨g6a, g6b⟩ := HL.out 6 (by decide)
  have k1b : decide (high < dst (l 2) (l 3)) = true := by simpa using k1
  go_wp2_with (first | (go_at_call 66; refine (distance_any _ _ _ (by omega) (by omega) (by omega) (by omega)).mono ?_; rintro e w' ⟨rfl, rfl⟩))
  refine (common_any w.heap.size l true w3 HL.out HN.out.own).mono ?_
  rintro _ w4 ⟨rfl, ho, hg⟩
  have HN := Lib.hid (HN.out.grown hg ho); clear ho hg c2 c3 c4 c5
  obtain ⟨c0, c1, c2, c3, c4, c5, c6, c7⟩ := cells8 HN.out.own
  obtain ⟨r0, r1, r2, r3, r4, r5, r6, r7⟩ := cells8 HN.out.res
  obtain ⟨f0, f1, f2, f3, f4, f5, f6, f7⟩ := frees8 HN.out.res
  go_wp2
  have HF := Lib.hid HN.out.fin
  refine bodyPost_ret (v := .agg (cellsOf .i64 8 (two l true)).toArray) ?_ rfl ⟨rfl, HF.out.2⟩
  exact results_cell Tryd.results44 rfl (run_loadVar_row (P := Tryd.prog) _ (w.heap.size + 1) 70 70 _ (0, 0) _ HF.out.1 Tryd.underlying70 rfl info8)

set_option maxRecDepth 100000 in
set_option maxHeartbeats 4000000 in
theorem nr_C1t2 (l : Nat → Int) (most near high : Int) (w : World) (hl : In8 l) (hn : isNr l most = true) (hs : isSm l near = true) (k1 : ¬ high < dst (l 2) (l 3)) (k2 : high < dst (l 5) (l 4)) :
    Calls Tryd.prog 44 #[.agg (row8 l), .int .i64 most, .int .i64 near, .int .i64 high, .bool true] w fun e w' => e = .returned (.agg (row8 (two l true))) ∧ Below w.heap.size w w' := by
  have HL := Lib.hid hl
  have HN := Lib.hid (NR.start w l)
  clear hl
  unfold row8 at HN ⊢
  go_enter Tryd.func44, Tryd.ntmps44
  go_wp2_with fail
  generalize World.alloc _ _ = w1 at HN ⊢
  refine (isNear_any l most w1 HL.out).mono ?_
  rintro _ w2 ⟨rfl, hb⟩
  have HN := Lib.hid (HN.out.below hb); clear hb
  rw [hn]
  obtain ⟨c0, c1, c2, c3, c4, c5, c6, c7⟩ := cells8 HN.out.own
  go_wp2_with fail
  refine (isSmooth_any l near w2 HL.out).mono ?_
  rintro _ w3 ⟨rfl, hb⟩
  have HN := Lib.hid (HN.out.below hb); clear hb
  rw [hs]
  clear c0 c1 c2 c3 c4 c5 c6 c7
  obtain ⟨c0, c1, c2, c3, c4, c5, c6, c7⟩ := cells8 HN.out.own
  clear c0 c1 c6 c7
  obtain ⟨g1a, g1b⟩ := HL.out 1 (by decide)
  obtain ⟨g2a, g2b⟩ := HL.out 2 (by decide)
  obtain ⟨g3a, g3b⟩ := HL.out 3 (by decide)
  obtain ⟨g4a, g4b⟩ := HL.out 4 (by decide)
  obtain ⟨g5a, g5b⟩ := HL.out 5 (by decide)
  obtain ⟨g6a, g6b⟩ := HL.out 6 (by decide)
  have k1b : decide (high < dst (l 2) (l 3)) = false := by simpa using k1
  have k2b : decide (high < dst (l 5) (l 4)) = true := by simpa using k2
  go_wp2_with (first | (go_at_call 66; refine (distance_any _ _ _ (by omega) (by omega) (by omega) (by omega)).mono ?_; rintro e w' ⟨rfl, rfl⟩))
  refine (common_any w.heap.size l true w3 HL.out HN.out.own).mono ?_
  rintro _ w4 ⟨rfl, ho, hg⟩
  have HN := Lib.hid (HN.out.grown hg ho); clear ho hg c2 c3 c4 c5
  obtain ⟨c0, c1, c2, c3, c4, c5, c6, c7⟩ := cells8 HN.out.own
  obtain ⟨r0, r1, r2, r3, r4, r5, r6, r7⟩ := cells8 HN.out.res
  obtain ⟨f0, f1, f2, f3, f4, f5, f6, f7⟩ := frees8 HN.out.res
  go_wp2
  have HF := Lib.hid HN.out.fin
  refine bodyPost_ret (v := .agg (cellsOf .i64 8 (two l true)).toArray) ?_ rfl ⟨rfl, HF.out.2⟩
  exact results_cell Tryd.results44 rfl (run_loadVar_row (P := Tryd.prog) _ (w.heap.size + 1) 70 70 _ (0, 0) _ HF.out.1 Tryd.underlying70 rfl info8)

set_option maxRecDepth 100000 in
set_option maxHeartbeats 4000000 in
theorem nr_C3t1 (l : Nat → Int) (most near high : Int) (w : World) (hl : In8 l) (hn : isNr l most = true) (hs : isSm l near = true) (k1 : high < dst (l 2) (l 3)) :
    Calls Tryd.prog 44 #[.agg (row8 l), .int .i64 most, .int .i64 near, .int .i64 high, .bool false] w fun e w' => e = .returned (.agg (row8 (two l true))) ∧ Below w.heap.size w w' := by
  have HL := Lib.hid hl
  have HN := Lib.hid (NR.start w l)
  clear hl
  unfold row8 at HN ⊢
  go_enter Tryd.func44, Tryd.ntmps44
  go_wp2_with fail
  generalize World.alloc _ _ = w1 at HN ⊢
  refine (isNear_any l most w1 HL.out).mono ?_
  rintro _ w2 ⟨rfl, hb⟩
  have HN := Lib.hid (HN.out.below hb); clear hb
  rw [hn]
  obtain ⟨c0, c1, c2, c3, c4, c5, c6, c7⟩ := cells8 HN.out.own
  go_wp2_with fail
  refine (isSmooth_any l near w2 HL.out).mono ?_
  rintro _ w3 ⟨rfl, hb⟩
  have HN := Lib.hid (HN.out.below hb); clear hb
  rw [hs]
  clear c0 c1 c2 c3 c4 c5 c6 c7
  obtain ⟨c0, c1, c2, c3, c4, c5, c6, c7⟩ := cells8 HN.out.own
  clear c0 c1 c6 c7
  obtain ⟨g1a, g1b⟩ := HL.out 1 (by decide)
  obtain ⟨g2a, g2b⟩ := HL.out 2 (by decide)
  obtain ⟨g3a, g3b⟩ := HL.out 3 (by decide)
  obtain ⟨g4a, g4b⟩ := HL.out 4 (by decide)
  obtain ⟨g5a, g5b⟩ := HL.out 5 (by decide)
  obtain ⟨g6a, g6b⟩ := HL.out 6 (by decide)
  have k1b : decide (high < dst (l 2) (l 3)) = true := by simpa using k1
  go_wp2_with (first | (go_at_call 66; refine (distance_any _ _ _ (by omega) (by omega) (by omega) (by omega)).mono ?_; rintro e w' ⟨rfl, rfl⟩))
  refine (common_any w.heap.size l true w3 HL.out HN.out.own).mono ?_
  rintro _ w4 ⟨rfl, ho, hg⟩
  have HN := Lib.hid (HN.out.grown hg ho); clear ho hg c2 c3 c4 c5
  obtain ⟨s0, s1⟩ : -16 ≤ st1 l true ∧ st1 l true ≤ 15 := hld_range (by decide) _
  obtain ⟨c0, c1, c2, c3, c4, c5, c6, c7⟩ := cells8 HN.out.own
  obtain ⟨r0, r1, r2, r3, r4, r5, r6, r7⟩ := cells8 HN.out.res
  obtain ⟨f0, f1, f2, f3, f4, f5, f6, f7⟩ := frees8 HN.out.res
  go_wp2
  have HF := Lib.hid HN.out.fin
  refine bodyPost_ret (v := .agg (cellsOf .i64 8 (two l true)).toArray) ?_ rfl ⟨rfl, HF.out.2⟩
  exact results_cell Tryd.results44 rfl (run_loadVar_row (P := Tryd.prog) _ (w.heap.size + 1) 70 70 _ (0, 0) _ HF.out.1 Tryd.underlying70 rfl info8)

set_option maxRecDepth 100000 in
set_option maxHeartbeats 4000000 in
theorem nr_C3t2 (l : Nat → Int) (most near high : Int) (w : World) (hl : In8 l) (hn : isNr l most = true) (hs : isSm l near = true) (k1 : ¬ high < dst (l 2) (l 3)) (k2 : high < dst (l 5) (l 4)) :
    Calls Tryd.prog 44 #[.agg (row8 l), .int .i64 most, .int .i64 near, .int .i64 high, .bool false] w fun e w' => e = .returned (.agg (row8 (two l true))) ∧ Below w.heap.size w w' := by
  have HL := Lib.hid hl
  have HN := Lib.hid (NR.start w l)
  clear hl
  unfold row8 at HN ⊢
  go_enter Tryd.func44, Tryd.ntmps44
  go_wp2_with fail
  generalize World.alloc _ _ = w1 at HN ⊢
  refine (isNear_any l most w1 HL.out).mono ?_
  rintro _ w2 ⟨rfl, hb⟩
  have HN := Lib.hid (HN.out.below hb); clear hb
  rw [hn]
  obtain ⟨c0, c1, c2, c3, c4, c5, c6, c7⟩ := cells8 HN.out.own
  go_wp2_with fail
  refine (isSmooth_any l near w2 HL.out).mono ?_
  rintro _ w3 ⟨rfl, hb⟩
  have HN := Lib.hid (HN.out.below hb); clear hb
  rw [hs]
  clear c0 c1 c2 c3 c4 c5 c6 c7
  obtain ⟨c0, c1, c2, c3, c4, c5, c6, c7⟩ := cells8 HN.out.own
  clear c0 c1 c6 c7
  obtain ⟨g1a, g1b⟩ := HL.out 1 (by decide)
  obtain ⟨g2a, g2b⟩ := HL.out 2 (by decide)
  obtain ⟨g3a, g3b⟩ := HL.out 3 (by decide)
  obtain ⟨g4a, g4b⟩ := HL.out 4 (by decide)
  obtain ⟨g5a, g5b⟩ := HL.out 5 (by decide)
  obtain ⟨g6a, g6b⟩ := HL.out 6 (by decide)
  have k1b : decide (high < dst (l 2) (l 3)) = false := by simpa using k1
  have k2b : decide (high < dst (l 5) (l 4)) = true := by simpa using k2
  go_wp2_with (first | (go_at_call 66; refine (distance_any _ _ _ (by omega) (by omega) (by omega) (by omega)).mono ?_; rintro e w' ⟨rfl, rfl⟩))
  refine (common_any w.heap.size l true w3 HL.out HN.out.own).mono ?_
  rintro _ w4 ⟨rfl, ho, hg⟩
  have HN := Lib.hid (HN.out.grown hg ho); clear ho hg c2 c3 c4 c5
  obtain ⟨s0, s1⟩ : -16 ≤ st1 l true ∧ st1 l true ≤ 15 := hld_range (by decide) _
  obtain ⟨c0, c1, c2, c3, c4, c5, c6, c7⟩ := cells8 HN.out.own
  obtain ⟨r0, r1, r2, r3, r4, r5, r6, r7⟩ := cells8 HN.out.res
  obtain ⟨f0, f1, f2, f3, f4, f5, f6, f7⟩ := frees8 HN.out.res
  go_wp2
  have HF := Lib.hid HN.out.fin
  refine bodyPost_ret (v := .agg (cellsOf .i64 8 (two l true)).toArray) ?_ rfl ⟨rfl, HF.out.2⟩
  exact results_cell Tryd.results44 rfl (run_loadVar_row (P := Tryd.prog) _ (w.heap.size + 1) 70 70 _ (0, 0) _ HF.out.1 Tryd.underlying70 rfl info8)

set_option maxRecDepth 100000 in
set_option maxHeartbeats 4000000 in
theorem nr_C3f (l : Nat → Int) (most near high : Int) (w : World) (hl : In8 l) (hn : isNr l most = true) (hs : isSm l near = true) (k1 : ¬ high < dst (l 2) (l 3)) (k2 : ¬ high < dst (l 5) (l 4)) :
    Calls Tryd.prog 44 #[.agg (row8 l), .int .i64 most, .int .i64 near, .int .i64 high, .bool false] w fun e w' => e = .returned (.agg (row8 (four l))) ∧ Below w.heap.size w w' := by
  have HL := Lib.hid hl
  have HN := Lib.hid (NR.start w l)
  clear hl
  unfold row8 at HN ⊢
  go_enter Tryd.func44, Tryd.ntmps44
  go_wp2_with fail
  generalize World.alloc _ _ = w1 at HN ⊢
  refine (isNear_any l most w1 HL.out).mono ?_
  rintro _ w2 ⟨rfl, hb⟩
  have HN := Lib.hid (HN.out.below hb); clear hb
  rw [hn]
  obtain ⟨c0, c1, c2, c3, c4, c5, c6, c7⟩ := cells8 HN.out.own
  go_wp2_with fail
  refine (isSmooth_any l near w2 HL.out).mono ?_
  rintro _ w3 ⟨rfl, hb⟩
  have HN := Lib.hid (HN.out.below hb); clear hb
  rw [hs]
  clear c0 c1 c2 c3 c4 c5 c6 c7
  obtain ⟨c0, c1, c2, c3, c4, c5, c6, c7⟩ := cells8 HN.out.own
  clear c0 c1 c6 c7
  obtain ⟨g1a, g1b⟩ := HL.out 1 (by decide)
  obtain ⟨g2a, g2b⟩ := HL.out 2 (by decide)
  obtain ⟨g3a, g3b⟩ := HL.out 3 (by decide)
  obtain ⟨g4a, g4b⟩ := HL.out 4 (by decide)
  obtain ⟨g5a, g5b⟩ := HL.out 5 (by decide)
  obtain ⟨g6a, g6b⟩ := HL.out 6 (by decide)
  have k1b : decide (high < dst (l 2) (l 3)) = false := by simpa using k1
  have k2b : decide (high < dst (l 5) (l 4)) = false := by simpa using k2
  go_wp2_with (first | (go_at_call 66; refine (distance_any _ _ _ (by omega) (by omega) (by omega) (by omega)).mono ?_; rintro e w' ⟨rfl, rfl⟩))
  refine (common_any w.heap.size l false w3 HL.out HN.out.own).mono ?_
  rintro _ w4 ⟨rfl, ho, hg⟩
  have HN := Lib.hid (HN.out.grown hg ho); clear ho hg c2 c3 c4 c5
  obtain ⟨s0, s1⟩ : -16 ≤ st1 l false ∧ st1 l false ≤ 15 := hld_range (by decide) _
  have HT : Hid (four l = upd (upd (two l false) 5 (hld 0 255 (l 5 - (st1 l false + 1) / 2))) 2 (hld 0 255 (l 2 + (st1 l false + 1) / 2))) := Lib.hid rfl
  have c2 : w4.cell? ⟨w.heap.size, 2, none⟩ = some (.int .i64 (l 2)) := HN.out.own.cell 2 rfl
  have c5 : w4.cell? ⟨w.heap.size, 5, none⟩ = some (.int .i64 (l 5)) := HN.out.own.cell 5 rfl
  have z2 := HN.out.own.free 2
  have z5 := HN.out.own.free 5
  generalize st1 l false = s at *
  have v1 : IntKind.i64.wrap (-((s + 1) / 2)) = -((s + 1) / 2) := by rw [IntKind.wrap_i64]; omega
  go_wp2_with fail
  go_region_with (first | (go_at_call 68; refine (moved_any _ _ _ (by omega) (by omega) (by omega) (by omega)).mono ?_; rintro e w' ⟨rfl, rfl⟩))
  all_goals
    have HN := Lib.hid (HN.out.pair HT.out)
    generalize World.drew _ = w5 at HN ⊢
    clear c2 c5 z2 z5
    obtain ⟨c0, c1, c2, c3, c4, c5, c6, c7⟩ := cells8 HN.out.own
    obtain ⟨r0, r1, r2, r3, r4, r5, r6, r7⟩ := cells8 HN.out.res
    obtain ⟨f0, f1, f2, f3, f4, f5, f6, f7⟩ := frees8 HN.out.res
    go_wp2
    have HF := Lib.hid HN.out.fin
    refine bodyPost_ret (v := .agg (cellsOf .i64 8 (four l)).toArray) ?_ rfl ⟨rfl, HF.out.2⟩
    exact results_cell Tryd.results44 rfl (run_loadVar_row (P := Tryd.prog) _ (w.heap.size + 1) 70 70 _ (0, 0) _ HF.out.1 Tryd.underlying70 rfl info8)
end Go.Proofs.YtmdijdoaijnpaaaDoor
