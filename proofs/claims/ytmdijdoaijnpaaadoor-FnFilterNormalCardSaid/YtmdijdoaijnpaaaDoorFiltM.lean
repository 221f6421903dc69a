/- The reference's function normalRow: the six-value way; and the whole (printed by wip/gen_filtn.py). -/
import Derived.Test.YtmdijdoaijnpaaaDoorFiltN
namespace Go.Proofs.YtmdijdoaijnpaaaDoor
open Go.RowKit
set_option linter.unusedVariables false

set_option maxRecDepth 100000 in
set_option maxHeartbeats 4000000 in
theorem nr_C2 (l : Nat → Int) (most near high : Int) (w : World) (hl : In8 l) (hn : isNr l most = true) (hs : isSm l near = true) (k1 : ¬ high < dst (l 2) (l 3)) (k2 : ¬ high < dst (l 5) (l 4)) :
    Calls Tryd.prog 44 #[.agg (row8 l), .int .i64 most, .int .i64 near, .int .i64 high, .bool true] w fun e w' => e = .returned (.agg (row8 (six l))) ∧ Below w.heap.size w w' := by
  have HL := Lib.hid hl
  have HN := Lib.hid (NR.start w l)
  clear hl
  unfold row8 at HN ⊢
  go_enter Tryd.func44, Tryd.ntmps44
  go_wp2_with fail
  generalize World.alloc _ _ = w1 at HN ⊢
  refine (isNear_any l most w1 HL.out).mono ?_
  rintro _ w2 ⟨rfl, hb⟩
  have HN := Lib.hid (HN.out.below hb); clear hb
  rw [hn]
  obtain ⟨c0, c1, c2, c3, c4, c5, c6, c7⟩ := cells8 HN.out.own
  go_wp2_with fail
  refine (isSmooth_any l near w2 HL.out).mono ?_
  rintro _ w3 ⟨rfl, hb⟩
  have HN := Lib.hid (HN.out.below hb); clear hb
  rw [hs]
  clear c0 c1 c2 c3 c4 c5 c6 c7
  obtain ⟨c0, c1, c2, c3, c4, c5, c6, c7⟩ := cells8 HN.out.own
  clear c0 c1 c6 c7
  obtain ⟨g1a, g1b⟩ := HL.out 1 (by decide)
  obtain ⟨g2a, g2b⟩ := HL.out 2 (by decide)
  obtain ⟨g3a, g3b⟩ := HL.out 3 (by decide)
  obtain ⟨g4a, g4b⟩ := HL.out 4 (by decide)
  obtain ⟨g5a, g5b⟩ := HL.out 5 (by decide)
  obtain ⟨g6a, g6b⟩ := HL.out 6 (by decide)
  have k1b : decide (high < dst (l 2) (l 3)) = false := by simpa using k1
  have k2b : decide (high < dst (l 5) (l 4)) = false := by simpa using k2
  have HW : Hid (stW l = hld (-128) 127 (hld (-128) 127 (l 2 - l 5) + 3 * (l 4 - l 3))) := Lib.hid rfl
  obtain ⟨q0, q1⟩ := hld_range (lo := -128) (hi := 127) (by decide) (l 2 - l 5)
  go_wp2_with (first | (go_at_call 66; refine (distance_any _ _ _ (by omega) (by omega) (by omega) (by omega)).mono ?_; rintro e w' ⟨rfl, rfl⟩))
  go_quiet ((go_at_call 67; exact quiet_same' (short_any _ _)))
  rw [← HW.out]
  generalize hw5 : World.drewN w3 _ = w5
  have HN : Hid (NR w w5 l (fun _ => 0)) := Lib.hid (by rw [← hw5]; exact HN.out.drewN _)
  have HWR : Hid (-128 ≤ stW l ∧ stW l ≤ 127) := Lib.hid (hld_range (by decide) _)
  have HA : Hid (sixA l = upd (upd l 4 (hld 0 255 (l 4 - (27 * stW l + 63) / 128))) 3 (hld 0 255 (l 3 + (27 * stW l + 63) / 128))) := Lib.hid rfl
  have HB : Hid (sixB l = upd (upd (sixA l) 5 (hld 0 255 (l 5 - (18 * stW l + 63) / 128))) 2 (hld 0 255 (l 2 + (18 * stW l + 63) / 128))) := Lib.hid rfl
  have HC : Hid (six l = upd (upd (sixB l) 6 (hld 0 255 (l 6 - (9 * stW l + 63) / 128))) 1 (hld 0 255 (l 1 + (9 * stW l + 63) / 128))) := Lib.hid rfl
  clear hw5 c2 c3 c4 c5 q0 q1 k1 k2 k1b k2b
  obtain ⟨W0, W1⟩ := HWR.out
  have HS := Lib.hid (And.intro (short27 _ W0 W1) (And.intro (short18 _ W0 W1) (short9 _ W0 W1)))
  clear HW HWR
  generalize stW l = W at *
  go_wp2_with fail
  go_loopw [13] (fun i wr => ∃ p : Nat, p ≤ 3 ∧ i = .int .i64 p ∧ Hid (NR w wr (sixTo l p) (fun _ => 0))) (fun i _ => 3 - (intOf i).toNat)
  case atStart => exact ⟨0, by omega, rfl, HN⟩
  case round =>
    obtain ⟨p, hp, rfl, hR⟩ := hrel
    by_cases hlt : p < 3
    · obtain rfl | rfl | rfl : p = 0 ∨ p = 1 ∨ p = 2 := by omega
      · have HN : Hid (NR w wr (l) (fun _ => 0)) := hR
        have d1 : wr.cell? ⟨w.heap.size, 4, none⟩ = some (.int .i64 (l 4)) := HN.out.own.cell 4 rfl
        have d2 : wr.cell? ⟨w.heap.size, 3, none⟩ = some (.int .i64 (l 3)) := HN.out.own.cell 3 rfl
        have z1 := HN.out.own.free 4
        have z2 := HN.out.own.free 3
        have HT : Hid (sixA l = upd (upd (l) 4 (hld 0 255 (l 4 - (27 * W + 63) / 128))) 3 (hld 0 255 (l 3 + (27 * W + 63) / 128))) := HA
        have v0 := HS.out.1
        obtain ⟨A, hA⟩ : ∃ A, A = (27 * W + 63) / 128 := ⟨_, rfl⟩
        have HA2 := Lib.hid hA
        have a0 : -64 ≤ A := by omega
        have a1 : A ≤ 64 := by omega
        rw [← hA] at HT v0
        have HV := Lib.hid v0
        have v1 : IntKind.i64.wrap (-A) = -A := by rw [IntKind.wrap_i64]; omega
        clear hA v0
        go_wp2_with fail
        refine (short_any _ _).mono ?_
        rintro _ _ ⟨rfl, rfl⟩
        rw [← HA2.out, HV.out]
        go_wp2_with fail
        go_region_with (first | (go_at_call 68; refine (moved_any _ _ _ (by omega) (by omega) (by omega) (by omega)).mono ?_; rintro e w' ⟨rfl, rfl⟩))
        all_goals
          have HN := Lib.hid (HN.out.pair HT.out)
          generalize World.drew _ = w6 at HN ⊢
          clear d1 d2 z1 z2
          go_wp2
          go_roundw
          case rel => exact ⟨1, by omega, by rfl, HN⟩
          case measure => simp [intOf]
      · have HN : Hid (NR w wr (sixA l) (fun _ => 0)) := hR
        have d1 : wr.cell? ⟨w.heap.size, 5, none⟩ = some (.int .i64 (l 5)) := HN.out.own.cell 5 rfl
        have d2 : wr.cell? ⟨w.heap.size, 2, none⟩ = some (.int .i64 (l 2)) := HN.out.own.cell 2 rfl
        have z1 := HN.out.own.free 5
        have z2 := HN.out.own.free 2
        have HT : Hid (sixB l = upd (upd (sixA l) 5 (hld 0 255 (l 5 - (18 * W + 63) / 128))) 2 (hld 0 255 (l 2 + (18 * W + 63) / 128))) := HB
        have v0 := HS.out.2.1
        obtain ⟨A, hA⟩ : ∃ A, A = (18 * W + 63) / 128 := ⟨_, rfl⟩
        have HA2 := Lib.hid hA
        have a0 : -64 ≤ A := by omega
        have a1 : A ≤ 64 := by omega
        rw [← hA] at HT v0
        have HV := Lib.hid v0
        have v1 : IntKind.i64.wrap (-A) = -A := by rw [IntKind.wrap_i64]; omega
        clear hA v0
        go_wp2_with fail
        refine (short_any _ _).mono ?_
        rintro _ _ ⟨rfl, rfl⟩
        rw [← HA2.out, HV.out]
        go_wp2_with fail
        go_region_with (first | (go_at_call 68; refine (moved_any _ _ _ (by omega) (by omega) (by omega) (by omega)).mono ?_; rintro e w' ⟨rfl, rfl⟩))
        all_goals
          have HN := Lib.hid (HN.out.pair HT.out)
          generalize World.drew _ = w6 at HN ⊢
          clear d1 d2 z1 z2
          go_wp2
          go_roundw
          case rel => exact ⟨2, by omega, by rfl, HN⟩
          case measure => simp [intOf]
      · have HN : Hid (NR w wr (sixB l) (fun _ => 0)) := hR
        have d1 : wr.cell? ⟨w.heap.size, 6, none⟩ = some (.int .i64 (l 6)) := HN.out.own.cell 6 rfl
        have d2 : wr.cell? ⟨w.heap.size, 1, none⟩ = some (.int .i64 (l 1)) := HN.out.own.cell 1 rfl
        have z1 := HN.out.own.free 6
        have z2 := HN.out.own.free 1
        have HT : Hid (six l = upd (upd (sixB l) 6 (hld 0 255 (l 6 - (9 * W + 63) / 128))) 1 (hld 0 255 (l 1 + (9 * W + 63) / 128))) := HC
        have v0 := HS.out.2.2
        obtain ⟨A, hA⟩ : ∃ A, A = (9 * W + 63) / 128 := ⟨_, rfl⟩
        have HA2 := Lib.hid hA
        have a0 : -64 ≤ A := by omega
        have a1 : A ≤ 64 := by omega
        rw [← hA] at HT v0
        have HV := Lib.hid v0
        have v1 : IntKind.i64.wrap (-A) = -A := by rw [IntKind.wrap_i64]; omega
        clear hA v0
        go_wp2_with fail
        refine (short_any _ _).mono ?_
        rintro _ _ ⟨rfl, rfl⟩
        rw [← HA2.out, HV.out]
        go_wp2_with fail
        go_region_with (first | (go_at_call 68; refine (moved_any _ _ _ (by omega) (by omega) (by omega) (by omega)).mono ?_; rintro e w' ⟨rfl, rfl⟩))
        all_goals
          have HN := Lib.hid (HN.out.pair HT.out)
          generalize World.drew _ = w6 at HN ⊢
          clear d1 d2 z1 z2
          go_wp2
          go_roundw
          case rel => exact ⟨3, by omega, by rfl, HN⟩
          case measure => simp [intOf]
    · obtain rfl : p = 3 := by omega
      clear HN
      have HN : Hid (NR w wr (six l) (fun _ => 0)) := hR
      obtain ⟨c0, c1, c2, c3, c4, c5, c6, c7⟩ := cells8 HN.out.own
      obtain ⟨r0, r1, r2, r3, r4, r5, r6, r7⟩ := cells8 HN.out.res
      obtain ⟨f0, f1, f2, f3, f4, f5, f6, f7⟩ := frees8 HN.out.res
      go_wp2
      have HF := Lib.hid HN.out.fin
      refine bodyPost_ret (v := .agg (cellsOf .i64 8 (six l)).toArray) ?_ rfl ⟨rfl, HF.out.2⟩
      exact results_cell Tryd.results44 rfl (run_loadVar_row (P := Tryd.prog) _ (w.heap.size + 1) 70 70 _ (0, 0) _ HF.out.1 Tryd.underlying70 rfl info8)
end Go.Proofs.YtmdijdoaijnpaaaDoor
