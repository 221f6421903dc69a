/- laws.near. -/
import Derived.Test.YtoafokmghjfpmaaRDoorDistM
import Derived.Laws.CopyOwn
namespace Go.Proofs.YtoafokmghjfpmaaRDoor
open Go.RowKit
set_option linter.unusedVariables false

/-- The zero value of 120 pairs. -/
@[irreducible] def zNear : Array Value := (cellsOf .i64 240 (fun _ => 0)).toArray
theorem zNear_eq : zNear = (cellsOf .i64 240 (fun _ => 0)).toArray := by unfold zNear; rfl
theorem zNear_run (w : World) : (zeroValue 29).run Tryd.prog w = .ok (.agg zNear) w := by rw [zNear_eq]; kernel_rfl
attribute [local go_sem ↓] zNear_run

theorem cellsOf_set (k : IntKind) (n : Nat) (f : Nat → Int) (i : Nat) (v : Int) : (cellsOf k n f).set i (.int k v) = cellsOf k n (upd f i v) := by
  apply List.ext_getElem?
  intro j
  by_cases h : i = j
  · subst h
    by_cases hi : i < n
    · simp [cellsOf, hi, upd_same]
    · simp [cellsOf, hi]
  · rw [List.getElem?_set_ne h]
    by_cases hj : j < n
    · simp [cellsOf, hj, upd_other _ _ _ _ (show j ≠ i by omega)]
    · simp [cellsOf, hj]
theorem cellsOf_congr (k : IntKind) (n : Nat) {f f' : Nat → Int} (h : ∀ i, i < n → f i = f' i) : cellsOf k n f = cellsOf k n f' := by
  unfold cellsOf
  exact List.map_congr_left fun i hi => by rw [h i (by simpa using hi)]

/-- A function whose one result lies in memory. -/
theorem results_cell {P : Program} {fn : Func} {tmps : Array Value} {w : World} {a : Nat} {t : TypeId} {ad : Addr} {v : Value} (hr : fn.results = #[.cell a t]) (ha : tmps.getD a undef = .pointer (some ad)) (hl : (loadVar t ad).run P w = .ok v w) :
    (results fn tmps).run P w = .ok v w := by
  unfold results
  rw [hr]
  rw [Array.getD_eq_getD_getElem?] at ha
  simp [ha, asAddr, hl]

/-- The row as far as it is filled. -/
def nearTo (p : Nat) (j : Nat) : Int := if j < 2 * p then nearF j else 0
theorem nearTo_step (p : Nat) (j : Nat) : upd (upd (nearTo p) (2 * p) (nearF (2 * p))) (2 * p + 1) (nearF (2 * p + 1)) j = nearTo (p + 1) j := by
  unfold upd nearTo
  by_cases h1 : j = 2 * p + 1
  · subst h1; rw [if_pos rfl, if_pos (by omega)]
  rw [if_neg h1]
  by_cases h2 : j = 2 * p
  · subst h2; rw [if_pos rfl, if_pos (by omega)]
  rw [if_neg h2]
  by_cases h3 : j < 2 * p
  · rw [if_pos h3, if_pos (by omega)]
  · rw [if_neg h3, if_neg (by omega)]

set_option maxRecDepth 100000 in
set_option maxHeartbeats 800000 in
theorem lawsNear_any (w : World) (ht : TabD w) :
    Calls Tryd.prog 8 #[] w fun e w' => e = .returned (.agg (cellsOf .i64 240 nearF).toArray) ∧ Below w.heap.size w w' := by
  have H := Lib.hid (And.intro ht ht.lt); clear ht
  go_enter Tryd.func8, Tryd.ntmps8
  go_wp2_with fail
  have HB : Hid (Below w.heap.size w ((w.alloc (.cells zNear 29)).alloc (.cells zNear 29))) := Lib.hid (((Below.refl _ _).alloc (Nat.le_refl _) _).alloc (by simp) _)
  refine (implNear_any _ (H.out.1.below HB.out H.out.2)).mono ?_
  rintro _ w1 ⟨⟨sa, sc, rfl, ho⟩, hb⟩
  have hs : w.heap.size + 2 ≤ w1.heap.size := by have := hb.size; simp at this; omega
  obtain ⟨g, rfl, hg1, hg2, hr, _⟩ := ho (by decide)
  have HS : Hid (SObj w1 w.heap.size 29 zNear.toList ∧ SObj w1 (w.heap.size + 1) 29 (cellsOf .i64 240 (nearTo 0)) ∧ Below w.heap.size w w1 ∧ Row .i64 w1 g 0 240 nearF) := by
    refine Lib.hid ⟨?_, ?_, HB.out.trans (hb.mono (by simp; omega)), hr⟩
    · refine SObj.below ?_ hb (by simp; omega)
      have := (obj_new w 29 zNear.toList).alloc (.cells zNear 29)
      simpa using this
    · refine SObj.below ?_ hb (by simp)
      have := obj_new (w.alloc (.cells zNear 29)) 29 zNear.toList
      rw [cellsOf_congr .i64 240 (f' := fun _ => 0) (fun i _ => by simp [nearTo])]
      rw [zNear_eq] at this ⊢
      simpa using this
  have hgd : w.heap.size + 2 ≤ g := by simpa using hg1
  clear hb ho hr HB hg1
  go_wp2
  go_loopw [3] (fun i wr => ∃ p : Nat, p ≤ 120 ∧ i = .int .i64 p ∧ Hid (SObj wr w.heap.size 29 zNear.toList ∧ SObj wr (w.heap.size + 1) 29 (cellsOf .i64 240 (nearTo p)) ∧ Below w.heap.size w wr ∧ Row .i64 wr g 0 240 nearF)) (fun i _ => 120 - (intOf i).toNat)
  case atStart => exact ⟨0, by omega, rfl, HS⟩
  case round =>
    obtain ⟨p, hp, rfl, hR⟩ := hrel
    by_cases hlt : p < 120
    · have c0 : wr.cell? ⟨g, p * 2, none⟩ = some (.int .i64 (nearF (2 * p))) := by rw [Nat.mul_comm p 2]; simpa using hR.out.2.2.2 (2 * p) (by omega)
      have c1 : wr.cell? ⟨g, p * 2 + 1, none⟩ = some (.int .i64 (nearF (2 * p + 1))) := by rw [Nat.mul_comm p 2]; simpa using hR.out.2.2.2 (2 * p + 1) (by omega)
      have d0 := hR.out.2.1.cell (p * 2) (v := .int .i64 (nearTo p (p * 2))) (by simp [cellsOf, show p * 2 < 240 by omega])
      have d1 := hR.out.2.1.cell (p * 2 + 1) (v := .int .i64 (nearTo p (p * 2 + 1))) (by simp [cellsOf, show p * 2 + 1 < 240 by omega])
      have z0 := hR.out.2.1.free (p * 2)
      have z1 := hR.out.2.1.free (p * 2 + 1)
      go_wp2
      go_roundw
      case rel =>
        refine ⟨p + 1, by omega, by go_num, Lib.hid ⟨(hR.out.1.far _ (by simp) _).far _ (by simp) _, ?_, (hR.out.2.2.1.setCell (by simp) _).setCell (by simp) _, (hR.out.2.2.2.far _ (by simp; omega) _).far _ (by simp; omega) _⟩⟩
        have h1 := (hR.out.2.1.set (p * 2) (.int .i64 (nearF (2 * p)))).set (p * 2 + 1) (.int .i64 (nearF (2 * p + 1)))
        rw [cellsOf_set, cellsOf_set, cellsOf_congr .i64 240 (f' := nearTo (p + 1)) (fun i _ => by rw [Nat.mul_comm p 2]; exact nearTo_step p i)] at h1
        exact h1
      case measure => simp [intOf]; omega
    · obtain rfl : p = 120 := by omega
      have HO : Hid (SObj wr (w.heap.size + 1) 29 (cellsOf .i64 240 nearF)) := Lib.hid (by
        have := hR.out.2.1
        rwa [cellsOf_congr .i64 240 (f' := nearF) (fun i hi => by unfold nearTo; rw [if_pos (by omega)])] at this)
      go_wp2
      refine wp_load_row 29 _ rfl (w.heap.size + 1) rfl 29 _ (0, 0) _ HO.out Tryd.underlying29 rfl (by kernel_rfl) ?_
      go_wp2
      have HST : Hid ((storeCells ⟨w.heap.size, 0, none⟩ (cellsOf .i64 240 nearF)).run Tryd.prog wr = .ok () (wr.setRow w.heap.size (cellsOf .i64 240 nearF).toArray)) := Lib.hid (by
        have := run_storeCells_from (P := Tryd.prog) w.heap.size 29 (cellsOf .i64 240 nearF) 0 _ wr hR.out.1 (by rw [zNear_eq]; simp [cellsOf]) (fun v hv => by
          obtain ⟨_, _, rfl⟩ := List.mem_map.1 hv
          rfl)
        simpa using this)
      rw [HST.out]
      have HE : Hid (SObj (wr.setRow w.heap.size (cellsOf .i64 240 nearF).toArray) w.heap.size 29 (cellsOf .i64 240 nearF) ∧ Below w.heap.size w (wr.setRow w.heap.size (cellsOf .i64 240 nearF).toArray)) :=
        Lib.hid ⟨setRow_heap _ _ _ _ _ _ hR.out.1, below_setRow hR.out.2.2.1 (Nat.le_refl _) _⟩
      generalize wr.setRow w.heap.size (cellsOf .i64 240 nearF).toArray = w3 at HE ⊢
      go_wp2
      refine bodyPost_ret (v := .agg (cellsOf .i64 240 nearF).toArray) ?_ rfl ⟨rfl, HE.out.2⟩
      have hl := run_loadVar_row (P := Tryd.prog) w3 w.heap.size 29 29 _ (0, 0) _ HE.out.1 Tryd.underlying29 rfl (by kernel_rfl)
      exact results_cell Tryd.results8 rfl hl
end Go.Proofs.YtoafokmghjfpmaaRDoor
