/- impl.sixteen: sixteen numbers, all but the first nought. -/
import Derived.Test.YthmkmemocjnleaaDoorIdct4
import Derived.Laws.Rows
import Derived.Deep.OwnRows
import Derived.Deep.MidRow
import Derived.Outline
namespace Go.Proofs.YthmkmemocjnleaaDoor
open Go.RowKit
set_option linter.unusedVariables false

def sixV (c : Int) : Array Value := #[.int .i64 c, .int .i64 0, .int .i64 0, .int .i64 0, .int .i64 0, .int .i64 0, .int .i64 0, .int .i64 0, .int .i64 0, .int .i64 0, .int .i64 0, .int .i64 0, .int .i64 0, .int .i64 0, .int .i64 0, .int .i64 0]
def six0 : Array Value := #[.int .i16 0, .int .i16 0, .int .i16 0, .int .i16 0, .int .i16 0, .int .i16 0, .int .i16 0, .int .i16 0, .int .i16 0, .int .i16 0, .int .i16 0, .int .i16 0, .int .i16 0, .int .i16 0, .int .i16 0, .int .i16 0]
def sixTo (c : Int) (p i : Nat) : Int := if i < p then firstF c i else 0
theorem six_index0 (c : Int) (w : World) : (Instr.index 50 (.agg (sixV c)) (.int .i64 0)).run Tryd.prog w = .ok (.int .i64 c) w := by kernel_rfl
theorem six_index1 (c : Int) (w : World) : (Instr.index 50 (.agg (sixV c)) (.int .i64 1)).run Tryd.prog w = .ok (.int .i64 0) w := by kernel_rfl
theorem six_index2 (c : Int) (w : World) : (Instr.index 50 (.agg (sixV c)) (.int .i64 2)).run Tryd.prog w = .ok (.int .i64 0) w := by kernel_rfl
theorem six_index3 (c : Int) (w : World) : (Instr.index 50 (.agg (sixV c)) (.int .i64 3)).run Tryd.prog w = .ok (.int .i64 0) w := by kernel_rfl
theorem six_index4 (c : Int) (w : World) : (Instr.index 50 (.agg (sixV c)) (.int .i64 4)).run Tryd.prog w = .ok (.int .i64 0) w := by kernel_rfl
theorem six_index5 (c : Int) (w : World) : (Instr.index 50 (.agg (sixV c)) (.int .i64 5)).run Tryd.prog w = .ok (.int .i64 0) w := by kernel_rfl
theorem six_index6 (c : Int) (w : World) : (Instr.index 50 (.agg (sixV c)) (.int .i64 6)).run Tryd.prog w = .ok (.int .i64 0) w := by kernel_rfl
theorem six_index7 (c : Int) (w : World) : (Instr.index 50 (.agg (sixV c)) (.int .i64 7)).run Tryd.prog w = .ok (.int .i64 0) w := by kernel_rfl
theorem six_index8 (c : Int) (w : World) : (Instr.index 50 (.agg (sixV c)) (.int .i64 8)).run Tryd.prog w = .ok (.int .i64 0) w := by kernel_rfl
theorem six_index9 (c : Int) (w : World) : (Instr.index 50 (.agg (sixV c)) (.int .i64 9)).run Tryd.prog w = .ok (.int .i64 0) w := by kernel_rfl
theorem six_index10 (c : Int) (w : World) : (Instr.index 50 (.agg (sixV c)) (.int .i64 10)).run Tryd.prog w = .ok (.int .i64 0) w := by kernel_rfl
theorem six_index11 (c : Int) (w : World) : (Instr.index 50 (.agg (sixV c)) (.int .i64 11)).run Tryd.prog w = .ok (.int .i64 0) w := by kernel_rfl
theorem six_index12 (c : Int) (w : World) : (Instr.index 50 (.agg (sixV c)) (.int .i64 12)).run Tryd.prog w = .ok (.int .i64 0) w := by kernel_rfl
theorem six_index13 (c : Int) (w : World) : (Instr.index 50 (.agg (sixV c)) (.int .i64 13)).run Tryd.prog w = .ok (.int .i64 0) w := by kernel_rfl
theorem six_index14 (c : Int) (w : World) : (Instr.index 50 (.agg (sixV c)) (.int .i64 14)).run Tryd.prog w = .ok (.int .i64 0) w := by kernel_rfl
theorem six_index15 (c : Int) (w : World) : (Instr.index 50 (.agg (sixV c)) (.int .i64 15)).run Tryd.prog w = .ok (.int .i64 0) w := by kernel_rfl
theorem six_index (c : Int) (p : Nat) (hp : p < 16) (w : World) : (Instr.index 50 (.agg (sixV c)) (.int .i64 (p : Int))).run Tryd.prog w = .ok (.int .i64 (firstF c p)) w := by
  have : p = 0 ∨ p = 1 ∨ p = 2 ∨ p = 3 ∨ p = 4 ∨ p = 5 ∨ p = 6 ∨ p = 7 ∨ p = 8 ∨ p = 9 ∨ p = 10 ∨ p = 11 ∨ p = 12 ∨ p = 13 ∨ p = 14 ∨ p = 15 := by omega
  rcases this with rfl | rfl | rfl | rfl | rfl | rfl | rfl | rfl | rfl | rfl | rfl | rfl | rfl | rfl | rfl | rfl
  · exact six_index0 c w
  · exact six_index1 c w
  · exact six_index2 c w
  · exact six_index3 c w
  · exact six_index4 c w
  · exact six_index5 c w
  · exact six_index6 c w
  · exact six_index7 c w
  · exact six_index8 c w
  · exact six_index9 c w
  · exact six_index10 c w
  · exact six_index11 c w
  · exact six_index12 c w
  · exact six_index13 c w
  · exact six_index14 c w
  · exact six_index15 c w
theorem cellsOf_set16 (n : Nat) (f : Nat → Int) (j : Nat) (x : Int) : (cellsOf .i16 n f).set j (.int .i16 x) = cellsOf .i16 n (upd f j x) := by
  apply List.ext_getElem
  · simp [cellsOf]
  · intro i h1 h2
    simp only [cellsOf, List.length_set, List.length_map, List.length_range] at h1
    simp only [cellsOf, List.getElem_set, List.getElem_map, List.getElem_range, upd]
    by_cases e : j = i
    · subst e; simp
    · simp [e, show ¬ i = j from fun h => e h.symm]
theorem cells16i_congr {n : Nat} {f f' : Nat → Int} (h : ∀ i, i < n → f i = f' i) : cellsOf .i16 n f = cellsOf .i16 n f' := by
  simp only [cellsOf]
  exact List.map_congr_left fun i hi => by rw [h i (List.mem_range.1 hi)]
theorem results_cell {P : Program} {fn : Func} {tmps : Array Value} {w : World} {a : Nat} {t : TypeId} {ad : Addr} {v : Value} (hr : fn.results = #[.cell a t]) (ha : tmps.getD a undef = .pointer (some ad)) (hl : (loadVar t ad).run P w = .ok v w) :
    (results fn tmps).run P w = .ok v w := by
  unfold results
  rw [hr]
  rw [Array.getD_eq_getD_getElem?] at ha
  simp [ha, asAddr, hl]

set_option maxRecDepth 100000 in
set_option maxHeartbeats 1000000 in
theorem sixteen_any (c : Int) (w : World) (h1 : -32768 ≤ c) (h2 : c ≤ 32767) :
    Calls Tryd.prog 48 #[.agg (sixV c)] w fun e w' => e = .returned (.agg (cellsOf .i16 16 (firstF c)).toArray) ∧ Below w.heap.size w w' := by
  have HI : Hid (∀ p : Nat, p < 16 → ∀ w, (Instr.index 50 (.agg (sixV c)) (.int .i64 (p : Int))).run Tryd.prog w = .ok (.int .i64 (firstF c p)) w) := Lib.hid (fun p hp w => six_index c p hp w)
  unfold sixV at HI ⊢
  go_enter Tryd.func48, Tryd.ntmps48
  go_wp2
  obtain ⟨g2, hg2⟩ : ∃ g2, g2 = w.heap.size + 1 := ⟨_, rfl⟩
  obtain ⟨g3, hg3⟩ : ∃ g3, g3 = w.heap.size + 1 + 1 := ⟨_, rfl⟩
  rw [← hg3, ← hg2]
  have HW : Hid (∀ o : Go.Obj, SObj (((w.alloc o).alloc (.cells six0 116)).alloc (.cells six0 116)) g2 116 (cellsOf .i16 16 (fun _ => 0)) ∧ SObj (((w.alloc o).alloc (.cells six0 116)).alloc (.cells six0 116)) g3 116 (cellsOf .i16 16 (sixTo c 0)) ∧ Below w.heap.size w (((w.alloc o).alloc (.cells six0 116)).alloc (.cells six0 116))) := Lib.hid (fun o => by
    have e0 : (cellsOf .i16 16 (fun _ => 0)).toArray = six0 := by rfl
    rw [cells16i_congr (f := sixTo c 0) (f' := fun _ => 0) (fun i _ => by unfold sixTo; rw [if_neg (by omega)])]
    refine ⟨SObj.alloc ?_ _, ?_, ((Below.refl _ _).alloc (Nat.le_refl _) _ |>.alloc (by simp) _).alloc (by simp; omega) _⟩
    · have := obj_new (w.alloc o) 116 (cellsOf .i16 16 (fun _ => 0))
      rw [e0] at this
      rw [hg2]
      simpa using this
    · have := obj_new ((w.alloc o).alloc (.cells six0 116)) 116 (cellsOf .i16 16 (fun _ => 0))
      rw [e0] at this
      rw [hg3]
      simpa using this)
  unfold six0 at HW
  have HW2 := Lib.hid (HW.out (.cells #[.int .i64 c, .int .i64 0, .int .i64 0, .int .i64 0, .int .i64 0, .int .i64 0, .int .i64 0, .int .i64 0, .int .i64 0, .int .i64 0, .int .i64 0, .int .i64 0, .int .i64 0, .int .i64 0, .int .i64 0, .int .i64 0] 50))
  generalize World.alloc _ _ = w1 at HW2 ⊢
  have HN : Hid (g2 ≠ g3 ∧ w.heap.size ≤ g2 ∧ w.heap.size ≤ g3) := Lib.hid (by omega)
  clear hg2 hg3 HW
  go_loopw [4, 5, 7] (fun _ _ i wr => ∃ p : Nat, p ≤ 16 ∧ i = .int .i64 p ∧ Hid (SObj wr g2 116 (cellsOf .i16 16 (fun _ => 0)) ∧ SObj wr g3 116 (cellsOf .i16 16 (sixTo c p)) ∧ Below w.heap.size w wr)) (fun _ _ i _ => 16 - (intOf i).toNat)
  case atStart => exact ⟨0, by omega, rfl, HW2⟩
  case round =>
    obtain ⟨p, hp, rfl, hR⟩ := hrel
    by_cases hlt : p < 16
    · have hix := HI.out p hlt wr
      have hf : -32768 ≤ firstF c p ∧ firstF c p ≤ 32767 := by unfold firstF; split <;> omega
      obtain ⟨x, hx⟩ : ∃ x, x = firstF c p := ⟨_, rfl⟩
      rw [← hx] at hix hf
      obtain ⟨f1, f2⟩ := hf
      have d0 : wr.cell? ⟨g3, p, none⟩ = some (.int .i16 (sixTo c p p)) := hR.out.2.1.cell p (by simp [cellsOf, hlt])
      have z0 : wr.frozen? ⟨g3, p, none⟩ = false := hR.out.2.1.free p
      have HE : Hid (SObj (wr.setCell ⟨g3, p, none⟩ (.int .i16 x)) g2 116 (cellsOf .i16 16 (fun _ => 0)) ∧ SObj (wr.setCell ⟨g3, p, none⟩ (.int .i16 x)) g3 116 (cellsOf .i16 16 (sixTo c (p + 1))) ∧ Below w.heap.size w (wr.setCell ⟨g3, p, none⟩ (.int .i16 x))) := by
        have h3 := hR.out.2.1.set p (.int .i16 x)
        rw [cellsOf_set16, cells16i_congr (f' := sixTo c (p + 1)) (fun i _ => by
          unfold upd sixTo
          by_cases e : i = p
          · subst e; rw [if_pos rfl, if_pos (by omega), hx]
          · rw [if_neg e]
            by_cases e2 : i < p
            · rw [if_pos e2, if_pos (by omega)]
            · rw [if_neg e2, if_neg (by omega)])] at h3
        exact Lib.hid ⟨hR.out.1.far _ HN.out.1 _, h3, hR.out.2.2.setCell (show w.heap.size ≤ g3 from HN.out.2.2) _⟩
      generalize sixTo c p p = old at d0
      clear hx
      go_wp2_with (first | rw [hix])
      go_roundw
      case rel => exact ⟨p + 1, by omega, by go_num, HE⟩
      case measure => simp [intOf]; omega
    · obtain rfl : p = 16 := by omega
      have HO : Hid (SObj wr g3 116 (cellsOf .i16 16 (firstF c))) := Lib.hid (by
        have := hR.out.2.1
        rwa [cells16i_congr (f' := firstF c) (fun i hi => by unfold sixTo; rw [if_pos hi])] at this)
      have info : (Tryd.prog.info? 116).map (·.size) = some 16 := by kernel_rfl
      have HT : Hid (wr.there g2 0 (cellsOf .i16 16 (firstF c)).toArray.size) := Lib.hid (fun j hj => by
        have hj' : j < 16 := by simpa [cellsOf] using hj
        refine ⟨?_, hR.out.1.free _⟩
        rw [hR.out.1.cell (0 + j) (v := .int .i16 0) (by simp [cellsOf, hj'])]; rfl)
      have HA : Hid ((cellsOf .i16 16 (firstF c)).toArray.all (·.oneCell') = true) := Lib.hid (all_oneCell_toArray (cellsOf_one _ _ _))
      have info2 : (Tryd.prog.info? 116).map (·.size) = some (cellsOf .i16 16 (firstF c)).toArray.size := by rw [info]; simp [cellsOf]
      have HS : Hid (World.rangeAt (wr.setCells g2 0 (cellsOf .i16 16 (firstF c)).toArray.toList) g2 0 (cellsOf .i16 16 (firstF c)).toArray.toList ∧ Below w.heap.size w (wr.setCells g2 0 (cellsOf .i16 16 (firstF c)).toArray.toList)) :=
        Lib.hid ⟨World.rangeAt_setCells_same _ _ _ _ (by simpa using HT.out), below_cells HN.out.2.1 _ _ _ hR.out.2.2⟩
      have HINFO := Lib.hid (And.intro info info2); clear info info2
      obtain ⟨cs, hcs⟩ : ∃ cs, cs = (cellsOf .i16 16 (firstF c)).toArray := ⟨_, rfl⟩
      rw [← hcs] at HT HA HS HINFO
      have HO2 : Hid (wr.heap[g3]? = some (.cells cs 116 (0, 0))) := by rw [hcs]; exact HO
      have HCS := Lib.hid hcs
      clear hcs HO hR
      go_wp2_with (first | (refine wpList_load_row rfl 116 (.tmp 3) rfl g3 rfl 116 cs (0, 0) _ HO2.out Tryd.underlying116 rfl (HINFO.out.2) ?_) | (refine wpList_store_mid rfl 116 (.tmp 2) (.tmp 16) rfl g2 0 cs rfl rfl HT.out HINFO.out.2 HA.out ?_))
      generalize World.setCells _ _ _ _ = w2 at HS ⊢
      refine bodyPost_ret (v := .agg cs) ?_ rfl ⟨by rw [HCS.out], HS.out.2⟩
      exact results_cell Tryd.results48 rfl (run_loadVar_mid (P := Tryd.prog) w2 g2 0 116 cs.toList _ HS.out.1 Tryd.underlying116 rfl (by simpa using HINFO.out.2))
end Go.Proofs.YthmkmemocjnleaaDoor
