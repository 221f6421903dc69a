/- The reference's small predictions: foretoldSmall, Predict4. -/
import Derived.Test.YtmdijdoaijnpaaaDoorSpC
import Derived.Test.YtmdijdoaijnpaaaDoorPredD
namespace Go.Proofs.YtmdijdoaijnpaaaDoor
open Go.RowKit
set_option linter.unusedVariables false

theorem cells_set (k : IntKind) (n : Nat) (f : Nat → Int) (i : Nat) (v : Int) : (cellsOf k n f).set i (.int k v) = cellsOf k n (upd f i v) := by
  apply List.ext_getElem?
  intro j
  by_cases h : i = j
  · subst h
    by_cases hi : i < n
    · simp [cellsOf, hi, upd_same]
    · simp [cellsOf, hi]
  · by_cases hj : j < n
    · simp [cellsOf, h, hj, upd_other _ _ _ _ (show j ≠ i from fun e => h e.symm)]
    · simp [cellsOf, hj]
theorem cells_congr {k : IntKind} {n : Nat} {f f' : Nat → Int} (h : ∀ i, i < n → f i = f' i) : cellsOf k n f = cellsOf k n f' := by
  simp only [cellsOf]
  exact List.map_congr_left fun i hi => by rw [h i (List.mem_range.1 hi)]
/-- The first n numbers, the others nought. -/
def part (E : Nat → Int) (n k : Nat) : Int := if k < n then E k else 0
theorem part_step (kd : IntKind) (N : Nat) (E : Nat → Int) (n : Nat) : (cellsOf kd N (part E n)).set n (.int kd (E n)) = cellsOf kd N (part E (n + 1)) := by
  rw [cells_set]
  exact cells_congr fun i _ => by
    unfold upd part
    by_cases e : i = n
    · subst e; rw [if_pos rfl, if_pos (by omega)]
    · rw [if_neg e]
      by_cases e2 : i < n
      · rw [if_pos e2, if_pos (by omega)]
      · rw [if_neg e2, if_neg (by omega)]
theorem part_zero (kd : IntKind) (N : Nat) (E : Nat → Int) : cellsOf kd N (part E 0) = cellsOf kd N (fun _ => 0) := cells_congr fun i _ => by unfold part; rw [if_neg (by omega)]
theorem part_all (kd : IntKind) (N : Nat) (E : Nat → Int) : cellsOf kd N (part E N) = cellsOf kd N E := cells_congr fun i hi => by unfold part; rw [if_pos hi]
def z13 : Array Value := #[.int .i64 0, .int .i64 0, .int .i64 0, .int .i64 0, .int .i64 0, .int .i64 0, .int .i64 0, .int .i64 0, .int .i64 0, .int .i64 0, .int .i64 0, .int .i64 0, .int .i64 0]
def z16 : Array Value := #[.int .i64 0, .int .i64 0, .int .i64 0, .int .i64 0, .int .i64 0, .int .i64 0, .int .i64 0, .int .i64 0, .int .i64 0, .int .i64 0, .int .i64 0, .int .i64 0, .int .i64 0, .int .i64 0, .int .i64 0, .int .i64 0]
theorem around_at {m : Nat} {R : (Nat → Int) → Nat → Nat → Int} (hA : Aro m R) {x y : Int} (i j : Nat) (hx : x = (i : Int)) (hy : y = (j : Int)) (E : Nat → Int) (cs : Array Value) (hcs : A13 E cs) (hE : ∀ k, 0 ≤ E k ∧ E k ≤ 255) (hi : i < 4) (hj : j < 4) (w : World) :
    Calls Tryd.prog 48 #[.agg cs, .int .i64 m, .int .i64 x, .int .i64 y] w fun e w' => e = .returned (.int .i64 (R E j i)) ∧ Below w.heap.size w w' := by
  subst hx hy; exact hA E cs hcs hE i j hi hj w
/-- The block, row by row. -/
def rowR (R : (Nat → Int) → Nat → Nat → Int) (E : Nat → Int) (k : Nat) : Int := R E (k / 4) (k % 4)
theorem info16i : (Tryd.prog.info? 53).map (·.size) = some 16 := by kernel_rfl

set_option maxRecDepth 100000 in
set_option maxHeartbeats 1600000 in
theorem fore_any (m : Nat) (R : (Nat → Int) → Nat → Nat → Int) (hA : Aro m R) (E : Nat → Int) (cs : Array Value) (hcs : A13 E cs) (hE : ∀ k, 0 ≤ E k ∧ E k ≤ 255) (w : World) :
    Calls Tryd.prog 31 #[.int .i64 m, .agg cs] w fun e w' => e = .returned (.agg (cellsOf .i64 16 (rowR R E)).toArray) ∧ Below w.heap.size w w' := by
  have HC := Lib.hid (And.intro hA (And.intro hcs hE)); clear hA hcs hE
  have HI := Lib.hid HC.out.2.1.info
  obtain ⟨g1, hg1⟩ : ∃ g1, g1 = w.heap.size := ⟨_, rfl⟩
  obtain ⟨g2, hg2⟩ : ∃ g2, g2 = w.heap.size + 1 := ⟨_, rfl⟩
  obtain ⟨g3, hg3⟩ : ∃ g3, g3 = w.heap.size + 1 + 1 := ⟨_, rfl⟩
  have HW : Hid ((((w.alloc (.cells cs 51)).alloc (.cells z16 53)).alloc (.cells z16 53)).heap[g1]? = some (.cells cs 51 (0, 0)) ∧ SObj (((w.alloc (.cells cs 51)).alloc (.cells z16 53)).alloc (.cells z16 53)) g2 53 (cellsOf .i64 16 (fun _ => 0)) ∧ SObj (((w.alloc (.cells cs 51)).alloc (.cells z16 53)).alloc (.cells z16 53)) g3 53 (cellsOf .i64 16 (part (rowR R E) 0)) ∧ Below w.heap.size w (((w.alloc (.cells cs 51)).alloc (.cells z16 53)).alloc (.cells z16 53))) := Lib.hid (by
    have e0 : (cellsOf .i64 16 (fun _ => 0)).toArray = z16 := by rfl
    rw [part_zero]
    refine ⟨?_, SObj.alloc ?_ _, ?_, ((Below.refl _ _).alloc (Nat.le_refl _) _ |>.alloc (by simp) _).alloc (by simp; omega) _⟩
    · have : SObj (w.alloc (.cells cs 51)) g1 51 cs.toList := by
        rw [hg1]; have := obj_new w 51 cs.toList; simpa using this
      have := (this.alloc (.cells z16 53)).alloc (.cells z16 53)
      unfold SObj at this
      simpa using this
    · have := obj_new (w.alloc (.cells cs 51)) 53 (cellsOf .i64 16 (fun _ => 0))
      rw [e0] at this
      rw [hg2]
      simpa using this
    · have := obj_new ((w.alloc (.cells cs 51)).alloc (.cells z16 53)) 53 (cellsOf .i64 16 (fun _ => 0))
      rw [e0] at this
      rw [hg3]
      simpa using this)
  unfold z16 at HW
  have HN : Hid (g1 ≠ g3 ∧ g2 ≠ g3 ∧ w.heap.size ≤ g2 ∧ w.heap.size ≤ g3) := Lib.hid (by omega)
  go_enter Tryd.func31, Tryd.ntmps31
  go_wp2
  rw [← hg3, ← hg2]
  generalize World.alloc _ _ = w1 at HW ⊢
  obtain ⟨h0, hh0⟩ : ∃ h0, h0 = w.heap.size := ⟨_, rfl⟩
  have HH := Lib.hid hh0
  rw [← hh0] at hg1 HW HN ⊢
  rw [← hg1]
  clear hg2 hg3 hg1 hh0
  go_loopw [6] (fun i wr => ∃ p : Nat, p ≤ 16 ∧ i = .int .i64 p ∧ Hid (wr.heap[g1]? = some (.cells cs 51 (0, 0)) ∧ SObj wr g2 53 (cellsOf .i64 16 (fun _ => 0)) ∧ SObj wr g3 53 (cellsOf .i64 16 (part (rowR R E) p)) ∧ Below h0 w wr)) (fun i _ => 16 - (intOf i).toNat)
  case atStart => exact ⟨0, by omega, rfl, HW⟩
  case round =>
    obtain ⟨p, hp, rfl, hR⟩ := hrel
    by_cases hlt : p < 16
    · have HO := Lib.hid hR.out.1
      go_wp2_with (refine wpList_load_row rfl 51 (.tmp 3) rfl g1 rfl 51 cs (0, 0) _ HO.out Tryd.underlying51 rfl HI.out ?_)
      refine (around_at HC.out.1 (p % 4) (p / 4) (by omega) (by omega) E cs HC.out.2.1 HC.out.2.2 (by omega) (by omega) wr).mono ?_
      rintro _ w2 ⟨rfl, hb⟩
      have H2 : Hid (w2.heap[g1]? = some (.cells cs 51 (0, 0)) ∧ SObj w2 g2 53 (cellsOf .i64 16 (fun _ => 0)) ∧ SObj w2 g3 53 (cellsOf .i64 16 (part (rowR R E) p)) ∧ Below h0 w w2) := Lib.hid ⟨by
        have h1 : SObj wr g1 51 cs.toList := by unfold SObj; simpa using hR.out.1
        have := h1.below hb h1.lt
        unfold SObj at this; simpa using this, hR.out.2.1.below hb hR.out.2.1.lt, hR.out.2.2.1.below hb hR.out.2.2.1.lt, hR.out.2.2.2.trans (hb.mono (by rw [HH.out]; exact hR.out.2.2.2.size))⟩
      clear hb HO hR
      obtain ⟨x, hx⟩ : ∃ x, x = R E (p / 4) (p % 4) := ⟨_, rfl⟩
      rw [← hx]
      have d0 : w2.cell? ⟨g3, p, none⟩ = some (.int .i64 (part (rowR R E) p p)) := H2.out.2.2.1.cell p (by simp [cellsOf, hlt])
      have z0 : w2.frozen? ⟨g3, p, none⟩ = false := H2.out.2.2.1.free p
      have HE : Hid ((w2.setCell ⟨g3, p, none⟩ (.int .i64 x)).heap[g1]? = some (.cells cs 51 (0, 0)) ∧ SObj (w2.setCell ⟨g3, p, none⟩ (.int .i64 x)) g2 53 (cellsOf .i64 16 (fun _ => 0)) ∧ SObj (w2.setCell ⟨g3, p, none⟩ (.int .i64 x)) g3 53 (cellsOf .i64 16 (part (rowR R E) (p + 1))) ∧ Below h0 w (w2.setCell ⟨g3, p, none⟩ (.int .i64 x))) := Lib.hid (by
        have h3 := H2.out.2.2.1.set p (.int .i64 (rowR R E p))
        rw [part_step] at h3
        have hx' : x = rowR R E p := hx
        rw [hx']
        have h1 : SObj w2 g1 51 cs.toList := by unfold SObj; simpa using H2.out.1
        have h1 := h1.far ⟨g3, p, none⟩ HN.out.1 (.int .i64 (rowR R E p))
        unfold SObj at h1
        exact ⟨by simpa using h1, H2.out.2.1.far _ HN.out.2.1 _, h3, H2.out.2.2.2.setCell (show h0 ≤ g3 from HN.out.2.2.2) _⟩)
      generalize part (rowR R E) p p = old at d0
      clear hx H2
      go_wp2
      go_roundw
      case rel => exact ⟨p + 1, by omega, by go_num, HE⟩
      case measure => simp [intOf]; omega
    · obtain rfl : p = 16 := by omega
      have HO : Hid (SObj wr g3 53 (cellsOf .i64 16 (rowR R E))) := Lib.hid (by
        have := hR.out.2.2.1
        rwa [part_all] at this)
      have HT : Hid (wr.there g2 0 (cellsOf .i64 16 (rowR R E)).toArray.size) := Lib.hid (fun j hj => by
        have hj' : j < 16 := by simpa [cellsOf] using hj
        refine ⟨?_, hR.out.2.1.free _⟩
        rw [hR.out.2.1.cell (0 + j) (v := .int .i64 0) (by simp [cellsOf, hj'])]; rfl)
      have HA : Hid ((cellsOf .i64 16 (rowR R E)).toArray.all (·.oneCell') = true) := Lib.hid (all_oneCell_toArray (cellsOf_one _ _ _))
      have HINFO : Hid ((Tryd.prog.info? 53).map (·.size) = some (cellsOf .i64 16 (rowR R E)).toArray.size) := Lib.hid (by rw [info16i]; simp [cellsOf])
      have HS : Hid (World.rangeAt (wr.setCells g2 0 (cellsOf .i64 16 (rowR R E)).toArray.toList) g2 0 (cellsOf .i64 16 (rowR R E)).toArray.toList ∧ Below h0 w (wr.setCells g2 0 (cellsOf .i64 16 (rowR R E)).toArray.toList)) :=
        Lib.hid ⟨World.rangeAt_setCells_same _ _ _ _ (by simpa using HT.out), below_cells HN.out.2.2.1 _ _ _ hR.out.2.2.2⟩
      obtain ⟨ct, hct⟩ : ∃ ct, ct = (cellsOf .i64 16 (rowR R E)).toArray := ⟨_, rfl⟩
      rw [← hct] at HT HA HS HINFO
      have HCS := Lib.hid hct
      have HO2 : Hid (wr.heap[g3]? = some (.cells ct 53 (0, 0))) := by rw [hct]; exact HO
      clear hct HO hR
      go_wp2_with (first | (refine wpList_load_row rfl 53 (.tmp 5) rfl g3 rfl 53 ct (0, 0) _ HO2.out Tryd.underlying53 rfl (HINFO.out) ?_) | (refine wpList_store_mid rfl 53 (.tmp 4) (.tmp 20) rfl g2 0 ct rfl rfl HT.out HINFO.out HA.out ?_))
      generalize World.setCells _ _ _ _ = w2 at HS ⊢
      refine bodyPost_ret (v := .agg ct) ?_ rfl ⟨by rw [HCS.out], by rw [← HH.out]; exact HS.out.2⟩
      exact results_cell Tryd.results31 rfl (run_loadVar_mid (P := Tryd.prog) w2 g2 0 53 ct.toList _ HS.out.1 Tryd.underlying53 rfl (by simpa using HINFO.out))

set_option maxRecDepth 100000 in
set_option maxHeartbeats 1600000 in
theorem sp4_any (m : Nat) (hm : m < 10) (R : (Nat → Int) → Nat → Nat → Int) (hA : Aro m R) (hRb : ∀ E : Nat → Int, (∀ k, 0 ≤ E k ∧ E k ≤ 255) → ∀ j i, 0 ≤ R E j i ∧ R E j i ≤ 255) (aa : Option Addr) (ca : Nat) (fa : Nat → Int) (al : Option Addr) (cl : Nat) (fl : Nat → Int) (c : Int) (E : Nat → Int) (w : World) (ha : Arg .u8 w aa 8 fa) (hl : Arg .u8 w al 4 fl) (hc0 : 0 ≤ c) (hc1 : c ≤ 255) (hE : ∀ k, 0 ≤ E k ∧ E k ≤ 255) (e1 : ∀ k, k < 4 → E k = fl (3 - k)) (e2 : E 4 = c) (e3 : ∀ k, k < 8 → E (5 + k) = fa k) :
    Calls Tryd.prog 19 #[.int .i64 m, .int .i64 c, .slice aa 8 ca, .slice al 4 cl] w fun e w' => (∃ a' c', e = .returned (.slice a' 16 c') ∧ Own .u8 w.heap.size w' a' 16 (rowR R E)) ∧ Below w.heap.size w w' := by
  obtain ⟨ga, oa, rfl, hga, ra⟩ := ha (by decide)
  obtain ⟨gl, ol, rfl, hgl, rl⟩ := hl (by decide)
  have HC := Lib.hid (And.intro hA (And.intro hRb (And.intro hE (And.intro e1 (And.intro e2 e3))))); clear hA hRb hE e1 e2 e3
  have HA := Lib.hid (And.intro ra rl)
  have HG := Lib.hid (And.intro hga hgl)
  clear ha hl ra rl hga hgl
  obtain ⟨h0, hh0⟩ : ∃ h0, h0 = w.heap.size := ⟨_, rfl⟩
  have HH := Lib.hid hh0
  have HW : Hid (SObj (w.alloc (.cells z13 51)) h0 51 (cellsOf .i64 13 (part E 0)) ∧ Below h0 w (w.alloc (.cells z13 51))) := Lib.hid (by
    have e0 : (cellsOf .i64 13 (fun _ => 0)).toArray = z13 := by rfl
    rw [part_zero, hh0]
    refine ⟨?_, (Below.refl _ _).alloc (Nat.le_refl _) _⟩
    have := obj_new w 51 (cellsOf .i64 13 (fun _ => 0))
    rwa [e0] at this)
  unfold z13 at HW
  have t1 : decide ((m : Int) < 0) = false := decide_eq_false (by omega)
  have t2 : decide ((m : Int) ≥ 10) = false := decide_eq_false (by omega)
  have t3 : decide (10 ≤ (m : Int)) = false := decide_eq_false (by omega)
  go_enter Tryd.func19, Tryd.ntmps19
  go_wp2
  rw [← hh0] at HG ⊢
  generalize World.alloc _ _ = w1 at HW ⊢
  clear hh0 t1 t2 t3
  go_loopw [10] (fun i wr => ∃ p : Nat, p ≤ 4 ∧ i = .int .i64 p ∧ Hid (SObj wr h0 51 (cellsOf .i64 13 (part E p)) ∧ Below h0 w wr)) (fun i _ => 4 - (intOf i).toNat)
  case atStart => exact ⟨0, by omega, rfl, HW⟩
  case round =>
    obtain ⟨p, hp, rfl, hR⟩ := hrel
    by_cases hlt : p < 4
    · have c0 : wr.cell? ⟨gl, ol + (3 - p), none⟩ = some (.int .u8 (fl (3 - p))) := (hR.out.2.cell (p := ⟨gl, ol + (3 - p), none⟩) HG.out.2).trans (HA.out.2 (3 - p) (by omega))
      rw [← HC.out.2.2.2.1 p hlt] at c0
      obtain ⟨f0, f1⟩ := HC.out.2.2.1 p
      have d0 : wr.cell? ⟨h0, p, none⟩ = some (.int .i64 (part E p p)) := hR.out.1.cell p (by simp [cellsOf, show p < 13 by omega])
      have z0 : wr.frozen? ⟨h0, p, none⟩ = false := hR.out.1.free p
      have HE : Hid (SObj (wr.setCell ⟨h0, p, none⟩ (.int .i64 (E p))) h0 51 (cellsOf .i64 13 (part E (p + 1))) ∧ Below h0 w (wr.setCell ⟨h0, p, none⟩ (.int .i64 (E p)))) := Lib.hid (by
        have h3 := hR.out.1.set p (.int .i64 (E p))
        rw [part_step] at h3
        exact ⟨h3, hR.out.2.setCell (Nat.le_refl h0) _⟩)
      generalize part E p p = old at d0
      generalize E p = x at *
      have q1 : (3 - (p : Int)).toNat = 3 - p := by omega
      have q3 : (0 : Int) ≤ 3 - (p : Int) := by omega
      go_wp2
      go_roundw
      case rel => exact ⟨p + 1, by omega, by go_num, HE⟩
      case measure => simp [intOf]; omega
    · obtain rfl : p = 4 := by omega
      go_wp2_with fail
      refine (byteOf_any c wr).mono ?_
      rintro _ _ ⟨rfl, rfl⟩
      have hcc : hld 0 255 c = c := by unfold hld; (repeat' split) <;> omega
      rw [hcc]
      have d0 : wr.cell? ⟨h0, 4, none⟩ = some (.int .i64 (part E 4 4)) := hR.out.1.cell 4 (by simp [cellsOf])
      have z0 : wr.frozen? ⟨h0, 4, none⟩ = false := hR.out.1.free 4
      have HE : Hid (SObj (wr.setCell ⟨h0, 4, none⟩ (.int .i64 c)) h0 51 (cellsOf .i64 13 (part E (5 + 0))) ∧ Below h0 w (wr.setCell ⟨h0, 4, none⟩ (.int .i64 c))) := Lib.hid (by
        have h3 := hR.out.1.set 4 (.int .i64 (E 4))
        rw [part_step, HC.out.2.2.2.2.1] at h3
        exact ⟨h3, hR.out.2.setCell (Nat.le_refl h0) _⟩)
      generalize part E 4 4 = old at d0
      clear hcc hR hlt hp
      go_wp2
      generalize World.setCell _ _ _ = w2 at HE ⊢
      clear d0 z0
      go_loopw [11] (fun i wr => ∃ p : Nat, p ≤ 8 ∧ i = .int .i64 p ∧ Hid (SObj wr h0 51 (cellsOf .i64 13 (part E (5 + p))) ∧ Below h0 w wr)) (fun i _ => 8 - (intOf i).toNat)
      case atStart => exact ⟨0, by omega, rfl, HE⟩
      case round =>
        obtain ⟨p, hp, rfl, hR⟩ := hrel
        by_cases hlt : p < 8
        · have c0 : wr.cell? ⟨ga, oa + p, none⟩ = some (.int .u8 (fa p)) := (hR.out.2.cell (p := ⟨ga, oa + p, none⟩) HG.out.1).trans (HA.out.1 p (by omega))
          rw [← HC.out.2.2.2.2.2 p hlt] at c0
          obtain ⟨f0, f1⟩ := HC.out.2.2.1 (5 + p)
          have d0 : wr.cell? ⟨h0, 5 + p, none⟩ = some (.int .i64 (part E (5 + p) (5 + p))) := hR.out.1.cell (5 + p) (by simp [cellsOf, show 5 + p < 13 by omega])
          have z0 : wr.frozen? ⟨h0, 5 + p, none⟩ = false := hR.out.1.free (5 + p)
          have HE : Hid (SObj (wr.setCell ⟨h0, 5 + p, none⟩ (.int .i64 (E (5 + p)))) h0 51 (cellsOf .i64 13 (part E (5 + (p + 1)))) ∧ Below h0 w (wr.setCell ⟨h0, 5 + p, none⟩ (.int .i64 (E (5 + p))))) := Lib.hid (by
            have h3 := hR.out.1.set (5 + p) (.int .i64 (E (5 + p)))
            rw [part_step] at h3
            exact ⟨h3, hR.out.2.setCell (Nat.le_refl h0) _⟩)
          generalize part E (5 + p) (5 + p) = old at d0
          generalize E (5 + p) = x at *
          have q1 : (5 + (p : Int)).toNat = 5 + p := by omega
          have q3 : (0 : Int) ≤ 5 + (p : Int) := by omega
          go_wp2
          go_roundw
          case rel => exact ⟨p + 1, by omega, by go_num, HE⟩
          case measure => simp [intOf]; omega
        · obtain rfl : p = 8 := by omega
          obtain ⟨cs, hcs⟩ : ∃ cs, cs = (cellsOf .i64 13 E).toArray := ⟨_, rfl⟩
          have HO : Hid (wr.heap[h0]? = some (.cells cs 51 (0, 0)) ∧ A13 E cs ∧ Below h0 w wr) := Lib.hid ⟨by
            have := hR.out.1
            rw [show 5 + 8 = 13 from rfl, part_all] at this
            rw [hcs]; exact this, hcs, hR.out.2⟩
          have HI := Lib.hid HO.out.2.1.info
          clear hcs hR hlt hp
          go_wp2_with (refine wpList_load_row rfl 51 (.tmp 9) rfl h0 rfl 51 cs (0, 0) _ HO.out.1 Tryd.underlying51 rfl HI.out ?_)
          refine (fore_any m R HC.out.1 E cs HO.out.2.1 HC.out.2.2.1 wr).mono ?_
          rintro _ w3 ⟨rfl, hb⟩
          have H3 : Hid (Below h0 w w3) := Lib.hid (HO.out.2.2.trans (hb.mono (by rw [HH.out]; exact HO.out.2.2.size)))
          clear hb
          have HZ : Hid (SObj (w3.alloc (.cells z16 53)) w3.heap.size 53 (cellsOf .i64 16 (fun _ => 0)) ∧ Below h0 w (w3.alloc (.cells z16 53))) := Lib.hid (by
            have e0 : (cellsOf .i64 16 (fun _ => 0)).toArray = z16 := by rfl
            have := obj_new w3 53 (cellsOf .i64 16 (fun _ => 0))
            rw [e0] at this
            exact ⟨this, H3.out.alloc (by rw [HH.out]; exact H3.out.size) _⟩)
          unfold z16 at HZ
          obtain ⟨g2, hg2⟩ : ∃ g2, g2 = w3.heap.size := ⟨_, rfl⟩
          have HG2 : Hid (h0 ≤ g2) := Lib.hid (by rw [hg2, HH.out]; exact H3.out.size)
          rw [← hg2] at HZ
          have HT : Hid (∀ wz, SObj wz g2 53 (cellsOf .i64 16 (fun _ => 0)) → wz.there g2 0 (cellsOf .i64 16 (rowR R E)).toArray.size) := Lib.hid (fun wz hz j hj => by
            have hj' : j < 16 := by simpa [cellsOf] using hj
            refine ⟨?_, hz.free _⟩
            rw [hz.cell (0 + j) (v := .int .i64 0) (by simp [cellsOf, hj'])]; rfl)
          have HA2 : Hid ((cellsOf .i64 16 (rowR R E)).toArray.all (·.oneCell') = true) := Lib.hid (all_oneCell_toArray (cellsOf_one _ _ _))
          have HINFO : Hid ((Tryd.prog.info? 53).map (·.size) = some (cellsOf .i64 16 (rowR R E)).toArray.size) := Lib.hid (by rw [info16i]; simp [cellsOf])
          obtain ⟨ct, hct⟩ : ∃ ct, ct = (cellsOf .i64 16 (rowR R E)).toArray := ⟨_, rfl⟩
          rw [← hct] at HT HA2 HINFO ⊢
          have HCS := Lib.hid hct; clear hct
          go_wp2_with (refine wpList_store_mid rfl 53 (.tmp 12) (.tmp 58) rfl w3.heap.size 0 ct rfl rfl (by rw [← hg2]; exact HT.out _ HZ.out.1) HINFO.out HA2.out ?_)
          rw [← hg2]
          have HS : Hid (∀ wz, SObj wz g2 53 (cellsOf .i64 16 (fun _ => 0)) ∧ Below h0 w wz → Arg .i64 (wz.setCells g2 0 ct.toList) (some ⟨g2, 0, none⟩) 16 (rowR R E) ∧ Below h0 w (wz.setCells g2 0 ct.toList)) := Lib.hid (fun wz hz => by
            refine ⟨fun _ => ⟨g2, 0, rfl, ?_, fun i hi => ?_⟩, below_cells HG2.out _ _ _ hz.2⟩
            · rw [size_cells]; exact hz.1.lt
            · have := World.rangeAt_setCells_same wz g2 0 ct.toList (by simpa using HT.out _ hz.1)
              exact this i (.int .i64 (rowR R E i)) (by rw [HCS.out]; simp [cellsOf, hi]))
          have HS2 := Lib.hid (HS.out _ HZ.out)
          generalize World.setCells _ _ _ _ = w4 at HS2 ⊢
          go_wp2_with fail
          refine (bytesOf_any (some ⟨g2, 0, none⟩) 16 16 (rowR R E) w4 (by decide) HS2.out.1 (fun k => HC.out.2.1 E HC.out.2.2.1 _ _)).mono ?_
          rintro _ w5 ⟨⟨a', c', rfl, ho⟩, hb⟩
          have H5 : Hid (Own .u8 h0 w5 a' 16 (rowR R E) ∧ Below h0 w w5) := Lib.hid ⟨ho.mono (by rw [HH.out]; exact HS2.out.2.size), HS2.out.2.trans (hb.mono (by rw [HH.out]; exact HS2.out.2.size))⟩
          clear ho hb
          go_wp2
          go_ret
          exact ⟨⟨_, _, rfl, by rw [← HH.out]; exact H5.out.1⟩, by rw [← HH.out]; exact H5.out.2⟩
end Go.Proofs.YtmdijdoaijnpaaaDoor
