/- The doors of the inverse transforms, and impl.Inverse, impl.InverseDC, where only the first coefficient is not nought. -/
import Derived.Test.YthmkmemocjnleaaDoorSixteen
import Derived.Test.YthmkmemocjnleaaDoorSqB
namespace Go.Proofs.YthmkmemocjnleaaDoor
open Go.RowKit
set_option linter.unusedVariables false

/-- The workspace ahead of the transform. -/
def invY (fi : Nat → Int) : Nat → Int := sqTo 4 0 0 (fun _ => 0) (fun _ => 0) fi 4
theorem invY_bd {fi : Nat → Int} (hi : ∀ k, 0 ≤ fi k ∧ fi k ≤ 255) (k : Nat) : 0 ≤ invY fi k ∧ invY fi k ≤ 255 :=
  sqTo_in 4 0 ⟨by decide, by decide⟩ (fun _ => ⟨by decide, by decide⟩) (fun _ => ⟨by decide, by decide⟩) hi 4 k
/-- What comes out. -/
def invV (fi : Nat → Int) (c : Int) (k : Nat) : Int := clp (fi k + (c + 4) / 8)
theorem inv_val (fi : Nat → Int) (c : Int) (k : Nat) (hk : k < 16) : valF 4 (blk4 (invY fi) (dcV (invY fi) c) 16) k = invV fi c k := by
  have e : k = 4 * (k / 4) + k % 4 := by omega
  have hm : k % 4 < 4 := Nat.mod_lt _ (by decide)
  have hd : k / 4 < 4 := by omega
  generalize k / 4 = p at *
  generalize k % 4 = q at *
  subst e
  rw [valF_row 4 _ p q hm]
  unfold blk4
  have e1 : (32 * (p + 1) + 8 + q) / 32 = p + 1 := by omega
  have e2 : (32 * (p + 1) + 8 + q) % 32 = 8 + q := by omega
  rw [e1, e2, if_pos ⟨by omega, by omega⟩, show p + 1 - 1 = p by omega, show 8 + q - 8 = q by omega]
  unfold dcV invV invY
  rw [sq_in4 0 0 _ _ fi p q hd hm]

set_option maxRecDepth 100000 in
set_option maxHeartbeats 1600000 in
theorem doorDC_any (c : Int) (ai : Option Addr) (ci : Nat) (fi : Nat → Int) (w : World) (h1 : -32768 ≤ c) (h2 : c ≤ 32767) (hci : 16 ≤ ci) (hcm : ci ≤ maxLen) (ha : Arg .u8 w ai 16 fi) (hi2 : ∀ k, 0 ≤ fi k ∧ fi k ≤ 255) :
    Calls Tryd.prog 46 #[.int .i16 c, .slice ai 16 ci] w fun e w' => (∃ a' c', e = .returned (.slice a' 16 c') ∧ Own .u8 w.heap.size w' a' 16 (invV fi c)) ∧ Below w.heap.size w w' := by
  obtain ⟨i0, hi, hz0, hz1, hz2⟩ := info_parts infoB
  have HA := Lib.hid (And.intro ha hi2); clear ha hi2
  go_enter Tryd.func46, Tryd.ntmps46
  go_wp2_with (refine wpList_make_row _ rfl _ _ 22 rfl 5 i0 (.int .u8 0) Tryd.underlying22 hi hz0 hz1 rfl .i64 .i64 4 rfl rfl (by rw [hz2]; decide) (by decide) ?_)
  have HB1 : Hid (Below w.heap.size w (w.alloc (.cells (madeCells #[.int .u8 0] 4) 5)) ∧ Arg .u8 (w.alloc (.cells (madeCells #[.int .u8 0] 4) 5)) (some ⟨w.heap.size, 0, none⟩) 4 (fun _ => 0)) := Lib.hid ⟨(Below.refl _ _).alloc (Nat.le_refl _) _, fun _ => ⟨w.heap.size, 0, rfl, by simp, fun i hi => by
    rw [Nat.zero_add, cell_of_row _ _ i _ _ _ (heap_alloc_new w _)]
    simp [madeCells, show i < 4 from hi, Nat.mod_one]⟩⟩
  generalize World.alloc w _ = w1 at HB1 ⊢
  refine (square_cof 4 0 0 none 0 (fun _ => 0) (some ⟨w.heap.size, 0, none⟩) 4 (fun _ => 0) ai ci fi w1 (by decide) (by decide) hci hcm (fun h => absurd h (by decide)) HB1.out.2 (HA.out.1.below HB1.out.1)).mono ?_
  rintro _ w2 ⟨rfl, hY, hb, hlt, hC⟩
  have HY := Lib.hid (And.intro hY (And.intro (HB1.out.1.trans (hb.mono HB1.out.1.size)) (And.intro hlt (And.intro HB1.out.1.size hC)))); clear hY hb hlt hC
  generalize w1.heap.size = g at *
  have k0 : w2.cell? ⟨g, 1250, none⟩ = some (.int .i16 0) := HY.out.2.2.2.2.1 0 (by decide)
  have z0 : w2.frozen? ⟨g, 1250, none⟩ = false := HY.out.2.2.2.2.2 0 (by decide)
  go_wp2_with fail
  have HS : Hid (Ybr (w2.setCell ⟨g, 1250, none⟩ (.int .i16 c)) g (invY fi) ∧ Cof (w2.setCell ⟨g, 1250, none⟩ (.int .i16 c)) g (firstF c) ∧ Below w.heap.size w (w2.setCell ⟨g, 1250, none⟩ (.int .i16 c)) ∧ g < (w2.setCell ⟨g, 1250, none⟩ (.int .i16 c)).heap.size) := by
    have hc := HY.out.2.2.2.2
    refine Lib.hid ⟨⟨fun i hi => ?_, HY.out.1.2.set _ _⟩, ⟨?_, hc.2.set _ _⟩, HY.out.2.1.setCell HY.out.2.2.2.1 _, by rw [size_setCell]; exact HY.out.2.2.1⟩
    · rw [World.cell?_setCell_other _ _ _ _ (by intro h; injection h with _ h2 _; omega)]; exact HY.out.1.1 i hi
    · exact (hc.1.set 0 (by decide) c).congr (fun i _ => by unfold upd firstF; rfl)
  generalize World.setCell _ _ _ = w3 at HS ⊢
  refine (dcOnly_any g (invY fi) (firstF c) w3 HS.out.1 (invY_bd HA.out.2) HS.out.2.1 h1 h2).mono ?_
  rw [show firstF c 0 = c from rfl]
  rintro _ w4 ⟨rfl, hY4, hg4⟩
  have HY4 := Lib.hid (And.intro hY4 (And.intro (HS.out.2.2.1.trans (below_of_grown hg4 HS.out.2.2.1.size (fun r hr => by cases hr; exact HY.out.2.2.2.1))) (Nat.lt_of_lt_of_le HS.out.2.2.2 hg4.size))); clear hY4 hg4
  generalize hz : blk4 (invY fi) (dcV (invY fi) c) 16 = z at *
  have Hz := Lib.hid hz; clear hz
  go_wp2_with fail
  refine (values_any g 4 z w4 (by decide) (by decide) HY4.out.1 HY4.out.2.2).mono ?_
  rintro _ w5 ⟨⟨a', c', rfl, ho⟩, hb⟩
  have H5 : Hid (Own .u8 w.heap.size w5 a' 16 (valF 4 z) ∧ Below w.heap.size w w5) := Lib.hid ⟨ho.mono HY4.out.2.1.size, HY4.out.2.1.trans (hb.mono HY4.out.2.1.size)⟩
  clear ho hb
  go_wp2
  go_ret
  exact ⟨⟨_, _, rfl, by
    have := H5.out.1
    rw [← Hz.out] at this
    exact this.congr (fun k hk => inv_val fi c k hk)⟩, H5.out.2⟩

theorem copy16 (w : World) (g : Nat) (b : Nat) (f : Nat → Int) (hr : Row .i16 w b 0 16 f) (hC : Cof w g (fun _ => 0)) :
    (Builtin.copy_ #[174, 174] 3 #[.slice (some ⟨g, 1250, none⟩) 400 400, .slice (some ⟨b, 0, none⟩) 16 16]).run Tryd.prog w = .ok (goInt 16) (w.setCells g 1250 (cellsOf .i16 16 f)) := by
  have hl : (cellsOf .i16 16 f).length = 16 := by simp [cellsOf]
  have info : (Tryd.prog.info? 114).map (·.size) = some 1 := by kernel_rfl
  have := run_copy_cells (P := Tryd.prog) w 174 174 3 114 g 1250 400 400 ⟨b, 0, none⟩ 16 16 (cellsOf .i16 16 f) Tryd.underlying174 info (by rw [hl]; rfl)
    (fun j u hj => by
      have hjn : j < 16 := by have := (List.getElem?_eq_some_iff.1 hj).1; simpa [cellsOf] using this
      have hu : u = .int .i16 (f j) := by simp [cellsOf, hjn] at hj; exact hj.symm
      rw [Addr.add_lit, hu]
      exact hr j hjn)
    (fun j hj => by rw [hC.1 j (by omega)]; rfl) (fun j hj => hC.2 j (by omega)) (cellsOf_one _ _ _)
  rw [hl] at this
  exact this

set_option maxRecDepth 100000 in
set_option maxHeartbeats 1600000 in
theorem door4_any (c : Int) (cs : Array Value) (hcs : cs = (cellsOf .i16 16 (firstF c)).toArray) (ai : Option Addr) (ci : Nat) (fi : Nat → Int) (w : World) (h1 : -32768 ≤ c) (h2 : c ≤ 32767) (hci : 16 ≤ ci) (hcm : ci ≤ maxLen) (ha : Arg .u8 w ai 16 fi) (hi2 : ∀ k, 0 ≤ fi k ∧ fi k ≤ 255) :
    Calls Tryd.prog 47 #[.agg cs, .slice ai 16 ci] w fun e w' => (∃ a' c', e = .returned (.slice a' 16 c') ∧ Own .u8 w.heap.size w' a' 16 (invV fi c)) ∧ Below w.heap.size w w' := by
  obtain ⟨i0, hi, hz0, hz1, hz2⟩ := info_parts infoB
  have HA := Lib.hid (And.intro ha (And.intro hi2 hcs)); clear ha hi2 hcs
  go_enter Tryd.func47, Tryd.ntmps47
  go_wp2_with (refine wpList_make_row _ rfl _ _ 22 rfl 5 i0 (.int .u8 0) Tryd.underlying22 hi hz0 hz1 rfl .i64 .i64 4 rfl rfl (by rw [hz2]; decide) (by decide) ?_)
  have HB1 : Hid (Below w.heap.size w ((w.alloc (.cells cs 116)).alloc (.cells (madeCells #[.int .u8 0] 4) 5)) ∧ Arg .u8 ((w.alloc (.cells cs 116)).alloc (.cells (madeCells #[.int .u8 0] 4) 5)) (some ⟨w.heap.size + 1, 0, none⟩) 4 (fun _ => 0) ∧ Row .i16 ((w.alloc (.cells cs 116)).alloc (.cells (madeCells #[.int .u8 0] 4) 5)) w.heap.size 0 16 (firstF c) ∧ w.heap.size < ((w.alloc (.cells cs 116)).alloc (.cells (madeCells #[.int .u8 0] 4) 5)).heap.size) := Lib.hid ⟨((Below.refl _ _).alloc (Nat.le_refl _) _).alloc (by simp) _, fun _ => ⟨w.heap.size + 1, 0, rfl, by simp, fun i hi => by
    have := heap_alloc_new (w.alloc (.cells cs 116)) (.cells (madeCells #[.int .u8 0] 4) 5)
    simp only [World.size_alloc] at this
    rw [Nat.zero_add, cell_of_row _ _ i _ _ _ this]
    simp [madeCells, show i < 4 from hi, Nat.mod_one]⟩, fun i hi => by
    have h0 : SObj (w.alloc (.cells cs 116)) w.heap.size 116 cs.toList := by
      have := obj_new w 116 cs.toList
      simpa using this
    have h1 := (h0.alloc (.cells (madeCells #[.int .u8 0] 4) 5)).cell i (v := .int .i16 (firstF c i)) (by rw [HA.out.2.2]; simp [cellsOf, hi])
    rw [Nat.zero_add]; exact h1, by simp; omega⟩
  generalize World.alloc _ (.cells (madeCells #[.int .u8 0] 4) _) = w1 at HB1 ⊢
  obtain ⟨gc, hgc⟩ : ∃ gc, gc = w.heap.size + 1 := ⟨_, rfl⟩
  rw [← hgc] at HB1 ⊢
  clear hgc
  refine (square_cof 4 0 0 none 0 (fun _ => 0) (some ⟨gc, 0, none⟩) 4 (fun _ => 0) ai ci fi w1 (by decide) (by decide) hci hcm (fun h => absurd h (by decide)) HB1.out.2.1 (HA.out.1.below HB1.out.1)).mono ?_
  rintro _ w2 ⟨rfl, hY, hb, hlt, hC⟩
  have HR : Hid (Row .i16 w2 w.heap.size 0 16 (firstF c)) := Lib.hid (HB1.out.2.2.1.below hb HB1.out.2.2.2)
  have HY := Lib.hid (And.intro hY (And.intro (HB1.out.1.trans (hb.mono HB1.out.1.size)) (And.intro hlt (And.intro HB1.out.1.size hC)))); clear hY hb hlt hC
  generalize w1.heap.size = g at *
  have HCopy : Hid ((Builtin.copy_ #[174, 174] 3 #[.slice (some ⟨g, 1250, none⟩) 400 400, .slice (some ⟨w.heap.size, 0, none⟩) 16 16]).run Tryd.prog w2.drew = .ok (goInt 16) (w2.drew.setCells g 1250 (cellsOf .i16 16 (firstF c)))) := Lib.hid (copy16 w2.drew g w.heap.size (firstF c) HR.out HY.out.2.2.2.2)
  go_wp2_with fail
  go_region_law (go_simp; rw [HCopy.out]; go_simp)
  have HS : Hid (Ybr (w2.drew.setCells g 1250 (cellsOf .i16 16 (firstF c))) g (invY fi) ∧ Cof (w2.drew.setCells g 1250 (cellsOf .i16 16 (firstF c))) g (firstF c) ∧ Below w.heap.size w (w2.drew.setCells g 1250 (cellsOf .i16 16 (firstF c))) ∧ g < (w2.drew.setCells g 1250 (cellsOf .i16 16 (firstF c))).heap.size) := by
    have hc := HY.out.2.2.2.2
    refine Lib.hid ⟨⟨fun i hi => ?_, wr_setCells (w := w2.drew) HY.out.1.2 _ _ _⟩, ⟨?_, wr_setCells (w := w2.drew) hc.2 _ _ _⟩, below_cells HY.out.2.2.2.1 _ _ _ HY.out.2.1.drew, by rw [size_cells]; exact HY.out.2.2.1⟩
    · rw [World.cell?_setCells_out g _ 1250 w2.drew ⟨g, 1650 + i, none⟩ (fun _ _ => by simp [cellsOf]; omega)]; exact HY.out.1.1 i hi
    · exact (row_setCells (w := w2.drew) (B := 1250) hc.1 0 16 (firstF c) (by decide)).congr (fun i hi => by
        unfold updN firstF
        by_cases e : i < 16
        · rw [if_pos (by omega), Nat.sub_zero]
        · rw [if_neg (by omega), if_neg (by omega)])
  generalize World.setCells _ _ _ _ = w3 at HS ⊢
  go_wp2_with fail
  refine (idct4_any g (invY fi) c w3 HS.out.1 (invY_bd HA.out.2.1) HS.out.2.1 h1 h2 HS.out.2.2.2).mono ?_
  rintro _ w4 ⟨rfl, hY4, hg4⟩
  have HY4 := Lib.hid (And.intro hY4 (And.intro (HS.out.2.2.1.trans (below_of_grown hg4 HS.out.2.2.1.size (fun r hr => by cases hr; exact HY.out.2.2.2.1))) (Nat.lt_of_lt_of_le HS.out.2.2.2 hg4.size))); clear hY4 hg4
  generalize hz : blk4 (invY fi) (dcV (invY fi) c) 16 = z at *
  have Hz := Lib.hid hz; clear hz
  go_wp2_with fail
  refine (values_any g 4 z w4 (by decide) (by decide) HY4.out.1 HY4.out.2.2).mono ?_
  rintro _ w5 ⟨⟨a', c', rfl, ho⟩, hb⟩
  have H5 : Hid (Own .u8 w.heap.size w5 a' 16 (valF 4 z) ∧ Below w.heap.size w w5) := Lib.hid ⟨ho.mono HY4.out.2.1.size, HY4.out.2.1.trans (hb.mono HY4.out.2.1.size)⟩
  clear ho hb
  go_wp2
  go_ret
  exact ⟨⟨_, _, rfl, by
    have := H5.out.1
    rw [← Hz.out] at this
    exact this.congr (fun k hk => inv_val fi c k hk)⟩, H5.out.2⟩

theorem impDC_any (c : Int) (ai : Option Addr) (ci : Nat) (fi : Nat → Int) (w : World) (h1 : -32768 ≤ c) (h2 : c ≤ 32767) (hci : 16 ≤ ci) (hcm : ci ≤ maxLen) (ha : Arg .u8 w ai 16 fi) (hi2 : ∀ k, 0 ≤ fi k ∧ fi k ≤ 255) :
    Calls Tryd.prog 22 #[.int .i64 c, .slice ai 16 ci] w fun e w' => (∃ a' c', e = .returned (.slice a' 16 c') ∧ Own .u8 w.heap.size w' a' 16 (invV fi c)) ∧ Below w.heap.size w w' := by
  have HA := Lib.hid (And.intro ha hi2); clear ha hi2
  have e : IntKind.i16.wrap c = c := IntWalk.i16_in _ ⟨h1, h2⟩
  go_enter Tryd.func22, Tryd.ntmps22
  go_wp2_with fail
  refine (doorDC_any c ai ci fi w h1 h2 hci hcm HA.out.1 HA.out.2).mono ?_
  rintro _ w1 ⟨⟨a', c', rfl, ho⟩, hb⟩
  have H1 := Lib.hid (And.intro ho hb); clear ho hb e
  go_wp2
  go_ret
  exact ⟨⟨_, _, rfl, H1.out.1⟩, H1.out.2⟩

set_option maxRecDepth 100000 in
theorem imp_any (c : Int) (ai : Option Addr) (ci : Nat) (fi : Nat → Int) (w : World) (h1 : -32768 ≤ c) (h2 : c ≤ 32767) (hci : 16 ≤ ci) (hcm : ci ≤ maxLen) (ha : Arg .u8 w ai 16 fi) (hi2 : ∀ k, 0 ≤ fi k ∧ fi k ≤ 255) :
    Calls Tryd.prog 23 #[.agg (sixV c), .slice ai 16 ci] w fun e w' => (∃ a' c', e = .returned (.slice a' 16 c') ∧ Own .u8 w.heap.size w' a' 16 (invV fi c)) ∧ Below w.heap.size w w' := by
  have HA := Lib.hid (And.intro ha hi2); clear ha hi2
  obtain ⟨cs, hcs⟩ : ∃ cs, cs = sixV c := ⟨_, rfl⟩
  have hsz : cs.size = 16 := by rw [hcs]; rfl
  rw [← hcs]
  have HC := Lib.hid (And.intro hcs hsz); clear hcs hsz
  go_enter Tryd.func23, Tryd.ntmps23
  have info : (Tryd.prog.info? 50).map (·.size) = some cs.size := by rw [HC.out.2]; kernel_rfl
  go_wp2_with (refine wpList_load_row rfl 50 (.tmp 2) rfl w.heap.size rfl 50 cs (0, 0) _ (heap_alloc_new w _) Tryd.underlying50 rfl info ?_)
  clear info
  generalize hw1 : World.alloc w _ = w1
  have H1 : Hid (Below w.heap.size w w1) := Lib.hid (by rw [← hw1]; exact (Below.refl _ _).alloc (Nat.le_refl _) _)
  clear hw1
  rw [HC.out.1]
  refine (sixteen_any c w1 h1 h2).mono ?_
  rintro _ w2 ⟨rfl, hb⟩
  have H2 : Hid (Below w.heap.size w w2) := Lib.hid (H1.out.trans (hb.mono H1.out.size)); clear hb
  obtain ⟨ds, hds⟩ : ∃ ds, ds = (cellsOf .i16 16 (firstF c)).toArray := ⟨_, rfl⟩
  rw [← hds]
  have HD := Lib.hid hds; clear hds
  go_wp2_with fail
  refine (door4_any c ds HD.out ai ci fi w2 h1 h2 hci hcm (HA.out.1.below H2.out) HA.out.2).mono ?_
  rintro _ w3 ⟨⟨a', c', rfl, ho⟩, hb⟩
  have H3 : Hid (Own .u8 w.heap.size w3 a' 16 (invV fi c) ∧ Below w.heap.size w w3) := Lib.hid ⟨ho.mono H2.out.size, H2.out.trans (hb.mono H2.out.size)⟩; clear ho hb
  go_wp2
  go_ret
  exact ⟨⟨_, _, rfl, H3.out.1⟩, H3.out.2⟩
end Go.Proofs.YthmkmemocjnleaaDoor
