/- The package's DoorSegments. -/
import Derived.Test.YthmkmemocjnleaaDoorSegP
import Derived.Test.YthmkmemocjnleaaDoorDec
import Derived.Test.YthmkmemocjnleaaDoorCommon
import Derived.Test.YthmkmemocjnleaaDoorReadBool
import Derived.Laws.Rows
import Derived.Deep.OwnRows
import Derived.Deep.MidRow
import Derived.Deep.RegionHeld3
import Derived.Test.YthmkmemocjnleaaDoorQuietTail
import Derived.BigQuiet
import Derived.Deep.QuietTactic
namespace Go.Proofs.YthmkmemocjnleaaDoor
open Go.RowKit
set_option linter.unusedVariables false

/-- The decoder that is made: nothing told, probabilities 255. -/
def hdr0 : Array Value := #[.bool false, .bool false, .bool false, .int .i8 0, .int .i8 0, .int .i8 0, .int .i8 0, .int .i8 0, .int .i8 0, .int .i8 0, .int .i8 0, .int .u8 255, .int .u8 255, .int .u8 255]
noncomputable def zSeg : Array Value := ((((((((((((((Tryd.zeroCells169.setIfInBounds 21 (.bool false)).setIfInBounds 22 (.bool false)).setIfInBounds 23 (.bool false)).setIfInBounds 24 (.int .i8 0)).setIfInBounds 25 (.int .i8 0)).setIfInBounds 26 (.int .i8 0)).setIfInBounds 27 (.int .i8 0)).setIfInBounds 28 (.int .i8 0)).setIfInBounds 29 (.int .i8 0)).setIfInBounds 30 (.int .i8 0)).setIfInBounds 31 (.int .i8 0)).setIfInBounds 32 (.int .u8 255)).setIfInBounds 33 (.int .u8 255)).setIfInBounds 34 (.int .u8 255))
theorem zSeg_seg : (zSeg.toList.drop 21).take 14 = hdr0.toList := by kernel_rfl
theorem zSeg_fp : (zSeg.toList.drop 51).take 6 = [.slice none 0 0, .int .i64 0, .int .u32 0, .int .u32 0, .int .u8 0, .bool false] := by kernel_rfl
theorem zSeg_size : zSeg.size = 2482 := by kernel_rfl
theorem at_drop (l : List Value) (o n : Nat) (r : List Value) (h : (l.drop o).take n = r) (i : Nat) (hi : i < n) : l[o + i]? = r[i]? := by
  rw [← h, List.getElem?_take, if_pos hi, List.getElem?_drop]
theorem zSeg_at (i : Nat) (hi : i < 14) : zSeg[21 + i]? = some (segC false false false (fun _ => 0) (fun _ => 0) (fun _ => 255) i) := by
  rw [← Array.getElem?_toList, at_drop _ 21 14 _ zSeg_seg i hi]
  have : i = 0 ∨ i = 1 ∨ i = 2 ∨ i = 3 ∨ i = 4 ∨ i = 5 ∨ i = 6 ∨ i = 7 ∨ i = 8 ∨ i = 9 ∨ i = 10 ∨ i = 11 ∨ i = 12 ∨ i = 13 := by omega
  rcases this with rfl | rfl | rfl | rfl | rfl | rfl | rfl | rfl | rfl | rfl | rfl | rfl | rfl | rfl <;> rfl
/-- The cells besides. -/
noncomputable def zR (i : Nat) : Option Value := zSeg[i]?

/-- The decoder, new. -/
theorem dec_seg (w : World) (ao : Option Addr) (n c : Nat) (hao : True) :
    At51.FO (segR zR false false false (fun _ => 0) (fun _ => 0) (fun _ => 255)) (w.alloc (.cells zSeg 169)) w.heap.size [.slice none 0 0, .int .i64 0, .int .u32 0, .int .u32 0, .int .u8 0, .bool false] := by
  refine ⟨by simp, fun j v hj hv => ?_, fun i hi => ?_, fun i => frozen_of_row _ _ _ _ _ (heap_alloc_new w _)⟩
  · rw [cell_of_row _ _ _ _ _ _ (heap_alloc_new w _), ← Array.getElem?_toList, at_drop _ 51 6 _ zSeg_fp j hj, hv]
  · rw [cell_of_row _ _ _ _ _ _ (heap_alloc_new w _)]
    unfold segR
    by_cases h : 21 ≤ i ∧ i < 35
    · rw [if_pos h, ← zSeg_at (i - 21) (by omega), show 21 + (i - 21) = i by omega]
    · rw [if_neg h]; rfl

set_option maxRecDepth 100000 in
set_option maxHeartbeats 1600000 in
theorem init_any (g : Nat) (ao : Option Addr) (n c : Nat) (z : Nat → Option Value) (w : World) (h : At51.FO z w g [.slice none 0 0, .int .i64 0, .int .u32 0, .int .u32 0, .int .u8 0, .bool false]) :
    Calls Tryd.prog 62 #[.pointer (some ⟨g, 51, none⟩), .slice ao n c] w fun e w' => e = .returned (.tuple #[]) ∧ At51.PTd z w' g ao n c ds0 ∧ w.grownBy w' (some g) := by
  have c0 : w.cell? ⟨g, 51, none⟩ = some _ := h.2.1 0 _ (by decide) rfl
  have c1 : w.cell? ⟨g, 52, none⟩ = some _ := h.2.1 1 _ (by decide) rfl
  have c2 : w.cell? ⟨g, 53, none⟩ = some _ := h.2.1 2 _ (by decide) rfl
  have c3 : w.cell? ⟨g, 54, none⟩ = some _ := h.2.1 3 _ (by decide) rfl
  have c4 : w.cell? ⟨g, 55, none⟩ = some _ := h.2.1 4 _ (by decide) rfl
  have c5 : w.cell? ⟨g, 56, none⟩ = some _ := h.2.1 5 _ (by decide) rfl
  have z0 : w.frozen? ⟨g, 51, none⟩ = false := h.2.2.2 _
  have z1 : w.frozen? ⟨g, 52, none⟩ = false := h.2.2.2 _
  have z2 : w.frozen? ⟨g, 53, none⟩ = false := h.2.2.2 _
  have z3 : w.frozen? ⟨g, 54, none⟩ = false := h.2.2.2 _
  have z4 : w.frozen? ⟨g, 55, none⟩ = false := h.2.2.2 _
  have z5 : w.frozen? ⟨g, 56, none⟩ = false := h.2.2.2 _
  have H := Lib.hid h; clear h
  go_enter Tryd.func62, Tryd.ntmps62
  go_wp2
  go_end0
  refine ⟨rfl, ?_, ?_⟩
  · exact (((((H.out.set 0 _).set 1 _).set 2 _).set 3 _).set 4 _).set 5 _
  · exact grownBy.trans (grownBy.trans (grownBy.trans (grownBy.trans (grownBy.trans (grownBy_setCell _ _ _) (grownBy_setCell _ _ _)) (grownBy_setCell _ _ _)) (grownBy_setCell _ _ _)) (grownBy_setCell _ _ _)) (grownBy_setCell _ _ _)

/-- The cells of a new header's copy. -/
def segL (u m r : Bool) (q l p : Nat → Int) : List Value := [.bool u, .bool m, .bool r, .int .i8 (q 0), .int .i8 (q 1), .int .i8 (q 2), .int .i8 (q 3), .int .i8 (l 0), .int .i8 (l 1), .int .i8 (l 2), .int .i8 (l 3), .int .u8 (p 0), .int .u8 (p 1), .int .u8 (p 2)]
theorem segL_at (u m r : Bool) (q l p : Nat → Int) (j : Nat) (v : Value) (h : (segL u m r q l p)[j]? = some v) : j < 14 ∧ v = segC u m r q l p j := by
  have hj : j < 14 := by
    have := (List.getElem?_eq_some_iff.1 h).1
    simpa [segL] using this
  refine ⟨hj, ?_⟩
  have : j = 0 ∨ j = 1 ∨ j = 2 ∨ j = 3 ∨ j = 4 ∨ j = 5 ∨ j = 6 ∨ j = 7 ∨ j = 8 ∨ j = 9 ∨ j = 10 ∨ j = 11 ∨ j = 12 ∨ j = 13 := by omega
  rcases this with rfl | rfl | rfl | rfl | rfl | rfl | rfl | rfl | rfl | rfl | rfl | rfl | rfl | rfl <;> (simp [segL] at h; exact h.symm)
theorem below_cells2 {B b : Nat} {a : World} (hB : B ≤ b) : ∀ (vs : List Value) (o : Nat) (w : World), Below B a w → Below B a (w.setCells b o vs)
  | [], _, _, h => h
  | v :: r, o, w, h => below_cells2 hB r (o + 1) _ (h.setCell hB v)
theorem info134 : (Tryd.prog.info? 134).map (·.size) = some 14 := by kernel_rfl
def z134 : Array Value := #[.bool false, .bool false, .bool false, .int .i8 0, .int .i8 0, .int .i8 0, .int .i8 0, .int .i8 0, .int .i8 0, .int .i8 0, .int .i8 0, .int .u8 0, .int .u8 0, .int .u8 0]

theorem drew_cell (w : World) (a : Addr) : w.drew.cell? a = w.cell? a := rfl
theorem far_cell {w : World} {b c : Nat} (h : b ≠ c) (i j : Nat) (v : Value) : (w.setCell ⟨b, i, none⟩ v).cell? ⟨c, j, none⟩ = w.cell? ⟨c, j, none⟩ := World.cell?_setCell_other _ _ _ _ (by intro e; injection e with e; exact h e)

set_option maxRecDepth 100000 in
set_option maxHeartbeats 16000000 in
theorem doorSeg_any (ao : Option Addr) (n c : Nat) (zs : List Int) (w : World) (ht : Tabs w) (h2 : 2 ≤ w.heap.size) (hl : zs.length = n) (hrow : Arg .u8 w ao n (fun i => zs.getD i 0)) (hz : Bytes zs) (h255 : zs.getD 0 0 ≠ 255) (hn : n ≤ 1048576)
    (v : SG × DS) (hv : v = segG (stepP zs) ds0) :
    Calls Tryd.prog 43 #[.slice ao n c] w fun e w' => e = .returned (.tuple #[.bool v.1.u, .bool v.1.m, .bool (v.1.t && !v.1.a), .agg #[.int .i8 (v.1.q 0), .int .i8 (v.1.q 1), .int .i8 (v.1.q 2), .int .i8 (v.1.q 3)], .agg #[.int .i8 (v.1.l 0), .int .i8 (v.1.l 1), .int .i8 (v.1.l 2), .int .i8 (v.1.l 3)], .agg #[.int .u8 (v.1.p 0), .int .u8 (v.1.p 1), .int .u8 (v.1.p 2)], .bool v.2.eof]) ∧ Below w.heap.size w w' := by
  have HA := Lib.hid (And.intro ht (And.intro hl (And.intro hrow (And.intro hz (And.intro h255 hv))))); clear ht hl hrow hz h255 hv
  have HW : Hid (∀ o1 o2 o3 : Go.Obj, At51.FO (segR zR false false false (fun _ => 0) (fun _ => 0) (fun _ => 255)) ((((w.alloc o1).alloc o2).alloc o3).alloc (.cells zSeg 169)) (w.heap.size + 1 + 1 + 1) [.slice none 0 0, .int .i64 0, .int .u32 0, .int .u32 0, .int .u8 0, .bool false] ∧ Below w.heap.size w ((((w.alloc o1).alloc o2).alloc o3).alloc (.cells zSeg 169))) := Lib.hid (fun o1 o2 o3 => by
    have := dec_seg (((w.alloc o1).alloc o2).alloc o3) ao n c trivial
    refine ⟨by simpa using this, ?_⟩
    exact ((((Below.refl _ _).alloc (Nat.le_refl _) _).alloc (by simp) _).alloc (by simp; omega) _).alloc (by simp; omega) _)
  have HO : Hid (SObj ((((w.alloc (.cells #[.int .i8 0, .int .i8 0, .int .i8 0, .int .i8 0] 82)).alloc (.cells #[.int .i8 0, .int .i8 0, .int .i8 0, .int .i8 0] 82)).alloc (.cells #[.int .u8 0, .int .u8 0, .int .u8 0] 83)).alloc (.cells zSeg 169)) w.heap.size 82 [.int .i8 0, .int .i8 0, .int .i8 0, .int .i8 0] ∧
      SObj ((((w.alloc (.cells #[.int .i8 0, .int .i8 0, .int .i8 0, .int .i8 0] 82)).alloc (.cells #[.int .i8 0, .int .i8 0, .int .i8 0, .int .i8 0] 82)).alloc (.cells #[.int .u8 0, .int .u8 0, .int .u8 0] 83)).alloc (.cells zSeg 169)) (w.heap.size + 1) 82 [.int .i8 0, .int .i8 0, .int .i8 0, .int .i8 0] ∧
      SObj ((((w.alloc (.cells #[.int .i8 0, .int .i8 0, .int .i8 0, .int .i8 0] 82)).alloc (.cells #[.int .i8 0, .int .i8 0, .int .i8 0, .int .i8 0] 82)).alloc (.cells #[.int .u8 0, .int .u8 0, .int .u8 0] 83)).alloc (.cells zSeg 169)) (w.heap.size + 1 + 1) 83 [.int .u8 0, .int .u8 0, .int .u8 0]) := Lib.hid (by
    have a1 := obj_new w 82 [.int .i8 0, .int .i8 0, .int .i8 0, .int .i8 0]
    have a2 := obj_new (w.alloc (.cells #[.int .i8 0, .int .i8 0, .int .i8 0, .int .i8 0] 82)) 82 [.int .i8 0, .int .i8 0, .int .i8 0, .int .i8 0]
    have a3 := obj_new ((w.alloc (.cells #[.int .i8 0, .int .i8 0, .int .i8 0, .int .i8 0] 82)).alloc (.cells #[.int .i8 0, .int .i8 0, .int .i8 0, .int .i8 0] 82)) 83 [.int .u8 0, .int .u8 0, .int .u8 0]
    refine ⟨((a1.alloc _).alloc _).alloc _, ?_, ?_⟩
    · have := (a2.alloc (.cells #[.int .u8 0, .int .u8 0, .int .u8 0] 83)).alloc (.cells zSeg 169)
      simpa using this
    · have := a3.alloc (.cells zSeg 169)
      simpa using this)
  have HW1 := Lib.hid (And.intro (HW.out (.cells #[.int .i8 0, .int .i8 0, .int .i8 0, .int .i8 0] 82) (.cells #[.int .i8 0, .int .i8 0, .int .i8 0, .int .i8 0] 82) (.cells #[.int .u8 0, .int .u8 0, .int .u8 0] 83)) HO.out)
  clear HW HO
  unfold zSeg at HW1
  go_enter Tryd.func43, Tryd.ntmps43
  go_wp2_with fail
  generalize World.alloc _ _ = w1 at HW1 ⊢
  obtain ⟨B, hB⟩ : ∃ B, B = w.heap.size := ⟨_, rfl⟩
  obtain ⟨g, hg⟩ : ∃ g, g = w.heap.size + 1 + 1 + 1 := ⟨_, rfl⟩
  rw [← hg] at HW1 ⊢
  have HB := Lib.hid (And.intro hB hg)
  rw [← hB] at HW1 ⊢
  clear hB hg
  refine (init_any g ao n c _ w1 HW1.out.1.1).mono ?_
  rintro _ w2 ⟨rfl, hp, hg⟩
  have H2 : Hid (At51.Rd (segR zR false false false (fun _ => 0) (fun _ => 0) (fun _ => 255)) w2 g ao n c zs ds0 ∧ Below B w w2 ∧ SObj w2 B 82 [.int .i8 0, .int .i8 0, .int .i8 0, .int .i8 0] ∧ SObj w2 (B + 1) 82 [.int .i8 0, .int .i8 0, .int .i8 0, .int .i8 0] ∧ SObj w2 (B + 1 + 1) 83 [.int .u8 0, .int .u8 0, .int .u8 0]) := Lib.hid (by
    obtain ⟨e1, e2⟩ := HB.out
    have hb : Below w.heap.size w w2 := by
      have h1 : Below w.heap.size w w1 := by rw [← e1]; exact HW1.out.1.2
      exact h1.grown hg h1.size (fun r hr => by injection hr with hr; omega)
    refine ⟨⟨HA.out.1.below h2 hb, by omega, hp, HA.out.2.1, HA.out.2.2.1.below hb, fun hn a ha => ?_, ds0_ok zs, HA.out.2.2.2.1, HA.out.2.2.2.2.1, by omega⟩, by rw [e1]; exact hb, HW1.out.2.1.grown hg (by intro c; injection c; omega), HW1.out.2.2.1.grown hg (by intro c; injection c; omega), HW1.out.2.2.2.grown hg (by intro c; injection c; omega)⟩
    obtain ⟨ga, oa, hao, hlt, _⟩ := HA.out.2.2.1 hn
    rw [ha] at hao
    injection hao with hao
    subst hao
    show ga ≠ g
    omega)
  clear hp hg HW1
  go_wp2_with fail
  refine (parseSeg_any g ao n c zs ds0 zR w2 H2.out.1).mono ?_
  rw [← HA.out.2.2.2.2.2]
  rintro _ w3 ⟨rfl, hr, hg⟩
  have H3 : Hid (At51.Rd (segR zR v.1.u v.1.m (v.1.t && !v.1.a) v.1.q v.1.l v.1.p) w3 g ao n c zs v.2 ∧ Below B w w3 ∧ SObj w3 B 82 [.int .i8 0, .int .i8 0, .int .i8 0, .int .i8 0] ∧ SObj w3 (B + 1) 82 [.int .i8 0, .int .i8 0, .int .i8 0, .int .i8 0] ∧ SObj w3 (B + 1 + 1) 83 [.int .u8 0, .int .u8 0, .int .u8 0]) := Lib.hid (by
    obtain ⟨e1, e2⟩ := HB.out
    refine ⟨hr, H2.out.2.1.grown hg (by rw [e1]; rw [← e1]; exact (by rw [e1]; exact H2.out.2.1.size)) (fun r hr => by injection hr with hr; omega), H2.out.2.2.1.grown hg (by intro c; injection c; omega), H2.out.2.2.2.1.grown hg (by intro c; injection c; omega), H2.out.2.2.2.2.grown hg (by intro c; injection c; omega)⟩)
  clear hr hg H2
  obtain ⟨u, hu⟩ : ∃ u, u = v.1.u := ⟨_, rfl⟩
  obtain ⟨m, hm⟩ : ∃ m, m = v.1.m := ⟨_, rfl⟩
  obtain ⟨r, hr⟩ : ∃ r, r = (v.1.t && !v.1.a) := ⟨_, rfl⟩
  obtain ⟨q, hq⟩ : ∃ q, q = v.1.q := ⟨_, rfl⟩
  obtain ⟨l, hl⟩ : ∃ l, l = v.1.l := ⟨_, rfl⟩
  obtain ⟨p, hp⟩ : ∃ p, p = v.1.p := ⟨_, rfl⟩
  rw [← hu, ← hm, ← hr, ← hq, ← hl, ← hp] at H3
  have HV := Lib.hid (And.intro hu (And.intro hm (And.intro hr (And.intro hq (And.intro hl hp))))); clear hu hm hr hq hl hp
  have HR : Hid (w3.rangeAt g 21 (segL u m r q l p)) := Lib.hid (fun j x hx => by
    obtain ⟨hj, rfl⟩ := segL_at u m r q l p j x hx
    refine At51.FO.cell H3.out.1.obj (21 + j) (by omega) ?_
    unfold segR
    rw [if_pos (by omega), show 21 + j - 21 = j by omega])
  have HI : Hid ((Tryd.prog.info? 134).map (·.size) = some (segL u m r q l p).length) := Lib.hid (by rw [info134]; rfl)
  obtain ⟨cs, hcs⟩ : ∃ cs, cs = segL u m r q l p := ⟨_, rfl⟩
  rw [← hcs] at HR HI
  have HC : Hid (∀ j x, cs[j]? = some x → j < 14 ∧ x = segC u m r q l p j) := by rw [hcs]; exact Lib.hid (segL_at u m r q l p)
  have HLen : Hid (cs.length = 14) := by rw [hcs]; exact Lib.hid rfl
  have HOne : Hid (cs.toArray.all (·.oneCell') = true) := by rw [hcs]; exact Lib.hid (by simp [segL, Value.oneCell'])
  obtain ⟨h, hh⟩ : ∃ h, h = w3.heap.size := ⟨_, rfl⟩
  have HH := Lib.hid hh
  have HZ : Hid (SObj (w3.alloc (.cells z134 134)) h 134 z134.toList) := Lib.hid (by rw [hh]; have := obj_new w3 134 z134.toList; simpa using this)
  have HTh : Hid ((w3.alloc (.cells z134 134)).there h 0 cs.toArray.size) := Lib.hid (fun j hj => by
    have hj' : j < 14 := by simpa [HLen.out] using hj
    refine ⟨?_, HZ.out.free _⟩
    rw [HZ.out.cell (0 + j) (v := z134.toList[0 + j]'(by simpa [z134] using hj')) (by simp)]; rfl)
  have HI2 : Hid ((Tryd.prog.info? 134).map (·.size) = some cs.toArray.size) := by have := HI.out; exact Lib.hid (by rw [this]; simp)
  unfold z134 at HTh
  rw [hh] at HTh
  have HCS := Lib.hid hcs
  clear hcs hh
  go_wp2_with (first | (refine wpList_load_mid rfl 134 (.tmp 24) rfl g 21 rfl cs _ HR.out Tryd.underlying134 rfl HI.out ?_) | (refine wpList_store_mid rfl 134 (.tmp 10) (.tmp 25) rfl w3.heap.size 0 cs.toArray rfl rfl HTh.out HI2.out HOne.out ?_))
  have H7 : Hid ((World.setCells (w3.alloc (.cells z134 134)) w3.heap.size 0 cs.toArray.toList).rangeAt w3.heap.size 0 cs ∧ Below w3.heap.size w3 (World.setCells (w3.alloc (.cells z134 134)) w3.heap.size 0 cs.toArray.toList) ∧ True) := Lib.hid ⟨by
    have := World.rangeAt_setCells_same (w3.alloc (.cells z134 134)) w3.heap.size 0 cs (by have := HTh.out; unfold z134; simpa using this)
    simpa using this, below_cells2 (Nat.le_refl _) _ _ _ ((Below.refl _ _).alloc (Nat.le_refl _) _), trivial⟩
  unfold z134 at H7
  generalize World.setCells _ _ _ _ = w7 at H7 ⊢
  have ce : w7.cell? ⟨g, 56, none⟩ = some (.bool v.2.eof) := (H7.out.2.1.cell (p := ⟨g, 56, none⟩) H3.out.1.obj.1).trans (H3.out.1.obj.2.1 5 _ (by decide) rfl)
  have H7 : Hid (w7.rangeAt w3.heap.size 0 (segL u m r q l p) ∧ Below B w w7 ∧ SObj w7 B 82 [.int .i8 0, .int .i8 0, .int .i8 0, .int .i8 0] ∧ SObj w7 (B + 1) 82 [.int .i8 0, .int .i8 0, .int .i8 0, .int .i8 0] ∧ SObj w7 (B + 1 + 1) 83 [.int .u8 0, .int .u8 0, .int .u8 0]) := Lib.hid (by
    have hcs := HCS.out
    refine ⟨by rw [← hcs]; exact H7.out.1, H3.out.2.1.trans (H7.out.2.1.mono (by have := H3.out.2.1.size; rw [HB.out.1]; exact this)), H3.out.2.2.1.below H7.out.2.1 H3.out.2.2.1.lt, H3.out.2.2.2.1.below H7.out.2.1 H3.out.2.2.2.1.lt, H3.out.2.2.2.2.below H7.out.2.1 H3.out.2.2.2.2.lt⟩)
  have c0 : w7.cell? ⟨w3.heap.size, 0, none⟩ = some (.bool u) := H7.out.1 0 _ rfl
  have c1 : w7.cell? ⟨w3.heap.size, 1, none⟩ = some (.bool m) := H7.out.1 1 _ rfl
  have c2 : w7.cell? ⟨w3.heap.size, 2, none⟩ = some (.bool r) := H7.out.1 2 _ rfl
  have c3 : w7.cell? ⟨w3.heap.size, 3, none⟩ = some (.int .i8 (q 0)) := H7.out.1 3 _ rfl
  have c4 : w7.cell? ⟨w3.heap.size, 4, none⟩ = some (.int .i8 (q 1)) := H7.out.1 4 _ rfl
  have c5 : w7.cell? ⟨w3.heap.size, 5, none⟩ = some (.int .i8 (q 2)) := H7.out.1 5 _ rfl
  have c6 : w7.cell? ⟨w3.heap.size, 6, none⟩ = some (.int .i8 (q 3)) := H7.out.1 6 _ rfl
  have c7 : w7.cell? ⟨w3.heap.size, 7, none⟩ = some (.int .i8 (l 0)) := H7.out.1 7 _ rfl
  have c8 : w7.cell? ⟨w3.heap.size, 8, none⟩ = some (.int .i8 (l 1)) := H7.out.1 8 _ rfl
  have c9 : w7.cell? ⟨w3.heap.size, 9, none⟩ = some (.int .i8 (l 2)) := H7.out.1 9 _ rfl
  have c10 : w7.cell? ⟨w3.heap.size, 10, none⟩ = some (.int .i8 (l 3)) := H7.out.1 10 _ rfl
  have c11 : w7.cell? ⟨w3.heap.size, 11, none⟩ = some (.int .u8 (p 0)) := H7.out.1 11 _ rfl
  have c12 : w7.cell? ⟨w3.heap.size, 12, none⟩ = some (.int .u8 (p 1)) := H7.out.1 12 _ rfl
  have c13 : w7.cell? ⟨w3.heap.size, 13, none⟩ = some (.int .u8 (p 2)) := H7.out.1 13 _ rfl
  have a0 : w7.cell? ⟨B, 0, none⟩ = some (.int .i8 0) := H7.out.2.2.1.cell 0 rfl
  have fa0 : w7.frozen? ⟨B, 0, none⟩ = false := H7.out.2.2.1.free 0
  have a1 : w7.cell? ⟨B, 1, none⟩ = some (.int .i8 0) := H7.out.2.2.1.cell 1 rfl
  have fa1 : w7.frozen? ⟨B, 1, none⟩ = false := H7.out.2.2.1.free 1
  have a2 : w7.cell? ⟨B, 2, none⟩ = some (.int .i8 0) := H7.out.2.2.1.cell 2 rfl
  have fa2 : w7.frozen? ⟨B, 2, none⟩ = false := H7.out.2.2.1.free 2
  have a3 : w7.cell? ⟨B, 3, none⟩ = some (.int .i8 0) := H7.out.2.2.1.cell 3 rfl
  have fa3 : w7.frozen? ⟨B, 3, none⟩ = false := H7.out.2.2.1.free 3
  have b0 : w7.cell? ⟨B + 1, 0, none⟩ = some (.int .i8 0) := H7.out.2.2.2.1.cell 0 rfl
  have fb0 : w7.frozen? ⟨B + 1, 0, none⟩ = false := H7.out.2.2.2.1.free 0
  have b1 : w7.cell? ⟨B + 1, 1, none⟩ = some (.int .i8 0) := H7.out.2.2.2.1.cell 1 rfl
  have fb1 : w7.frozen? ⟨B + 1, 1, none⟩ = false := H7.out.2.2.2.1.free 1
  have b2 : w7.cell? ⟨B + 1, 2, none⟩ = some (.int .i8 0) := H7.out.2.2.2.1.cell 2 rfl
  have fb2 : w7.frozen? ⟨B + 1, 2, none⟩ = false := H7.out.2.2.2.1.free 2
  have b3 : w7.cell? ⟨B + 1, 3, none⟩ = some (.int .i8 0) := H7.out.2.2.2.1.cell 3 rfl
  have fb3 : w7.frozen? ⟨B + 1, 3, none⟩ = false := H7.out.2.2.2.1.free 3
  have d0 : w7.cell? ⟨B + 1 + 1, 0, none⟩ = some (.int .u8 0) := H7.out.2.2.2.2.cell 0 rfl
  have fd0 : w7.frozen? ⟨B + 1 + 1, 0, none⟩ = false := H7.out.2.2.2.2.free 0
  have d1 : w7.cell? ⟨B + 1 + 1, 1, none⟩ = some (.int .u8 0) := H7.out.2.2.2.2.cell 1 rfl
  have fd1 : w7.frozen? ⟨B + 1 + 1, 1, none⟩ = false := H7.out.2.2.2.2.free 1
  have d2 : w7.cell? ⟨B + 1 + 1, 2, none⟩ = some (.int .u8 0) := H7.out.2.2.2.2.cell 2 rfl
  have fd2 : w7.frozen? ⟨B + 1 + 1, 2, none⟩ = false := H7.out.2.2.2.2.free 2
  have HNE : Hid (B ≠ w3.heap.size ∧ B + 1 ≠ w3.heap.size ∧ B + 1 + 1 ≠ w3.heap.size ∧ B ≠ g ∧ B + 1 ≠ g ∧ B + 1 + 1 ≠ g) := Lib.hid (by have a1 := H3.out.2.2.1.lt; have a2 := H3.out.2.2.2.1.lt; have a3 := H3.out.2.2.2.2.lt; have a4 := HB.out; omega)
  generalize w3.heap.size = hb at *
  obtain ⟨eof, heof⟩ : ∃ eof, eof = v.2.eof := ⟨_, rfl⟩
  have HEO := Lib.hid heof
  rw [← heof] at ce
  clear heof
  go_wp2_with fail
  simp only [Act.put]
  have n1 : B ≠ hb := HNE.out.1
  have n2 : B + 1 ≠ hb := HNE.out.2.1
  have n3 : B + 1 + 1 ≠ hb := HNE.out.2.2.1
  have n4 : B ≠ g := HNE.out.2.2.2.1
  have n5 : B + 1 ≠ g := HNE.out.2.2.2.2.1
  have n6 : B + 1 + 1 ≠ g := HNE.out.2.2.2.2.2
  go_region_held3 (fun w' => w'.cell? ⟨hb, 0, none⟩ = some (.bool u) ∧ w'.cell? ⟨hb, 1, none⟩ = some (.bool m) ∧ w'.cell? ⟨hb, 2, none⟩ = some (.bool r) ∧ w'.cell? ⟨hb, 3, none⟩ = some (.int .i8 (q 0)) ∧ w'.cell? ⟨hb, 4, none⟩ = some (.int .i8 (q 1)) ∧ w'.cell? ⟨hb, 5, none⟩ = some (.int .i8 (q 2)) ∧ w'.cell? ⟨hb, 6, none⟩ = some (.int .i8 (q 3)) ∧ w'.cell? ⟨hb, 7, none⟩ = some (.int .i8 (l 0)) ∧ w'.cell? ⟨hb, 8, none⟩ = some (.int .i8 (l 1)) ∧ w'.cell? ⟨hb, 9, none⟩ = some (.int .i8 (l 2)) ∧ w'.cell? ⟨hb, 10, none⟩ = some (.int .i8 (l 3)) ∧ w'.cell? ⟨hb, 11, none⟩ = some (.int .u8 (p 0)) ∧ w'.cell? ⟨hb, 12, none⟩ = some (.int .u8 (p 1)) ∧ w'.cell? ⟨hb, 13, none⟩ = some (.int .u8 (p 2)) ∧ w'.cell? ⟨g, 56, none⟩ = some (.bool eof)) (first | (simp only [drew_cell, far_cell n1, far_cell n2, far_cell n3, far_cell n4, far_cell n5, far_cell n6]; exact ⟨c0, c1, c2, c3, c4, c5, c6, c7, c8, c9, c10, c11, c12, c13, ce⟩)) (first | fail)
  go_wp2
  have HF : Hid (SObj (((((((((((w7.setCell ⟨B, 0, none⟩ (.int .i8 (q 0))).setCell ⟨B, 1, none⟩ (.int .i8 (q 1))).setCell ⟨B, 2, none⟩ (.int .i8 (q 2))).setCell ⟨B, 3, none⟩ (.int .i8 (q 3))).setCell ⟨B + 1, 0, none⟩ (.int .i8 (l 0))).setCell ⟨B + 1, 1, none⟩ (.int .i8 (l 1))).setCell ⟨B + 1, 2, none⟩ (.int .i8 (l 2))).setCell ⟨B + 1, 3, none⟩ (.int .i8 (l 3))).setCell ⟨B + 1 + 1, 0, none⟩ (.int .u8 (p 0))).setCell ⟨B + 1 + 1, 1, none⟩ (.int .u8 (p 1))).setCell ⟨B + 1 + 1, 2, none⟩ (.int .u8 (p 2))).drew B 82 [.int .i8 (q 0), .int .i8 (q 1), .int .i8 (q 2), .int .i8 (q 3)] ∧ SObj (((((((((((w7.setCell ⟨B, 0, none⟩ (.int .i8 (q 0))).setCell ⟨B, 1, none⟩ (.int .i8 (q 1))).setCell ⟨B, 2, none⟩ (.int .i8 (q 2))).setCell ⟨B, 3, none⟩ (.int .i8 (q 3))).setCell ⟨B + 1, 0, none⟩ (.int .i8 (l 0))).setCell ⟨B + 1, 1, none⟩ (.int .i8 (l 1))).setCell ⟨B + 1, 2, none⟩ (.int .i8 (l 2))).setCell ⟨B + 1, 3, none⟩ (.int .i8 (l 3))).setCell ⟨B + 1 + 1, 0, none⟩ (.int .u8 (p 0))).setCell ⟨B + 1 + 1, 1, none⟩ (.int .u8 (p 1))).setCell ⟨B + 1 + 1, 2, none⟩ (.int .u8 (p 2))).drew (B + 1) 82 [.int .i8 (l 0), .int .i8 (l 1), .int .i8 (l 2), .int .i8 (l 3)] ∧ SObj (((((((((((w7.setCell ⟨B, 0, none⟩ (.int .i8 (q 0))).setCell ⟨B, 1, none⟩ (.int .i8 (q 1))).setCell ⟨B, 2, none⟩ (.int .i8 (q 2))).setCell ⟨B, 3, none⟩ (.int .i8 (q 3))).setCell ⟨B + 1, 0, none⟩ (.int .i8 (l 0))).setCell ⟨B + 1, 1, none⟩ (.int .i8 (l 1))).setCell ⟨B + 1, 2, none⟩ (.int .i8 (l 2))).setCell ⟨B + 1, 3, none⟩ (.int .i8 (l 3))).setCell ⟨B + 1 + 1, 0, none⟩ (.int .u8 (p 0))).setCell ⟨B + 1 + 1, 1, none⟩ (.int .u8 (p 1))).setCell ⟨B + 1 + 1, 2, none⟩ (.int .u8 (p 2))).drew (B + 1 + 1) 83 [.int .u8 (p 0), .int .u8 (p 1), .int .u8 (p 2)] ∧ Below B w (((((((((((w7.setCell ⟨B, 0, none⟩ (.int .i8 (q 0))).setCell ⟨B, 1, none⟩ (.int .i8 (q 1))).setCell ⟨B, 2, none⟩ (.int .i8 (q 2))).setCell ⟨B, 3, none⟩ (.int .i8 (q 3))).setCell ⟨B + 1, 0, none⟩ (.int .i8 (l 0))).setCell ⟨B + 1, 1, none⟩ (.int .i8 (l 1))).setCell ⟨B + 1, 2, none⟩ (.int .i8 (l 2))).setCell ⟨B + 1, 3, none⟩ (.int .i8 (l 3))).setCell ⟨B + 1 + 1, 0, none⟩ (.int .u8 (p 0))).setCell ⟨B + 1 + 1, 1, none⟩ (.int .u8 (p 1))).setCell ⟨B + 1 + 1, 2, none⟩ (.int .u8 (p 2))).drew) := Lib.hid (by
    refine ⟨SObj.drew ?_, SObj.drew ?_, SObj.drew ?_, Below.drew ?_⟩
    · exact (((((((((((H7.out.2.2.1.set 0 _).set 1 _).set 2 _).set 3 _).far ⟨B + 1, 0, none⟩ (by simp only; omega) _).far ⟨B + 1, 1, none⟩ (by simp only; omega) _).far ⟨B + 1, 2, none⟩ (by simp only; omega) _).far ⟨B + 1, 3, none⟩ (by simp only; omega) _).far ⟨B + 1 + 1, 0, none⟩ (by simp only; omega) _).far ⟨B + 1 + 1, 1, none⟩ (by simp only; omega) _).far ⟨B + 1 + 1, 2, none⟩ (by simp only; omega) _)
    · exact (((((((((((H7.out.2.2.2.1.far ⟨B, 0, none⟩ (by simp only; omega) _).far ⟨B, 1, none⟩ (by simp only; omega) _).far ⟨B, 2, none⟩ (by simp only; omega) _).far ⟨B, 3, none⟩ (by simp only; omega) _).set 0 _).set 1 _).set 2 _).set 3 _).far ⟨B + 1 + 1, 0, none⟩ (by simp only; omega) _).far ⟨B + 1 + 1, 1, none⟩ (by simp only; omega) _).far ⟨B + 1 + 1, 2, none⟩ (by simp only; omega) _)
    · exact (((((((((((H7.out.2.2.2.2.far ⟨B, 0, none⟩ (by simp only; omega) _).far ⟨B, 1, none⟩ (by simp only; omega) _).far ⟨B, 2, none⟩ (by simp only; omega) _).far ⟨B, 3, none⟩ (by simp only; omega) _).far ⟨B + 1, 0, none⟩ (by simp only; omega) _).far ⟨B + 1, 1, none⟩ (by simp only; omega) _).far ⟨B + 1, 2, none⟩ (by simp only; omega) _).far ⟨B + 1, 3, none⟩ (by simp only; omega) _).set 0 _).set 1 _).set 2 _)
    · exact (Below.setCell (Below.setCell (Below.setCell (Below.setCell (Below.setCell (Below.setCell (Below.setCell (Below.setCell (Below.setCell (Below.setCell (Below.setCell H7.out.2.1 (p := ⟨B, 0, none⟩) (show B ≤ B by omega) _) (p := ⟨B, 1, none⟩) (show B ≤ B by omega) _) (p := ⟨B, 2, none⟩) (show B ≤ B by omega) _) (p := ⟨B, 3, none⟩) (show B ≤ B by omega) _) (p := ⟨B + 1, 0, none⟩) (show B ≤ B + 1 by omega) _) (p := ⟨B + 1, 1, none⟩) (show B ≤ B + 1 by omega) _) (p := ⟨B + 1, 2, none⟩) (show B ≤ B + 1 by omega) _) (p := ⟨B + 1, 3, none⟩) (show B ≤ B + 1 by omega) _) (p := ⟨B + 1 + 1, 0, none⟩) (show B ≤ B + 1 + 1 by omega) _) (p := ⟨B + 1 + 1, 1, none⟩) (show B ≤ B + 1 + 1 by omega) _) (p := ⟨B + 1 + 1, 2, none⟩) (show B ≤ B + 1 + 1 by omega) _))
  generalize World.drew _ = wf at HF ⊢
  refine bodyPost_ret (v := .tuple #[.bool u, .bool m, .bool r, .agg [.int .i8 (q 0), .int .i8 (q 1), .int .i8 (q 2), .int .i8 (q 3)].toArray, .agg [.int .i8 (l 0), .int .i8 (l 1), .int .i8 (l 2), .int .i8 (l 3)].toArray, .agg [.int .u8 (p 0), .int .u8 (p 1), .int .u8 (p 2)].toArray, .bool eof]) ?_ rfl ⟨?_, ?_⟩
  · have r1 := run_loadVar_mid (P := Tryd.prog) wf B 0 82 [.int .i8 (q 0), .int .i8 (q 1), .int .i8 (q 2), .int .i8 (q 3)] _ (fun j v hv => by rw [Nat.zero_add]; exact HF.out.1.cell j hv) Tryd.underlying82 rfl (by kernel_rfl)
    have r2 := run_loadVar_mid (P := Tryd.prog) wf (B + 1) 0 82 [.int .i8 (l 0), .int .i8 (l 1), .int .i8 (l 2), .int .i8 (l 3)] _ (fun j v hv => by rw [Nat.zero_add]; exact HF.out.2.1.cell j hv) Tryd.underlying82 rfl (by kernel_rfl)
    have r3 := run_loadVar_mid (P := Tryd.prog) wf (B + 1 + 1) 0 83 [.int .u8 (p 0), .int .u8 (p 1), .int .u8 (p 2)] _ (fun j v hv => by rw [Nat.zero_add]; exact HF.out.2.2.1.cell j hv) Tryd.underlying83 rfl (by kernel_rfl)
    unfold results
    rw [Tryd.results43]
    simp [asAddr, r1, r2, r3]
  · obtain ⟨e1, e2, e3, e4, e5, e6⟩ := HV.out
    rw [e1, e2, e3, e4, e5, e6]
    have := HEO.out
    rw [← this]
  · rw [← HB.out.1]; exact HF.out.2.2.2
end Go.Proofs.YthmkmemocjnleaaDoor
