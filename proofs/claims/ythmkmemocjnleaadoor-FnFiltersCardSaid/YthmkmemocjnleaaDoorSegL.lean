/- spec.SegmentsOf. -/
import Derived.Test.YthmkmemocjnleaaDoorSegJ
import Derived.Test.YthmkmemocjnleaaDoorSegR0
import Derived.Test.YthmkmemocjnleaaDoorSegR1
namespace Go.Proofs.YthmkmemocjnleaaDoor
open Go.RowKit
set_option linter.unusedVariables false

theorem readSegS_any (w0 : World) (B gd g : Nat) (ao : Option Addr) (n c : Nat) (zs : List Int) (s : SS) (z : Nat → Option Value) (w : World) (hk : SK w0 B gd g ao n) (h : SW w0 B (sgD z g false false false (fun _ => 0) (fun _ => 0) (fun _ => 0) false false false) w gd g ao n c zs s) (hok : OKS zs s) (hpos : s.pos ≤ 1000) :
    Calls Tryd.prog 45 #[.pointer (some ⟨gd, 0, none⟩)] w fun e w' => e = .returned (.tuple #[]) ∧ SWe w0 B z (segG (stepS zs) s) w' gd g ao n c zs := by
  cases hm : (stepS zs (stepS zs s 128).2 128).1 with
  | false => exact readSegS_0 w0 B gd g ao n c zs s z w hk h hok hpos hm
  | true => exact readSegS_1 w0 B gd g ao n c zs s z w hk h hok hpos hm

theorem zD_seg : (Tryd.zeroCells112.toList.drop 258).take 14 = [.bool false, .bool false, .bool false, .int .i64 0, .int .i64 0, .int .i64 0, .int .i64 0, .int .i64 0, .int .i64 0, .int .i64 0, .int .i64 0, .int .i64 0, .int .i64 0, .int .i64 0] := by kernel_rfl
theorem zD_odd : (Tryd.zeroCells112.toList.drop 350).take 3 = [.bool false, .bool false, .bool false] := by kernel_rfl
theorem zD_size : Tryd.zeroCells112.size = 370 := by kernel_rfl

noncomputable def zDS (g : Nat) (i : Nat) : Option Value := (Tryd.zeroCells112.setIfInBounds 256 (.pointer (some ⟨g, 0, none⟩)))[i]?
theorem dec_s (w : World) (g : Nat) :
    FD (sgD (zDS g) g false false false (fun _ => 0) (fun _ => 0) (fun _ => 0) false false false) (w.alloc (.cells (Tryd.zeroCells112.setIfInBounds 256 (.pointer (some ⟨g, 0, none⟩))) 112)) w.heap.size := by
  refine ⟨by simp, fun i => ?_, fun i => frozen_of_row _ _ _ _ _ (heap_alloc_new w _)⟩
  rw [cell_of_row _ _ _ _ _ _ (heap_alloc_new w _)]
  have hs := zD_size
  have hseg := zD_seg
  have hodd := zD_odd
  unfold sgD zDS
  generalize Tryd.zeroCells112 = Z at *
  by_cases a : i = 256
  · rw [if_pos a, a]
    simp [hs]
  · rw [if_neg a]
    have e : (Z.setIfInBounds 256 (.pointer (some ⟨g, 0, none⟩)))[i]? = Z[i]? := by
      rw [Array.getElem?_setIfInBounds_ne (by omega)]
    by_cases b : 258 ≤ i ∧ i < 272
    · rw [if_pos b, e, ← Array.getElem?_toList]
      have h := at_drop _ 258 14 _ hseg (i - 258) (by omega)
      rw [show 258 + (i - 258) = i by omega] at h
      rw [h]
      generalize hk : i - 258 = k
      have : k = 0 ∨ k = 1 ∨ k = 2 ∨ k = 3 ∨ k = 4 ∨ k = 5 ∨ k = 6 ∨ k = 7 ∨ k = 8 ∨ k = 9 ∨ k = 10 ∨ k = 11 ∨ k = 12 ∨ k = 13 := by omega
      clear h e hk
      rcases this with rfl | rfl | rfl | rfl | rfl | rfl | rfl | rfl | rfl | rfl | rfl | rfl | rfl | rfl <;> rfl
    · rw [if_neg b]
      by_cases c : i = 350
      · rw [if_pos c, e, ← Array.getElem?_toList, c]
        exact (at_drop _ 350 3 _ hodd 0 (by omega))
      · rw [if_neg c]
        by_cases d : i = 351
        · rw [if_pos d, e, ← Array.getElem?_toList, d]
          exact (at_drop _ 350 3 _ hodd 1 (by omega))
        · rw [if_neg d]
          by_cases f : i = 352
          · rw [if_pos f, e, ← Array.getElem?_toList, f]
            exact (at_drop _ 350 3 _ hodd 2 (by omega))
          · rw [if_neg f]

/-- What the reference tells. -/
def segOS (v : SG) (o : Bool) : List Value := [.bool v.u, .bool v.m, .bool (!v.a), .int .i64 (v.q 0), .int .i64 (v.q 1), .int .i64 (v.q 2), .int .i64 (v.q 3), .int .i64 (v.l 0), .int .i64 (v.l 1), .int .i64 (v.l 2), .int .i64 (v.l 3), .int .i64 (v.p 0), .int .i64 (v.p 1), .int .i64 (v.p 2), .bool v.t, .bool o]
def SegRes (v : SG) (e : Ending) : Prop := ∃ o, e = .returned (.agg (segOS v o).toArray)
def z46 : List Value := [.bool false, .bool false, .bool false, .int .i64 0, .int .i64 0, .int .i64 0, .int .i64 0, .int .i64 0, .int .i64 0, .int .i64 0, .int .i64 0, .int .i64 0, .int .i64 0, .int .i64 0, .bool false, .bool false]

set_option maxRecDepth 100000 in
set_option maxHeartbeats 8000000 in
theorem segmentsOfS_any (ao : Option Addr) (n c : Nat) (zs : List Int) (w : World) (hl : zs.length = n) (hrow : Arg .u8 w ao n (fun i => zs.getD i 0)) (hz : Bytes zs) (h255 : zs.getD 0 0 ≠ 255) (hn : n ≤ 1048576)
    (v : SG × SS) (hv : v = segG (stepS zs) (ss0 zs)) :
    Calls Tryd.prog 21 #[.slice ao n c] w fun e w' => SegRes v.1 e ∧ Below w.heap.size w w' := by
  have HO : Hid (SObj (w.alloc (.cells z46.toArray 46)) w.heap.size 46 z46 ∧ Below w.heap.size w (w.alloc (.cells z46.toArray 46)) ∧ (w.alloc (.cells z46.toArray 46)).heap.size = w.heap.size + 1) := Lib.hid ⟨obj_new _ _ _, (Below.refl _ _).alloc (Nat.le_refl _) _, by simp⟩
  unfold z46 at HO
  have HA := Lib.hid (And.intro hl (And.intro hrow (And.intro hz (And.intro h255 hv)))); clear hl hrow hz h255 hv
  obtain ⟨B, hB⟩ : ∃ B, B = w.heap.size := ⟨_, rfl⟩
  go_enter Tryd.func21, Tryd.ntmps21
  go_wp2_with fail
  generalize World.alloc _ _ = w1 at HO ⊢
  refine (newBools_any ao n c zs w1 HA.out.1 (HA.out.2.1.below HO.out.2.1) HA.out.2.2.1 HA.out.2.2.2.1 hn).mono ?_
  rintro _ w2 ⟨rfl, ⟨over, hsd⟩, hb⟩
  have e1 := HO.out.2.2
  obtain ⟨g, hg⟩ : ∃ g, g = w1.heap.size := ⟨_, rfl⟩
  rw [← hg] at hsd hb ⊢
  have H2 : Hid (Sd w2 g ao n c zs (ss0 zs).pos (ss0 zs).v (ss0 zs).z over ∧ Below g w1 w2 ∧ g < w2.heap.size) := Lib.hid ⟨hsd, hb, SObj.lt hsd.obj⟩
  rw [← hB]
  have HB := Lib.hid (And.intro hB (And.intro hg e1)); clear hB hg e1 hsd hb
  go_wp2_with fail
  have H3 : Hid (SW w1 g (sgD (zDS g) g false false false (fun _ => 0) (fun _ => 0) (fun _ => 0) false false false) (w2.alloc (.cells (Tryd.zeroCells112.setIfInBounds 256 (.pointer (some ⟨g, 0, none⟩))) 112)) w2.heap.size g ao n c zs (ss0 zs) ∧ SK w1 g w2.heap.size g ao n) := Lib.hid (by
    obtain ⟨h1, h2, h3⟩ := H2.out
    refine ⟨⟨⟨over, h1.below ((Below.refl _ _).alloc (Nat.le_refl _) _)⟩, dec_s w2 g, h2.alloc (by omega) _⟩, Nat.le_refl _, by omega, by omega, ?_, ?_⟩
    · intro h a ha
      obtain ⟨ga, oa, hao, hlt, _⟩ := (HA.out.2.1) h
      rw [ha] at hao
      injection hao with hao
      subst hao
      show ga < g
      have := HB.out
      omega
    · have := HB.out; omega)
  clear H2
  generalize World.alloc _ _ = w3 at H3 ⊢
  generalize zDS g = z at H3
  obtain ⟨gd, hgd⟩ : ∃ gd, gd = w2.heap.size := ⟨_, rfl⟩
  rw [← hgd] at H3 ⊢
  clear hgd
  refine (readSegS_any w1 g gd g ao n c zs (ss0 zs) z w3 H3.out.2 H3.out.1 (ss0_ok zs HA.out.2.2.1 HA.out.2.2.2.1) (by show 8 ≤ 1000; omega)).mono ?_
  rw [← HA.out.2.2.2.2]
  rintro _ w4 ⟨rfl, odd, keeps, h4⟩
  have HSK := Lib.hid H3.out.2
  clear H3
  obtain ⟨u, hu⟩ : ∃ u, u = v.1.u := ⟨_, rfl⟩
  obtain ⟨m, hm⟩ : ∃ m, m = v.1.m := ⟨_, rfl⟩
  obtain ⟨a, ha⟩ : ∃ a, a = v.1.a := ⟨_, rfl⟩
  obtain ⟨t, ht⟩ : ∃ t, t = v.1.t := ⟨_, rfl⟩
  obtain ⟨q, hq⟩ : ∃ q, q = v.1.q := ⟨_, rfl⟩
  obtain ⟨l, hl⟩ : ∃ l, l = v.1.l := ⟨_, rfl⟩
  obtain ⟨p, hp⟩ : ∃ p, p = v.1.p := ⟨_, rfl⟩
  rw [← hu, ← hm, ← ha, ← ht, ← hq, ← hl, ← hp] at h4
  have HV := Lib.hid (And.intro hu (And.intro hm (And.intro ha (And.intro ht (And.intro hq (And.intro hl hp)))))); clear hu hm ha ht hq hl hp
  have H4 := Lib.hid h4; clear h4
  have k0 : w4.cell? ⟨gd, 258, none⟩ = some (.bool u) := H4.out.cell 258 rfl
  have k1 : w4.cell? ⟨gd, 259, none⟩ = some (.bool m) := H4.out.cell 259 rfl
  have k2 : w4.cell? ⟨gd, 260, none⟩ = some (.bool a) := H4.out.cell 260 rfl
  have k3 : w4.cell? ⟨gd, 261, none⟩ = some (.int .i64 (q 0)) := H4.out.cell 261 rfl
  have k4 : w4.cell? ⟨gd, 262, none⟩ = some (.int .i64 (q 1)) := H4.out.cell 262 rfl
  have k5 : w4.cell? ⟨gd, 263, none⟩ = some (.int .i64 (q 2)) := H4.out.cell 263 rfl
  have k6 : w4.cell? ⟨gd, 264, none⟩ = some (.int .i64 (q 3)) := H4.out.cell 264 rfl
  have k7 : w4.cell? ⟨gd, 265, none⟩ = some (.int .i64 (l 0)) := H4.out.cell 265 rfl
  have k8 : w4.cell? ⟨gd, 266, none⟩ = some (.int .i64 (l 1)) := H4.out.cell 266 rfl
  have k9 : w4.cell? ⟨gd, 267, none⟩ = some (.int .i64 (l 2)) := H4.out.cell 267 rfl
  have k10 : w4.cell? ⟨gd, 268, none⟩ = some (.int .i64 (l 3)) := H4.out.cell 268 rfl
  have k11 : w4.cell? ⟨gd, 269, none⟩ = some (.int .i64 (p 0)) := H4.out.cell 269 rfl
  have k12 : w4.cell? ⟨gd, 270, none⟩ = some (.int .i64 (p 1)) := H4.out.cell 270 rfl
  have k13 : w4.cell? ⟨gd, 271, none⟩ = some (.int .i64 (p 2)) := H4.out.cell 271 rfl
  have H5 : Hid (SObj (w4.alloc (.cells #[.bool u, .bool m, .bool a, .int .i64 (q 0), .int .i64 (q 1), .int .i64 (q 2), .int .i64 (q 3), .int .i64 (l 0), .int .i64 (l 1), .int .i64 (l 2), .int .i64 (l 3), .int .i64 (p 0), .int .i64 (p 1), .int .i64 (p 2)] 98)) w4.heap.size 98 [.bool u, .bool m, .bool a, .int .i64 (q 0), .int .i64 (q 1), .int .i64 (q 2), .int .i64 (q 3), .int .i64 (l 0), .int .i64 (l 1), .int .i64 (l 2), .int .i64 (l 3), .int .i64 (p 0), .int .i64 (p 1), .int .i64 (p 2)] ∧ Below w4.heap.size w4 (w4.alloc (.cells #[.bool u, .bool m, .bool a, .int .i64 (q 0), .int .i64 (q 1), .int .i64 (q 2), .int .i64 (q 3), .int .i64 (l 0), .int .i64 (l 1), .int .i64 (l 2), .int .i64 (l 3), .int .i64 (p 0), .int .i64 (p 1), .int .i64 (p 2)] 98))) := Lib.hid ⟨obj_new _ _ _, (Below.refl _ _).alloc (Nat.le_refl _) _⟩
  go_wp2_with fail
  generalize World.alloc _ _ = w5 at H5 ⊢
  obtain ⟨h, hh⟩ : ∃ h, h = w4.heap.size := ⟨_, rfl⟩
  rw [← hh] at H5 ⊢
  have HH := Lib.hid hh; clear hh
  have HS : Below B w w5 := by
    have e := HB.out
    have b1 := HO.out.2.1
    have b2 := H4.out.2.2
    have b3 := H5.out.2
    have hz := b2.size
    have e2 := HH.out
    rw [← e.1] at b1
    exact (b1.trans (b2.mono (by omega))).trans (b3.mono (by omega))
  have HZ : Hid (SObj w5 B 46 z46) := Lib.hid (by
    have e := HB.out
    have o1 := HO.out.1
    rw [← e.1] at o1
    have o2 := o1.below H4.out.2.2 (by omega)
    exact o2.below H5.out.2 (by have := o2.lt; have := HH.out; omega))
  obtain ⟨ov, hov⟩ := H4.out.1
  have HOV : Hid (Sd w5 g ao n c zs v.2.pos v.2.v v.2.z ov) := Lib.hid (hov.below (by have := HH.out; rw [← this]; exact H5.out.2))
  have HOD : Hid (ST w5.drew g ao n c v.2.pos v.2.v v.2.z ov) := Lib.hid (SObj.drew HOV.out.obj)
  have cf : w5.cell? ⟨gd, 256, none⟩ = some (.pointer (some ⟨g, 0, none⟩)) := (H5.out.2.cell (p := ⟨gd, 256, none⟩) (by rw [HH.out]; exact H4.out.2.1.1)).trans (H4.out.cell 256 rfl)
  have ct : w5.cell? ⟨gd, 352, none⟩ = some (.bool t) := (H5.out.2.cell (p := ⟨gd, 352, none⟩) (by rw [HH.out]; exact H4.out.2.1.1)).trans (H4.out.cell 352 rfl)
  have HNE : Hid (B ≠ h ∧ B ≠ gd) := Lib.hid (by
    have e := HB.out
    have e2 := HSK.out
    have e3 := H4.out.2.1.1
    have e4 := HH.out
    have e5 := e2.2.1
    omega)
  have n0 := HNE.out.1
  have n1 := HNE.out.2
  clear hov k0 k1 k2 k3 k4 k5 k6 k7 k8 k9 k10 k11 k12 k13
  have c0 : w5.cell? ⟨h, 0, none⟩ = some (.bool u) := H5.out.1.cell 0 rfl
  have c1 : w5.cell? ⟨h, 1, none⟩ = some (.bool m) := H5.out.1.cell 1 rfl
  have c2 : w5.cell? ⟨h, 2, none⟩ = some (.bool a) := H5.out.1.cell 2 rfl
  have c3 : w5.cell? ⟨h, 3, none⟩ = some (.int .i64 (q 0)) := H5.out.1.cell 3 rfl
  have c4 : w5.cell? ⟨h, 4, none⟩ = some (.int .i64 (q 1)) := H5.out.1.cell 4 rfl
  have c5 : w5.cell? ⟨h, 5, none⟩ = some (.int .i64 (q 2)) := H5.out.1.cell 5 rfl
  have c6 : w5.cell? ⟨h, 6, none⟩ = some (.int .i64 (q 3)) := H5.out.1.cell 6 rfl
  have c7 : w5.cell? ⟨h, 7, none⟩ = some (.int .i64 (l 0)) := H5.out.1.cell 7 rfl
  have c8 : w5.cell? ⟨h, 8, none⟩ = some (.int .i64 (l 1)) := H5.out.1.cell 8 rfl
  have c9 : w5.cell? ⟨h, 9, none⟩ = some (.int .i64 (l 2)) := H5.out.1.cell 9 rfl
  have c10 : w5.cell? ⟨h, 10, none⟩ = some (.int .i64 (l 3)) := H5.out.1.cell 10 rfl
  have c11 : w5.cell? ⟨h, 11, none⟩ = some (.int .i64 (p 0)) := H5.out.1.cell 11 rfl
  have c12 : w5.cell? ⟨h, 12, none⟩ = some (.int .i64 (p 1)) := H5.out.1.cell 12 rfl
  have c13 : w5.cell? ⟨h, 13, none⟩ = some (.int .i64 (p 2)) := H5.out.1.cell 13 rfl
  have s0 : w5.cell? ⟨B, 0, none⟩ = some (.bool false) := HZ.out.cell 0 rfl
  have f0 : w5.frozen? ⟨B, 0, none⟩ = false := HZ.out.free 0
  have s1 : w5.cell? ⟨B, 1, none⟩ = some (.bool false) := HZ.out.cell 1 rfl
  have f1 : w5.frozen? ⟨B, 1, none⟩ = false := HZ.out.free 1
  have s2 : w5.cell? ⟨B, 2, none⟩ = some (.bool false) := HZ.out.cell 2 rfl
  have f2 : w5.frozen? ⟨B, 2, none⟩ = false := HZ.out.free 2
  have s3 : w5.cell? ⟨B, 3, none⟩ = some (.int .i64 0) := HZ.out.cell 3 rfl
  have f3 : w5.frozen? ⟨B, 3, none⟩ = false := HZ.out.free 3
  have s4 : w5.cell? ⟨B, 4, none⟩ = some (.int .i64 0) := HZ.out.cell 4 rfl
  have f4 : w5.frozen? ⟨B, 4, none⟩ = false := HZ.out.free 4
  have s5 : w5.cell? ⟨B, 5, none⟩ = some (.int .i64 0) := HZ.out.cell 5 rfl
  have f5 : w5.frozen? ⟨B, 5, none⟩ = false := HZ.out.free 5
  have s6 : w5.cell? ⟨B, 6, none⟩ = some (.int .i64 0) := HZ.out.cell 6 rfl
  have f6 : w5.frozen? ⟨B, 6, none⟩ = false := HZ.out.free 6
  have s7 : w5.cell? ⟨B, 7, none⟩ = some (.int .i64 0) := HZ.out.cell 7 rfl
  have f7 : w5.frozen? ⟨B, 7, none⟩ = false := HZ.out.free 7
  have s8 : w5.cell? ⟨B, 8, none⟩ = some (.int .i64 0) := HZ.out.cell 8 rfl
  have f8 : w5.frozen? ⟨B, 8, none⟩ = false := HZ.out.free 8
  have s9 : w5.cell? ⟨B, 9, none⟩ = some (.int .i64 0) := HZ.out.cell 9 rfl
  have f9 : w5.frozen? ⟨B, 9, none⟩ = false := HZ.out.free 9
  have s10 : w5.cell? ⟨B, 10, none⟩ = some (.int .i64 0) := HZ.out.cell 10 rfl
  have f10 : w5.frozen? ⟨B, 10, none⟩ = false := HZ.out.free 10
  have s11 : w5.cell? ⟨B, 11, none⟩ = some (.int .i64 0) := HZ.out.cell 11 rfl
  have f11 : w5.frozen? ⟨B, 11, none⟩ = false := HZ.out.free 11
  have s12 : w5.cell? ⟨B, 12, none⟩ = some (.int .i64 0) := HZ.out.cell 12 rfl
  have f12 : w5.frozen? ⟨B, 12, none⟩ = false := HZ.out.free 12
  have s13 : w5.cell? ⟨B, 13, none⟩ = some (.int .i64 0) := HZ.out.cell 13 rfl
  have f13 : w5.frozen? ⟨B, 13, none⟩ = false := HZ.out.free 13
  have s14 : w5.cell? ⟨B, 14, none⟩ = some (.bool false) := HZ.out.cell 14 rfl
  have f14 : w5.frozen? ⟨B, 14, none⟩ = false := HZ.out.free 14
  have s15 : w5.cell? ⟨B, 15, none⟩ = some (.bool false) := HZ.out.cell 15 rfl
  have f15 : w5.frozen? ⟨B, 15, none⟩ = false := HZ.out.free 15
  go_region_held3 (fun w' => Below B w w' ∧ w'.cell? ⟨gd, 256, none⟩ = some (.pointer (some ⟨g, 0, none⟩)) ∧ w'.cell? ⟨gd, 352, none⟩ = some (.bool t) ∧ w'.cell? ⟨h, 0, none⟩ = some (.bool u) ∧ w'.cell? ⟨h, 1, none⟩ = some (.bool m) ∧ w'.cell? ⟨h, 2, none⟩ = some (.bool a) ∧ w'.cell? ⟨h, 3, none⟩ = some (.int .i64 (q 0)) ∧ w'.cell? ⟨h, 4, none⟩ = some (.int .i64 (q 1)) ∧ w'.cell? ⟨h, 5, none⟩ = some (.int .i64 (q 2)) ∧ w'.cell? ⟨h, 6, none⟩ = some (.int .i64 (q 3)) ∧ w'.cell? ⟨h, 7, none⟩ = some (.int .i64 (l 0)) ∧ w'.cell? ⟨h, 8, none⟩ = some (.int .i64 (l 1)) ∧ w'.cell? ⟨h, 9, none⟩ = some (.int .i64 (l 2)) ∧ w'.cell? ⟨h, 10, none⟩ = some (.int .i64 (l 3)) ∧ w'.cell? ⟨h, 11, none⟩ = some (.int .i64 (p 0)) ∧ w'.cell? ⟨h, 12, none⟩ = some (.int .i64 (p 1)) ∧ w'.cell? ⟨h, 13, none⟩ = some (.int .i64 (p 2))) (first | (simp only [drew_cell]; with_reducible exact ⟨HS.drew, cf, ct, c0, c1, c2, c3, c4, c5, c6, c7, c8, c9, c10, c11, c12, c13⟩) | (simp only [far_cell n0, far_cell n1, drew_cell]; with_reducible exact ⟨(Below.drew (Below.setCell (Below.setCell (Below.setCell (Below.setCell (Below.setCell (Below.setCell (Below.setCell (Below.setCell (Below.setCell (Below.setCell (Below.setCell (Below.setCell (Below.setCell (Below.setCell (Below.setCell (Below.setCell HS (p := ⟨B, 0, none⟩) (Nat.le_refl B) _) (p := ⟨B, 1, none⟩) (Nat.le_refl B) _) (p := ⟨B, 2, none⟩) (Nat.le_refl B) _) (p := ⟨B, 3, none⟩) (Nat.le_refl B) _) (p := ⟨B, 4, none⟩) (Nat.le_refl B) _) (p := ⟨B, 5, none⟩) (Nat.le_refl B) _) (p := ⟨B, 6, none⟩) (Nat.le_refl B) _) (p := ⟨B, 7, none⟩) (Nat.le_refl B) _) (p := ⟨B, 8, none⟩) (Nat.le_refl B) _) (p := ⟨B, 9, none⟩) (Nat.le_refl B) _) (p := ⟨B, 10, none⟩) (Nat.le_refl B) _) (p := ⟨B, 11, none⟩) (Nat.le_refl B) _) (p := ⟨B, 12, none⟩) (Nat.le_refl B) _) (p := ⟨B, 13, none⟩) (Nat.le_refl B) _) (p := ⟨B, 14, none⟩) (Nat.le_refl B) _) (p := ⟨B, 15, none⟩) (Nat.le_refl B) _)), cf, ct, c0, c1, c2, c3, c4, c5, c6, c7, c8, c9, c10, c11, c12, c13⟩)) (first
      | (go_at_call 38; refine (isOver_any g ao n c _ _ _ ov _ HOD.out).mono ?_; rintro e w' ⟨rfl, rfl⟩))
  have HF : Hid (SObj ((((((((((((((((w5.setCell ⟨B, 0, none⟩ (.bool u)).setCell ⟨B, 1, none⟩ (.bool m)).setCell ⟨B, 2, none⟩ (.bool (!a))).setCell ⟨B, 3, none⟩ (.int .i64 (q 0))).setCell ⟨B, 4, none⟩ (.int .i64 (q 1))).setCell ⟨B, 5, none⟩ (.int .i64 (q 2))).setCell ⟨B, 6, none⟩ (.int .i64 (q 3))).setCell ⟨B, 7, none⟩ (.int .i64 (l 0))).setCell ⟨B, 8, none⟩ (.int .i64 (l 1))).setCell ⟨B, 9, none⟩ (.int .i64 (l 2))).setCell ⟨B, 10, none⟩ (.int .i64 (l 3))).setCell ⟨B, 11, none⟩ (.int .i64 (p 0))).setCell ⟨B, 12, none⟩ (.int .i64 (p 1))).setCell ⟨B, 13, none⟩ (.int .i64 (p 2))).setCell ⟨B, 14, none⟩ (.bool t)).setCell ⟨B, 15, none⟩ (.bool (decide (0 < ov)))).drew B 46 [.bool u, .bool m, .bool (!a), .int .i64 (q 0), .int .i64 (q 1), .int .i64 (q 2), .int .i64 (q 3), .int .i64 (l 0), .int .i64 (l 1), .int .i64 (l 2), .int .i64 (l 3), .int .i64 (p 0), .int .i64 (p 1), .int .i64 (p 2), .bool t, .bool (decide (0 < ov))] ∧ Below B w ((((((((((((((((w5.setCell ⟨B, 0, none⟩ (.bool u)).setCell ⟨B, 1, none⟩ (.bool m)).setCell ⟨B, 2, none⟩ (.bool (!a))).setCell ⟨B, 3, none⟩ (.int .i64 (q 0))).setCell ⟨B, 4, none⟩ (.int .i64 (q 1))).setCell ⟨B, 5, none⟩ (.int .i64 (q 2))).setCell ⟨B, 6, none⟩ (.int .i64 (q 3))).setCell ⟨B, 7, none⟩ (.int .i64 (l 0))).setCell ⟨B, 8, none⟩ (.int .i64 (l 1))).setCell ⟨B, 9, none⟩ (.int .i64 (l 2))).setCell ⟨B, 10, none⟩ (.int .i64 (l 3))).setCell ⟨B, 11, none⟩ (.int .i64 (p 0))).setCell ⟨B, 12, none⟩ (.int .i64 (p 1))).setCell ⟨B, 13, none⟩ (.int .i64 (p 2))).setCell ⟨B, 14, none⟩ (.bool t)).setCell ⟨B, 15, none⟩ (.bool (decide (0 < ov)))).drew) := Lib.hid ⟨SObj.drew ((((((((((((((((HZ.out.set 0 _).set 1 _).set 2 _).set 3 _).set 4 _).set 5 _).set 6 _).set 7 _).set 8 _).set 9 _).set 10 _).set 11 _).set 12 _).set 13 _).set 14 _).set 15 _), Below.drew (Below.setCell (Below.setCell (Below.setCell (Below.setCell (Below.setCell (Below.setCell (Below.setCell (Below.setCell (Below.setCell (Below.setCell (Below.setCell (Below.setCell (Below.setCell (Below.setCell (Below.setCell (Below.setCell HS (p := ⟨B, 0, none⟩) (Nat.le_refl B) _) (p := ⟨B, 1, none⟩) (Nat.le_refl B) _) (p := ⟨B, 2, none⟩) (Nat.le_refl B) _) (p := ⟨B, 3, none⟩) (Nat.le_refl B) _) (p := ⟨B, 4, none⟩) (Nat.le_refl B) _) (p := ⟨B, 5, none⟩) (Nat.le_refl B) _) (p := ⟨B, 6, none⟩) (Nat.le_refl B) _) (p := ⟨B, 7, none⟩) (Nat.le_refl B) _) (p := ⟨B, 8, none⟩) (Nat.le_refl B) _) (p := ⟨B, 9, none⟩) (Nat.le_refl B) _) (p := ⟨B, 10, none⟩) (Nat.le_refl B) _) (p := ⟨B, 11, none⟩) (Nat.le_refl B) _) (p := ⟨B, 12, none⟩) (Nat.le_refl B) _) (p := ⟨B, 13, none⟩) (Nat.le_refl B) _) (p := ⟨B, 14, none⟩) (Nat.le_refl B) _) (p := ⟨B, 15, none⟩) (Nat.le_refl B) _)⟩
  generalize World.drew _ = wf at HF ⊢
  go_wp2
  refine bodyPost_ret (v := .agg ([.bool u, .bool m, .bool (!a), .int .i64 (q 0), .int .i64 (q 1), .int .i64 (q 2), .int .i64 (q 3), .int .i64 (l 0), .int .i64 (l 1), .int .i64 (l 2), .int .i64 (l 3), .int .i64 (p 0), .int .i64 (p 1), .int .i64 (p 2), .bool t, .bool (decide (0 < ov))] : List Value).toArray) ?_ rfl ⟨?_, ?_⟩
  · exact results_one Tryd.results21 rfl (run_loadVar_mid (P := Tryd.prog) wf B 0 46 [.bool u, .bool m, .bool (!a), .int .i64 (q 0), .int .i64 (q 1), .int .i64 (q 2), .int .i64 (q 3), .int .i64 (l 0), .int .i64 (l 1), .int .i64 (l 2), .int .i64 (l 3), .int .i64 (p 0), .int .i64 (p 1), .int .i64 (p 2), .bool t, .bool (decide (0 < ov))] _ (fun j v hv => by rw [Nat.zero_add]; exact HF.out.1.cell j hv) Tryd.underlying46 rfl (by kernel_rfl))
  · obtain ⟨e1, e2, e3, e4, e5, e6, e7⟩ := HV.out
    refine ⟨decide (0 < ov), ?_⟩
    rw [e1, e2, e3, e4, e5, e6, e7]
    rfl
  · rw [← HB.out.1]; exact HF.out.2
end Go.Proofs.YthmkmemocjnleaaDoor
