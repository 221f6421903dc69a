/- impl.SegmentsOf. -/
import Derived.Test.YthmkmemocjnleaaDoorSegI
namespace Go.Proofs.YthmkmemocjnleaaDoor
open Go.RowKit
set_option linter.unusedVariables false

/-- What is told, as the package's answer. -/
def segO (u m r : Bool) (q l p : Nat → Int) (eof : Bool) : List Value := [.bool u, .bool m, .bool r, .int .i64 (q 0), .int .i64 (q 1), .int .i64 (q 2), .int .i64 (q 3), .int .i64 (l 0), .int .i64 (l 1), .int .i64 (l 2), .int .i64 (l 3), .int .i64 (p 0), .int .i64 (p 1), .int .i64 (p 2), .bool eof]
def z43 : List Value := [.bool false, .bool false, .bool false, .int .i64 0, .int .i64 0, .int .i64 0, .int .i64 0, .int .i64 0, .int .i64 0, .int .i64 0, .int .i64 0, .int .i64 0, .int .i64 0, .int .i64 0, .bool false]
theorem below_cell {w' w'' : World} (hb : Below w'.heap.size w' w'') {b i : Nat} {v : Value} (hc : w'.cell? ⟨b, i, none⟩ = some v) : w''.cell? ⟨b, i, none⟩ = some v := (hb.cell (p := ⟨b, i, none⟩) (World.block_lt_of_cell? w' _ hc)).trans hc
theorem below_free {w' w'' : World} (hb : Below w'.heap.size w' w'') {b i : Nat} {v : Value} (hc : w'.cell? ⟨b, i, none⟩ = some v) (hf : w'.frozen? ⟨b, i, none⟩ = false) : w''.frozen? ⟨b, i, none⟩ = false := (hb.frozen (p := ⟨b, i, none⟩) (World.block_lt_of_cell? w' _ hc)).trans hf
theorem below_step {B : Nat} {w w' w'' : World} (hb : Below w'.heap.size w' w'') (h : Below B w w') (hB : B ≤ w.heap.size) : Below B w w'' := h.trans (hb.mono (Nat.le_trans hB h.size))

set_option maxRecDepth 100000 in
set_option maxHeartbeats 4000000 in
theorem segmentsOf_any (ao : Option Addr) (n c : Nat) (zs : List Int) (w : World) (ht : Tabs w) (h2 : 2 ≤ w.heap.size) (hl : zs.length = n) (hrow : Arg .u8 w ao n (fun i => zs.getD i 0)) (hz : Bytes zs) (h255 : zs.getD 0 0 ≠ 255) (hn : n ≤ 1048576)
    (v : SG × DS) (hv : v = segG (stepP zs) ds0) (hq : ∀ i, -128 ≤ v.1.q i ∧ v.1.q i ≤ 127) (hl7 : ∀ i, -128 ≤ v.1.l i ∧ v.1.l i ≤ 127) (hp : ∀ i, 0 ≤ v.1.p i ∧ v.1.p i ≤ 255) :
    Calls Tryd.prog 20 #[.slice ao n c] w fun e w' => e = .returned (.agg (segO v.1.u v.1.m (v.1.t && !v.1.a) v.1.q v.1.l v.1.p v.2.eof).toArray) ∧ Below w.heap.size w w' := by
  have HO : Hid (SObj (w.alloc (.cells z43.toArray 43)) w.heap.size 43 z43 ∧ Below w.heap.size w (w.alloc (.cells z43.toArray 43)) ∧ (w.alloc (.cells z43.toArray 43)).heap.size = w.heap.size + 1) := Lib.hid ⟨obj_new _ _ _, (Below.refl _ _).alloc (Nat.le_refl _) _, by simp⟩
  unfold z43 at HO
  have HQ := Lib.hid (And.intro hq (And.intro hl7 hp)); clear hq hl7 hp
  have HA := Lib.hid (And.intro ht (And.intro hl (And.intro hrow (And.intro hz (And.intro h255 hv))))); clear ht hl hrow hz h255 hv
  obtain ⟨B, hB⟩ : ∃ B, B = w.heap.size := ⟨_, rfl⟩
  go_enter Tryd.func20, Tryd.ntmps20
  go_wp2_with fail
  generalize World.alloc _ _ = w1 at HO ⊢
  refine (doorSeg_any ao n c zs w1 (HA.out.1.below h2 HO.out.2.1) (by have := HO.out.2.1.size; omega) HA.out.2.1 (HA.out.2.2.1.below HO.out.2.1) HA.out.2.2.2.1 HA.out.2.2.2.2.1 hn v HA.out.2.2.2.2.2).mono ?_
  rintro _ w2 ⟨rfl, hb⟩
  have H2 : Hid (SObj w2 w.heap.size 43 z43 ∧ Below w.heap.size w w2 ∧ w.heap.size < w2.heap.size) := Lib.hid (by
    refine ⟨?_, HO.out.2.1.trans (hb.mono (by rw [HO.out.2.2]; omega)), ?_⟩
    · exact HO.out.1.below hb HO.out.1.lt
    · have := hb.size; rw [HO.out.2.2] at this; omega)
  clear hb HO
  obtain ⟨u, hu⟩ : ∃ u, u = v.1.u := ⟨_, rfl⟩
  obtain ⟨m, hm⟩ : ∃ m, m = v.1.m := ⟨_, rfl⟩
  obtain ⟨r, hr⟩ : ∃ r, r = (v.1.t && !v.1.a) := ⟨_, rfl⟩
  obtain ⟨q, hq⟩ : ∃ q, q = v.1.q := ⟨_, rfl⟩
  obtain ⟨l, hl⟩ : ∃ l, l = v.1.l := ⟨_, rfl⟩
  obtain ⟨p, hp⟩ : ∃ p, p = v.1.p := ⟨_, rfl⟩
  obtain ⟨eof, heof⟩ : ∃ eof, eof = v.2.eof := ⟨_, rfl⟩
  rw [← hq, ← hl, ← hp] at HQ
  rw [← hu, ← hm, ← hr, ← hq, ← hl, ← hp, ← heof]
  have HV := Lib.hid (And.intro hu (And.intro hm (And.intro hr (And.intro hq (And.intro hl (And.intro hp heof)))))); clear hu hm hr hq hl hp heof HA
  go_wp2_with fail
  have H3 : Hid (SObj (((w2.alloc (.cells #[.int .i8 (q 0), .int .i8 (q 1), .int .i8 (q 2), .int .i8 (q 3)] 82)).alloc (.cells #[.int .i8 (l 0), .int .i8 (l 1), .int .i8 (l 2), .int .i8 (l 3)] 82)).alloc (.cells #[.int .u8 (p 0), .int .u8 (p 1), .int .u8 (p 2)] 83)) w2.heap.size 82 [.int .i8 (q 0), .int .i8 (q 1), .int .i8 (q 2), .int .i8 (q 3)] ∧
      SObj (((w2.alloc (.cells #[.int .i8 (q 0), .int .i8 (q 1), .int .i8 (q 2), .int .i8 (q 3)] 82)).alloc (.cells #[.int .i8 (l 0), .int .i8 (l 1), .int .i8 (l 2), .int .i8 (l 3)] 82)).alloc (.cells #[.int .u8 (p 0), .int .u8 (p 1), .int .u8 (p 2)] 83)) (w2.heap.size + 1) 82 [.int .i8 (l 0), .int .i8 (l 1), .int .i8 (l 2), .int .i8 (l 3)] ∧
      SObj (((w2.alloc (.cells #[.int .i8 (q 0), .int .i8 (q 1), .int .i8 (q 2), .int .i8 (q 3)] 82)).alloc (.cells #[.int .i8 (l 0), .int .i8 (l 1), .int .i8 (l 2), .int .i8 (l 3)] 82)).alloc (.cells #[.int .u8 (p 0), .int .u8 (p 1), .int .u8 (p 2)] 83)) (w2.heap.size + 1 + 1) 83 [.int .u8 (p 0), .int .u8 (p 1), .int .u8 (p 2)] ∧
      SObj (((w2.alloc (.cells #[.int .i8 (q 0), .int .i8 (q 1), .int .i8 (q 2), .int .i8 (q 3)] 82)).alloc (.cells #[.int .i8 (l 0), .int .i8 (l 1), .int .i8 (l 2), .int .i8 (l 3)] 82)).alloc (.cells #[.int .u8 (p 0), .int .u8 (p 1), .int .u8 (p 2)] 83)) B 43 z43 ∧
      Below B w (((w2.alloc (.cells #[.int .i8 (q 0), .int .i8 (q 1), .int .i8 (q 2), .int .i8 (q 3)] 82)).alloc (.cells #[.int .i8 (l 0), .int .i8 (l 1), .int .i8 (l 2), .int .i8 (l 3)] 82)).alloc (.cells #[.int .u8 (p 0), .int .u8 (p 1), .int .u8 (p 2)] 83)) ∧ B < w2.heap.size) := Lib.hid (by
    have a1 := obj_new w2 82 [.int .i8 (q 0), .int .i8 (q 1), .int .i8 (q 2), .int .i8 (q 3)]
    have a2 := obj_new (w2.alloc (.cells #[.int .i8 (q 0), .int .i8 (q 1), .int .i8 (q 2), .int .i8 (q 3)] 82)) 82 [.int .i8 (l 0), .int .i8 (l 1), .int .i8 (l 2), .int .i8 (l 3)]
    have a3 := obj_new ((w2.alloc (.cells #[.int .i8 (q 0), .int .i8 (q 1), .int .i8 (q 2), .int .i8 (q 3)] 82)).alloc (.cells #[.int .i8 (l 0), .int .i8 (l 1), .int .i8 (l 2), .int .i8 (l 3)] 82)) 83 [.int .u8 (p 0), .int .u8 (p 1), .int .u8 (p 2)]
    have hs := H2.out.2.2
    refine ⟨(a1.alloc _).alloc _, ?_, ?_, ?_, ?_, by omega⟩
    · have := a2.alloc (.cells #[.int .u8 (p 0), .int .u8 (p 1), .int .u8 (p 2)] 83)
      simpa using this
    · simpa using a3
    · rw [hB]; exact ((H2.out.1.alloc _).alloc _).alloc _
    · rw [hB]; exact ((H2.out.2.1.alloc (by omega) _).alloc (by simp; omega) _).alloc (by simp; omega) _)
  clear H2
  generalize World.alloc _ _ = w3 at H3 ⊢
  obtain ⟨E, hE⟩ : ∃ E, E = w2.heap.size := ⟨_, rfl⟩
  rw [← hE] at H3 ⊢
  rw [← hB]
  have HB := Lib.hid (And.intro hB hE); clear hB hE
  have c0 : w3.cell? ⟨E, 0, none⟩ = some (.int .i8 (q 0)) := H3.out.1.cell 0 rfl
  have c1 : w3.cell? ⟨E, 1, none⟩ = some (.int .i8 (q 1)) := H3.out.1.cell 1 rfl
  have c2 : w3.cell? ⟨E, 2, none⟩ = some (.int .i8 (q 2)) := H3.out.1.cell 2 rfl
  have c3 : w3.cell? ⟨E, 3, none⟩ = some (.int .i8 (q 3)) := H3.out.1.cell 3 rfl
  have c4 : w3.cell? ⟨E + 1, 0, none⟩ = some (.int .i8 (l 0)) := H3.out.2.1.cell 0 rfl
  have c5 : w3.cell? ⟨E + 1, 1, none⟩ = some (.int .i8 (l 1)) := H3.out.2.1.cell 1 rfl
  have c6 : w3.cell? ⟨E + 1, 2, none⟩ = some (.int .i8 (l 2)) := H3.out.2.1.cell 2 rfl
  have c7 : w3.cell? ⟨E + 1, 3, none⟩ = some (.int .i8 (l 3)) := H3.out.2.1.cell 3 rfl
  have c8 : w3.cell? ⟨E + 1 + 1, 0, none⟩ = some (.int .u8 (p 0)) := H3.out.2.2.1.cell 0 rfl
  have c9 : w3.cell? ⟨E + 1 + 1, 1, none⟩ = some (.int .u8 (p 1)) := H3.out.2.2.1.cell 1 rfl
  have c10 : w3.cell? ⟨E + 1 + 1, 2, none⟩ = some (.int .u8 (p 2)) := H3.out.2.2.1.cell 2 rfl
  have HNE : Hid (B ≠ E ∧ B ≠ E + 1 ∧ B ≠ E + 1 + 1 ∧ B ≤ w.heap.size) := Lib.hid (by have d := H3.out.2.2.2.2.2; have e := HB.out; omega)
  have HS : Below B w w3 := H3.out.2.2.2.2.1
  have n0 := HNE.out.1
  have n1 := HNE.out.2.1
  have n2 := HNE.out.2.2.1
  have n4 := HNE.out.2.2.2
  obtain ⟨hp0, hp00⟩ := HQ.out.2.2 0
  obtain ⟨hp1, hp11⟩ := HQ.out.2.2 1
  obtain ⟨hp2, hp22⟩ := HQ.out.2.2 2
  have H4 : Hid (∀ f : Nat → Int, (f = q ∨ f = l) → ∀ w', Calls Tryd.prog 44 #[.agg #[.int .i8 (f 0), .int .i8 (f 1), .int .i8 (f 2), .int .i8 (f 3)]] w' fun e w'' => e = .returned (.agg #[.int .i64 (f 0), .int .i64 (f 1), .int .i64 (f 2), .int .i64 (f 3)]) ∧ Below w'.heap.size w' w'') := Lib.hid (fun f hf w' => by
    rcases hf with rfl | rfl
    · exact four_any _ w' HQ.out.1
    · exact four_any _ w' HQ.out.2.1)
  have s0 : w3.cell? ⟨B, 0, none⟩ = some (.bool false) := H3.out.2.2.2.1.cell 0 rfl
  have f0 : w3.frozen? ⟨B, 0, none⟩ = false := H3.out.2.2.2.1.free 0
  have s1 : w3.cell? ⟨B, 1, none⟩ = some (.bool false) := H3.out.2.2.2.1.cell 1 rfl
  have f1 : w3.frozen? ⟨B, 1, none⟩ = false := H3.out.2.2.2.1.free 1
  have s2 : w3.cell? ⟨B, 2, none⟩ = some (.bool false) := H3.out.2.2.2.1.cell 2 rfl
  have f2 : w3.frozen? ⟨B, 2, none⟩ = false := H3.out.2.2.2.1.free 2
  have s3 : w3.cell? ⟨B, 3, none⟩ = some (.int .i64 0) := H3.out.2.2.2.1.cell 3 rfl
  have f3 : w3.frozen? ⟨B, 3, none⟩ = false := H3.out.2.2.2.1.free 3
  have s4 : w3.cell? ⟨B, 4, none⟩ = some (.int .i64 0) := H3.out.2.2.2.1.cell 4 rfl
  have f4 : w3.frozen? ⟨B, 4, none⟩ = false := H3.out.2.2.2.1.free 4
  have s5 : w3.cell? ⟨B, 5, none⟩ = some (.int .i64 0) := H3.out.2.2.2.1.cell 5 rfl
  have f5 : w3.frozen? ⟨B, 5, none⟩ = false := H3.out.2.2.2.1.free 5
  have s6 : w3.cell? ⟨B, 6, none⟩ = some (.int .i64 0) := H3.out.2.2.2.1.cell 6 rfl
  have f6 : w3.frozen? ⟨B, 6, none⟩ = false := H3.out.2.2.2.1.free 6
  have s7 : w3.cell? ⟨B, 7, none⟩ = some (.int .i64 0) := H3.out.2.2.2.1.cell 7 rfl
  have f7 : w3.frozen? ⟨B, 7, none⟩ = false := H3.out.2.2.2.1.free 7
  have s8 : w3.cell? ⟨B, 8, none⟩ = some (.int .i64 0) := H3.out.2.2.2.1.cell 8 rfl
  have f8 : w3.frozen? ⟨B, 8, none⟩ = false := H3.out.2.2.2.1.free 8
  have s9 : w3.cell? ⟨B, 9, none⟩ = some (.int .i64 0) := H3.out.2.2.2.1.cell 9 rfl
  have f9 : w3.frozen? ⟨B, 9, none⟩ = false := H3.out.2.2.2.1.free 9
  have s10 : w3.cell? ⟨B, 10, none⟩ = some (.int .i64 0) := H3.out.2.2.2.1.cell 10 rfl
  have f10 : w3.frozen? ⟨B, 10, none⟩ = false := H3.out.2.2.2.1.free 10
  have s11 : w3.cell? ⟨B, 11, none⟩ = some (.int .i64 0) := H3.out.2.2.2.1.cell 11 rfl
  have f11 : w3.frozen? ⟨B, 11, none⟩ = false := H3.out.2.2.2.1.free 11
  have s12 : w3.cell? ⟨B, 12, none⟩ = some (.int .i64 0) := H3.out.2.2.2.1.cell 12 rfl
  have f12 : w3.frozen? ⟨B, 12, none⟩ = false := H3.out.2.2.2.1.free 12
  have s13 : w3.cell? ⟨B, 13, none⟩ = some (.int .i64 0) := H3.out.2.2.2.1.cell 13 rfl
  have f13 : w3.frozen? ⟨B, 13, none⟩ = false := H3.out.2.2.2.1.free 13
  have s14 : w3.cell? ⟨B, 14, none⟩ = some (.bool false) := H3.out.2.2.2.1.cell 14 rfl
  have f14 : w3.frozen? ⟨B, 14, none⟩ = false := H3.out.2.2.2.1.free 14
  go_region_held3 (fun w' => Below B w w' ∧ w'.cell? ⟨E, 0, none⟩ = some (.int .i8 (q 0)) ∧ w'.cell? ⟨E, 1, none⟩ = some (.int .i8 (q 1)) ∧ w'.cell? ⟨E, 2, none⟩ = some (.int .i8 (q 2)) ∧ w'.cell? ⟨E, 3, none⟩ = some (.int .i8 (q 3)) ∧ w'.cell? ⟨E + 1, 0, none⟩ = some (.int .i8 (l 0)) ∧ w'.cell? ⟨E + 1, 1, none⟩ = some (.int .i8 (l 1)) ∧ w'.cell? ⟨E + 1, 2, none⟩ = some (.int .i8 (l 2)) ∧ w'.cell? ⟨E + 1, 3, none⟩ = some (.int .i8 (l 3)) ∧ w'.cell? ⟨E + 1 + 1, 0, none⟩ = some (.int .u8 (p 0)) ∧ w'.cell? ⟨E + 1 + 1, 1, none⟩ = some (.int .u8 (p 1)) ∧ w'.cell? ⟨E + 1 + 1, 2, none⟩ = some (.int .u8 (p 2))) (first | (with_reducible exact ⟨hBB, _d0, _d1, _d2, _d3, _d4, _d5, _d6, _d7, _d8, _d9, _d10⟩) | (simp only [drew_cell]; exact ⟨HS.drew, c0, c1, c2, c3, c4, c5, c6, c7, c8, c9, c10⟩) | (simp only [far_cell n0, far_cell n1, far_cell n2]; exact ⟨(Below.setCell (Below.setCell (Below.setCell (Below.setCell (Below.setCell (Below.setCell (Below.setCell (Below.setCell (Below.setCell (Below.setCell (Below.setCell (Below.setCell (Below.setCell (Below.setCell (Below.setCell hBB (p := ⟨B, 0, none⟩) (Nat.le_refl B) _) (p := ⟨B, 1, none⟩) (Nat.le_refl B) _) (p := ⟨B, 2, none⟩) (Nat.le_refl B) _) (p := ⟨B, 3, none⟩) (Nat.le_refl B) _) (p := ⟨B, 4, none⟩) (Nat.le_refl B) _) (p := ⟨B, 5, none⟩) (Nat.le_refl B) _) (p := ⟨B, 6, none⟩) (Nat.le_refl B) _) (p := ⟨B, 7, none⟩) (Nat.le_refl B) _) (p := ⟨B, 8, none⟩) (Nat.le_refl B) _) (p := ⟨B, 9, none⟩) (Nat.le_refl B) _) (p := ⟨B, 10, none⟩) (Nat.le_refl B) _) (p := ⟨B, 11, none⟩) (Nat.le_refl B) _) (p := ⟨B, 12, none⟩) (Nat.le_refl B) _) (p := ⟨B, 13, none⟩) (Nat.le_refl B) _) (p := ⟨B, 14, none⟩) (Nat.le_refl B) _), _d0, _d1, _d2, _d3, _d4, _d5, _d6, _d7, _d8, _d9, _d10⟩)) (first
      | (go_at_call 44; refine (H4.out _ (by first | exact .inl rfl | exact .inr rfl) _).mono ?_; rintro e w' ⟨rfl, hb⟩; have hBB := below_step hb (by first | exact hBB | exact HS.drew) n4; have hOO : Hid (SObj w' B 43 z43) := Lib.hid ((by first | exact hOO.out | exact H3.out.2.2.2.1 : SObj _ B 43 z43).below hb (by first | exact hOO.out.lt | exact H3.out.2.2.2.1.lt)); have _d0 := below_cell hb (by first | exact _d0 | exact c0); have _d1 := below_cell hb (by first | exact _d1 | exact c1); have _d2 := below_cell hb (by first | exact _d2 | exact c2); have _d3 := below_cell hb (by first | exact _d3 | exact c3); have _d4 := below_cell hb (by first | exact _d4 | exact c4); have _d5 := below_cell hb (by first | exact _d5 | exact c5); have _d6 := below_cell hb (by first | exact _d6 | exact c6); have _d7 := below_cell hb (by first | exact _d7 | exact c7); have _d8 := below_cell hb (by first | exact _d8 | exact c8); have _d9 := below_cell hb (by first | exact _d9 | exact c9); have _d10 := below_cell hb (by first | exact _d10 | exact c10); have _f0 := below_free hb (by first | exact _s0 | exact s0) (by first | exact _f0 | exact f0); have _s0 := below_cell hb (by first | exact _s0 | exact s0); have _f1 := below_free hb (by first | exact _s1 | exact s1) (by first | exact _f1 | exact f1); have _s1 := below_cell hb (by first | exact _s1 | exact s1); have _f2 := below_free hb (by first | exact _s2 | exact s2) (by first | exact _f2 | exact f2); have _s2 := below_cell hb (by first | exact _s2 | exact s2); have _f3 := below_free hb (by first | exact _s3 | exact s3) (by first | exact _f3 | exact f3); have _s3 := below_cell hb (by first | exact _s3 | exact s3); have _f4 := below_free hb (by first | exact _s4 | exact s4) (by first | exact _f4 | exact f4); have _s4 := below_cell hb (by first | exact _s4 | exact s4); have _f5 := below_free hb (by first | exact _s5 | exact s5) (by first | exact _f5 | exact f5); have _s5 := below_cell hb (by first | exact _s5 | exact s5); have _f6 := below_free hb (by first | exact _s6 | exact s6) (by first | exact _f6 | exact f6); have _s6 := below_cell hb (by first | exact _s6 | exact s6); have _f7 := below_free hb (by first | exact _s7 | exact s7) (by first | exact _f7 | exact f7); have _s7 := below_cell hb (by first | exact _s7 | exact s7); have _f8 := below_free hb (by first | exact _s8 | exact s8) (by first | exact _f8 | exact f8); have _s8 := below_cell hb (by first | exact _s8 | exact s8); have _f9 := below_free hb (by first | exact _s9 | exact s9) (by first | exact _f9 | exact f9); have _s9 := below_cell hb (by first | exact _s9 | exact s9); have _f10 := below_free hb (by first | exact _s10 | exact s10) (by first | exact _f10 | exact f10); have _s10 := below_cell hb (by first | exact _s10 | exact s10); have _f11 := below_free hb (by first | exact _s11 | exact s11) (by first | exact _f11 | exact f11); have _s11 := below_cell hb (by first | exact _s11 | exact s11); have _f12 := below_free hb (by first | exact _s12 | exact s12) (by first | exact _f12 | exact f12); have _s12 := below_cell hb (by first | exact _s12 | exact s12); have _f13 := below_free hb (by first | exact _s13 | exact s13) (by first | exact _f13 | exact f13); have _s13 := below_cell hb (by first | exact _s13 | exact s13); have _f14 := below_free hb (by first | exact _s14 | exact s14) (by first | exact _f14 | exact f14); have _s14 := below_cell hb (by first | exact _s14 | exact s14)))
  have kp0 : IntKind.i64.wrap (p 0) = p 0 := IntWalk.i64_in _ (by omega)
  have kp1 : IntKind.i64.wrap (p 1) = p 1 := IntWalk.i64_in _ (by omega)
  have kp2 : IntKind.i64.wrap (p 2) = p 2 := IntWalk.i64_in _ (by omega)
  rw [kp0, kp1, kp2]
  clear kp0 kp1 kp2
  have HF : Hid (SObj (((((((((((((((w'.setCell ⟨B, 0, none⟩ (.bool u)).setCell ⟨B, 1, none⟩ (.bool m)).setCell ⟨B, 2, none⟩ (.bool r)).setCell ⟨B, 3, none⟩ (.int .i64 (q 0))).setCell ⟨B, 4, none⟩ (.int .i64 (q 1))).setCell ⟨B, 5, none⟩ (.int .i64 (q 2))).setCell ⟨B, 6, none⟩ (.int .i64 (q 3))).setCell ⟨B, 7, none⟩ (.int .i64 (l 0))).setCell ⟨B, 8, none⟩ (.int .i64 (l 1))).setCell ⟨B, 9, none⟩ (.int .i64 (l 2))).setCell ⟨B, 10, none⟩ (.int .i64 (l 3))).setCell ⟨B, 11, none⟩ (.int .i64 (p 0))).setCell ⟨B, 12, none⟩ (.int .i64 (p 1))).setCell ⟨B, 13, none⟩ (.int .i64 (p 2))).setCell ⟨B, 14, none⟩ (.bool eof)) B 43 (segO u m r q l p eof) ∧ Below B w (((((((((((((((w'.setCell ⟨B, 0, none⟩ (.bool u)).setCell ⟨B, 1, none⟩ (.bool m)).setCell ⟨B, 2, none⟩ (.bool r)).setCell ⟨B, 3, none⟩ (.int .i64 (q 0))).setCell ⟨B, 4, none⟩ (.int .i64 (q 1))).setCell ⟨B, 5, none⟩ (.int .i64 (q 2))).setCell ⟨B, 6, none⟩ (.int .i64 (q 3))).setCell ⟨B, 7, none⟩ (.int .i64 (l 0))).setCell ⟨B, 8, none⟩ (.int .i64 (l 1))).setCell ⟨B, 9, none⟩ (.int .i64 (l 2))).setCell ⟨B, 10, none⟩ (.int .i64 (l 3))).setCell ⟨B, 11, none⟩ (.int .i64 (p 0))).setCell ⟨B, 12, none⟩ (.int .i64 (p 1))).setCell ⟨B, 13, none⟩ (.int .i64 (p 2))).setCell ⟨B, 14, none⟩ (.bool eof))) := Lib.hid ⟨(((((((((((((((hOO.out.set 0 _).set 1 _).set 2 _).set 3 _).set 4 _).set 5 _).set 6 _).set 7 _).set 8 _).set 9 _).set 10 _).set 11 _).set 12 _).set 13 _).set 14 _), (Below.setCell (Below.setCell (Below.setCell (Below.setCell (Below.setCell (Below.setCell (Below.setCell (Below.setCell (Below.setCell (Below.setCell (Below.setCell (Below.setCell (Below.setCell (Below.setCell (Below.setCell hBB (p := ⟨B, 0, none⟩) (Nat.le_refl B) _) (p := ⟨B, 1, none⟩) (Nat.le_refl B) _) (p := ⟨B, 2, none⟩) (Nat.le_refl B) _) (p := ⟨B, 3, none⟩) (Nat.le_refl B) _) (p := ⟨B, 4, none⟩) (Nat.le_refl B) _) (p := ⟨B, 5, none⟩) (Nat.le_refl B) _) (p := ⟨B, 6, none⟩) (Nat.le_refl B) _) (p := ⟨B, 7, none⟩) (Nat.le_refl B) _) (p := ⟨B, 8, none⟩) (Nat.le_refl B) _) (p := ⟨B, 9, none⟩) (Nat.le_refl B) _) (p := ⟨B, 10, none⟩) (Nat.le_refl B) _) (p := ⟨B, 11, none⟩) (Nat.le_refl B) _) (p := ⟨B, 12, none⟩) (Nat.le_refl B) _) (p := ⟨B, 13, none⟩) (Nat.le_refl B) _) (p := ⟨B, 14, none⟩) (Nat.le_refl B) _)⟩
  generalize World.setCell _ _ _ = wf at HF ⊢
  go_wp2
  refine bodyPost_ret (v := .agg (segO u m r q l p eof).toArray) ?_ rfl ⟨?_, ?_⟩
  rotate_left
  · obtain ⟨e1, e2, e3, e4, e5, e6, e7⟩ := HV.out
    rw [e1, e2, e3, e4, e5, e6, e7]
  · rw [← HB.out.1]; exact HF.out.2
  exact results_one Tryd.results20 rfl (run_loadVar_mid (P := Tryd.prog) wf B 0 43 (segO u m r q l p eof) _ (fun j v hv => by rw [Nat.zero_add]; exact HF.out.1.cell j hv) Tryd.underlying43 rfl (by kernel_rfl))
end Go.Proofs.YthmkmemocjnleaaDoor
