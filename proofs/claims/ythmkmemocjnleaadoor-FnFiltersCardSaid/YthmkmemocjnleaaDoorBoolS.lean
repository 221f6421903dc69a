/- The boolean decoder of the reference. -/
import Derived.Test.YthmkmemocjnleaaDoorCommon
import Derived.Deep.LoopGhost
import Derived.BigRegion
namespace Go.Proofs.YthmkmemocjnleaaDoor
open Go.RowKit
set_option linter.unusedVariables false

/-- The reference's decoder at block g. -/
def ST (w : World) (g : Nat) (ao : Option Addr) (n c : Nat) (pos : Nat) (v z over : Int) : Prop :=
  SObj w g 131 [.slice ao n c, .int .i64 pos, .int .i64 v, .int .i64 z, .int .i64 over]

theorem or_bit (v b : Int) (h0 : 0 ≤ v) (h1 : v < 1000000) (hb0 : 0 ≤ b) (hb1 : b ≤ 1) : bits .or .i64 (v * 2) b = 2 * v + b := by
  obtain ⟨vn, rfl⟩ := Int.eq_ofNat_of_zero_le h0
  obtain ⟨bn, rfl⟩ := Int.eq_ofNat_of_zero_le hb0
  have e : ((vn : Int) * 2) = ((vn * 2 : Nat) : Int) := by omega
  rw [e, i64_or_nat _ _ (by omega) (by omega), nat_join 1 _ _ (by omega) (by omega)]
  omega

set_option maxRecDepth 100000 in
set_option maxHeartbeats 800000 in
theorem shiftS_in (g : Nat) (gb ob n c : Nat) (pos : Nat) (v z over x : Int) (w : World) (h : ST w g (some ⟨gb, ob, none⟩) n c pos v z over) (hx : w.cell? ⟨gb, ob + pos / 8, none⟩ = some (.int .u8 x)) (hx0 : 0 ≤ x) (hx1 : x ≤ 255)
    (hv0 : 0 ≤ v) (hv1 : v < 1000000) (hp : pos < 8 * n) (hn : n ≤ 1048576) (bit : Int) (hbit : bit = x / 2 ^ (7 - pos % 8) % 2) :
    Calls Tryd.prog 57 #[.pointer (some ⟨g, 0, none⟩)] w fun e w' => e = .returned (.tuple #[]) ∧ ST w' g (some ⟨gb, ob, none⟩) n c (pos + 1) (2 * v + bit) z over ∧ w.grownBy w' (some g) := by
  have H := Lib.hid h
  have c0 := SObj.cell h 0 rfl
  have c1 := SObj.cell h 1 rfl
  have c2 := SObj.cell h 2 rfl
  have z1 := SObj.free h 1
  have z2 := SObj.free h 2
  obtain ⟨q, hq⟩ : ∃ q : Nat, q = pos / 8 := ⟨_, rfl⟩
  obtain ⟨s, hs⟩ : ∃ s : Nat, s = pos % 8 := ⟨_, rfl⟩
  have hq1 : q < n := by omega
  have hs1 : s ≤ 7 := by omega
  have e1 : (pos : Int) / 8 = (q : Int) := by omega
  have e2 : (pos : Int) % 8 = (s : Int) := by omega
  rw [← hq] at hx
  have HB := Lib.hid (And.intro hbit (And.intro hq hs)); clear hbit hq hs
  have hy0 : 0 ≤ x / 2 ^ (7 - s) := Int.ediv_nonneg hx0 (Int.pow_nonneg (by omega))
  have hy1 : x / 2 ^ (7 - s) ≤ 255 := Int.le_trans (Int.ediv_le_self _ hx0) hx1
  have hb0 : 0 ≤ bit := by rw [HB.out.1]; exact Int.emod_nonneg _ (by decide)
  have hb1 : bit ≤ 1 := by rw [HB.out.1]; have := Int.emod_lt_of_pos (x / 2 ^ (7 - pos % 8)) (show (0 : Int) < 2 by decide); omega
  have hb : Hid (bits .and .i64 (wrap64 (x / 2 ^ (7 - s))) 1 = bit) := Lib.hid (by
    rw [mask1, HB.out.1, ← HB.out.2.2]; unfold wrap64; omega)
  have ho : Hid (bits .or .i64 (v * 2) bit = 2 * v + bit) := Lib.hid (or_bit v bit hv0 hv1 hb0 hb1)
  clear h hy0 hy1
  go_enter Tryd.func57, Tryd.ntmps57
  go_wp2
  go_quiet (fail)
  go_wp2
  go_quiet (fail)
  rw [hb.out]
  go_wp2
  go_end0
  simp only []
  rw [ho.out]
  exact ⟨trivial, ((H.out.drewN _).set 2 _).set 1 _, grownBy.trans (grownBy.trans (grownBy_drewN _ _ _) (grownBy_setCell _ _ _)) (grownBy_setCell _ _ _)⟩

set_option maxRecDepth 100000 in
set_option maxHeartbeats 800000 in
theorem shiftS_out (g : Nat) (ao : Option Addr) (n c : Nat) (pos : Nat) (v z over : Int) (w : World) (h : ST w g ao n c pos v z over)
    (hv0 : 0 ≤ v) (hv1 : v < 1000000) (hp : 8 * n ≤ pos) (hn : n ≤ 1048576) (hpos : pos ≤ 1000000000000) :
    Calls Tryd.prog 57 #[.pointer (some ⟨g, 0, none⟩)] w fun e w' => e = .returned (.tuple #[]) ∧ ST w' g ao n c (pos + 1) (2 * v) z over ∧ w.grownBy w' (some g) := by
  have H := Lib.hid h
  have c0 := SObj.cell h 0 rfl
  have c1 := SObj.cell h 1 rfl
  have c2 := SObj.cell h 2 rfl
  have z1 := SObj.free h 1
  have z2 := SObj.free h 2
  have ho : Hid (bits .or .i64 (v * 2) 0 = 2 * v) := Lib.hid (by have := or_bit v 0 hv0 hv1 (by decide) (by decide); rw [this]; omega)
  clear h
  go_enter Tryd.func57, Tryd.ntmps57
  go_wp2
  go_quiet (fail)
  go_wp2
  go_end0
  simp only []
  rw [ho.out]
  exact ⟨trivial, ((H.out.drewN _).set 2 _).set 1 _, grownBy.trans (grownBy.trans (grownBy_drewN _ _ _) (grownBy_setCell _ _ _)) (grownBy_setCell _ _ _)⟩

/-- What a call of the reference's decoder needs. -/
structure Sd (w : World) (g : Nat) (ao : Option Addr) (n c : Nat) (zs : List Int) (pos : Nat) (v z over : Int) : Prop where
  obj : ST w g ao n c pos v z over
  len : zs.length = n
  row : Arg .u8 w ao n (fun i => zs.getD i 0)
  far : 0 < n → ∀ a, ao = some a → a.block ≠ g
  bytes : Bytes zs
  max : n ≤ 1048576

theorem bitAt_out (zs : List Int) (pos : Nat) (h : 8 * zs.length ≤ pos) : bitAt zs pos = 0 := by
  unfold bitAt
  have : zs.getD (pos / 8) 0 = 0 := by simp [List.getD, show zs.length ≤ pos / 8 by omega]
  rw [this]; simp

theorem Sd.grow {w w' : World} {g : Nat} {ao : Option Addr} {n c : Nat} {zs : List Int} {pos pos' : Nat} {v z over v' z' over' : Int} (h : Sd w g ao n c zs pos v z over) (hg : w.grownBy w' (some g)) (ho : ST w' g ao n c pos' v' z' over') : Sd w' g ao n c zs pos' v' z' over' where
  obj := ho
  len := h.len
  row := fun hn => h.row.grown hg (fun r hr p hp => by injection hr with hr; subst hr; exact h.far hn p hp) hn
  far := h.far
  bytes := h.bytes
  max := h.max
theorem Sd.grown {w w' : World} {g : Nat} {ao : Option Addr} {n c : Nat} {zs : List Int} {pos : Nat} {v z over : Int} {row : Option Nat} (h : Sd w g ao n c zs pos v z over) (hg : w.grownBy w' row) (B : Nat) (hr : ∀ k, row = some k → B ≤ k ∧ k ≠ g) (ha : 0 < n → ∀ a, ao = some a → a.block < B) : Sd w' g ao n c zs pos v z over where
  obj := SObj.grown h.obj hg (fun e => (hr g e.symm).2 rfl)
  len := h.len
  row := fun hn => h.row.grown hg (fun r hr' p hp => by have := hr r hr'; have := ha hn p hp; omega) hn
  far := h.far
  bytes := h.bytes
  max := h.max
theorem Sd.below {w w' : World} {g : Nat} {ao : Option Addr} {n c : Nat} {zs : List Int} {pos : Nat} {v z over : Int} (h : Sd w g ao n c zs pos v z over) (hb : Below w.heap.size w w') : Sd w' g ao n c zs pos v z over where
  obj := SObj.below h.obj hb (SObj.lt h.obj)
  len := h.len
  row := h.row.below hb
  far := h.far
  bytes := h.bytes
  max := h.max

theorem shiftS_any (g : Nat) (ao : Option Addr) (n c : Nat) (zs : List Int) (pos : Nat) (v z over : Int) (w : World) (h : Sd w g ao n c zs pos v z over)
    (hv0 : 0 ≤ v) (hv1 : v < 1000000) (hpos : pos ≤ 1000000000000) :
    Calls Tryd.prog 57 #[.pointer (some ⟨g, 0, none⟩)] w fun e w' => e = .returned (.tuple #[]) ∧ Sd w' g ao n c zs (pos + 1) (2 * v + bitAt zs pos) z over ∧ w.grownBy w' (some g) := by
  have hl := h.len
  by_cases hp : pos < 8 * n
  · obtain ⟨gb, ob, rfl, hlt, hrow⟩ := h.row (by omega)
    have hx := h.bytes (pos / 8)
    refine (shiftS_in g gb ob n c pos v z over (zs.getD (pos / 8) 0) w h.obj (hrow _ (by omega)) hx.1 hx.2 hv0 hv1 hp h.max (bitAt zs pos) rfl).mono ?_
    rintro _ w' ⟨rfl, h1, h2⟩
    exact ⟨rfl, h.grow h2 h1, h2⟩
  · rw [bitAt_out zs pos (by omega), Int.add_zero]
    refine (shiftS_out g ao n c pos v z over w h.obj hv0 hv1 (by omega) h.max hpos).mono ?_
    rintro _ w' ⟨rfl, h1, h2⟩
    exact ⟨rfl, h.grow h2 h1, h2⟩

/-- The value and the place behind k shifts. -/
theorem shiftsS_succ (zs : List Int) (k : Nat) : ∀ (v : Int) (pos : Nat), shiftsS zs (k + 1) v pos = 2 * shiftsS zs k v pos + bitAt zs (pos + k) := by
  induction k with
  | zero => intro v pos; simp [shiftsS]
  | succ k ih =>
    intro v pos
    rw [shiftsS, ih, shiftsS]
    congr 2
    omega

theorem kOf_steps (z : Int) (h1 : 1 ≤ z) (h2 : z ≤ 255) : ∀ j, j ≤ kOf z → (z * 2 ^ j < 128 ↔ j < kOf z) ∧ z * 2 ^ j ≤ 255 := by
  have : ∀ k : Nat, k < 256 → 1 ≤ k → ∀ j, j ≤ kOf (k : Int) → (((k : Int) * 2 ^ j < 128 ↔ j < kOf (k : Int)) ∧ (k : Int) * 2 ^ j ≤ 255) := by
    have hd : ∀ k : Nat, k < 256 → 1 ≤ k → kOf (k : Int) ≤ 7 ∧ ∀ j, j ≤ 7 → j ≤ kOf (k : Int) → (((k : Int) * 2 ^ j < 128 ↔ j < kOf (k : Int)) ∧ (k : Int) * 2 ^ j ≤ 255) := by decide +kernel
    intro k hk hk1 j hj
    exact (hd k hk hk1).2 j (by have := (hd k hk hk1).1; omega) hj
  obtain ⟨k, rfl⟩ := Int.eq_ofNat_of_zero_le (show 0 ≤ z by omega)
  exact this k (by omega) (by omega)

set_option maxRecDepth 100000 in
set_option maxHeartbeats 800000 in
theorem boolS_any (g : Nat) (ao : Option Addr) (n c : Nat) (zs : List Int) (s : SS) (over p : Int) (w : World) (h : Sd w g ao n c zs s.pos s.v s.z over) (hok : OKS zs s) (hp0 : 0 ≤ p) (hp1 : p ≤ 255) (hpos : s.pos ≤ 100000000000) :
    Calls Tryd.prog 36 #[.pointer (some ⟨g, 0, none⟩), .int .i64 p] w fun e w' => e = .returned (.bool (stepS zs s p).1) ∧ (∃ over', Sd w' g ao n c zs (stepS zs s p).2.pos (stepS zs s p).2.v (stepS zs s p).2.z over') ∧ w.grownBy w' (some g) := by
  obtain ⟨v, z, pos⟩ := s
  simp only at h hpos ⊢
  obtain ⟨h1, h2, h3, h4⟩ := hok
  simp only at h1 h2 h3 h4
  have H := Lib.hid h
  have hn := h.max
  have ho := h.obj
  have c0 := SObj.cell ho 0 rfl
  have c1 := SObj.cell ho 1 rfl
  have c2 := SObj.cell ho 2 rfl
  have c3 := SObj.cell ho 3 rfl
  have c4 := SObj.cell ho 4 rfl
  have z2 := SObj.free ho 2
  have z3 := SObj.free ho 3
  have z4 := SObj.free ho 4
  obtain ⟨s0, s1, s2⟩ := sp_bounds (z - 1) p (by omega) (by omega) hp0 hp1
  have hs2 := s2 (by omega)
  have q0 : 0 ≤ (z - 1) * p := Int.mul_nonneg (by omega) hp0
  have q1 : (z - 1) * p ≤ 254 * 255 := Int.mul_le_mul (by omega) hp1 hp0 (by omega)
  unfold stepS
  simp only
  obtain ⟨sp, hsp⟩ : ∃ sp, sp = (z - 1) * p / 256 + 1 := ⟨_, rfl⟩
  rw [← hsp] at s0 s1 s2 hs2 ⊢
  have esp : 1 + (z - 1) * p / 256 = sp := by omega
  have HS := Lib.hid hsp
  clear h ho hsp s2
  go_enter Tryd.func36, Tryd.ntmps36
  go_wp2
  go_region
  obtain ⟨ov, hov⟩ : ∃ ov, ov = (if over < (pos : Int) - 8 * (n : Int) then (pos : Int) - 8 * (n : Int) else over) := ⟨_, rfl⟩
  rw [← hov]
  clear hov
  generalize hw2 : World.drew _ = w2
  have H2 : Hid (Sd w2 g ao n c zs pos v z ov ∧ w.grownBy w2 (some g)) := by
    rw [← hw2]
    have hg : w.grownBy ((w.setCell ⟨g, 4, none⟩ (.int .i64 ov)).drewN 1) (some g) := grownBy.trans (grownBy_setCell _ _ _) (grownBy_drewN _ 1 _)
    exact ⟨H.out.grow hg (SObj.drewN (SObj.set H.out.obj 4 _) 1), hg⟩
  clear hw2 c0 c1 c2 c3 c4 z2 z3 z4 H
  have ho := H2.out.1.obj
  have c2 := SObj.cell ho 2 rfl
  have c3 := SObj.cell ho 3 rfl
  have z2 := SObj.free ho 2
  have z3 := SObj.free ho 3
  clear ho
  by_cases hh : sp ≤ v
  · go_wp2
    have hg3 : w2.grownBy ((w2.setCell ⟨g, 2, none⟩ (.int .i64 (v - sp))).setCell ⟨g, 3, none⟩ (.int .i64 (z - sp))) (some g) := grownBy.trans (grownBy_setCell _ _ _) (grownBy_setCell _ _ _)
    have H3 := Lib.hid (And.intro (H2.out.1.grow hg3 (SObj.set (SObj.set H2.out.1.obj 2 _) 3 _)) (grownBy.trans H2.out.2 hg3))
    clear hg3 c2 c3 z2 z3
    obtain ⟨k, hk⟩ : ∃ k, k = kOf (z - sp) := ⟨_, rfl⟩
    have HK := Lib.hid hk; clear hk
    go_loopg [] k (fun j wr => j ≤ k ∧ Hid (Sd wr g ao n c zs (pos + (k - j)) (shiftsS zs (k - j) (v - sp) pos) ((z - sp) * 2 ^ (k - j)) ov ∧ w.grownBy wr (some g)))
    case atStart => exact ⟨Nat.le_refl _, by simpa [shiftsS] using H3.out.1, H3.out.2⟩
    case round =>
      obtain ⟨hj, hR⟩ := hrel
      obtain ⟨i, hi⟩ : ∃ i, i = k - gk := ⟨_, rfl⟩
      rw [← hi] at hR
      have hst := kOf_steps (z - sp) (by omega) (by omega) i (by rw [← HK.out]; omega)
      rw [← HK.out] at hst
      have hvr := shiftsS_range zs i (v - sp) (z - sp) pos (by omega) (by omega)
      obtain ⟨sz, hsz⟩ : ∃ sz, sz = (z - sp) * 2 ^ i := ⟨_, rfl⟩
      obtain ⟨sv, hsv⟩ : ∃ sv, sv = shiftsS zs i (v - sp) pos := ⟨_, rfl⟩
      rw [← hsz] at hst hvr hR
      rw [← hsv] at hvr hR
      have hsz0 : 1 ≤ sz := by omega
      have hko := (kOf_range (z - sp) (by omega) (by omega)).2.2
      rw [← HK.out] at hko
      have HZ := Lib.hid (And.intro hsz (And.intro hsv hi)); clear hsz hsv
      have d3 := SObj.cell hR.out.1.obj 3 rfl
      have y3 := SObj.free hR.out.1.obj 3
      by_cases h0 : gk = 0
      · have hge : 128 ≤ sz := by have := hst.1; omega
        obtain ⟨hst1, hst2⟩ := hst
        clear hst1
        go_wp2
        go_ret
        have e : i = k := by omega
        rw [e] at HZ hR
        try rw [if_pos hh]
        try simp only
        rw [← HK.out]
        refine ⟨by first | rfl | (show Ending.returned (.bool (decide (sp ≤ v))) = _; rw [decide_eq_true hh]), ⟨ov, ?_⟩, hR.out.2⟩
        rw [← HZ.out.1, ← HZ.out.2.1]
        exact hR.out.1
      · have hlt : sz < 128 := by have := hst.1; omega
        obtain ⟨hst1, hst2⟩ := hst
        clear hst1
        go_wp2_with fail
        have hS := hR.out.1.grow (grownBy_setCell wr ⟨g, 3, none⟩ (.int .i64 (sz * 2))) (SObj.set hR.out.1.obj 3 _)
        refine (shiftS_any g ao n c zs (pos + i) sv (sz * 2) ov _ hS (by omega) (by omega) (by omega)).mono ?_
        rintro _ w5 ⟨rfl, h5, g5⟩
        have HW := Lib.hid (And.intro h5 (grownBy.trans (grownBy.trans hR.out.2 (grownBy_setCell wr ⟨g, 3, none⟩ (.int .i64 (sz * 2)))) g5))
        clear h5 g5 hS d3 y3
        go_wp2
        go_roundg (gk - 1)
        case measure => omega
        case rel =>
          refine ⟨by omega, ?_, HW.out.2⟩
          have e : k - (gk - 1) = i + 1 := by omega
          rw [e, shiftsS_succ, ← HZ.out.2.1, Int.pow_succ, ← Int.mul_assoc, ← HZ.out.1]
          exact HW.out.1
  · have hd : decide (sp ≤ v) = false := decide_eq_false hh
    go_wp2
    have hg3 : w2.grownBy (w2.setCell ⟨g, 3, none⟩ (.int .i64 sp)) (some g) := grownBy_setCell _ _ _
    have H3 := Lib.hid (And.intro (H2.out.1.grow hg3 (SObj.set H2.out.1.obj 3 _)) (grownBy.trans H2.out.2 hg3))
    clear hg3 c2 c3 z2 z3
    obtain ⟨k, hk⟩ : ∃ k, k = kOf (sp) := ⟨_, rfl⟩
    have HK := Lib.hid hk; clear hk
    go_loopg [] k (fun j wr => j ≤ k ∧ Hid (Sd wr g ao n c zs (pos + (k - j)) (shiftsS zs (k - j) (v) pos) ((sp) * 2 ^ (k - j)) ov ∧ w.grownBy wr (some g)))
    case atStart => exact ⟨Nat.le_refl _, by simpa [shiftsS] using H3.out.1, H3.out.2⟩
    case round =>
      obtain ⟨hj, hR⟩ := hrel
      obtain ⟨i, hi⟩ : ∃ i, i = k - gk := ⟨_, rfl⟩
      rw [← hi] at hR
      have hst := kOf_steps (sp) (by omega) (by omega) i (by rw [← HK.out]; omega)
      rw [← HK.out] at hst
      have hvr := shiftsS_range zs i (v) (sp) pos (by omega) (by omega)
      obtain ⟨sz, hsz⟩ : ∃ sz, sz = (sp) * 2 ^ i := ⟨_, rfl⟩
      obtain ⟨sv, hsv⟩ : ∃ sv, sv = shiftsS zs i (v) pos := ⟨_, rfl⟩
      rw [← hsz] at hst hvr hR
      rw [← hsv] at hvr hR
      have hsz0 : 1 ≤ sz := by omega
      have hko := (kOf_range (sp) (by omega) (by omega)).2.2
      rw [← HK.out] at hko
      have HZ := Lib.hid (And.intro hsz (And.intro hsv hi)); clear hsz hsv
      have d3 := SObj.cell hR.out.1.obj 3 rfl
      have y3 := SObj.free hR.out.1.obj 3
      by_cases h0 : gk = 0
      · have hge : 128 ≤ sz := by have := hst.1; omega
        obtain ⟨hst1, hst2⟩ := hst
        clear hst1
        go_wp2
        go_ret
        have e : i = k := by omega
        rw [e] at HZ hR
        try rw [if_neg hh]
        try simp only
        rw [← HK.out]
        refine ⟨by first | rfl | (show Ending.returned (.bool (decide (sp ≤ v))) = _; rw [decide_eq_false hh]), ⟨ov, ?_⟩, hR.out.2⟩
        rw [← HZ.out.1, ← HZ.out.2.1]
        exact hR.out.1
      · have hlt : sz < 128 := by have := hst.1; omega
        obtain ⟨hst1, hst2⟩ := hst
        clear hst1
        go_wp2_with fail
        have hS := hR.out.1.grow (grownBy_setCell wr ⟨g, 3, none⟩ (.int .i64 (sz * 2))) (SObj.set hR.out.1.obj 3 _)
        refine (shiftS_any g ao n c zs (pos + i) sv (sz * 2) ov _ hS (by omega) (by omega) (by omega)).mono ?_
        rintro _ w5 ⟨rfl, h5, g5⟩
        have HW := Lib.hid (And.intro h5 (grownBy.trans (grownBy.trans hR.out.2 (grownBy_setCell wr ⟨g, 3, none⟩ (.int .i64 (sz * 2)))) g5))
        clear h5 g5 hS d3 y3
        go_wp2
        go_roundg (gk - 1)
        case measure => omega
        case rel =>
          refine ⟨by omega, ?_, HW.out.2⟩
          have e : k - (gk - 1) = i + 1 := by omega
          rw [e, shiftsS_succ, ← HZ.out.2.1, Int.pow_succ, ← Int.mul_assoc, ← HZ.out.1]
          exact HW.out.1
end Go.Proofs.YthmkmemocjnleaaDoor
