/- impl.Read. -/
import Derived.Test.YtdmefbpfpmkdcaaDoorParam
namespace Go.Proofs.YtdmefbpfpmkdcaaDoor
open Go.RowKit
set_option linter.unusedVariables false

theorem infoInt : (Tryd.prog.info? 3).map (fun i => (i.zero, i.size, i.bytes)) = some (some (.int .i64 0), 1, 8) := by kernel_rfl

theorem Rdr.only {T : Nat → Prop} {w w' : World} {gd gr : Nat} {a : Option Addr} {n c : Nat} {f : Nat → Int} {S p : Nat} (h : Rdr w gd gr a n c f S p) (ho : Only T w w') (hd : ¬ T gd) (hr : ¬ T gr) (ha : 0 < n → ∀ x, a = some x → ¬ T x.block) : Rdr w' gd gr a n c f S p := by
  obtain ⟨ar, b, i, db, h1, h2, h3⟩ := h
  exact ⟨⟨ar.row.only ho ha, ar.far, ar.strm, ar.max⟩, b, i, ⟨db.1.only ho hd, db.2.only ho hr⟩, h1, h2, h3⟩
theorem Rdr.lt {w : World} {gd gr : Nat} {a : Option Addr} {n c : Nat} {f : Nat → Int} {S p : Nat} (h : Rdr w gd gr a n c f S p) : gd < w.heap.size ∧ gr < w.heap.size ∧ (0 < n → ∀ x, a = some x → x.block < w.heap.size) := by
  obtain ⟨ar, b, i, db, _⟩ := h
  refine ⟨db.1.lt, by obtain ⟨pr, h⟩ := db.2; exact h.lt, fun h0 x hx => ?_⟩
  obtain ⟨g, o, e, hg, _⟩ := ar.row h0
  rw [hx] at e; injection e with e; subst e; exact hg
/-- The numbers that are read. -/
def readF (S : Nat) (sz : Nat → Nat) (i : Nat) : Int := (hand S (placeOf sz i) (sz i) : Int)

set_option maxRecDepth 100000 in
set_option maxHeartbeats 800000 in
theorem Read_ok (a : Option Addr) (n c : Nat) (f : Nat → Int) (S : Nat) (sa : Option Addr) (sn sc : Nat) (sz : Nat → Int) (w : World) (ha : Arg .u8 w a n f) (hs : Strm f S n) (hmax : n ≤ 140737488351232)
    (hz : Arg .i64 w sa sn sz) (hb : ∀ i, i < sn → 0 ≤ sz i ∧ sz i ≤ 24) (hsn : sn ≤ 4096) (hp : placeOf (natF sz) sn ≤ 8 * n) :
    Calls Tryd.prog 12 #[.slice a n c, .slice sa sn sc] w fun e w' => (∃ a' c', e = .returned (.tuple #[.slice a' sn c', .bool true]) ∧ Own .i64 w.heap.size w' a' sn (readF S (natF sz))) ∧ Below w.heap.size w w' := by
  obtain ⟨i0, hi, hz0, hz1, hz2⟩ := info_parts infoInt
  have H0 := Lib.hid (And.intro ha (And.intro hs (And.intro hz (And.intro hb hp)))); clear ha hs hz hb hp
  go_enter Tryd.func12, Tryd.ntmps12
  go_wp2_with fail
  refine (newReader_any a n c w).mono ?_
  rintro _ w1 ⟨rfl, hb, hb1⟩
  have H1 := Lib.hid (And.intro hb hb1); clear hb hb1
  go_wp2_with fail
  refine (newBits_any _ w1).mono ?_
  rintro _ w2 ⟨rfl, ho, hb2⟩
  have H2 := Lib.hid (rdr0 H0.out.1 H0.out.2.1 hmax H1.out.1 H1.out.2 ho hb2)
  clear ho hb2
  obtain ⟨gd, hgd⟩ : ∃ gd, gd = w1.heap.size := ⟨_, rfl⟩
  obtain ⟨gr, hgr⟩ : ∃ gr, gr = w.heap.size := ⟨_, rfl⟩
  obtain ⟨B, hB⟩ : ∃ B, B = w2.heap.size := ⟨_, rfl⟩
  have HR : Hid (Rdr w2 gd gr a n c f S 0 ∧ Below w.heap.size w w2 ∧ gd < B ∧ gr < B ∧ w.heap.size ≤ gd ∧ w.heap.size ≤ gr ∧ (0 < n → ∀ x, a = some x → ¬ B ≤ x.block) ∧ B = w2.heap.size) := by
    obtain ⟨h1, h2, h3⟩ := H2.out
    obtain ⟨l1, l2, l3⟩ := h1.lt
    rw [hgd, hgr, hB]
    exact Lib.hid ⟨h1, h2, l1, l2, by omega, by omega, fun h0 x hx => by have := l3 h0 x hx; omega, rfl⟩
  rw [← hgd]
  clear H1 H2 hgd hgr hB
  go_wp2
  go_loopw [7, 18] (fun v i wr => ∃ p : Nat, p ≤ sn ∧ i = .int .i64 p ∧ wr.ownsRow B 3 1 v p (cellsOf .i64 p (readF S (natF sz))) ∧ Hid (Rdr wr gd gr a n c f S (placeOf (natF sz) p) ∧ Below w.heap.size w wr ∧ B ≤ wr.heap.size)) (fun _ i _ => sn - (intOf i).toNat)
  case atStart => exact ⟨0, by omega, rfl, World.ownsRow_nil _ _ _ _, HR.out.1, HR.out.2.1, Nat.le_of_eq HR.out.2.2.2.2.2.2.2⟩
  case round =>
    obtain ⟨p, hp, rfl, hown, hR⟩ := hrel
    by_cases hlt : p < sn
    · obtain ⟨ga, oa, rfl, hga, ra⟩ := H0.out.2.2.1 (by omega)
      have hc : wr.cell? ⟨ga, oa + p, none⟩ = some (.int .i64 (sz p)) := (hR.out.2.1.cell (p := ⟨ga, oa + p, none⟩) hga).trans (ra p hlt)
      have hq := H0.out.2.2.2.1 p hlt
      obtain ⟨k, hk⟩ : ∃ k : Nat, (k : Int) = sz p := ⟨(sz p).toNat, by omega⟩
      rw [← hk] at hc
      have hk24 : k ≤ 24 := by omega
      have hkn : natF sz p = k := by unfold natF; omega
      have hpl : placeOf (natF sz) p + k ≤ 8 * n := by
        have h1 := placeOf_mono (natF sz) (show p + 1 ≤ sn by omega)
        rw [placeOf, hkn] at h1
        exact Nat.le_trans h1 H0.out.2.2.2.2
      obtain ⟨x, hx⟩ : ∃ x, x = hand S (placeOf (natF sz) p) k := ⟨_, rfl⟩
      have hx2 : x < 16777216 := by
        rw [hx]
        exact Nat.lt_of_lt_of_le (hand_lt S _ k) (by have : (2 : Nat) ^ k ≤ 2 ^ 24 := Nat.pow_le_pow_right (by decide) hk24; simpa using this)
      have HK : Hid (readF S (natF sz) p = (x : Int) ∧ placeOf (natF sz) (p + 1) = placeOf (natF sz) p + k) := Lib.hid ⟨by unfold readF; rw [hkn, hx], by rw [placeOf, hkn]⟩
      have HX := Lib.hid hx
      clear hk hq hkn ra
      go_wp2_with fail
      refine (read_door gd gr a n c f S (placeOf (natF sz) p) k wr hR.out.1 hk24 hpl).mono ?_
      rw [← hx]
      rintro _ w3 ⟨rfl, hr3, hon⟩
      have hown3 : w3.ownsRow B 3 1 u7 p (cellsOf .i64 p (readF S (natF sz))) := ownsRow_only hown hon (fun k hk h => by
        have h1 := (ownsRow_ty hown hk).2.1
        have h2 := HR.out.2.2
        rcases h with rfl | rfl <;> omega)
      have H3 : Hid (Rdr w3 gd gr a n c f S (placeOf (natF sz) (p + 1)) ∧ Below w.heap.size w w3) := Lib.hid ⟨by rw [HK.out.2]; exact hr3, hR.out.2.1.trans (hon.below hR.out.2.1.size (fun k hk => by
        have h2 := HR.out.2.2
        rcases hk with rfl | rfl <;> omega))⟩
      have hsz3 : B ≤ w3.heap.size := Nat.le_trans hR.out.2.2 hon.size
      have hbw : w.heap.size ≤ w3.heap.size := H3.out.2.size
      clear hown hon hr3 hx hc hpl
      go_wp2_with (at_builtin; refine wpList_append_own _ rfl _ _ 22 rfl B 3 i0 (.int .i64 0) 1 8 Tryd.underlying22 hi hz0 hz1 hz2 rfl (by decide) _ _ _ rfl (hown3.alloc _) ⟨w3.heap.size, 0, none⟩ 1 1 [.int .i64 x] rfl rfl (cell_one_new _ _ _) (by simp [Value.oneCell']) (by unfold maxLen; omega) (by omega) (by simp; omega) ?_)
      intro v' w4 hown4 hgrow _
      have hsB : ∀ k, u7.ownBlock = some k → B ≤ k := fun k hk => (ownsRow_ty hown3 hk).2.1
      have R1 : w4.ownsRow B 3 1 v' (p + 1) (cellsOf .i64 (p + 1) (readF S (natF sz))) := by
        rw [cellsOf_succ, HK.out.1]; exact hown4
      have ho4 : Only (fun k => B ≤ k) w3 w4 := (Only.alloc _ w3 _).tr (Only.of_grown hgrow hsB)
      have R2 : Rdr w4 gd gr a n c f S (placeOf (natF sz) (p + 1)) := Rdr.only H3.out.1 ho4 (by have := HR.out.2.2; omega) (by have := HR.out.2.2; omega) HR.out.2.2.2.2.2.2.1
      have R3 : Below w.heap.size w w4 ∧ B ≤ w4.heap.size := ⟨H3.out.2.trans (ho4.below hbw (fun k hk => by have := HR.out.2.2; omega)), Nat.le_trans hsz3 ho4.size⟩
      clear hown4 hgrow hown3 ho4 H3 hsB
      go_wp2
      go_roundw
      case rel => exact ⟨p + 1, by omega, by go_num, R1, R2, R3⟩
      case measure => simp [intOf]; omega
    · obtain rfl : p = sn := by omega
      go_wp2
      go_ret2
      obtain ⟨a', c', rfl, hc', ho⟩ := own_of_cells hown
      exact ⟨⟨_, _, rfl, ho.mono (by have := HR.out.2.2; omega)⟩, hR.out.2.1⟩
end Go.Proofs.YtdmefbpfpmkdcaaDoor
