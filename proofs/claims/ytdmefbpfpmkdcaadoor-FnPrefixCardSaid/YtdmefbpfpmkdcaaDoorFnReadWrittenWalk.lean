/- laws.FnReadWritten. -/
import Derived.Test.YtdmefbpfpmkdcaaDoorReadN
import Derived.Test.YtdmefbpfpmkdcaaDoorQuietTail
import Derived.Test.YtdmefbpfpmkdcaaDoorInts
import Derived.Test.YtdmefbpfpmkdcaaDoorMask
import Derived.Test.YtdmefbpfpmkdcaaDoorInRange
import Derived.Test.YtdmefbpfpmkdcaaDoorFnParamWrittenWalk
import Derived.Laws.AppendOwnNone
namespace Go.Proofs.YtdmefbpfpmkdcaaDoor
open Go.RowKit
set_option linter.unusedVariables false

/-- Bytes of the stream, and those behind. -/
def overF (L : Nat) (f h : Nat → Int) (i : Nat) : Int := if i < L then f i else h (i - L)
theorem cellsOf_over (L m : Nat) (f h : Nat → Int) : cellsOf .u8 L f ++ cellsOf .u8 m h = cellsOf .u8 (L + m) (overF L f h) := by
  apply List.ext_getElem
  · simp [cellsOf]
  · intro i h1 h2
    simp only [cellsOf, List.length_map, List.length_range] at h2
    by_cases e : i < L
    · rw [List.getElem_append_left (by simpa [cellsOf] using e)]
      simp [cellsOf, overF, e]
    · rw [List.getElem_append_right (by simp [cellsOf]; omega)]
      simp [cellsOf, overF, e]
/-- The stream with what stands behind it. -/
theorem over_strm (T q L m : Nat) (h : Nat → Int) (hT : T < 2 ^ q) (hL : q ≤ 8 * L) (hh : ∀ i, i < m → 0 ≤ h i ∧ h i ≤ 255) :
    ∃ S, Strm (overF L (bytesF T) h) S (L + m) ∧ ∀ p k, p + k ≤ 8 * L → hand S p k = hand T p k := by
  have hb : ∀ i, i < L + m → natF (overF L (bytesF T) h) i < 256 ∧ overF L (bytesF T) h i = (natF (overF L (bytesF T) h) i : Int) := by
    intro i hi
    unfold natF overF
    split
    · have := byteOf_lt T i
      unfold bytesF
      omega
    · have := hh (i - L) (by omega)
      omega
  refine ⟨numOf (natF (overF L (bytesF T) h)) (L + m), fun j hj => ?_, fun p k hpk => ?_⟩
  · rw [numOf_byte _ _ (fun i hi => (hb i hi).1) j hj]
    exact (hb j hj).2
  · obtain ⟨R, hR⟩ := numOf_more (natF (overF L (bytesF T) h)) L m
    have e : numOf (natF (overF L (bytesF T) h)) L = T := by
      rw [numOf_congr _ (byteOf T) L (fun i hi => by unfold natF overF bytesF; rw [if_pos hi]; simp), numOf_bytes, pow256]
      exact Nat.mod_eq_of_lt (Nat.lt_of_lt_of_le hT (Nat.pow_le_pow_right (by decide) hL))
    rw [hR, e, pow256]
    exact hand_more _ _ _ _ _ hpk

theorem BWr.only {S : Nat → Prop} {w w' : World} {B g T q : Nat} (h : BWr w B g T q) (ho : Only S w w') (hg : ¬ S g) (hs : ∀ k, OfTy w 5 k → ¬ S k) : BWr w' B g T q := by
  obtain ⟨v, h1, h2, h3, h4⟩ := h
  exact ⟨v, h1.only ho hg, ownsRow_only h2 ho (fun k hk => hs k (ownsRow_ty h2 hk).1), h3, h4⟩
theorem own_of_row {k : IntKind} {w : World} {B : Nat} {e : TypeId} {a : Option Addr} {n m c : Nat} {f : Nat → Int} (h : w.ownsRow B e 1 (.slice a m c) n (cellsOf k n f)) : Own k B w a n f := by
  obtain ⟨a', c', e, _, ho⟩ := own_of_cells h
  injection e with e1 e2 e3
  subst e1
  exact ho
def okRW (n0 n1 n2 : Nat) (sz : Nat → Int) : Bool := decide (n1 ≤ 4096) && decide (n0 = n1) && inR sz 0 24 n1 && decide (n2 ≤ 1048576)

theorem readWritten_bad (w : World) (a0 : Option Addr) (n0 c0 : Nat) (a1 : Option Addr) (n1 c1 : Nat) (sz : Nat → Int) (a2 : Option Addr) (n2 c2 : Nat) (h1 : Arg .i64 w a1 n1 sz) (m0 : n0 ≤ 2147483647) (m1 : n1 ≤ 2147483647) (m2 : n2 ≤ 2147483647)
    (hb : okRW n0 n1 n2 sz = false) :
    Calls Tryd.prog 3 #[.slice a0 n0 c0, .slice a1 n1 c1, .slice a2 n2 c2] w fun e w' => e = .returned (.bool true) ∧ Below w.heap.size w w' := by
  have H := Lib.hid h1; clear h1
  by_cases b1 : 4096 < n1
  · go_enter Tryd.func3, Tryd.ntmps3
    go_wp2_with fail
    refine (readSums_any w).mono ?_
    rintro _ w4 ⟨rfl, rfl⟩
    go_wp2
    go_ret
    exact ⟨rfl, Below.refl _ _⟩
  by_cases b2 : n0 = n1
  · subst b2
    cases hr : inR sz 0 24 n0 with
    | false =>
      have HR := Lib.hid hr; clear hr hb
      go_enter Tryd.func3, Tryd.ntmps3
      go_wp2_with fail
      refine (inRange_any a1 n0 c1 sz 0 24 w H.out (by omega)).mono ?_
      rw [HR.out]
      rintro _ w4 ⟨rfl, rfl⟩
      go_wp2_with fail
      refine (readSums_any w).mono ?_
      rintro _ w4 ⟨rfl, rfl⟩
      go_wp2
      go_ret
      exact ⟨rfl, Below.refl _ _⟩
    | true =>
      have b3 : 1048576 < n2 := by
        unfold okRW at hb
        rw [hr] at hb
        simp at hb
        omega
      have HR := Lib.hid hr; clear hr hb
      go_enter Tryd.func3, Tryd.ntmps3
      go_wp2_with fail
      refine (inRange_any a1 n0 c1 sz 0 24 w H.out (by omega)).mono ?_
      rw [HR.out]
      rintro _ w4 ⟨rfl, rfl⟩
      go_wp2_with fail
      refine (readSums_any w).mono ?_
      rintro _ w4 ⟨rfl, rfl⟩
      go_wp2
      go_ret
      exact ⟨rfl, Below.refl _ _⟩
  · have q : ((n0 : Int) != (n1 : Int)) = true := by simp; omega
    clear hb
    go_enter Tryd.func3, Tryd.ntmps3
    go_wp2_with fail
    refine (readSums_any w).mono ?_
    rintro _ w4 ⟨rfl, rfl⟩
    go_wp2
    go_ret
    exact ⟨rfl, Below.refl _ _⟩

set_option maxRecDepth 100000 in
set_option maxHeartbeats 800000 in
theorem readWritten_good (w : World) (a0 : Option Addr) (n c0 : Nat) (l : Nat → Int) (a1 : Option Addr) (c1 : Nat) (sz : Nat → Int) (a2 : Option Addr) (n2 c2 : Nat) (h : Nat → Int) (h0 : Arg .i64 w a0 n l) (h1 : Arg .i64 w a1 n sz) (h2 : Arg .u8 w a2 n2 h)
    (hn : n ≤ 4096) (hr : inR sz 0 24 n = true) (hn2 : n2 ≤ 1048576) (hh : ∀ i, i < n2 → 0 ≤ h i ∧ h i ≤ 255) (hnil : a2 = none → n2 = 0 ∧ c2 = 0) :
    Calls Tryd.prog 3 #[.slice a0 n c0, .slice a1 n c1, .slice a2 n2 c2] w fun e w' => e = .returned (.bool true) ∧ Below w.heap.size w w' := by
  obtain ⟨i0, hi, hz0, hz1, hz2⟩ := info_parts infoInt
  obtain ⟨j0, hj, hy0, hy1, hy2⟩ := info_parts infoByte
  have H := Lib.hid (And.intro h0 (And.intro h1 (And.intro h2 (And.intro hr (And.intro hh hnil))))); clear h0 h1 h2 hr hh hnil
  go_enter Tryd.func3, Tryd.ntmps3
  go_wp2_with fail
  refine (inRange_any a1 n c1 sz 0 24 w H.out.2.1 (by omega)).mono ?_
  rw [H.out.2.2.2.1]
  rintro _ w4 ⟨rfl, rfl⟩
  go_wp2
  obtain ⟨g, hg⟩ : ∃ g, g = w.heap.size := ⟨_, rfl⟩
  obtain ⟨w1, hw1⟩ : ∃ w1, w1 = w.alloc (.cells #[.slice none 0 0, .int .i64 0] 27) := ⟨_, rfl⟩
  have H1 : Hid (BWr w1 g g 0 0 ∧ Below w.heap.size w w1) := by rw [hw1, hg]; exact Lib.hid ⟨bwr0 w, (Below.refl _ w).alloc (Nat.le_refl _) _⟩
  rw [← hw1, ← hg]
  have HG := Lib.hid hg; clear hw1 hg
  go_loopw [8, 9] (fun v i wr => ∃ p : Nat, p ≤ n ∧ i = .int .i64 p ∧ wr.ownsRow g 3 1 v p (cellsOf .i64 p (lowF l sz)) ∧ Hid (BWr wr g g (streamOf (natF sz) (natF (lowF l sz)) p) (placeOf (natF sz) p) ∧ Below w.heap.size w wr)) (fun _ i _ => n - (intOf i).toNat)
  case atStart => exact ⟨0, by omega, rfl, World.ownsRow_nil _ _ _ _, H1.out⟩
  case round =>
    obtain ⟨p, hp, rfl, hown, hR⟩ := hrel
    by_cases hlt : p < n
    · obtain ⟨ga, oa, rfl, hga, ra⟩ := H.out.1 (by omega)
      obtain ⟨gb, ob, rfl, hgb, rb⟩ := H.out.2.1 (by omega)
      have hca : wr.cell? ⟨ga, oa + p, none⟩ = some (.int .i64 (l p)) := (hR.out.2.cell (p := ⟨ga, oa + p, none⟩) hga).trans (ra p hlt)
      have hcb : wr.cell? ⟨gb, ob + p, none⟩ = some (.int .i64 (sz p)) := (hR.out.2.cell (p := ⟨gb, ob + p, none⟩) hgb).trans (rb p hlt)
      have hq := inR_true.1 H.out.2.2.2.1 p hlt
      obtain ⟨k, hk⟩ : ∃ k : Nat, (k : Int) = sz p := ⟨(sz p).toNat, by omega⟩
      rw [← hk] at hcb
      have hk24 : k ≤ 24 := by omega
      have hkn : natF sz p = k := by unfold natF; omega
      obtain ⟨y, hy⟩ : ∃ y, y = l p := ⟨_, rfl⟩
      rw [← hy] at hca
      have HK : Hid (natF sz p = k ∧ lowF l sz p = y % ((2 ^ k : Nat) : Int)) := Lib.hid ⟨hkn, by unfold lowF; rw [hkn, hy]⟩
      clear hk hq hkn ra rb hy
      go_wp2
      refine wp_region_move_quiet_tail 12 _ rfl rfl (by kernel_rfl) (by kernel_rfl) (fun _ _ _ h => h) ?_
      simp only [List.take_succ_cons, List.take_zero, List.drop_succ_cons, List.drop_zero]
      repeat (go_big_quiet_step (fail))
      refine wpQuiet_nil ?_
      intro wq hwq
      obtain ⟨nq, rfl⟩ := hwq
      rw [mask_val y k hk24, ← HK.out.2]
      go_wp2_with (at_builtin; refine wpList_append_own _ rfl _ _ 22 rfl g 3 i0 (.int .i64 0) 1 8 Tryd.underlying22 hi hz0 hz1 hz2 rfl (by decide) _ _ _ rfl (World.ownsRow.alloc (World.ownsRow.kept hown (grownBy_drewN _ nq none) (by cases Value.ownBlock u8 <;> simp)) _) ⟨wr.heap.size, 0, none⟩ 1 1 [.int .i64 (lowF l sz p)] rfl rfl (cell_one_new (wr.drewN nq) _ _) (by simp [Value.oneCell']) (by unfold maxLen; omega) (by omega) (by have := hR.out.2.size; have := HG.out; simp; omega) ?_)
      intro v' w3 hown3 hgrow _
      have hobj : ∀ k, u8.ownBlock = some k → k ≠ g ∧ ¬ (OfTy wr 5 k) := fun k hk => by
        have h1 := ownsRow_ty hown hk
        obtain ⟨v, ho, _⟩ := hR.out.1
        refine ⟨fun e => ?_, fun e => absurd (h1.1.inj e) (by decide)⟩
        subst e
        exact absurd (h1.1.inj ho.ty) (by decide)
      have ho3 : Only (fun k => u8.ownBlock = some k) wr w3 := ((Only.drewN _ wr nq).tr (Only.alloc _ _ _)).tr (Only.of_grown hgrow (fun k hk => hk))
      have hbel3 : Below w.heap.size w w3 := hR.out.2.trans (ho3.below hR.out.2.size (fun k hk => by have := (hown.lt k hk).1; have := HG.out; omega))
      have hb3 : BWr w3 g g (streamOf (natF sz) (natF (lowF l sz)) p) (placeOf (natF sz) p) := hR.out.1.only ho3 (fun e => (hobj g e).1 rfl) (fun k hk e => (hobj k e).2 hk)
      have hown3' : w3.ownsRow g 3 1 v' (p + 1) (cellsOf .i64 (p + 1) (lowF l sz)) := by rw [cellsOf_succ]; exact hown3
      obtain ⟨gw, cw, rfl, hgw, hglt⟩ := hown3'.form (by omega)
      obtain ⟨v, hv⟩ : ∃ v : Nat, (v : Int) = lowF l sz p := ⟨(lowF l sz p).toNat, by have := lowF_bd l sz p; omega⟩
      have hcw : w3.cell? ⟨gw, p, none⟩ = some (.int .i64 v) := by
        rw [hv]
        have := hown3'.cellAt p (by simp)
        simpa [cellsOf] using this
      have hcb3 : w3.cell? ⟨gb, ob + p, none⟩ = some (.int .i64 k) := by
        rw [hbel3.cell (p := ⟨gb, ob + p, none⟩) hgb]
        rw [← hR.out.2.cell (p := ⟨gb, ob + p, none⟩) hgb]
        exact hcb
      have hv2 : v < 16777216 ∧ natF (lowF l sz) p = v := by
        have h1 := lowF_bd l sz p
        rw [HK.out.1] at h1
        have h2 : (2 : Nat) ^ k ≤ 2 ^ 24 := Nat.pow_le_pow_right (by decide) hk24
        have h3 : v = natF (lowF l sz) p := by unfold natF; omega
        omega
      have hpl : placeOf (natF sz) p ≤ 100000 := by
        have := placeOf_le (natF sz) 24 p (fun i hi => by have := inR_true.1 H.out.2.2.2.1 i (by omega); unfold natF; omega)
        omega
      have HV := Lib.hid hv2.2
      have hv3 := hv2.1
      have H3 := Lib.hid (And.intro hb3 (And.intro hbel3 hown3'))
      clear hown hown3 hown3' hgrow hobj ho3 hbel3 hb3 hv hv2 hca hcb
      rename_i hnn
      clear hnn
      go_wp2
      refine wp_region_quiet_tail 8 (by kernel_rfl) (by kernel_rfl) ?_
      simp only [List.take_succ_cons, List.take_zero, List.drop_succ_cons, List.drop_zero]
      repeat (go_big_quiet_step (fail))
      refine wpQuiet_nil ?_
      intro wq hwq
      obtain ⟨nq2, rfl⟩ := hwq
      go_wp2_with fail
      refine (put_any g g _ _ v k _ (BWr.only H3.out.1 (Only.drewN (fun _ => False) w3 nq2) (fun h => h) (fun _ _ h => h)) hv3 hk24 hpl).mono ?_
      rintro _ w5 ⟨rfl, hb5, hon5⟩
      have R1 : w5.ownsRow g 3 1 (.slice (some ⟨gw, 0, none⟩) (p + 1) cw) (p + 1) (cellsOf .i64 (p + 1) (lowF l sz)) := by
        refine ownsRow_only H3.out.2.2 ((Only.drewN _ w3 nq2).tr hon5) (fun k hk e => ?_)
        have h1 := ownsRow_ty H3.out.2.2 hk
        rcases e with e | ⟨_, e⟩
        · subst e
          obtain ⟨v, ho, _⟩ := H3.out.1
          exact absurd (h1.1.inj ho.ty) (by decide)
        · exact absurd (h1.1.inj e) (by decide)
      have R2 : BWr w5 g g (streamOf (natF sz) (natF (lowF l sz)) (p + 1)) (placeOf (natF sz) (p + 1)) := by
        rw [streamOf, placeOf, HK.out.1, HV.out]; exact hb5
      have R3 : Below w.heap.size w w5 := (H3.out.2.1.trans ((Only.drewN (fun _ => False) w3 nq2).below H3.out.2.1.size (fun k hk => hk.elim))).trans (hon5.below H3.out.2.1.size (fun k hk => by
        have := HG.out
        rcases hk with rfl | ⟨h, _⟩ <;> omega))
      clear hb5 hon5 hcw hcb3 H3 hR
      go_wp2
      go_roundw
      case rel => exact ⟨p + 1, by omega, by go_num, R1, R2, R3⟩
      case measure => simp [intOf]; omega
    · obtain rfl : p = n := by omega
      obtain ⟨av, cv, rfl, hcv, how⟩ := own_of_cells hown
      have hpl : placeOf (natF sz) p ≤ 100000 := by
        have := placeOf_le (natF sz) 24 p (fun i hi => by have := inR_true.1 H.out.2.2.2.1 i (by omega); unfold natF; omega)
        omega
      have HT : Hid (streamOf (natF sz) (natF (lowF l sz)) p < 2 ^ placeOf (natF sz) p) := Lib.hid (streamOf_lt _ _ _)
      obtain ⟨T, hT⟩ : ∃ T, T = streamOf (natF sz) (natF (lowF l sz)) p := ⟨_, rfl⟩
      obtain ⟨q, hq⟩ : ∃ q, q = placeOf (natF sz) p := ⟨_, rfl⟩
      rw [← hT, ← hq] at hR HT
      rw [← hq] at hpl
      have HQ := Lib.hid (And.intro hT hq); clear hT hq
      obtain ⟨L, hL⟩ : ∃ L, L = lenB q := ⟨_, rfl⟩
      have hL1 : q ≤ 8 * L := by rw [hL]; unfold lenB; omega
      have hL2 : L ≤ 12600 := by rw [hL]; unfold lenB; omega
      obtain ⟨u, ho, hrow, hgg, _⟩ := hR.out.1
      rw [← hL] at hrow
      have HU := Lib.hid (And.intro ho (And.intro hrow hown)); clear ho hrow how hown hL
      go_wp2_with fail
      refine (done_any g _ _ wr HU.out.1).mono ?_
      rintro _ w3 ⟨rfl, rfl⟩
      have hBw : g ≤ wr.heap.size := by have := HU.out.1.lt; omega
      rcases a2 with _ | ad
      · have hn0 := H.out.2.2.2.2.2 rfl
        obtain ⟨rfl, rfl⟩ := hn0
        go_wp2_with (at_builtin; refine wpList_append_own_none rfl _ _ 23 rfl g 5 j0 1 Tryd.underlying23 hj u L _ rfl HU.out.2.1 rfl ?_)
        have HV6 : Hid (wr.ownsRow g 5 1 u L (cellsOf .u8 L (overF L (bytesF T) h)) ∧ Own .i64 g wr av p (lowF l sz) ∧ Below w.heap.size w wr) := Lib.hid ⟨by
          have := HU.out.2.1
          rwa [cellsOf_congr (f' := overF L (bytesF T) h) (fun i hi => by simp [overF, hi])] at this, own_of_row HU.out.2.2, hR.out.2⟩
        obtain ⟨S, hst, hlow⟩ := over_strm T q L 0 h HT.out hL1 (fun i hi => absurd hi (by omega))
        rw [Nat.add_zero] at hst
        obtain ⟨ab, cb, rfl, hcb, hob⟩ := own_of_cells HV6.out.1
        have HB := Lib.hid (And.intro hst (And.intro hlow hob)); clear hst hlow hob
        go_wp2_with fail
        refine (Read_ok ab L cb _ S a1 p c1 sz wr HB.out.2.2.arg HB.out.1 (by omega) (H.out.2.1.below HV6.out.2.2) (inR_true.1 H.out.2.2.2.1) hn (by rw [← HQ.out.2]; omega)).mono ?_
        rintro _ w7 ⟨⟨ag, cg, rfl, hog⟩, hb7⟩
        have HW7 : Hid (Below w.heap.size w w7 ∧ Arg .i64 w7 av p (lowF l sz) ∧ Arg .i64 w7 ag p (readF S (natF sz))) := Lib.hid ⟨HV6.out.2.2.trans (hb7.mono HV6.out.2.2.size), (HV6.out.2.1.below hb7).arg, hog.arg⟩
        have HE : Hid (sameI (readF S (natF sz)) (lowF l sz) p = true) := Lib.hid (decide_eq_true (fun i hi => by
          have h1 := placeOf_mono (natF sz) (show i + 1 ≤ p by omega)
          rw [← HQ.out.2, placeOf] at h1
          have h2 := stream_at (natF sz) (natF (lowF l sz)) p i hi
          have h3 := lowF_bd l sz i
          unfold readF
          rw [HB.out.2.1 _ _ (by omega), HQ.out.1, h2]
          have h4 : natF (lowF l sz) i < 2 ^ natF sz i := by
            have e : natF (lowF l sz) i = (lowF l sz i).toNat := rfl
            omega
          rw [Nat.mod_eq_of_lt h4]
          have e : natF (lowF l sz) i = (lowF l sz i).toNat := rfl
          omega))
        clear hog hb7
        go_wp2_with fail
        refine (ints_any ag p cg _ av p cv _ w7 HW7.out.2.2 HW7.out.2.1 hn rfl).mono ?_
        rw [HE.out]
        rintro _ w8 ⟨rfl, hb8⟩
        have H8 : Hid (Below w.heap.size w w8) := Lib.hid (HW7.out.1.trans (hb8.mono HW7.out.1.size))
        clear hb8
        go_wp2_with fail
        refine (readSums_any w8).mono ?_
        rintro _ w9 ⟨rfl, rfl⟩
        go_wp2
        go_ret
        exact ⟨rfl, H8.out⟩
      · go_wp2_with (at_builtin; refine wpList_append_own _ rfl _ _ 23 rfl g 5 j0 (.int .u8 0) 1 1 Tryd.underlying23 hj hy0 hy1 hy2 rfl (by decide) u L _ rfl HU.out.2.1 ad n2 c2 (cellsOf .u8 n2 h) rfl (cellsOf_length _ _ _) (Arg.news (H.out.2.2.1.below hR.out.2)) (cellsOf_one _ _ _) (by unfold maxLen; omega) (by omega) hBw ?_)
        intro v6 w6 hown6 hgrow6 _
        have HV6 : Hid (w6.ownsRow g 5 1 v6 (L + n2) (cellsOf .u8 (L + n2) (overF L (bytesF T) h)) ∧ Own .i64 g w6 av p (lowF l sz) ∧ Below w.heap.size w w6) := Lib.hid ⟨by rw [← cellsOf_over]; exact hown6, by
          refine own_of_row (ownsRow_only HU.out.2.2 (Only.of_grown (S := fun k => u.ownBlock = some k) hgrow6 (fun k hk => hk)) (fun k hk e => ?_))
          exact absurd ((ownsRow_ty HU.out.2.2 hk).1.inj (ownsRow_ty HU.out.2.1 e).1) (by decide), hR.out.2.grown hgrow6 (by rw [← HG.out]; exact hBw) (fun k hk => by have := (HU.out.2.1.lt k hk).1; have := HG.out; omega)⟩
        clear hown6 hgrow6
        obtain ⟨S, hst, hlow⟩ := over_strm T q L n2 h HT.out hL1 H.out.2.2.2.2.1
        obtain ⟨ab, cb, rfl, hcb, hob⟩ := own_of_cells HV6.out.1
        have HB := Lib.hid (And.intro hst (And.intro hlow hob)); clear hst hlow hob
        go_wp2_with fail
        refine (Read_ok ab (L + n2) cb _ S a1 p c1 sz w6 HB.out.2.2.arg HB.out.1 (by omega) (H.out.2.1.below HV6.out.2.2) (inR_true.1 H.out.2.2.2.1) hn (by rw [← HQ.out.2]; omega)).mono ?_
        rintro _ w7 ⟨⟨ag, cg, rfl, hog⟩, hb7⟩
        have HW7 : Hid (Below w.heap.size w w7 ∧ Arg .i64 w7 av p (lowF l sz) ∧ Arg .i64 w7 ag p (readF S (natF sz))) := Lib.hid ⟨HV6.out.2.2.trans (hb7.mono HV6.out.2.2.size), (HV6.out.2.1.below hb7).arg, hog.arg⟩
        have HE : Hid (sameI (readF S (natF sz)) (lowF l sz) p = true) := Lib.hid (decide_eq_true (fun i hi => by
          have h1 := placeOf_mono (natF sz) (show i + 1 ≤ p by omega)
          rw [← HQ.out.2, placeOf] at h1
          have h2 := stream_at (natF sz) (natF (lowF l sz)) p i hi
          have h3 := lowF_bd l sz i
          unfold readF
          rw [HB.out.2.1 _ _ (by omega), HQ.out.1, h2]
          have h4 : natF (lowF l sz) i < 2 ^ natF sz i := by
            have e : natF (lowF l sz) i = (lowF l sz i).toNat := rfl
            omega
          rw [Nat.mod_eq_of_lt h4]
          have e : natF (lowF l sz) i = (lowF l sz i).toNat := rfl
          omega))
        clear hog hb7
        go_wp2_with fail
        refine (ints_any ag p cg _ av p cv _ w7 HW7.out.2.2 HW7.out.2.1 hn rfl).mono ?_
        rw [HE.out]
        rintro _ w8 ⟨rfl, hb8⟩
        have H8 : Hid (Below w.heap.size w w8) := Lib.hid (HW7.out.1.trans (hb8.mono HW7.out.1.size))
        clear hb8
        go_wp2_with fail
        refine (readSums_any w8).mono ?_
        rintro _ w9 ⟨rfl, rfl⟩
        go_wp2
        go_ret
        exact ⟨rfl, H8.out⟩

theorem fnReadWritten_walk (w : World) (a0 : Option Addr) (n0 c0 : Nat) (z0 : List Int) (h0 : IsRow .i64 w a0 n0 c0 z0) (a1 : Option Addr) (n1 c1 : Nat) (z1 : List Int) (h1 : IsRow .i64 w a1 n1 c1 z1) (a2 : Option Addr) (n2 c2 : Nat) (z2 : List Int) (h2 : IsRow .u8 w a2 n2 c2 z2) :
    Calls Tryd.prog 3 #[.slice a0 n0 c0, .slice a1 n1 c1, .slice a2 n2 c2] w fun e w' => e = .returned (.bool true) ∧ Below w.heap.size w w' := by
  obtain ⟨g0, l0, m0, _, _⟩ := h0.arg
  obtain ⟨g1, l1, m1, _, _⟩ := h1.arg
  obtain ⟨g2, l2, m2, _, b2⟩ := h2.arg
  have hnil : a2 = none → n2 = 0 ∧ c2 = 0 := fun e => by
    rcases h2 with ⟨_, h, h', _⟩ | ⟨x, h, _⟩
    · exact ⟨h, h'⟩
    · rw [e] at h; cases h
  unfold maxLen at m0 m1 m2
  have k0 : n0 ≤ 9223372036854775807 := by omega
  have k1 : n1 ≤ 9223372036854775807 := by omega
  have k2 : n2 ≤ 9223372036854775807 := by omega
  clear h0 h1 h2 l0 l1 l2 m0 m1 m2
  by_cases s0 : 2147483647 < n0
  · clear g0 g1 g2 b2 hnil
    go_enter Tryd.func3, Tryd.ntmps3
    go_wp2
    go_ret
    exact ⟨rfl, Below.refl _ _⟩
  by_cases s1 : 2147483647 < n1
  · clear g0 g1 g2 b2 hnil
    go_enter Tryd.func3, Tryd.ntmps3
    go_wp2
    go_ret
    exact ⟨rfl, Below.refl _ _⟩
  by_cases s2 : 2147483647 < n2
  · clear g0 g1 g2 b2 hnil
    go_enter Tryd.func3, Tryd.ntmps3
    go_wp2
    go_ret
    exact ⟨rfl, Below.refl _ _⟩
  cases hok : okRW n0 n1 n2 (fun i => z1.getD i 0) with
  | false => exact readWritten_bad w a0 n0 c0 a1 n1 c1 _ a2 n2 c2 g1 (by omega) (by omega) (by omega) hok
  | true =>
    unfold okRW at hok
    simp only [Bool.and_eq_true, decide_eq_true_eq] at hok
    obtain ⟨⟨⟨q1, q2⟩, q3⟩, q4⟩ := hok
    subst q2
    exact readWritten_good w a0 n0 c0 _ a1 c1 _ a2 n2 c2 _ g0 g1 g2 q1 q3 q4 (fun i hi => u8_bounds (b2 i)) hnil
end Go.Proofs.YtdmefbpfpmkdcaaDoor
