/- laws.FnCodesBegin. -/
import Derived.Test.YtdmefbpfpmkdcaaDoorCodesW
import Derived.Test.YtdmefbpfpmkdcaaDoorMask
import Derived.Test.YtdmefbpfpmkdcaaDoorQuietTail
import Derived.Test.YtdmefbpfpmkdcaaDoorSums
import Derived.RegionTactic
import Derived.BigRegion
import Derived.WalkSmall
namespace Go.Proofs.YtdmefbpfpmkdcaaDoor
open Go.RowKit
set_option linter.unusedVariables false

theorem infoInt : (Tryd.prog.info? 3).map (fun i => (i.zero, i.size, i.bytes)) = some (some (.int .i64 0), 1, 8) := by kernel_rfl

theorem codeF_le (c : Nat → Nat) (n i : Nat) (hn : n ≤ 4096) (hi : i < n) (hc : c i ≤ 15) : codeF c n i ≤ 300000000 := by
  unfold codeF
  split
  · have h1 := cur_le (histF c n) n (c i) (fun l => cnt_n c l n) hn hc
    have h2 := cnt_n c (c i) i
    show cur (histF c n) (c i) + cnt c (c i) i ≤ _
    omega
  · omega

theorem DoorCodes_any (a : Option Addr) (n cp : Nat) (c : Nat → Nat) (w : World) (ha : Arg .u32 w a n (fun i => (c i : Int))) (hn : n ≤ 4096) (hn0 : 0 < n) (hc : ∀ i, i < n → c i ≤ 15) :
    Calls Tryd.prog 35 #[.slice a n cp] w fun e w' => (∃ a' c', e = .returned (.tuple #[.slice a' n c', .nilIface]) ∧ Own .u32 w.heap.size w' a' n (fun i => (codeF c n i : Int))) ∧ Below w.heap.size w w' := by
  have H := Lib.hid (And.intro ha hc); clear ha hc
  go_enter Tryd.func35, Tryd.ntmps35
  go_wp2_with fail
  refine (codes_any a n cp c w H.out.1 hn hn0 H.out.2).mono ?_
  rintro _ w1 ⟨⟨a', c', rfl, ho⟩, hb⟩
  have H1 := Lib.hid (And.intro ho hb); clear ho hb
  go_wp2
  go_ret2
  exact ⟨⟨_, _, rfl, H1.out.1⟩, H1.out.2⟩

set_option maxRecDepth 100000 in
theorem Codes_any (a : Option Addr) (n cp : Nat) (f : Nat → Int) (w : World) (ha : Arg .i64 w a n f) (hn : n ≤ 4096) (hn0 : 0 < n) (hf : ∀ i, i < n → 0 ≤ f i ∧ f i ≤ 15) :
    Calls Tryd.prog 18 #[.slice a n cp] w fun e w' => (∃ a' c', e = .returned (.tuple #[.slice a' n c', .bool true]) ∧ Own .i64 w.heap.size w' a' n (fun i => (codeF (natF f) n i : Int))) ∧ Below w.heap.size w w' := by
  obtain ⟨i0, hi, hz0, hz1, hz2⟩ := info_parts infoInt
  have hb : ∀ i, i < n → codeF (natF f) n i ≤ 300000000 := fun i h => codeF_le _ _ _ hn h (by have := hf i h; unfold natF; omega)
  have H := Lib.hid (And.intro ha (And.intro hf hb)); clear ha hf hb
  go_enter Tryd.func18, Tryd.ntmps18
  go_wp2_with fail
  refine (words_any a n cp f w H.out.1 hn (fun i h => by have := H.out.2.1 i h; omega)).mono ?_
  rintro _ w1 ⟨⟨a1, c1, rfl, ho⟩, hb⟩
  have H1 := Lib.hid (And.intro ho hb); clear ho hb
  go_wp2_with fail
  refine (DoorCodes_any a1 n c1 (natF f) w1 (H1.out.1.arg.congr (fun i h => by have := H.out.2.1 i h; unfold natF; omega)) hn hn0 (fun i h => by have := H.out.2.1 i h; unfold natF; omega)).mono ?_
  rintro _ w2 ⟨⟨a2, c2, rfl, ho⟩, hb⟩
  have hlt := H1.out.2.size
  have H2 : Hid (Own .u32 w1.heap.size w2 a2 n (fun i => (codeF (natF f) n i : Int)) ∧ Below w.heap.size w w2) := Lib.hid ⟨ho, H1.out.2.trans (hb.mono hlt)⟩
  clear ho hb
  have hs2 := H2.out.2.size
  go_wp2
  go_loopw [6, 17] (fun v i wr => ∃ p : Nat, p ≤ n ∧ i = .int .i64 p ∧ wr.ownsRow w2.heap.size 3 1 v p (cellsOf .i64 p (fun i => (codeF (natF f) n i : Int))) ∧ Hid (Below w2.heap.size w2 wr)) (fun _ i _ => n - (intOf i).toNat)
  case atStart => exact ⟨0, by omega, rfl, World.ownsRow_nil _ _ _ _, Below.refl _ _⟩
  case round =>
    obtain ⟨p, hp, rfl, hown, hb⟩ := hrel
    by_cases hlt2 : p < n
    · obtain ⟨ga, rfl, _, hga, ra, _⟩ := H2.out.1 (by omega)
      have hc : wr.cell? ⟨ga, p, none⟩ = some (.int .u32 (codeF (natF f) n p : Int)) := by
        rw [hb.out.cell (p := ⟨ga, p, none⟩) hga]
        simpa using ra p hlt2
      have x1 := H.out.2.2 p hlt2
      obtain ⟨x, hx⟩ : ∃ x, x = codeF (natF f) n p := ⟨_, rfl⟩
      rw [← hx] at hc x1
      have HX := Lib.hid hx; clear hx ra
      go_wp2_with (at_builtin; refine wpList_append_own _ rfl _ _ 22 rfl w2.heap.size 3 i0 (.int .i64 0) 1 8 Tryd.underlying22 hi hz0 hz1 hz2 rfl (by decide) _ _ _ rfl (hown.alloc _) ⟨wr.heap.size, 0, none⟩ 1 1 [.int .i64 x] rfl rfl (cell_one_new _ _ _) (by simp [Value.oneCell']) (by unfold maxLen; omega) (by omega) (by have := hb.out.size; simp; omega) ?_)
      intro v' w3 hown3 hgrow _
      have R1 : w3.ownsRow w2.heap.size 3 1 v' (p + 1) (cellsOf .i64 (p + 1) (fun i => (codeF (natF f) n i : Int))) := by rw [cellsOf_succ, ← HX.out]; exact hown3
      have R2 : Below w2.heap.size w2 w3 := (hb.out.alloc hb.out.size _).grown hgrow (by have := hb.out.size; simp; omega) (fun k hk => (hown.lt k hk).1)
      clear hown3 hgrow hown hc
      go_wp2
      go_roundw
      case rel => exact ⟨p + 1, by omega, by go_num, R1, R2⟩
      case measure => simp [intOf]; omega
    · obtain rfl : p = n := by omega
      obtain ⟨av, cv, rfl, hcv, ho⟩ := own_of_cells hown
      have HO := Lib.hid (And.intro ho (H2.out.2.trans (hb.out.mono hs2))); clear ho hown
      go_wp2
      go_quiet (fail)
      go_wp2
      go_ret2
      exact ⟨⟨_, _, rfl, HO.out.1.mono hs2⟩, by first | exact HO.out.2 | exact below_drewN HO.out.2 _⟩

set_option maxRecDepth 100000 in
theorem lowest_any (a : Option Addr) (n cp : Nat) (L : Nat → Int) (b : Option Addr) (cb : Nat) (f : Nat → Int) (w : World) (ha : Arg .i64 w a n L) (hb : Arg .i64 w b n f) (hn : n ≤ 4096) (hf : ∀ i, i < n → 0 ≤ f i ∧ f i ≤ 15) :
    Calls Tryd.prog 19 #[.slice a n cp, .slice b n cb] w fun e w' => (∃ a' c', e = .returned (.slice a' n c') ∧ Own .i64 w.heap.size w' a' n (lowF L f)) ∧ Below w.heap.size w w' := by
  obtain ⟨i0, hi, hz0, hz1, hz2⟩ := info_parts infoInt
  have H := Lib.hid (And.intro ha (And.intro hb hf)); clear ha hb hf
  go_enter Tryd.func19, Tryd.ntmps19
  go_wp2
  go_loopw [5, 6] (fun v i wr => ∃ p : Nat, p ≤ n ∧ i = .int .i64 p ∧ wr.ownsRow w.heap.size 3 1 v p (cellsOf .i64 p (lowF L f)) ∧ Hid (Below w.heap.size w wr)) (fun _ i _ => n - (intOf i).toNat)
  case atStart => exact ⟨0, by omega, rfl, World.ownsRow_nil _ _ _ _, Below.refl _ _⟩
  case round =>
    obtain ⟨p, hp, rfl, hown, hb⟩ := hrel
    by_cases hlt : p < n
    · obtain ⟨ga, oa, rfl, hga, ra⟩ := H.out.1 (by omega)
      obtain ⟨gb, ob, rfl, hgb, rb⟩ := H.out.2.1 (by omega)
      have hca : wr.cell? ⟨ga, oa + p, none⟩ = some (.int .i64 (L p)) := (hb.out.cell (p := ⟨ga, oa + p, none⟩) hga).trans (ra p hlt)
      have hcb : wr.cell? ⟨gb, ob + p, none⟩ = some (.int .i64 (f p)) := (hb.out.cell (p := ⟨gb, ob + p, none⟩) hgb).trans (rb p hlt)
      obtain ⟨q0, q1⟩ := H.out.2.2 p hlt
      obtain ⟨k, hk⟩ : ∃ k : Nat, (k : Int) = f p := ⟨(f p).toNat, by omega⟩
      rw [← hk] at hcb q0 q1
      have hk24 : k ≤ 24 := by omega
      have hkn : natF f p = k := by unfold natF; omega
      obtain ⟨y, hy⟩ : ∃ y, y = L p := ⟨_, rfl⟩
      rw [← hy] at hca
      have HK : Hid (lowF L f p = y % ((2 ^ k : Nat) : Int)) := Lib.hid (by unfold lowF; rw [hkn, hy])
      clear hk q0 q1 hkn ra rb hy
      go_wp2
      refine wp_region_move_quiet_tail 12 _ rfl rfl (by kernel_rfl) (by kernel_rfl) (fun _ _ _ h => h) ?_
      simp only [List.take_succ_cons, List.take_zero, List.drop_succ_cons, List.drop_zero]
      repeat (go_big_quiet_step (fail))
      refine wpQuiet_nil ?_
      intro wq hwq
      obtain ⟨nq, rfl⟩ := hwq
      rw [mask_val y k hk24, ← HK.out]
      go_wp2_with (at_builtin; refine wpList_append_own _ rfl _ _ 22 rfl w.heap.size 3 i0 (.int .i64 0) 1 8 Tryd.underlying22 hi hz0 hz1 hz2 rfl (by decide) _ _ _ rfl (World.ownsRow.alloc (World.ownsRow.kept hown (grownBy_drewN _ nq none) (by cases Value.ownBlock u5 <;> simp)) _) ⟨wr.heap.size, 0, none⟩ 1 1 [.int .i64 (lowF L f p)] rfl rfl (cell_one_new (wr.drewN nq) _ _) (by simp [Value.oneCell']) (by unfold maxLen; omega) (by omega) (by have := hb.out.size; simp; omega) ?_)
      intro v' w3 hown3 hgrow _
      have R1 : w3.ownsRow w.heap.size 3 1 v' (p + 1) (cellsOf .i64 (p + 1) (lowF L f)) := by rw [cellsOf_succ]; exact hown3
      have R2 : Below w.heap.size w w3 := ((below_drewN hb.out nq).alloc (by have := hb.out.size; simp; omega) _).grown hgrow (by have := hb.out.size; simp; omega) (fun k hk => (hown.lt k hk).1)
      clear hown3 hgrow hown hca hcb
      go_wp2
      go_roundw
      case rel => exact ⟨p + 1, by omega, by go_num, R1, R2⟩
      case measure => simp [intOf]; omega
    · obtain rfl : p = n := by omega
      go_wp2
      go_ret
      obtain ⟨av, cv, rfl, hcv, ho⟩ := own_of_cells hown
      exact ⟨⟨_, _, rfl, ho⟩, hb.out⟩

/-- What is asked of two symbols. -/
theorem pair_apart (f : Nat → Int) (n i k : Nat) (hf : ∀ i, i < n → 0 ≤ f i ∧ f i ≤ 15) (hk : krf (natF f) n = 32768) (hi : i < n) (hkn : k < n) (hne : i ≠ k) (h0 : 0 < f i) (hle : f i ≤ f k) :
    lowF (fun i => (codeF (natF f) n i : Int)) f k / 2 ^ (natF f k - natF f i) ≠ lowF (fun i => (codeF (natF f) n i : Int)) f i ∧
    (f k = f i → i < k → lowF (fun i => (codeF (natF f) n i : Int)) f i < lowF (fun i => (codeF (natF f) n i : Int)) f k) := by
  have hc : ∀ j, j < n → natF f j ≤ 15 := fun j hj => by have := hf j hj; unfold natF; omega
  have hi0 : 0 < natF f i := by unfold natF; omega
  have hle2 : natF f i ≤ natF f k := by unfold natF; omega
  have e : ∀ j, 0 < natF f j → lowF (fun i => (codeF (natF f) n i : Int)) f j = ((codeOf (natF f) n j % 2 ^ natF f j : Nat) : Int) := fun j hj => by
    unfold lowF codeF
    simp only []
    rw [if_pos hj]
    simp
  rw [e k (by omega), e i hi0]
  constructor
  · have := codes_apart (natF f) n i k hc hk hi hkn hne hi0 hle2
    intro h
    apply this
    have h2 : ((codeOf (natF f) n k % 2 ^ natF f k : Nat) : Int) / 2 ^ (natF f k - natF f i) = (((codeOf (natF f) n k % 2 ^ natF f k) / 2 ^ (natF f k - natF f i) : Nat) : Int) := by simp
    rw [h2] at h
    exact Int.ofNat.inj h
  · intro h1 h2
    have := codes_up (natF f) n i k hc hk hkn h2 hi0 (by unfold natF; rw [h1])
    omega

def okCB (f : Nat → Int) (n : Nat) : Bool := decide (n ≤ 512) && inR f 0 15 n && wholeB (natF f) n

theorem codesBegin_bad (w : World) (a : Option Addr) (n c : Nat) (f : Nat → Int) (ha : Arg .i64 w a n f) (m0 : n ≤ 2147483647) (hb : okCB f n = false) :
    Calls Tryd.prog 5 #[.slice a n c] w fun e w' => e = .returned (.bool true) ∧ Below w.heap.size w w' := by
  have H := Lib.hid ha; clear ha
  by_cases b1 : 512 < n
  · clear hb
    go_enter Tryd.func5, Tryd.ntmps5
    go_wp2_with fail
    refine (readSums_any w).mono ?_
    rintro _ w4 ⟨rfl, rfl⟩
    go_wp2
    go_ret
    exact ⟨rfl, Below.refl _ _⟩
  cases hr : inR f 0 15 n with
  | false =>
    have HR := Lib.hid hr; clear hr hb
    go_enter Tryd.func5, Tryd.ntmps5
    go_wp2_with fail
    refine (inRange_any a n c f 0 15 w H.out (by omega)).mono ?_
    rw [HR.out]
    rintro _ w4 ⟨rfl, rfl⟩
    go_wp2_with fail
    refine (readSums_any w).mono ?_
    rintro _ w4 ⟨rfl, rfl⟩
    go_wp2
    go_ret
    exact ⟨rfl, Below.refl _ _⟩
  | true =>
    have hw : wholeB (natF f) n = false := by
      unfold okCB at hb
      rw [hr] at hb
      simp at hb
      exact hb (by omega)
    have HR := Lib.hid (And.intro hr hw); clear hr hb hw
    go_enter Tryd.func5, Tryd.ntmps5
    go_wp2_with fail
    refine (inRange_any a n c f 0 15 w H.out (by omega)).mono ?_
    rw [HR.out.1]
    rintro _ w4 ⟨rfl, rfl⟩
    go_wp2_with fail
    refine (isWhole_any a n c f w H.out (by omega) (fun i hi => inR_true.1 HR.out.1 i hi)).mono ?_
    rw [HR.out.2]
    rintro _ w4 ⟨rfl, rfl⟩
    go_wp2_with fail
    refine (readSums_any w).mono ?_
    rintro _ w4 ⟨rfl, rfl⟩
    go_wp2
    go_ret
    exact ⟨rfl, Below.refl _ _⟩

set_option maxRecDepth 100000 in
set_option maxHeartbeats 1000000 in
theorem codesBegin_good (w : World) (a : Option Addr) (n c : Nat) (f : Nat → Int) (ha : Arg .i64 w a n f) (hn : n ≤ 512) (hr : inR f 0 15 n = true) (hw : wholeB (natF f) n = true) :
    Calls Tryd.prog 5 #[.slice a n c] w fun e w' => e = .returned (.bool true) ∧ Below w.heap.size w w' := by
  have hf := inR_true.1 hr
  have hk : 1 < used (natF f) n ∧ krf (natF f) n = 32768 := of_decide_eq_true hw
  have hn0 : 0 < n := by have := used_le (natF f) n; omega
  have H := Lib.hid (And.intro ha (And.intro hr (And.intro hw (And.intro hf hk.2)))); clear ha hr hw hf hk
  go_enter Tryd.func5, Tryd.ntmps5
  go_wp2_with fail
  refine (inRange_any a n c f 0 15 w H.out.1 (by omega)).mono ?_
  rw [H.out.2.1]
  rintro _ w4 ⟨rfl, rfl⟩
  go_wp2_with fail
  refine (isWhole_any a n c f w H.out.1 (by omega) H.out.2.2.2.1).mono ?_
  rw [H.out.2.2.1]
  rintro _ w4 ⟨rfl, rfl⟩
  go_wp2_with fail
  refine (Codes_any a n c f w H.out.1 (by omega) hn0 H.out.2.2.2.1).mono ?_
  rintro _ w1 ⟨⟨a1, c1, rfl, ho⟩, hb⟩
  have H1 := Lib.hid (And.intro ho hb); clear ho hb
  go_wp2_with fail
  refine (lowest_any a1 n c1 _ a c f w1 H1.out.1.arg (H.out.1.below H1.out.2) (by omega) H.out.2.2.2.1).mono ?_
  rintro _ w2 ⟨⟨a2, c2, rfl, ho⟩, hb⟩
  have H2 : Hid (Own .i64 w1.heap.size w2 a2 n (lowF (fun i => (codeF (natF f) n i : Int)) f) ∧ Arg .i64 w2 a n f ∧ Below w.heap.size w w2) := Lib.hid ⟨ho, (H.out.1.below H1.out.2).below hb, H1.out.2.trans (hb.mono H1.out.2.size)⟩
  clear ho hb H1
  obtain ⟨F, hF⟩ : ∃ F, F = lowF (fun i => (codeF (natF f) n i : Int)) f := ⟨_, rfl⟩
  have HP : Hid (∀ i k, i < n → k < n → i ≠ k → 0 < f i → f i ≤ f k → F k / 2 ^ (natF f k - natF f i) ≠ F i ∧ (f k = f i → i < k → F i < F k)) := Lib.hid (by
    rw [hF]; exact fun i k h1 h2 h3 h4 h5 => pair_apart f n i k H.out.2.2.2.1 H.out.2.2.2.2 h1 h2 h3 h4 h5)
  rw [← hF] at H2
  clear hF
  obtain ⟨ga, oa, rfl, hga, ra⟩ := H2.out.2.1 hn0
  obtain ⟨gl, rfl, _, hgl, rl, _⟩ := H2.out.1 hn0
  have HR := Lib.hid (And.intro ra rl); clear ra rl
  go_wp2
  go_loopw [5] (fun i wr => ∃ p : Nat, p ≤ n ∧ i = .int .i64 p ∧ Hid (Below w2.heap.size w2 wr)) (fun i _ => n - (intOf i).toNat)
  case atStart => exact ⟨0, by omega, rfl, Below.refl _ _⟩
  case round =>
    obtain ⟨p, hp, rfl, hb⟩ := hrel
    obtain ⟨wo, rfl⟩ : ∃ wo : World, wo = wr := ⟨_, rfl⟩
    by_cases hlt : p < n
    · go_wp2
      go_loopw [6] (fun i wr => ∃ q : Nat, q ≤ n ∧ i = .int .i64 q ∧ Hid (Below w2.heap.size w2 wr)) (fun i _ => n - (intOf i).toNat)
      case atStart => exact ⟨0, by omega, rfl, hb.out⟩
      case round =>
        obtain ⟨q, hq, rfl, hb2⟩ := hrel
        by_cases hlt2 : q < n
        · have f1 : wr.cell? ⟨ga, oa + p, none⟩ = some (.int .i64 (f p)) := (hb2.out.cell (p := ⟨ga, oa + p, none⟩) hga).trans (HR.out.1 p hlt)
          have f2 : wr.cell? ⟨ga, oa + q, none⟩ = some (.int .i64 (f q)) := (hb2.out.cell (p := ⟨ga, oa + q, none⟩) hga).trans (HR.out.1 q hlt2)
          have l1 : wr.cell? ⟨gl, p, none⟩ = some (.int .i64 (F p)) := by
            rw [hb2.out.cell (p := ⟨gl, p, none⟩) hgl]; simpa using HR.out.2 p hlt
          have l2 : wr.cell? ⟨gl, q, none⟩ = some (.int .i64 (F q)) := by
            rw [hb2.out.cell (p := ⟨gl, q, none⟩) hgl]; simpa using HR.out.2 q hlt2
          have fp := H.out.2.2.2.1 p hlt
          have fq := H.out.2.2.2.1 q hlt2
          have hpq := HP.out p q hlt hlt2
          obtain ⟨x, hx⟩ : ∃ x : Nat, (x : Int) = f p := ⟨(f p).toNat, by omega⟩
          obtain ⟨y, hy⟩ : ∃ y : Nat, (y : Int) = f q := ⟨(f q).toNat, by omega⟩
          have hxn : natF f p = x := by unfold natF; omega
          have hyn : natF f q = y := by unfold natF; omega
          rw [hxn, hyn, ← hx, ← hy] at hpq
          rw [← hx] at f1 fp
          rw [← hy] at f2 fq
          obtain ⟨u, hu⟩ : ∃ u, u = F p := ⟨_, rfl⟩
          obtain ⟨v, hv⟩ : ∃ v, v = F q := ⟨_, rfl⟩
          rw [← hu] at l1 hpq
          rw [← hv] at l2 hpq
          have HPQ := Lib.hid hpq
          clear hx hy hu hv hxn hyn hpq
          have x15 : x ≤ 15 := by omega
          have y15 : y ≤ 15 := by omega
          by_cases e1 : p = q
          · subst e1
            clear f2 l1 l2
            go_wp2
            go_quiet (fail)
            go_wp2
            go_roundw
            case rel => exact ⟨p + 1, by omega, by go_num, below_drewN hb2.out _⟩
            case measure => simp [intOf]; omega
          · have q1 : ((p : Int) == (q : Int)) = false := by simp; omega
            by_cases e2 : x = 0
            · have q2 : ((x : Int) == 0) = true := by simp; omega
              subst e2
              go_wp2
              go_quiet (fail)
              go_wp2
              go_roundw
              case rel => exact ⟨q + 1, by omega, by go_num, below_drewN hb2.out _⟩
              case measure => simp [intOf]; omega
            · have q2 : ((x : Int) == 0) = false := by simp; omega
              by_cases e3 : y < x
              · have q3 : decide ((y : Int) < (x : Int)) = true := by simp; omega
                go_wp2
                go_quiet (fail)
                go_wp2
                go_roundw
                case rel => exact ⟨q + 1, by omega, by go_num, below_drewN hb2.out _⟩
                case measure => simp [intOf]; omega
              · have q3 : decide ((y : Int) < (x : Int)) = false := by simp; omega
                have hh := HPQ.out e1 (by omega) (by omega)
                have q4 : (v / 2 ^ (y - x) == u) = false := by simp; exact hh.1
                have hxy : x ≤ y := by omega
                go_wp2
                go_quiet (fail)
                go_wp2
                have hw1 : IntKind.i64.wrap ((y : Int) - (x : Int)) = ((y - x : Nat) : Int) := by rw [IntWalk.i64_in _ (by omega)]; omega
                by_cases e4 : y = x
                · have q5 : ((y : Int) == (x : Int)) = true := by simp; omega
                  by_cases e5 : p < q
                  · have q6 : decide ((p : Int) < (q : Int)) = true := by simp; omega
                    have q7 : decide (v ≤ u) = false := by have := hh.2 (by omega) e5; simp; omega
                    have HH := Lib.hid (And.intro hh e4); clear hh e4
                    go_quiet (fail)
                    go_wp2
                    go_roundw
                    case rel => exact ⟨q + 1, by omega, by go_num, below_drewN hb2.out _⟩
                    case measure => simp [intOf]; omega
                  · have q6 : decide ((p : Int) < (q : Int)) = false := by simp; omega
                    have HH := Lib.hid (And.intro hh e4); clear hh e4
                    go_quiet (fail)
                    go_wp2
                    go_roundw
                    case rel => exact ⟨q + 1, by omega, by go_num, below_drewN hb2.out _⟩
                    case measure => simp [intOf]; omega
                · have q5 : ((y : Int) == (x : Int)) = false := by simp; omega
                  have HH := Lib.hid (And.intro hh e4); clear hh e4
                  go_quiet (fail)
                  go_wp2
                  go_roundw
                  case rel => exact ⟨q + 1, by omega, by go_num, below_drewN hb2.out _⟩
                  case measure => simp [intOf]; omega
        · obtain rfl : q = n := by omega
          go_wp2
          go_roundw
          case rel => exact ⟨p + 1, by omega, by go_num, hb2.out⟩
          case measure => simp [intOf]; omega
    · obtain rfl : p = n := by omega
      go_wp2_with fail
      refine (readSums_any wo).mono ?_
      rintro _ w4 ⟨rfl, rfl⟩
      go_wp2
      go_ret
      exact ⟨rfl, H2.out.2.2.trans (hb.out.mono H2.out.2.2.size)⟩

theorem fnCodesBegin_walk (w : World) (a0 : Option Addr) (n0 c0 : Nat) (z0 : List Int) (h0 : IsRow .i64 w a0 n0 c0 z0) :
    Calls Tryd.prog 5 #[.slice a0 n0 c0] w fun e w' => e = .returned (.bool true) ∧ Below w.heap.size w w' := by
  obtain ⟨g0, l0, m0, _, _⟩ := h0.arg
  unfold maxLen at m0
  have k0 : n0 ≤ 9223372036854775807 := by omega
  clear h0 l0 m0
  by_cases s0 : 2147483647 < n0
  · clear g0
    go_enter Tryd.func5, Tryd.ntmps5
    go_wp2
    go_ret
    exact ⟨rfl, Below.refl _ _⟩
  cases hok : okCB (fun i => z0.getD i 0) n0 with
  | false => exact codesBegin_bad w a0 n0 c0 _ g0 (by omega) hok
  | true =>
    unfold okCB at hok
    simp only [Bool.and_eq_true, decide_eq_true_eq] at hok
    exact codesBegin_good w a0 n0 c0 _ g0 hok.1.1 hok.1.2 hok.2
end Go.Proofs.YtdmefbpfpmkdcaaDoor
