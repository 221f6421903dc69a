/- The walk of FnFilters. Printed by wip/gen_fnfil.py. -/
import Derived.Test.YthmkmemocjnleaaDoorLimW
import Derived.Test.YthmkmemocjnleaaDoorOnly
import Derived.Test.YthmkmemocjnleaaDoorOpenI
import Derived.Test.YthmkmemocjnleaaDoorFnSegmentsWalk
namespace Go.Proofs.YthmkmemocjnleaaDoor
open Go.RowKit
set_option linter.unusedVariables false
set_option linter.unusedSimpArgs false

theorem OO_mono (u r : Bool) (lv : Int) (dl : Bool) (rf md st : Nat → Int) : ∀ k n, OO u r lv dl rf md st (n + k) = false → OO u r lv dl rf md st n = false
  | 0, n, h => h
  | k + 1, n, h => OO_mono u r lv dl rf md st k n (agree_parts (on := u) (ab := !r) (dl := dl) (small := decide ((n + k) % 2 = 1)) (lv := lv) (st := st ((n + k) / 2)) (r := rf 0) (m := md 0) rfl rfl h).1
theorem q_eq (u r : Bool) (v : FG) (st : Nat → Int) (h : OO u r v.level v.deltas v.ref v.mode st 8 = false) (m k : Nat) (hm : m < 8) :
    QF u r v st m k = PP u r v.level v.sharp v.deltas v.ref v.mode st m k := by
  have h1 : OO u r v.level v.deltas v.ref v.mode st (m + 1) = false := OO_mono _ _ _ _ _ _ _ (8 - (m + 1)) (m + 1) (by rw [show m + 1 + (8 - (m + 1)) = 8 by omega]; exact h)
  obtain ⟨_, a2, a3, _⟩ := agree_parts (on := u) (ab := !r) (dl := v.deltas) (small := decide (m % 2 = 1)) (lv := v.level) (st := st (m / 2)) (r := v.ref 0) (m := v.mode 0) rfl rfl h1
  have hl := level_agrees (on := u) (ab := !r) (dl := v.deltas) (small := decide (m % 2 = 1)) (lv := v.level) (st := st (m / 2)) (r := v.ref 0) (m := v.mode 0) rfl rfl h1
  have e : (if decide (m % 2 = 1) = true then 1 else 0) = m % 2 := by
    by_cases h : m % 2 = 1
    · simp [h]
    · simp [h]; omega
  rw [e, Bool.not_not] at hl
  unfold QF parM PP
  rw [hl]
  show _ = sayI v.sharp (lvO (nS u (!r) v.level (st (m / 2))) (mS v.deltas (v.ref 0) (v.mode 0) (decide (m % 2 = 1)))) k
  rw [a2]
  exact par_agrees k (fun hl => by rw [← a2]; exact a3 hl)
theorem neq4 (a b c d : Int) (w : World) : (binOp .neq 40 (.agg #[.int .i64 a, .int .i64 b, .int .i64 c, .int .i64 d]) (.agg #[.int .i64 a, .int .i64 b, .int .i64 c, .int .i64 d])).run Tryd.prog w = .ok (.bool false) w := by
  obtain ⟨i, hi, _⟩ := info_parts (show (Tryd.prog.info? 3).map (fun i => (i.zero, i.size, i.bytes)) = some (some (.int .i64 0), 1, 8) by kernel_rfl)
  have hc : Tryd.prog.cellsOf 3 = 1 := by kernel_rfl
  rw [run_neq_struct, run_equalIn_array w 9999 _ _ Tryd.underlying40 hi, hc]
  simp [List.range, List.range.loop, Op.eqItems, go_sem]
theorem wpList_wanted_load_mid {Pr : Program} {ops : Array Oper} {rest : List Oper} {op : Oper} {a : Act} {w : World} {Q : Exit → Act → World → Prop} (ty : TypeId) (x : Operand) (ho : op.op = .load ty x)
    (b o : Nat) (hx : a.eval x = .pointer (some ⟨b, o, none⟩)) (cs : List Value) (d : TypeDesc) (hc : w.rangeAt b o cs)
    (hu : Pr.underlying ty = some d) (hd : d.isRow = true) (hi : (Pr.info? ty).map (·.size) = some cs.length) (hw : Region.wanted op (yielded ops a.tmps) = true)
    (h : wpList Pr ops Q rest (a.put op.dst (.agg cs.toArray)) w) : wpList Pr ops Q (op :: rest) a w :=
  wpList_step fun K hK => by
    simp only [hw, if_true]
    exact wp_load_mid ty x ho b o hx cs d hc hu hd hi (hK _ _ h)
/-- What the two calls leave in their variables. -/
def TwoF (w w1 : World) (csF : List Value) (fG : Bool → List Value) (wc : World) (hA hB : Nat) (o : Bool) : Prop :=
  SObj wc hA 60 csF ∧ SObj wc hB 63 (fG o) ∧ Below w1.heap.size w1 wc

set_option maxRecDepth 100000 in
set_option maxHeartbeats 8000000 in
theorem fnFilters_good (w : World) (ht : Tabs w) (a0 : Option Addr) (n0 c0 : Nat) (zs : List Int) (u r : Bool) (s0 s1 s2 s3 : Int) (hl : zs.length = n0) (hrow : Arg .u8 w a0 n0 (fun i => zs.getD i 0)) (hz : Bytes zs) (hw : isWr n0 zs = true)
    (a1 : -63 ≤ s0) (a2 : s0 ≤ 63) (b1 : -63 ≤ s1) (b2 : s1 ≤ 63) (d1 : -63 ≤ s2) (d2 : s2 ≤ 63) (e1 : -63 ≤ s3) (e2 : s3 ≤ 63) :
    Calls Tryd.prog 8 #[.slice a0 n0 c0, .bool u, .bool r, .agg #[.int .i64 s0, .int .i64 s1, .int .i64 s2, .int .i64 s3]] w fun e w' => e = .returned (.bool true) ∧ Below w.heap.size w w' := by
  obtain ⟨hn, hg⟩ := wr_good hl hw hz
  have h2 := ht.two
  obtain ⟨vp, hvp⟩ : ∃ v, v = filG (stepP zs) ds0 := ⟨_, rfl⟩
  obtain ⟨vs, hvs⟩ : ∃ v, v = filG (stepS zs) (ss0 zs) := ⟨_, rfl⟩
  have bo := filG_both zs hg ds0 (ss0 zs) (rs0 zs hg)
  rw [← hvp, ← hvs] at bo
  obtain ⟨w1, hw1⟩ : ∃ x, x = w.alloc (.cells #[.int .i64 s0, .int .i64 s1, .int .i64 s2, .int .i64 s3] 40) := ⟨_, rfl⟩
  have H1 : Hid (SObj w1 w.heap.size 40 [.int .i64 s0, .int .i64 s1, .int .i64 s2, .int .i64 s3] ∧ Below w.heap.size w w1 ∧ w1.heap.size = w.heap.size + 1) := Lib.hid (by rw [hw1]; exact ⟨obj_new w _ [.int .i64 s0, .int .i64 s1, .int .i64 s2, .int .i64 s3], (Below.refl _ _).alloc (Nat.le_refl _) _, by simp⟩)
  obtain ⟨csF, hcsF⟩ : ∃ cs, cs = filR vp.1.simple vp.1.level vp.1.sharp vp.1.deltas vp.1.ref vp.1.mode (QF u r vp.1 (fun i => ([s0, s1, s2, s3] : List Int).getD i 0)) (innF vp.1) vp.2.eof := ⟨_, rfl⟩
  obtain ⟨fG, hfG⟩ : ∃ f : Bool → List Value, f = fun o => filS38 vs.1.simple vs.1.level vs.1.sharp vs.1.deltas vs.1.ref vs.1.mode (PP u r vs.1.level vs.1.sharp vs.1.deltas vs.1.ref vs.1.mode (lv4 s0 s1 s2 s3)) (!(OO u r vs.1.level vs.1.deltas vs.1.ref vs.1.mode (lv4 s0 s1 s2 s3) 8)) o := ⟨_, rfl⟩
  have HCF : Hid (∀ wk, Below w1.heap.size w1 wk → Calls Tryd.prog 26 #[.slice a0 n0 c0, .bool u, .bool r, .agg #[.int .i64 s0, .int .i64 s1, .int .i64 s2, .int .i64 s3]] wk fun e w' => e = .returned (.agg csF.toArray) ∧ Below wk.heap.size wk w') := Lib.hid (fun wk hb => by
    have hb1 : Below w.heap.size w wk := H1.out.2.1.trans (hb.mono H1.out.2.1.size)
    rw [hcsF]
    exact filtersOf_any a0 n0 c0 zs u r s0 s1 s2 s3 wk (ht.below h2 hb1) (by have := hb1.size; omega) hl (hrow.below hb1) hz hg.2 hn a1 a2 b1 b2 d1 d2 e1 e2 vp hvp)
  have HCG : Hid (∀ wk, Below w1.heap.size w1 wk → Calls Tryd.prog 27 #[.slice a0 n0 c0, .bool u, .bool r, .agg #[.int .i64 s0, .int .i64 s1, .int .i64 s2, .int .i64 s3]] wk fun e w' => (∃ o, e = .returned (.agg (fG o).toArray)) ∧ Below wk.heap.size wk w') := Lib.hid (fun wk hb => by
    have hb1 : Below w.heap.size w wk := H1.out.2.1.trans (hb.mono H1.out.2.1.size)
    rw [hfG]
    exact filtersOfS_any a0 n0 c0 zs u r s0 s1 s2 s3 wk hl (hrow.below hb1) hz hg.2 hn a1 a2 b1 b2 d1 d2 e1 e2 vs hvs)
  have HLF : Hid (csF.length = 45 ∧ csF.toArray.all (·.oneCell') = true) := Lib.hid (by rw [hcsF]; exact ⟨rfl, filR_all _ _ _ _ _ _ _ _ _⟩)
  have HLG : Hid (∀ o, (fG o).length = 38 ∧ (fG o).toArray.all (·.oneCell') = true) := Lib.hid (fun o => by rw [hfG]; exact ⟨rfl, filS38_all _ _ _ _ _ _ _ _ _⟩)
  have HS4 : Hid (Arg .i64 w1 (some ⟨w.heap.size, 0, none⟩) 4 (lv4 s0 s1 s2 s3)) := Lib.hid (fun _ => ⟨w.heap.size, 0, rfl, by rw [H1.out.2.2]; omega, fun i hi => by
    rw [Nat.zero_add]
    have : i = 0 ∨ i = 1 ∨ i = 2 ∨ i = 3 := by omega
    rcases this with rfl | rfl | rfl | rfl
    · exact H1.out.1.cell 0 rfl
    · exact H1.out.1.cell 1 rfl
    · exact H1.out.1.cell 2 rfl
    · exact H1.out.1.cell 3 rfl⟩)
  have HIR : Hid (inR (lv4 s0 s1 s2 s3) (-63) 63 4 = true) := Lib.hid (inR_true.2 (fun i hi => by
    have : i = 0 ∨ i = 1 ∨ i = 2 ∨ i = 3 := by omega
    rcases this with rfl | rfl | rfl | rfl
    · show -63 ≤ s0 ∧ s0 ≤ 63; omega
    · show -63 ≤ s1 ∧ s1 ≤ 63; omega
    · show -63 ≤ s2 ∧ s2 ≤ 63; omega
    · show -63 ≤ s3 ∧ s3 ≤ 63; omega))
  have HRB : Hid (∀ wk, Below w.heap.size w wk → Calls Tryd.prog 11 #[] wk fun e w' => e = .returned (.bool true) ∧ Below w.heap.size w w') := Lib.hid (fun wk hb => (readBool_any _ (ht.below h2 hb) (by have := hb.size; omega)).mono fun _ _ ⟨e, h⟩ => ⟨e, hb.trans (h.mono hb.size)⟩)
  have H := Lib.hid (And.intro hrow (And.intro hw (And.intro hcsF (And.intro hfG bo))))
  clear ht hl hrow hz hg hw hvp hvs bo hcsF hfG
  go_enter Tryd.func8, Tryd.ntmps8
  go_wp2_with fail
  rw [← hw1]
  have HW1 := Lib.hid hw1; clear hw1
  refine (isWritten_any a0 n0 c0 zs w1 (H.out.1.below H1.out.2.1) (by omega)).mono ?_
  rintro _ _ ⟨rfl, rfl⟩
  rw [H.out.2.1]
  go_wp2_with fail
  refine (inRange_any _ 4 4 (lv4 s0 s1 s2 s3) (-63) 63 w1 HS4.out (by omega)).mono ?_
  rintro _ _ ⟨rfl, rfl⟩
  rw [HIR.out]
  have k0 : w1.cell? ⟨w.heap.size, 0, none⟩ = some (.int .i64 s0) := H1.out.1.cell 0 rfl
  have k1 : w1.cell? ⟨w.heap.size, 1, none⟩ = some (.int .i64 s1) := H1.out.1.cell 1 rfl
  have k2 : w1.cell? ⟨w.heap.size, 2, none⟩ = some (.int .i64 s2) := H1.out.1.cell 2 rfl
  have k3 : w1.cell? ⟨w.heap.size, 3, none⟩ = some (.int .i64 s3) := H1.out.1.cell 3 rfl
  go_upto_region 5 with fail
  have HS : Below w1.heap.size w1 w1 := Below.refl _ _
  go_cut [9, 10] from 23 to 32 (fun s9 s10 wc => ∃ hA hB : Nat, ∃ o : Bool, s9 = .pointer (some ⟨hA, 0, none⟩) ∧ s10 = .pointer (some ⟨hB, 0, none⟩) ∧ Hid (TwoF w w1 csF fG wc hA hB o))
  case first => as_aux_lemma =>
    refine wp_region_noPanic ?_
    refine wp_region_held_drew (S := fun w' => Below w1.heap.size w1 w') rfl HS.drew (fun hS0 => ?_)
    (try dsimp only at hS0)
    generalize World.drew w1 = wk0 at hS0 ⊢
    refine wpAnyH_take (i := 0) (oi := ⟨some 23, _, _, _, _, _⟩) (v := ?_) rfl (by kernel_rfl) (by kernel_rfl) (by kernel_rfl) (fun _ _ _ h => h) (Or.inl ⟨by rfl, ?_⟩) (by assumption) ?_
    rotate_left
    · intro w hSw; (try dsimp only at hSw); go_simp; (try with_reducible rfl)
    (try simp only [Act.put, List.setIfInBounds_toArray, List.set_cons_zero, List.set_cons_succ])
    refine wpAnyH_take (i := 1) (oi := ⟨some 24, _, _, _, _, _⟩) (v := ?_) rfl (by kernel_rfl) (by kernel_rfl) (by kernel_rfl) (fun _ _ _ h => h) (Or.inl ⟨by rfl, ?_⟩) (by assumption) ?_
    rotate_left
    · intro w hSw; (try dsimp only at hSw); go_simp; (try with_reducible rfl)
    (try simp only [Act.put, List.setIfInBounds_toArray, List.set_cons_zero, List.set_cons_succ])
    refine wpAnyH_take (i := 2) (oi := ⟨some 25, _, _, _, _, _⟩) (v := ?_) rfl (by kernel_rfl) (by kernel_rfl) (by kernel_rfl) (fun _ _ _ h => h) (Or.inl ⟨by rfl, ?_⟩) (by assumption) ?_
    rotate_left
    · intro w hSw; (try dsimp only at hSw); go_simp; (try with_reducible rfl)
    (try simp only [Act.put, List.setIfInBounds_toArray, List.set_cons_zero, List.set_cons_succ])
    refine wpAnyH_take (i := 3) (oi := ⟨some 26, _, _, _, _, _⟩) (v := ?_) rfl (by kernel_rfl) (by kernel_rfl) (by kernel_rfl) (fun _ _ _ h => h) (Or.inl ⟨by rfl, ?_⟩) (by assumption) ?_
    rotate_left
    · intro w hSw; (try dsimp only at hSw); have _q0 := below_cell hSw k0; have _q1 := below_cell hSw k1; have _q2 := below_cell hSw k2; have _q3 := below_cell hSw k3; go_simp; (try with_reducible rfl)
    (try simp only [Act.put, List.setIfInBounds_toArray, List.set_cons_zero, List.set_cons_succ])
    refine wpAnyH_take (i := 5) (oi := ⟨some 28, _, _, _, _, _⟩) (v := ?_) rfl (by kernel_rfl) (by kernel_rfl) (by kernel_rfl) (fun _ _ _ h => h) (Or.inl ⟨by rfl, ?_⟩) (by assumption) ?_
    rotate_left
    · intro w hSw; (try dsimp only at hSw); go_simp; (try with_reducible rfl)
    (try simp only [Act.put, List.setIfInBounds_toArray, List.set_cons_zero, List.set_cons_succ])
    refine wpAnyH_take (i := 6) (oi := ⟨some 29, _, _, _, _, _⟩) (v := ?_) rfl (by kernel_rfl) (by kernel_rfl) (by kernel_rfl) (fun _ _ _ h => h) (Or.inl ⟨by rfl, ?_⟩) (by assumption) ?_
    rotate_left
    · intro w hSw; (try dsimp only at hSw); go_simp; (try with_reducible rfl)
    (try simp only [Act.put, List.setIfInBounds_toArray, List.set_cons_zero, List.set_cons_succ])
    refine wpAnyH_take (i := 7) (oi := ⟨some 30, _, _, _, _, _⟩) (v := ?_) rfl (by kernel_rfl) (by kernel_rfl) (by kernel_rfl) (fun _ _ _ h => h) (Or.inl ⟨by rfl, ?_⟩) (by assumption) ?_
    rotate_left
    · intro w hSw; (try dsimp only at hSw); go_simp; (try with_reducible rfl)
    (try simp only [Act.put, List.setIfInBounds_toArray, List.set_cons_zero, List.set_cons_succ])
    refine wpAnyH_take (i := 8) (oi := ⟨some 31, _, _, _, _, _⟩) (v := ?_) rfl (by kernel_rfl) (by kernel_rfl) (by kernel_rfl) (fun _ _ _ h => h) (Or.inl ⟨by rfl, ?_⟩) (by assumption) ?_
    rotate_left
    · intro w hSw; (try dsimp only at hSw); have _q0 := below_cell hSw k0; have _q1 := below_cell hSw k1; have _q2 := below_cell hSw k2; have _q3 := below_cell hSw k3; go_simp; (try with_reducible rfl)
    (try simp only [Act.put, List.setIfInBounds_toArray, List.set_cons_zero, List.set_cons_succ])
    refine wpAnyH_ready (rs := [4, 10, 11]) (by kernel_rfl) (by simp) ?_
    refine AllReadyH.cons (o := ⟨some 27, _, _, _, _, none⟩) rfl (fun K hK => ?_) ?_
    · as_aux_lemma =>
      go_simp
      go_at_call 26; refine (HCF.out _ hS0).mono ?_; rintro e wk1 ⟨rfl, hb⟩
      refine hK.out _ _ (below_step hb hS0 (Nat.le_refl _)) (fun hS1 => ?_)
      clear hK K
      (try simp only [Act.put, List.setIfInBounds_toArray, List.set_cons_zero, List.set_cons_succ])
      refine wpAnyH_ready (rs := [9, 10, 11]) (by kernel_rfl) (by simp) ?_
      refine AllReadyH.cons (o := ⟨some 32, _, _, _, _, none⟩) rfl (fun K hK => ?_) ?_
      · as_aux_lemma =>
        go_simp
        go_at_call 27; refine (HCG.out _ hS1).mono ?_; rintro e wk2 ⟨⟨o, rfl⟩, hb⟩
        refine hK.out _ _ (below_step hb hS1 (Nat.le_refl _)) (fun hS2 => ?_)
        clear hK K
        (try simp only [Act.put, List.setIfInBounds_toArray, List.set_cons_zero, List.set_cons_succ])
        refine wpAnyH_ready (rs := [10, 11]) (by kernel_rfl) (by simp) ?_
        refine AllReadyH.cons (o := ⟨some 9, .alloc 60, _, _, _, none⟩) rfl (fun K hK => ?_) ?_
        · as_aux_lemma =>
          go_simp
          obtain ⟨hA, hh⟩ : ∃ x, x = wk2.heap.size := ⟨_, rfl⟩
          have hleA : w1.heap.size ≤ hA := by rw [hh]; exact hS2.size
          have hO : Hid (SObj (World.alloc wk2 (.cells z60.toArray 60)) hA 60 z60 ∧ Below w1.heap.size w1 (World.alloc wk2 (.cells z60.toArray 60))) := Lib.hid (by rw [hh]; exact ⟨obj_new _ _ _, hS2.alloc hS2.size _⟩)
          rw [← hh]
          clear hh
          unfold z60 at hO
          generalize World.alloc _ _ = wk3 at hO ⊢
          refine hK.out _ _ hO.out.2 (fun hS3 => ?_)
          have HOA : Hid (SObj wk3 hA 60 z60) := Lib.hid hO.out.1
          clear hK K
          (try simp only [Act.put, List.setIfInBounds_toArray, List.set_cons_zero, List.set_cons_succ])
          refine wpAnyH_ready (rs := [11]) (by kernel_rfl) (by simp) ?_
          refine AllReadyH.cons (o := ⟨some 10, .alloc 63, _, _, _, none⟩) rfl (fun K hK => ?_) AllReadyH.nil
          · as_aux_lemma =>
            go_simp
            obtain ⟨hB, hh⟩ : ∃ x, x = wk3.heap.size := ⟨_, rfl⟩
            have hleB : w1.heap.size ≤ hB := by rw [hh]; exact hS3.size
            have hO : Hid (SObj (World.alloc wk3 (.cells z38.toArray 63)) hB 63 z38 ∧ Below w1.heap.size w1 (World.alloc wk3 (.cells z38.toArray 63))) := Lib.hid (by rw [hh]; exact ⟨obj_new _ _ _, hS3.alloc hS3.size _⟩)
            have HOA := Lib.hid (HOA.out.alloc (.cells z38.toArray 63))
            rw [← hh]
            clear hh
            unfold z38 at hO HOA
            generalize World.alloc _ _ = wk4 at hO HOA ⊢
            refine hK.out _ _ hO.out.2 (fun hS4 => ?_)
            have HOB : Hid (SObj wk4 hB 63 z38) := Lib.hid hO.out.1
            have HOA : Hid (SObj wk4 hA 60 z60) := HOA
            clear hK K
            (try simp only [Act.put, List.setIfInBounds_toArray, List.set_cons_zero, List.set_cons_succ])
            have hne : hA ≠ hB := fun e => by
              have t1 := HOA.out.ty
              rw [e] at t1
              exact absurd (t1.inj HOB.out.ty) (by decide)
            refine wpAnyH_ready (rs := [12]) (by kernel_rfl) (by simp) ?_
            refine AllReadyH.cons (o := ⟨none, .store 60 (.tmp 9) (.tmp 27), _, _, _, none⟩) rfl (fun K hK => ?_) AllReadyH.nil
            rw [if_pos (by kernel_rfl)]
            refine wp_store_mid 60 (.tmp 9) (.tmp 27) rfl hA 0 csF.toArray (by kernel_rfl) (by kernel_rfl) (there_of_obj HOA.out (by simp [HLF.out.1, z60])) (by rw [info60]; simp [HLF.out.1]) HLF.out.2 ?_
            have hP : Hid (SObj (World.setCells wk4 hA 0 csF) hA 60 csF ∧ SObj (World.setCells wk4 hA 0 csF) hB 63 z38 ∧ Below w1.heap.size w1 (World.setCells wk4 hA 0 csF)) := Lib.hid ⟨SObj.putAll csF z60 [] 0 wk4 HOA.out (by rw [HLF.out.1]; rfl) rfl, SObj.farCells (fun e => hne e.symm) csF 0 HOB.out, below_cells2 hleA csF 0 _ hS4⟩
            (try rw [List.toList_toArray])
            generalize World.setCells _ _ _ _ = wk5 at hP ⊢
            refine hK.out _ _ hP.out.2.2 (fun hS5 => ?_)
            clear hK K
            (try simp only [Act.put, List.setIfInBounds_toArray, List.set_cons_zero, List.set_cons_succ])
            refine wpAnyH_ready (rs := [13]) (by kernel_rfl) (by simp) ?_
            refine AllReadyH.cons (o := ⟨none, .store 63 (.tmp 10) (.tmp 32), _, _, _, none⟩) rfl (fun K hK => ?_) AllReadyH.nil
            rw [if_pos (by kernel_rfl)]
            refine wp_store_mid 63 (.tmp 10) (.tmp 32) rfl hB 0 (fG o).toArray (by kernel_rfl) (by kernel_rfl) (there_of_obj hP.out.2.1 (by simp [(HLG.out o).1, z38])) (by rw [info63]; simp [(HLG.out o).1]) (HLG.out o).2 ?_
            have hP2 : Hid (SObj (World.setCells wk5 hB 0 (fG o)) hA 60 csF ∧ SObj (World.setCells wk5 hB 0 (fG o)) hB 63 (fG o) ∧ Below w1.heap.size w1 (World.setCells wk5 hB 0 (fG o))) := Lib.hid ⟨SObj.farCells hne (fG o) 0 hP.out.1, SObj.putAll (fG o) z38 [] 0 wk5 hP.out.2.1 (by rw [(HLG.out o).1]; rfl) rfl, below_cells2 hleB (fG o) 0 _ hP.out.2.2⟩
            (try rw [List.toList_toArray])
            generalize World.setCells _ _ _ _ = wk6 at hP2 ⊢
            refine hK.out _ _ hP2.out.2.2 (fun hS6 => ?_)
            clear hK K
            (try simp only [Act.put, List.setIfInBounds_toArray, List.set_cons_zero, List.set_cons_succ])
            refine wpAnyH_done (by kernel_rfl) ?_ _
            refine NoPanic.normal ?_
            go_wp2
            go_meet
            exact ⟨hA, hB, o, rfl, rfl, Lib.hid hP2.out⟩
        refine AllReadyH.cons (o := ⟨some 10, .alloc 63, _, _, _, none⟩) rfl (fun K hK => ?_) AllReadyH.nil
        · as_aux_lemma =>
          go_simp
          obtain ⟨hB, hh⟩ : ∃ x, x = wk2.heap.size := ⟨_, rfl⟩
          have hleB : w1.heap.size ≤ hB := by rw [hh]; exact hS2.size
          have hO : Hid (SObj (World.alloc wk2 (.cells z38.toArray 63)) hB 63 z38 ∧ Below w1.heap.size w1 (World.alloc wk2 (.cells z38.toArray 63))) := Lib.hid (by rw [hh]; exact ⟨obj_new _ _ _, hS2.alloc hS2.size _⟩)
          rw [← hh]
          clear hh
          unfold z38 at hO
          generalize World.alloc _ _ = wk3 at hO ⊢
          refine hK.out _ _ hO.out.2 (fun hS3 => ?_)
          have HOB : Hid (SObj wk3 hB 63 z38) := Lib.hid hO.out.1
          clear hK K
          (try simp only [Act.put, List.setIfInBounds_toArray, List.set_cons_zero, List.set_cons_succ])
          refine wpAnyH_ready (rs := [10]) (by kernel_rfl) (by simp) ?_
          refine AllReadyH.cons (o := ⟨some 9, .alloc 60, _, _, _, none⟩) rfl (fun K hK => ?_) AllReadyH.nil
          · as_aux_lemma =>
            go_simp
            obtain ⟨hA, hh⟩ : ∃ x, x = wk3.heap.size := ⟨_, rfl⟩
            have hleA : w1.heap.size ≤ hA := by rw [hh]; exact hS3.size
            have hO : Hid (SObj (World.alloc wk3 (.cells z60.toArray 60)) hA 60 z60 ∧ Below w1.heap.size w1 (World.alloc wk3 (.cells z60.toArray 60))) := Lib.hid (by rw [hh]; exact ⟨obj_new _ _ _, hS3.alloc hS3.size _⟩)
            have HOB := Lib.hid (HOB.out.alloc (.cells z60.toArray 60))
            rw [← hh]
            clear hh
            unfold z60 at hO HOB
            generalize World.alloc _ _ = wk4 at hO HOB ⊢
            refine hK.out _ _ hO.out.2 (fun hS4 => ?_)
            have HOA : Hid (SObj wk4 hA 60 z60) := Lib.hid hO.out.1
            have HOB : Hid (SObj wk4 hB 63 z38) := HOB
            clear hK K
            (try simp only [Act.put, List.setIfInBounds_toArray, List.set_cons_zero, List.set_cons_succ])
            have hne : hA ≠ hB := fun e => by
              have t1 := HOA.out.ty
              rw [e] at t1
              exact absurd (t1.inj HOB.out.ty) (by decide)
            refine wpAnyH_ready (rs := [12]) (by kernel_rfl) (by simp) ?_
            refine AllReadyH.cons (o := ⟨none, .store 60 (.tmp 9) (.tmp 27), _, _, _, none⟩) rfl (fun K hK => ?_) AllReadyH.nil
            rw [if_pos (by kernel_rfl)]
            refine wp_store_mid 60 (.tmp 9) (.tmp 27) rfl hA 0 csF.toArray (by kernel_rfl) (by kernel_rfl) (there_of_obj HOA.out (by simp [HLF.out.1, z60])) (by rw [info60]; simp [HLF.out.1]) HLF.out.2 ?_
            have hP : Hid (SObj (World.setCells wk4 hA 0 csF) hA 60 csF ∧ SObj (World.setCells wk4 hA 0 csF) hB 63 z38 ∧ Below w1.heap.size w1 (World.setCells wk4 hA 0 csF)) := Lib.hid ⟨SObj.putAll csF z60 [] 0 wk4 HOA.out (by rw [HLF.out.1]; rfl) rfl, SObj.farCells (fun e => hne e.symm) csF 0 HOB.out, below_cells2 hleA csF 0 _ hS4⟩
            (try rw [List.toList_toArray])
            generalize World.setCells _ _ _ _ = wk5 at hP ⊢
            refine hK.out _ _ hP.out.2.2 (fun hS5 => ?_)
            clear hK K
            (try simp only [Act.put, List.setIfInBounds_toArray, List.set_cons_zero, List.set_cons_succ])
            refine wpAnyH_ready (rs := [13]) (by kernel_rfl) (by simp) ?_
            refine AllReadyH.cons (o := ⟨none, .store 63 (.tmp 10) (.tmp 32), _, _, _, none⟩) rfl (fun K hK => ?_) AllReadyH.nil
            rw [if_pos (by kernel_rfl)]
            refine wp_store_mid 63 (.tmp 10) (.tmp 32) rfl hB 0 (fG o).toArray (by kernel_rfl) (by kernel_rfl) (there_of_obj hP.out.2.1 (by simp [(HLG.out o).1, z38])) (by rw [info63]; simp [(HLG.out o).1]) (HLG.out o).2 ?_
            have hP2 : Hid (SObj (World.setCells wk5 hB 0 (fG o)) hA 60 csF ∧ SObj (World.setCells wk5 hB 0 (fG o)) hB 63 (fG o) ∧ Below w1.heap.size w1 (World.setCells wk5 hB 0 (fG o))) := Lib.hid ⟨SObj.farCells hne (fG o) 0 hP.out.1, SObj.putAll (fG o) z38 [] 0 wk5 hP.out.2.1 (by rw [(HLG.out o).1]; rfl) rfl, below_cells2 hleB (fG o) 0 _ hP.out.2.2⟩
            (try rw [List.toList_toArray])
            generalize World.setCells _ _ _ _ = wk6 at hP2 ⊢
            refine hK.out _ _ hP2.out.2.2 (fun hS6 => ?_)
            clear hK K
            (try simp only [Act.put, List.setIfInBounds_toArray, List.set_cons_zero, List.set_cons_succ])
            refine wpAnyH_done (by kernel_rfl) ?_ _
            refine NoPanic.normal ?_
            go_wp2
            go_meet
            exact ⟨hA, hB, o, rfl, rfl, Lib.hid hP2.out⟩
      refine AllReadyH.cons (o := ⟨some 9, .alloc 60, _, _, _, none⟩) rfl (fun K hK => ?_) ?_
      · as_aux_lemma =>
        go_simp
        obtain ⟨hA, hh⟩ : ∃ x, x = wk1.heap.size := ⟨_, rfl⟩
        have hleA : w1.heap.size ≤ hA := by rw [hh]; exact hS1.size
        have hO : Hid (SObj (World.alloc wk1 (.cells z60.toArray 60)) hA 60 z60 ∧ Below w1.heap.size w1 (World.alloc wk1 (.cells z60.toArray 60))) := Lib.hid (by rw [hh]; exact ⟨obj_new _ _ _, hS1.alloc hS1.size _⟩)
        rw [← hh]
        clear hh
        unfold z60 at hO
        generalize World.alloc _ _ = wk2 at hO ⊢
        refine hK.out _ _ hO.out.2 (fun hS2 => ?_)
        have HOA : Hid (SObj wk2 hA 60 z60) := Lib.hid hO.out.1
        clear hK K
        (try simp only [Act.put, List.setIfInBounds_toArray, List.set_cons_zero, List.set_cons_succ])
        refine wpAnyH_ready (rs := [9, 11]) (by kernel_rfl) (by simp) ?_
        refine AllReadyH.cons (o := ⟨some 32, _, _, _, _, none⟩) rfl (fun K hK => ?_) ?_
        · as_aux_lemma =>
          go_simp
          go_at_call 27; refine (HCG.out _ hS2).mono ?_; rintro e wk3 ⟨⟨o, rfl⟩, hb⟩
          have HOA := Lib.hid (HOA.out.below hb HOA.out.lt)
          refine hK.out _ _ (below_step hb hS2 (Nat.le_refl _)) (fun hS3 => ?_)
          clear hK K
          (try simp only [Act.put, List.setIfInBounds_toArray, List.set_cons_zero, List.set_cons_succ])
          refine wpAnyH_ready (rs := [11]) (by kernel_rfl) (by simp) ?_
          refine AllReadyH.cons (o := ⟨some 10, .alloc 63, _, _, _, none⟩) rfl (fun K hK => ?_) AllReadyH.nil
          · as_aux_lemma =>
            go_simp
            obtain ⟨hB, hh⟩ : ∃ x, x = wk3.heap.size := ⟨_, rfl⟩
            have hleB : w1.heap.size ≤ hB := by rw [hh]; exact hS3.size
            have hO : Hid (SObj (World.alloc wk3 (.cells z38.toArray 63)) hB 63 z38 ∧ Below w1.heap.size w1 (World.alloc wk3 (.cells z38.toArray 63))) := Lib.hid (by rw [hh]; exact ⟨obj_new _ _ _, hS3.alloc hS3.size _⟩)
            have HOA := Lib.hid (HOA.out.alloc (.cells z38.toArray 63))
            rw [← hh]
            clear hh
            unfold z38 at hO HOA
            generalize World.alloc _ _ = wk4 at hO HOA ⊢
            refine hK.out _ _ hO.out.2 (fun hS4 => ?_)
            have HOB : Hid (SObj wk4 hB 63 z38) := Lib.hid hO.out.1
            have HOA : Hid (SObj wk4 hA 60 z60) := HOA
            clear hK K
            (try simp only [Act.put, List.setIfInBounds_toArray, List.set_cons_zero, List.set_cons_succ])
            have hne : hA ≠ hB := fun e => by
              have t1 := HOA.out.ty
              rw [e] at t1
              exact absurd (t1.inj HOB.out.ty) (by decide)
            refine wpAnyH_ready (rs := [12]) (by kernel_rfl) (by simp) ?_
            refine AllReadyH.cons (o := ⟨none, .store 60 (.tmp 9) (.tmp 27), _, _, _, none⟩) rfl (fun K hK => ?_) AllReadyH.nil
            rw [if_pos (by kernel_rfl)]
            refine wp_store_mid 60 (.tmp 9) (.tmp 27) rfl hA 0 csF.toArray (by kernel_rfl) (by kernel_rfl) (there_of_obj HOA.out (by simp [HLF.out.1, z60])) (by rw [info60]; simp [HLF.out.1]) HLF.out.2 ?_
            have hP : Hid (SObj (World.setCells wk4 hA 0 csF) hA 60 csF ∧ SObj (World.setCells wk4 hA 0 csF) hB 63 z38 ∧ Below w1.heap.size w1 (World.setCells wk4 hA 0 csF)) := Lib.hid ⟨SObj.putAll csF z60 [] 0 wk4 HOA.out (by rw [HLF.out.1]; rfl) rfl, SObj.farCells (fun e => hne e.symm) csF 0 HOB.out, below_cells2 hleA csF 0 _ hS4⟩
            (try rw [List.toList_toArray])
            generalize World.setCells _ _ _ _ = wk5 at hP ⊢
            refine hK.out _ _ hP.out.2.2 (fun hS5 => ?_)
            clear hK K
            (try simp only [Act.put, List.setIfInBounds_toArray, List.set_cons_zero, List.set_cons_succ])
            refine wpAnyH_ready (rs := [13]) (by kernel_rfl) (by simp) ?_
            refine AllReadyH.cons (o := ⟨none, .store 63 (.tmp 10) (.tmp 32), _, _, _, none⟩) rfl (fun K hK => ?_) AllReadyH.nil
            rw [if_pos (by kernel_rfl)]
            refine wp_store_mid 63 (.tmp 10) (.tmp 32) rfl hB 0 (fG o).toArray (by kernel_rfl) (by kernel_rfl) (there_of_obj hP.out.2.1 (by simp [(HLG.out o).1, z38])) (by rw [info63]; simp [(HLG.out o).1]) (HLG.out o).2 ?_
            have hP2 : Hid (SObj (World.setCells wk5 hB 0 (fG o)) hA 60 csF ∧ SObj (World.setCells wk5 hB 0 (fG o)) hB 63 (fG o) ∧ Below w1.heap.size w1 (World.setCells wk5 hB 0 (fG o))) := Lib.hid ⟨SObj.farCells hne (fG o) 0 hP.out.1, SObj.putAll (fG o) z38 [] 0 wk5 hP.out.2.1 (by rw [(HLG.out o).1]; rfl) rfl, below_cells2 hleB (fG o) 0 _ hP.out.2.2⟩
            (try rw [List.toList_toArray])
            generalize World.setCells _ _ _ _ = wk6 at hP2 ⊢
            refine hK.out _ _ hP2.out.2.2 (fun hS6 => ?_)
            clear hK K
            (try simp only [Act.put, List.setIfInBounds_toArray, List.set_cons_zero, List.set_cons_succ])
            refine wpAnyH_done (by kernel_rfl) ?_ _
            refine NoPanic.normal ?_
            go_wp2
            go_meet
            exact ⟨hA, hB, o, rfl, rfl, Lib.hid hP2.out⟩
        refine AllReadyH.cons (o := ⟨some 10, .alloc 63, _, _, _, none⟩) rfl (fun K hK => ?_) AllReadyH.nil
        · as_aux_lemma =>
          go_simp
          obtain ⟨hB, hh⟩ : ∃ x, x = wk2.heap.size := ⟨_, rfl⟩
          have hleB : w1.heap.size ≤ hB := by rw [hh]; exact hS2.size
          have hO : Hid (SObj (World.alloc wk2 (.cells z38.toArray 63)) hB 63 z38 ∧ Below w1.heap.size w1 (World.alloc wk2 (.cells z38.toArray 63))) := Lib.hid (by rw [hh]; exact ⟨obj_new _ _ _, hS2.alloc hS2.size _⟩)
          have HOA := Lib.hid (HOA.out.alloc (.cells z38.toArray 63))
          rw [← hh]
          clear hh
          unfold z38 at hO HOA
          generalize World.alloc _ _ = wk3 at hO HOA ⊢
          refine hK.out _ _ hO.out.2 (fun hS3 => ?_)
          have HOB : Hid (SObj wk3 hB 63 z38) := Lib.hid hO.out.1
          have HOA : Hid (SObj wk3 hA 60 z60) := HOA
          clear hK K
          (try simp only [Act.put, List.setIfInBounds_toArray, List.set_cons_zero, List.set_cons_succ])
          refine wpAnyH_ready (rs := [9]) (by kernel_rfl) (by simp) ?_
          refine AllReadyH.cons (o := ⟨some 32, _, _, _, _, none⟩) rfl (fun K hK => ?_) AllReadyH.nil
          · as_aux_lemma =>
            go_simp
            go_at_call 27; refine (HCG.out _ hS3).mono ?_; rintro e wk4 ⟨⟨o, rfl⟩, hb⟩
            have HOA := Lib.hid (HOA.out.below hb HOA.out.lt)
            have HOB := Lib.hid (HOB.out.below hb HOB.out.lt)
            refine hK.out _ _ (below_step hb hS3 (Nat.le_refl _)) (fun hS4 => ?_)
            clear hK K
            (try simp only [Act.put, List.setIfInBounds_toArray, List.set_cons_zero, List.set_cons_succ])
            have hne : hA ≠ hB := fun e => by
              have t1 := HOA.out.ty
              rw [e] at t1
              exact absurd (t1.inj HOB.out.ty) (by decide)
            refine wpAnyH_ready (rs := [12]) (by kernel_rfl) (by simp) ?_
            refine AllReadyH.cons (o := ⟨none, .store 60 (.tmp 9) (.tmp 27), _, _, _, none⟩) rfl (fun K hK => ?_) AllReadyH.nil
            rw [if_pos (by kernel_rfl)]
            refine wp_store_mid 60 (.tmp 9) (.tmp 27) rfl hA 0 csF.toArray (by kernel_rfl) (by kernel_rfl) (there_of_obj HOA.out (by simp [HLF.out.1, z60])) (by rw [info60]; simp [HLF.out.1]) HLF.out.2 ?_
            have hP : Hid (SObj (World.setCells wk4 hA 0 csF) hA 60 csF ∧ SObj (World.setCells wk4 hA 0 csF) hB 63 z38 ∧ Below w1.heap.size w1 (World.setCells wk4 hA 0 csF)) := Lib.hid ⟨SObj.putAll csF z60 [] 0 wk4 HOA.out (by rw [HLF.out.1]; rfl) rfl, SObj.farCells (fun e => hne e.symm) csF 0 HOB.out, below_cells2 hleA csF 0 _ hS4⟩
            (try rw [List.toList_toArray])
            generalize World.setCells _ _ _ _ = wk5 at hP ⊢
            refine hK.out _ _ hP.out.2.2 (fun hS5 => ?_)
            clear hK K
            (try simp only [Act.put, List.setIfInBounds_toArray, List.set_cons_zero, List.set_cons_succ])
            refine wpAnyH_ready (rs := [13]) (by kernel_rfl) (by simp) ?_
            refine AllReadyH.cons (o := ⟨none, .store 63 (.tmp 10) (.tmp 32), _, _, _, none⟩) rfl (fun K hK => ?_) AllReadyH.nil
            rw [if_pos (by kernel_rfl)]
            refine wp_store_mid 63 (.tmp 10) (.tmp 32) rfl hB 0 (fG o).toArray (by kernel_rfl) (by kernel_rfl) (there_of_obj hP.out.2.1 (by simp [(HLG.out o).1, z38])) (by rw [info63]; simp [(HLG.out o).1]) (HLG.out o).2 ?_
            have hP2 : Hid (SObj (World.setCells wk5 hB 0 (fG o)) hA 60 csF ∧ SObj (World.setCells wk5 hB 0 (fG o)) hB 63 (fG o) ∧ Below w1.heap.size w1 (World.setCells wk5 hB 0 (fG o))) := Lib.hid ⟨SObj.farCells hne (fG o) 0 hP.out.1, SObj.putAll (fG o) z38 [] 0 wk5 hP.out.2.1 (by rw [(HLG.out o).1]; rfl) rfl, below_cells2 hleB (fG o) 0 _ hP.out.2.2⟩
            (try rw [List.toList_toArray])
            generalize World.setCells _ _ _ _ = wk6 at hP2 ⊢
            refine hK.out _ _ hP2.out.2.2 (fun hS6 => ?_)
            clear hK K
            (try simp only [Act.put, List.setIfInBounds_toArray, List.set_cons_zero, List.set_cons_succ])
            refine wpAnyH_done (by kernel_rfl) ?_ _
            refine NoPanic.normal ?_
            go_wp2
            go_meet
            exact ⟨hA, hB, o, rfl, rfl, Lib.hid hP2.out⟩
      refine AllReadyH.cons (o := ⟨some 10, .alloc 63, _, _, _, none⟩) rfl (fun K hK => ?_) AllReadyH.nil
      · as_aux_lemma =>
        go_simp
        obtain ⟨hB, hh⟩ : ∃ x, x = wk1.heap.size := ⟨_, rfl⟩
        have hleB : w1.heap.size ≤ hB := by rw [hh]; exact hS1.size
        have hO : Hid (SObj (World.alloc wk1 (.cells z38.toArray 63)) hB 63 z38 ∧ Below w1.heap.size w1 (World.alloc wk1 (.cells z38.toArray 63))) := Lib.hid (by rw [hh]; exact ⟨obj_new _ _ _, hS1.alloc hS1.size _⟩)
        rw [← hh]
        clear hh
        unfold z38 at hO
        generalize World.alloc _ _ = wk2 at hO ⊢
        refine hK.out _ _ hO.out.2 (fun hS2 => ?_)
        have HOB : Hid (SObj wk2 hB 63 z38) := Lib.hid hO.out.1
        clear hK K
        (try simp only [Act.put, List.setIfInBounds_toArray, List.set_cons_zero, List.set_cons_succ])
        refine wpAnyH_ready (rs := [9, 10]) (by kernel_rfl) (by simp) ?_
        refine AllReadyH.cons (o := ⟨some 32, _, _, _, _, none⟩) rfl (fun K hK => ?_) ?_
        · as_aux_lemma =>
          go_simp
          go_at_call 27; refine (HCG.out _ hS2).mono ?_; rintro e wk3 ⟨⟨o, rfl⟩, hb⟩
          have HOB := Lib.hid (HOB.out.below hb HOB.out.lt)
          refine hK.out _ _ (below_step hb hS2 (Nat.le_refl _)) (fun hS3 => ?_)
          clear hK K
          (try simp only [Act.put, List.setIfInBounds_toArray, List.set_cons_zero, List.set_cons_succ])
          refine wpAnyH_ready (rs := [10]) (by kernel_rfl) (by simp) ?_
          refine AllReadyH.cons (o := ⟨some 9, .alloc 60, _, _, _, none⟩) rfl (fun K hK => ?_) AllReadyH.nil
          · as_aux_lemma =>
            go_simp
            obtain ⟨hA, hh⟩ : ∃ x, x = wk3.heap.size := ⟨_, rfl⟩
            have hleA : w1.heap.size ≤ hA := by rw [hh]; exact hS3.size
            have hO : Hid (SObj (World.alloc wk3 (.cells z60.toArray 60)) hA 60 z60 ∧ Below w1.heap.size w1 (World.alloc wk3 (.cells z60.toArray 60))) := Lib.hid (by rw [hh]; exact ⟨obj_new _ _ _, hS3.alloc hS3.size _⟩)
            have HOB := Lib.hid (HOB.out.alloc (.cells z60.toArray 60))
            rw [← hh]
            clear hh
            unfold z60 at hO HOB
            generalize World.alloc _ _ = wk4 at hO HOB ⊢
            refine hK.out _ _ hO.out.2 (fun hS4 => ?_)
            have HOA : Hid (SObj wk4 hA 60 z60) := Lib.hid hO.out.1
            have HOB : Hid (SObj wk4 hB 63 z38) := HOB
            clear hK K
            (try simp only [Act.put, List.setIfInBounds_toArray, List.set_cons_zero, List.set_cons_succ])
            have hne : hA ≠ hB := fun e => by
              have t1 := HOA.out.ty
              rw [e] at t1
              exact absurd (t1.inj HOB.out.ty) (by decide)
            refine wpAnyH_ready (rs := [12]) (by kernel_rfl) (by simp) ?_
            refine AllReadyH.cons (o := ⟨none, .store 60 (.tmp 9) (.tmp 27), _, _, _, none⟩) rfl (fun K hK => ?_) AllReadyH.nil
            rw [if_pos (by kernel_rfl)]
            refine wp_store_mid 60 (.tmp 9) (.tmp 27) rfl hA 0 csF.toArray (by kernel_rfl) (by kernel_rfl) (there_of_obj HOA.out (by simp [HLF.out.1, z60])) (by rw [info60]; simp [HLF.out.1]) HLF.out.2 ?_
            have hP : Hid (SObj (World.setCells wk4 hA 0 csF) hA 60 csF ∧ SObj (World.setCells wk4 hA 0 csF) hB 63 z38 ∧ Below w1.heap.size w1 (World.setCells wk4 hA 0 csF)) := Lib.hid ⟨SObj.putAll csF z60 [] 0 wk4 HOA.out (by rw [HLF.out.1]; rfl) rfl, SObj.farCells (fun e => hne e.symm) csF 0 HOB.out, below_cells2 hleA csF 0 _ hS4⟩
            (try rw [List.toList_toArray])
            generalize World.setCells _ _ _ _ = wk5 at hP ⊢
            refine hK.out _ _ hP.out.2.2 (fun hS5 => ?_)
            clear hK K
            (try simp only [Act.put, List.setIfInBounds_toArray, List.set_cons_zero, List.set_cons_succ])
            refine wpAnyH_ready (rs := [13]) (by kernel_rfl) (by simp) ?_
            refine AllReadyH.cons (o := ⟨none, .store 63 (.tmp 10) (.tmp 32), _, _, _, none⟩) rfl (fun K hK => ?_) AllReadyH.nil
            rw [if_pos (by kernel_rfl)]
            refine wp_store_mid 63 (.tmp 10) (.tmp 32) rfl hB 0 (fG o).toArray (by kernel_rfl) (by kernel_rfl) (there_of_obj hP.out.2.1 (by simp [(HLG.out o).1, z38])) (by rw [info63]; simp [(HLG.out o).1]) (HLG.out o).2 ?_
            have hP2 : Hid (SObj (World.setCells wk5 hB 0 (fG o)) hA 60 csF ∧ SObj (World.setCells wk5 hB 0 (fG o)) hB 63 (fG o) ∧ Below w1.heap.size w1 (World.setCells wk5 hB 0 (fG o))) := Lib.hid ⟨SObj.farCells hne (fG o) 0 hP.out.1, SObj.putAll (fG o) z38 [] 0 wk5 hP.out.2.1 (by rw [(HLG.out o).1]; rfl) rfl, below_cells2 hleB (fG o) 0 _ hP.out.2.2⟩
            (try rw [List.toList_toArray])
            generalize World.setCells _ _ _ _ = wk6 at hP2 ⊢
            refine hK.out _ _ hP2.out.2.2 (fun hS6 => ?_)
            clear hK K
            (try simp only [Act.put, List.setIfInBounds_toArray, List.set_cons_zero, List.set_cons_succ])
            refine wpAnyH_done (by kernel_rfl) ?_ _
            refine NoPanic.normal ?_
            go_wp2
            go_meet
            exact ⟨hA, hB, o, rfl, rfl, Lib.hid hP2.out⟩
        refine AllReadyH.cons (o := ⟨some 9, .alloc 60, _, _, _, none⟩) rfl (fun K hK => ?_) AllReadyH.nil
        · as_aux_lemma =>
          go_simp
          obtain ⟨hA, hh⟩ : ∃ x, x = wk2.heap.size := ⟨_, rfl⟩
          have hleA : w1.heap.size ≤ hA := by rw [hh]; exact hS2.size
          have hO : Hid (SObj (World.alloc wk2 (.cells z60.toArray 60)) hA 60 z60 ∧ Below w1.heap.size w1 (World.alloc wk2 (.cells z60.toArray 60))) := Lib.hid (by rw [hh]; exact ⟨obj_new _ _ _, hS2.alloc hS2.size _⟩)
          have HOB := Lib.hid (HOB.out.alloc (.cells z60.toArray 60))
          rw [← hh]
          clear hh
          unfold z60 at hO HOB
          generalize World.alloc _ _ = wk3 at hO HOB ⊢
          refine hK.out _ _ hO.out.2 (fun hS3 => ?_)
          have HOA : Hid (SObj wk3 hA 60 z60) := Lib.hid hO.out.1
          have HOB : Hid (SObj wk3 hB 63 z38) := HOB
          clear hK K
          (try simp only [Act.put, List.setIfInBounds_toArray, List.set_cons_zero, List.set_cons_succ])
          refine wpAnyH_ready (rs := [9]) (by kernel_rfl) (by simp) ?_
          refine AllReadyH.cons (o := ⟨some 32, _, _, _, _, none⟩) rfl (fun K hK => ?_) AllReadyH.nil
          · as_aux_lemma =>
            go_simp
            go_at_call 27; refine (HCG.out _ hS3).mono ?_; rintro e wk4 ⟨⟨o, rfl⟩, hb⟩
            have HOA := Lib.hid (HOA.out.below hb HOA.out.lt)
            have HOB := Lib.hid (HOB.out.below hb HOB.out.lt)
            refine hK.out _ _ (below_step hb hS3 (Nat.le_refl _)) (fun hS4 => ?_)
            clear hK K
            (try simp only [Act.put, List.setIfInBounds_toArray, List.set_cons_zero, List.set_cons_succ])
            have hne : hA ≠ hB := fun e => by
              have t1 := HOA.out.ty
              rw [e] at t1
              exact absurd (t1.inj HOB.out.ty) (by decide)
            refine wpAnyH_ready (rs := [12]) (by kernel_rfl) (by simp) ?_
            refine AllReadyH.cons (o := ⟨none, .store 60 (.tmp 9) (.tmp 27), _, _, _, none⟩) rfl (fun K hK => ?_) AllReadyH.nil
            rw [if_pos (by kernel_rfl)]
            refine wp_store_mid 60 (.tmp 9) (.tmp 27) rfl hA 0 csF.toArray (by kernel_rfl) (by kernel_rfl) (there_of_obj HOA.out (by simp [HLF.out.1, z60])) (by rw [info60]; simp [HLF.out.1]) HLF.out.2 ?_
            have hP : Hid (SObj (World.setCells wk4 hA 0 csF) hA 60 csF ∧ SObj (World.setCells wk4 hA 0 csF) hB 63 z38 ∧ Below w1.heap.size w1 (World.setCells wk4 hA 0 csF)) := Lib.hid ⟨SObj.putAll csF z60 [] 0 wk4 HOA.out (by rw [HLF.out.1]; rfl) rfl, SObj.farCells (fun e => hne e.symm) csF 0 HOB.out, below_cells2 hleA csF 0 _ hS4⟩
            (try rw [List.toList_toArray])
            generalize World.setCells _ _ _ _ = wk5 at hP ⊢
            refine hK.out _ _ hP.out.2.2 (fun hS5 => ?_)
            clear hK K
            (try simp only [Act.put, List.setIfInBounds_toArray, List.set_cons_zero, List.set_cons_succ])
            refine wpAnyH_ready (rs := [13]) (by kernel_rfl) (by simp) ?_
            refine AllReadyH.cons (o := ⟨none, .store 63 (.tmp 10) (.tmp 32), _, _, _, none⟩) rfl (fun K hK => ?_) AllReadyH.nil
            rw [if_pos (by kernel_rfl)]
            refine wp_store_mid 63 (.tmp 10) (.tmp 32) rfl hB 0 (fG o).toArray (by kernel_rfl) (by kernel_rfl) (there_of_obj hP.out.2.1 (by simp [(HLG.out o).1, z38])) (by rw [info63]; simp [(HLG.out o).1]) (HLG.out o).2 ?_
            have hP2 : Hid (SObj (World.setCells wk5 hB 0 (fG o)) hA 60 csF ∧ SObj (World.setCells wk5 hB 0 (fG o)) hB 63 (fG o) ∧ Below w1.heap.size w1 (World.setCells wk5 hB 0 (fG o))) := Lib.hid ⟨SObj.farCells hne (fG o) 0 hP.out.1, SObj.putAll (fG o) z38 [] 0 wk5 hP.out.2.1 (by rw [(HLG.out o).1]; rfl) rfl, below_cells2 hleB (fG o) 0 _ hP.out.2.2⟩
            (try rw [List.toList_toArray])
            generalize World.setCells _ _ _ _ = wk6 at hP2 ⊢
            refine hK.out _ _ hP2.out.2.2 (fun hS6 => ?_)
            clear hK K
            (try simp only [Act.put, List.setIfInBounds_toArray, List.set_cons_zero, List.set_cons_succ])
            refine wpAnyH_done (by kernel_rfl) ?_ _
            refine NoPanic.normal ?_
            go_wp2
            go_meet
            exact ⟨hA, hB, o, rfl, rfl, Lib.hid hP2.out⟩
    refine AllReadyH.cons (o := ⟨some 9, .alloc 60, _, _, _, none⟩) rfl (fun K hK => ?_) ?_
    · as_aux_lemma =>
      go_simp
      obtain ⟨hA, hh⟩ : ∃ x, x = wk0.heap.size := ⟨_, rfl⟩
      have hleA : w1.heap.size ≤ hA := by rw [hh]; exact hS0.size
      have hO : Hid (SObj (World.alloc wk0 (.cells z60.toArray 60)) hA 60 z60 ∧ Below w1.heap.size w1 (World.alloc wk0 (.cells z60.toArray 60))) := Lib.hid (by rw [hh]; exact ⟨obj_new _ _ _, hS0.alloc hS0.size _⟩)
      rw [← hh]
      clear hh
      unfold z60 at hO
      generalize World.alloc _ _ = wk1 at hO ⊢
      refine hK.out _ _ hO.out.2 (fun hS1 => ?_)
      have HOA : Hid (SObj wk1 hA 60 z60) := Lib.hid hO.out.1
      clear hK K
      (try simp only [Act.put, List.setIfInBounds_toArray, List.set_cons_zero, List.set_cons_succ])
      refine wpAnyH_ready (rs := [4, 11]) (by kernel_rfl) (by simp) ?_
      refine AllReadyH.cons (o := ⟨some 27, _, _, _, _, none⟩) rfl (fun K hK => ?_) ?_
      · as_aux_lemma =>
        go_simp
        go_at_call 26; refine (HCF.out _ hS1).mono ?_; rintro e wk2 ⟨rfl, hb⟩
        have HOA := Lib.hid (HOA.out.below hb HOA.out.lt)
        refine hK.out _ _ (below_step hb hS1 (Nat.le_refl _)) (fun hS2 => ?_)
        clear hK K
        (try simp only [Act.put, List.setIfInBounds_toArray, List.set_cons_zero, List.set_cons_succ])
        refine wpAnyH_ready (rs := [9, 11]) (by kernel_rfl) (by simp) ?_
        refine AllReadyH.cons (o := ⟨some 32, _, _, _, _, none⟩) rfl (fun K hK => ?_) ?_
        · as_aux_lemma =>
          go_simp
          go_at_call 27; refine (HCG.out _ hS2).mono ?_; rintro e wk3 ⟨⟨o, rfl⟩, hb⟩
          have HOA := Lib.hid (HOA.out.below hb HOA.out.lt)
          refine hK.out _ _ (below_step hb hS2 (Nat.le_refl _)) (fun hS3 => ?_)
          clear hK K
          (try simp only [Act.put, List.setIfInBounds_toArray, List.set_cons_zero, List.set_cons_succ])
          refine wpAnyH_ready (rs := [11]) (by kernel_rfl) (by simp) ?_
          refine AllReadyH.cons (o := ⟨some 10, .alloc 63, _, _, _, none⟩) rfl (fun K hK => ?_) AllReadyH.nil
          · as_aux_lemma =>
            go_simp
            obtain ⟨hB, hh⟩ : ∃ x, x = wk3.heap.size := ⟨_, rfl⟩
            have hleB : w1.heap.size ≤ hB := by rw [hh]; exact hS3.size
            have hO : Hid (SObj (World.alloc wk3 (.cells z38.toArray 63)) hB 63 z38 ∧ Below w1.heap.size w1 (World.alloc wk3 (.cells z38.toArray 63))) := Lib.hid (by rw [hh]; exact ⟨obj_new _ _ _, hS3.alloc hS3.size _⟩)
            have HOA := Lib.hid (HOA.out.alloc (.cells z38.toArray 63))
            rw [← hh]
            clear hh
            unfold z38 at hO HOA
            generalize World.alloc _ _ = wk4 at hO HOA ⊢
            refine hK.out _ _ hO.out.2 (fun hS4 => ?_)
            have HOB : Hid (SObj wk4 hB 63 z38) := Lib.hid hO.out.1
            have HOA : Hid (SObj wk4 hA 60 z60) := HOA
            clear hK K
            (try simp only [Act.put, List.setIfInBounds_toArray, List.set_cons_zero, List.set_cons_succ])
            have hne : hA ≠ hB := fun e => by
              have t1 := HOA.out.ty
              rw [e] at t1
              exact absurd (t1.inj HOB.out.ty) (by decide)
            refine wpAnyH_ready (rs := [12]) (by kernel_rfl) (by simp) ?_
            refine AllReadyH.cons (o := ⟨none, .store 60 (.tmp 9) (.tmp 27), _, _, _, none⟩) rfl (fun K hK => ?_) AllReadyH.nil
            rw [if_pos (by kernel_rfl)]
            refine wp_store_mid 60 (.tmp 9) (.tmp 27) rfl hA 0 csF.toArray (by kernel_rfl) (by kernel_rfl) (there_of_obj HOA.out (by simp [HLF.out.1, z60])) (by rw [info60]; simp [HLF.out.1]) HLF.out.2 ?_
            have hP : Hid (SObj (World.setCells wk4 hA 0 csF) hA 60 csF ∧ SObj (World.setCells wk4 hA 0 csF) hB 63 z38 ∧ Below w1.heap.size w1 (World.setCells wk4 hA 0 csF)) := Lib.hid ⟨SObj.putAll csF z60 [] 0 wk4 HOA.out (by rw [HLF.out.1]; rfl) rfl, SObj.farCells (fun e => hne e.symm) csF 0 HOB.out, below_cells2 hleA csF 0 _ hS4⟩
            (try rw [List.toList_toArray])
            generalize World.setCells _ _ _ _ = wk5 at hP ⊢
            refine hK.out _ _ hP.out.2.2 (fun hS5 => ?_)
            clear hK K
            (try simp only [Act.put, List.setIfInBounds_toArray, List.set_cons_zero, List.set_cons_succ])
            refine wpAnyH_ready (rs := [13]) (by kernel_rfl) (by simp) ?_
            refine AllReadyH.cons (o := ⟨none, .store 63 (.tmp 10) (.tmp 32), _, _, _, none⟩) rfl (fun K hK => ?_) AllReadyH.nil
            rw [if_pos (by kernel_rfl)]
            refine wp_store_mid 63 (.tmp 10) (.tmp 32) rfl hB 0 (fG o).toArray (by kernel_rfl) (by kernel_rfl) (there_of_obj hP.out.2.1 (by simp [(HLG.out o).1, z38])) (by rw [info63]; simp [(HLG.out o).1]) (HLG.out o).2 ?_
            have hP2 : Hid (SObj (World.setCells wk5 hB 0 (fG o)) hA 60 csF ∧ SObj (World.setCells wk5 hB 0 (fG o)) hB 63 (fG o) ∧ Below w1.heap.size w1 (World.setCells wk5 hB 0 (fG o))) := Lib.hid ⟨SObj.farCells hne (fG o) 0 hP.out.1, SObj.putAll (fG o) z38 [] 0 wk5 hP.out.2.1 (by rw [(HLG.out o).1]; rfl) rfl, below_cells2 hleB (fG o) 0 _ hP.out.2.2⟩
            (try rw [List.toList_toArray])
            generalize World.setCells _ _ _ _ = wk6 at hP2 ⊢
            refine hK.out _ _ hP2.out.2.2 (fun hS6 => ?_)
            clear hK K
            (try simp only [Act.put, List.setIfInBounds_toArray, List.set_cons_zero, List.set_cons_succ])
            refine wpAnyH_done (by kernel_rfl) ?_ _
            refine NoPanic.normal ?_
            go_wp2
            go_meet
            exact ⟨hA, hB, o, rfl, rfl, Lib.hid hP2.out⟩
        refine AllReadyH.cons (o := ⟨some 10, .alloc 63, _, _, _, none⟩) rfl (fun K hK => ?_) AllReadyH.nil
        · as_aux_lemma =>
          go_simp
          obtain ⟨hB, hh⟩ : ∃ x, x = wk2.heap.size := ⟨_, rfl⟩
          have hleB : w1.heap.size ≤ hB := by rw [hh]; exact hS2.size
          have hO : Hid (SObj (World.alloc wk2 (.cells z38.toArray 63)) hB 63 z38 ∧ Below w1.heap.size w1 (World.alloc wk2 (.cells z38.toArray 63))) := Lib.hid (by rw [hh]; exact ⟨obj_new _ _ _, hS2.alloc hS2.size _⟩)
          have HOA := Lib.hid (HOA.out.alloc (.cells z38.toArray 63))
          rw [← hh]
          clear hh
          unfold z38 at hO HOA
          generalize World.alloc _ _ = wk3 at hO HOA ⊢
          refine hK.out _ _ hO.out.2 (fun hS3 => ?_)
          have HOB : Hid (SObj wk3 hB 63 z38) := Lib.hid hO.out.1
          have HOA : Hid (SObj wk3 hA 60 z60) := HOA
          clear hK K
          (try simp only [Act.put, List.setIfInBounds_toArray, List.set_cons_zero, List.set_cons_succ])
          refine wpAnyH_ready (rs := [9]) (by kernel_rfl) (by simp) ?_
          refine AllReadyH.cons (o := ⟨some 32, _, _, _, _, none⟩) rfl (fun K hK => ?_) AllReadyH.nil
          · as_aux_lemma =>
            go_simp
            go_at_call 27; refine (HCG.out _ hS3).mono ?_; rintro e wk4 ⟨⟨o, rfl⟩, hb⟩
            have HOA := Lib.hid (HOA.out.below hb HOA.out.lt)
            have HOB := Lib.hid (HOB.out.below hb HOB.out.lt)
            refine hK.out _ _ (below_step hb hS3 (Nat.le_refl _)) (fun hS4 => ?_)
            clear hK K
            (try simp only [Act.put, List.setIfInBounds_toArray, List.set_cons_zero, List.set_cons_succ])
            have hne : hA ≠ hB := fun e => by
              have t1 := HOA.out.ty
              rw [e] at t1
              exact absurd (t1.inj HOB.out.ty) (by decide)
            refine wpAnyH_ready (rs := [12]) (by kernel_rfl) (by simp) ?_
            refine AllReadyH.cons (o := ⟨none, .store 60 (.tmp 9) (.tmp 27), _, _, _, none⟩) rfl (fun K hK => ?_) AllReadyH.nil
            rw [if_pos (by kernel_rfl)]
            refine wp_store_mid 60 (.tmp 9) (.tmp 27) rfl hA 0 csF.toArray (by kernel_rfl) (by kernel_rfl) (there_of_obj HOA.out (by simp [HLF.out.1, z60])) (by rw [info60]; simp [HLF.out.1]) HLF.out.2 ?_
            have hP : Hid (SObj (World.setCells wk4 hA 0 csF) hA 60 csF ∧ SObj (World.setCells wk4 hA 0 csF) hB 63 z38 ∧ Below w1.heap.size w1 (World.setCells wk4 hA 0 csF)) := Lib.hid ⟨SObj.putAll csF z60 [] 0 wk4 HOA.out (by rw [HLF.out.1]; rfl) rfl, SObj.farCells (fun e => hne e.symm) csF 0 HOB.out, below_cells2 hleA csF 0 _ hS4⟩
            (try rw [List.toList_toArray])
            generalize World.setCells _ _ _ _ = wk5 at hP ⊢
            refine hK.out _ _ hP.out.2.2 (fun hS5 => ?_)
            clear hK K
            (try simp only [Act.put, List.setIfInBounds_toArray, List.set_cons_zero, List.set_cons_succ])
            refine wpAnyH_ready (rs := [13]) (by kernel_rfl) (by simp) ?_
            refine AllReadyH.cons (o := ⟨none, .store 63 (.tmp 10) (.tmp 32), _, _, _, none⟩) rfl (fun K hK => ?_) AllReadyH.nil
            rw [if_pos (by kernel_rfl)]
            refine wp_store_mid 63 (.tmp 10) (.tmp 32) rfl hB 0 (fG o).toArray (by kernel_rfl) (by kernel_rfl) (there_of_obj hP.out.2.1 (by simp [(HLG.out o).1, z38])) (by rw [info63]; simp [(HLG.out o).1]) (HLG.out o).2 ?_
            have hP2 : Hid (SObj (World.setCells wk5 hB 0 (fG o)) hA 60 csF ∧ SObj (World.setCells wk5 hB 0 (fG o)) hB 63 (fG o) ∧ Below w1.heap.size w1 (World.setCells wk5 hB 0 (fG o))) := Lib.hid ⟨SObj.farCells hne (fG o) 0 hP.out.1, SObj.putAll (fG o) z38 [] 0 wk5 hP.out.2.1 (by rw [(HLG.out o).1]; rfl) rfl, below_cells2 hleB (fG o) 0 _ hP.out.2.2⟩
            (try rw [List.toList_toArray])
            generalize World.setCells _ _ _ _ = wk6 at hP2 ⊢
            refine hK.out _ _ hP2.out.2.2 (fun hS6 => ?_)
            clear hK K
            (try simp only [Act.put, List.setIfInBounds_toArray, List.set_cons_zero, List.set_cons_succ])
            refine wpAnyH_done (by kernel_rfl) ?_ _
            refine NoPanic.normal ?_
            go_wp2
            go_meet
            exact ⟨hA, hB, o, rfl, rfl, Lib.hid hP2.out⟩
      refine AllReadyH.cons (o := ⟨some 10, .alloc 63, _, _, _, none⟩) rfl (fun K hK => ?_) AllReadyH.nil
      · as_aux_lemma =>
        go_simp
        obtain ⟨hB, hh⟩ : ∃ x, x = wk1.heap.size := ⟨_, rfl⟩
        have hleB : w1.heap.size ≤ hB := by rw [hh]; exact hS1.size
        have hO : Hid (SObj (World.alloc wk1 (.cells z38.toArray 63)) hB 63 z38 ∧ Below w1.heap.size w1 (World.alloc wk1 (.cells z38.toArray 63))) := Lib.hid (by rw [hh]; exact ⟨obj_new _ _ _, hS1.alloc hS1.size _⟩)
        have HOA := Lib.hid (HOA.out.alloc (.cells z38.toArray 63))
        rw [← hh]
        clear hh
        unfold z38 at hO HOA
        generalize World.alloc _ _ = wk2 at hO HOA ⊢
        refine hK.out _ _ hO.out.2 (fun hS2 => ?_)
        have HOB : Hid (SObj wk2 hB 63 z38) := Lib.hid hO.out.1
        have HOA : Hid (SObj wk2 hA 60 z60) := HOA
        clear hK K
        (try simp only [Act.put, List.setIfInBounds_toArray, List.set_cons_zero, List.set_cons_succ])
        refine wpAnyH_ready (rs := [4]) (by kernel_rfl) (by simp) ?_
        refine AllReadyH.cons (o := ⟨some 27, _, _, _, _, none⟩) rfl (fun K hK => ?_) AllReadyH.nil
        · as_aux_lemma =>
          go_simp
          go_at_call 26; refine (HCF.out _ hS2).mono ?_; rintro e wk3 ⟨rfl, hb⟩
          have HOA := Lib.hid (HOA.out.below hb HOA.out.lt)
          have HOB := Lib.hid (HOB.out.below hb HOB.out.lt)
          refine hK.out _ _ (below_step hb hS2 (Nat.le_refl _)) (fun hS3 => ?_)
          clear hK K
          (try simp only [Act.put, List.setIfInBounds_toArray, List.set_cons_zero, List.set_cons_succ])
          refine wpAnyH_ready (rs := [9]) (by kernel_rfl) (by simp) ?_
          refine AllReadyH.cons (o := ⟨some 32, _, _, _, _, none⟩) rfl (fun K hK => ?_) AllReadyH.nil
          · as_aux_lemma =>
            go_simp
            go_at_call 27; refine (HCG.out _ hS3).mono ?_; rintro e wk4 ⟨⟨o, rfl⟩, hb⟩
            have HOA := Lib.hid (HOA.out.below hb HOA.out.lt)
            have HOB := Lib.hid (HOB.out.below hb HOB.out.lt)
            refine hK.out _ _ (below_step hb hS3 (Nat.le_refl _)) (fun hS4 => ?_)
            clear hK K
            (try simp only [Act.put, List.setIfInBounds_toArray, List.set_cons_zero, List.set_cons_succ])
            have hne : hA ≠ hB := fun e => by
              have t1 := HOA.out.ty
              rw [e] at t1
              exact absurd (t1.inj HOB.out.ty) (by decide)
            refine wpAnyH_ready (rs := [12]) (by kernel_rfl) (by simp) ?_
            refine AllReadyH.cons (o := ⟨none, .store 60 (.tmp 9) (.tmp 27), _, _, _, none⟩) rfl (fun K hK => ?_) AllReadyH.nil
            rw [if_pos (by kernel_rfl)]
            refine wp_store_mid 60 (.tmp 9) (.tmp 27) rfl hA 0 csF.toArray (by kernel_rfl) (by kernel_rfl) (there_of_obj HOA.out (by simp [HLF.out.1, z60])) (by rw [info60]; simp [HLF.out.1]) HLF.out.2 ?_
            have hP : Hid (SObj (World.setCells wk4 hA 0 csF) hA 60 csF ∧ SObj (World.setCells wk4 hA 0 csF) hB 63 z38 ∧ Below w1.heap.size w1 (World.setCells wk4 hA 0 csF)) := Lib.hid ⟨SObj.putAll csF z60 [] 0 wk4 HOA.out (by rw [HLF.out.1]; rfl) rfl, SObj.farCells (fun e => hne e.symm) csF 0 HOB.out, below_cells2 hleA csF 0 _ hS4⟩
            (try rw [List.toList_toArray])
            generalize World.setCells _ _ _ _ = wk5 at hP ⊢
            refine hK.out _ _ hP.out.2.2 (fun hS5 => ?_)
            clear hK K
            (try simp only [Act.put, List.setIfInBounds_toArray, List.set_cons_zero, List.set_cons_succ])
            refine wpAnyH_ready (rs := [13]) (by kernel_rfl) (by simp) ?_
            refine AllReadyH.cons (o := ⟨none, .store 63 (.tmp 10) (.tmp 32), _, _, _, none⟩) rfl (fun K hK => ?_) AllReadyH.nil
            rw [if_pos (by kernel_rfl)]
            refine wp_store_mid 63 (.tmp 10) (.tmp 32) rfl hB 0 (fG o).toArray (by kernel_rfl) (by kernel_rfl) (there_of_obj hP.out.2.1 (by simp [(HLG.out o).1, z38])) (by rw [info63]; simp [(HLG.out o).1]) (HLG.out o).2 ?_
            have hP2 : Hid (SObj (World.setCells wk5 hB 0 (fG o)) hA 60 csF ∧ SObj (World.setCells wk5 hB 0 (fG o)) hB 63 (fG o) ∧ Below w1.heap.size w1 (World.setCells wk5 hB 0 (fG o))) := Lib.hid ⟨SObj.farCells hne (fG o) 0 hP.out.1, SObj.putAll (fG o) z38 [] 0 wk5 hP.out.2.1 (by rw [(HLG.out o).1]; rfl) rfl, below_cells2 hleB (fG o) 0 _ hP.out.2.2⟩
            (try rw [List.toList_toArray])
            generalize World.setCells _ _ _ _ = wk6 at hP2 ⊢
            refine hK.out _ _ hP2.out.2.2 (fun hS6 => ?_)
            clear hK K
            (try simp only [Act.put, List.setIfInBounds_toArray, List.set_cons_zero, List.set_cons_succ])
            refine wpAnyH_done (by kernel_rfl) ?_ _
            refine NoPanic.normal ?_
            go_wp2
            go_meet
            exact ⟨hA, hB, o, rfl, rfl, Lib.hid hP2.out⟩
    refine AllReadyH.cons (o := ⟨some 10, .alloc 63, _, _, _, none⟩) rfl (fun K hK => ?_) AllReadyH.nil
    · as_aux_lemma =>
      go_simp
      obtain ⟨hB, hh⟩ : ∃ x, x = wk0.heap.size := ⟨_, rfl⟩
      have hleB : w1.heap.size ≤ hB := by rw [hh]; exact hS0.size
      have hO : Hid (SObj (World.alloc wk0 (.cells z38.toArray 63)) hB 63 z38 ∧ Below w1.heap.size w1 (World.alloc wk0 (.cells z38.toArray 63))) := Lib.hid (by rw [hh]; exact ⟨obj_new _ _ _, hS0.alloc hS0.size _⟩)
      rw [← hh]
      clear hh
      unfold z38 at hO
      generalize World.alloc _ _ = wk1 at hO ⊢
      refine hK.out _ _ hO.out.2 (fun hS1 => ?_)
      have HOB : Hid (SObj wk1 hB 63 z38) := Lib.hid hO.out.1
      clear hK K
      (try simp only [Act.put, List.setIfInBounds_toArray, List.set_cons_zero, List.set_cons_succ])
      refine wpAnyH_ready (rs := [4, 10]) (by kernel_rfl) (by simp) ?_
      refine AllReadyH.cons (o := ⟨some 27, _, _, _, _, none⟩) rfl (fun K hK => ?_) ?_
      · as_aux_lemma =>
        go_simp
        go_at_call 26; refine (HCF.out _ hS1).mono ?_; rintro e wk2 ⟨rfl, hb⟩
        have HOB := Lib.hid (HOB.out.below hb HOB.out.lt)
        refine hK.out _ _ (below_step hb hS1 (Nat.le_refl _)) (fun hS2 => ?_)
        clear hK K
        (try simp only [Act.put, List.setIfInBounds_toArray, List.set_cons_zero, List.set_cons_succ])
        refine wpAnyH_ready (rs := [9, 10]) (by kernel_rfl) (by simp) ?_
        refine AllReadyH.cons (o := ⟨some 32, _, _, _, _, none⟩) rfl (fun K hK => ?_) ?_
        · as_aux_lemma =>
          go_simp
          go_at_call 27; refine (HCG.out _ hS2).mono ?_; rintro e wk3 ⟨⟨o, rfl⟩, hb⟩
          have HOB := Lib.hid (HOB.out.below hb HOB.out.lt)
          refine hK.out _ _ (below_step hb hS2 (Nat.le_refl _)) (fun hS3 => ?_)
          clear hK K
          (try simp only [Act.put, List.setIfInBounds_toArray, List.set_cons_zero, List.set_cons_succ])
          refine wpAnyH_ready (rs := [10]) (by kernel_rfl) (by simp) ?_
          refine AllReadyH.cons (o := ⟨some 9, .alloc 60, _, _, _, none⟩) rfl (fun K hK => ?_) AllReadyH.nil
          · as_aux_lemma =>
            go_simp
            obtain ⟨hA, hh⟩ : ∃ x, x = wk3.heap.size := ⟨_, rfl⟩
            have hleA : w1.heap.size ≤ hA := by rw [hh]; exact hS3.size
            have hO : Hid (SObj (World.alloc wk3 (.cells z60.toArray 60)) hA 60 z60 ∧ Below w1.heap.size w1 (World.alloc wk3 (.cells z60.toArray 60))) := Lib.hid (by rw [hh]; exact ⟨obj_new _ _ _, hS3.alloc hS3.size _⟩)
            have HOB := Lib.hid (HOB.out.alloc (.cells z60.toArray 60))
            rw [← hh]
            clear hh
            unfold z60 at hO HOB
            generalize World.alloc _ _ = wk4 at hO HOB ⊢
            refine hK.out _ _ hO.out.2 (fun hS4 => ?_)
            have HOA : Hid (SObj wk4 hA 60 z60) := Lib.hid hO.out.1
            have HOB : Hid (SObj wk4 hB 63 z38) := HOB
            clear hK K
            (try simp only [Act.put, List.setIfInBounds_toArray, List.set_cons_zero, List.set_cons_succ])
            have hne : hA ≠ hB := fun e => by
              have t1 := HOA.out.ty
              rw [e] at t1
              exact absurd (t1.inj HOB.out.ty) (by decide)
            refine wpAnyH_ready (rs := [12]) (by kernel_rfl) (by simp) ?_
            refine AllReadyH.cons (o := ⟨none, .store 60 (.tmp 9) (.tmp 27), _, _, _, none⟩) rfl (fun K hK => ?_) AllReadyH.nil
            rw [if_pos (by kernel_rfl)]
            refine wp_store_mid 60 (.tmp 9) (.tmp 27) rfl hA 0 csF.toArray (by kernel_rfl) (by kernel_rfl) (there_of_obj HOA.out (by simp [HLF.out.1, z60])) (by rw [info60]; simp [HLF.out.1]) HLF.out.2 ?_
            have hP : Hid (SObj (World.setCells wk4 hA 0 csF) hA 60 csF ∧ SObj (World.setCells wk4 hA 0 csF) hB 63 z38 ∧ Below w1.heap.size w1 (World.setCells wk4 hA 0 csF)) := Lib.hid ⟨SObj.putAll csF z60 [] 0 wk4 HOA.out (by rw [HLF.out.1]; rfl) rfl, SObj.farCells (fun e => hne e.symm) csF 0 HOB.out, below_cells2 hleA csF 0 _ hS4⟩
            (try rw [List.toList_toArray])
            generalize World.setCells _ _ _ _ = wk5 at hP ⊢
            refine hK.out _ _ hP.out.2.2 (fun hS5 => ?_)
            clear hK K
            (try simp only [Act.put, List.setIfInBounds_toArray, List.set_cons_zero, List.set_cons_succ])
            refine wpAnyH_ready (rs := [13]) (by kernel_rfl) (by simp) ?_
            refine AllReadyH.cons (o := ⟨none, .store 63 (.tmp 10) (.tmp 32), _, _, _, none⟩) rfl (fun K hK => ?_) AllReadyH.nil
            rw [if_pos (by kernel_rfl)]
            refine wp_store_mid 63 (.tmp 10) (.tmp 32) rfl hB 0 (fG o).toArray (by kernel_rfl) (by kernel_rfl) (there_of_obj hP.out.2.1 (by simp [(HLG.out o).1, z38])) (by rw [info63]; simp [(HLG.out o).1]) (HLG.out o).2 ?_
            have hP2 : Hid (SObj (World.setCells wk5 hB 0 (fG o)) hA 60 csF ∧ SObj (World.setCells wk5 hB 0 (fG o)) hB 63 (fG o) ∧ Below w1.heap.size w1 (World.setCells wk5 hB 0 (fG o))) := Lib.hid ⟨SObj.farCells hne (fG o) 0 hP.out.1, SObj.putAll (fG o) z38 [] 0 wk5 hP.out.2.1 (by rw [(HLG.out o).1]; rfl) rfl, below_cells2 hleB (fG o) 0 _ hP.out.2.2⟩
            (try rw [List.toList_toArray])
            generalize World.setCells _ _ _ _ = wk6 at hP2 ⊢
            refine hK.out _ _ hP2.out.2.2 (fun hS6 => ?_)
            clear hK K
            (try simp only [Act.put, List.setIfInBounds_toArray, List.set_cons_zero, List.set_cons_succ])
            refine wpAnyH_done (by kernel_rfl) ?_ _
            refine NoPanic.normal ?_
            go_wp2
            go_meet
            exact ⟨hA, hB, o, rfl, rfl, Lib.hid hP2.out⟩
        refine AllReadyH.cons (o := ⟨some 9, .alloc 60, _, _, _, none⟩) rfl (fun K hK => ?_) AllReadyH.nil
        · as_aux_lemma =>
          go_simp
          obtain ⟨hA, hh⟩ : ∃ x, x = wk2.heap.size := ⟨_, rfl⟩
          have hleA : w1.heap.size ≤ hA := by rw [hh]; exact hS2.size
          have hO : Hid (SObj (World.alloc wk2 (.cells z60.toArray 60)) hA 60 z60 ∧ Below w1.heap.size w1 (World.alloc wk2 (.cells z60.toArray 60))) := Lib.hid (by rw [hh]; exact ⟨obj_new _ _ _, hS2.alloc hS2.size _⟩)
          have HOB := Lib.hid (HOB.out.alloc (.cells z60.toArray 60))
          rw [← hh]
          clear hh
          unfold z60 at hO HOB
          generalize World.alloc _ _ = wk3 at hO HOB ⊢
          refine hK.out _ _ hO.out.2 (fun hS3 => ?_)
          have HOA : Hid (SObj wk3 hA 60 z60) := Lib.hid hO.out.1
          have HOB : Hid (SObj wk3 hB 63 z38) := HOB
          clear hK K
          (try simp only [Act.put, List.setIfInBounds_toArray, List.set_cons_zero, List.set_cons_succ])
          refine wpAnyH_ready (rs := [9]) (by kernel_rfl) (by simp) ?_
          refine AllReadyH.cons (o := ⟨some 32, _, _, _, _, none⟩) rfl (fun K hK => ?_) AllReadyH.nil
          · as_aux_lemma =>
            go_simp
            go_at_call 27; refine (HCG.out _ hS3).mono ?_; rintro e wk4 ⟨⟨o, rfl⟩, hb⟩
            have HOA := Lib.hid (HOA.out.below hb HOA.out.lt)
            have HOB := Lib.hid (HOB.out.below hb HOB.out.lt)
            refine hK.out _ _ (below_step hb hS3 (Nat.le_refl _)) (fun hS4 => ?_)
            clear hK K
            (try simp only [Act.put, List.setIfInBounds_toArray, List.set_cons_zero, List.set_cons_succ])
            have hne : hA ≠ hB := fun e => by
              have t1 := HOA.out.ty
              rw [e] at t1
              exact absurd (t1.inj HOB.out.ty) (by decide)
            refine wpAnyH_ready (rs := [12]) (by kernel_rfl) (by simp) ?_
            refine AllReadyH.cons (o := ⟨none, .store 60 (.tmp 9) (.tmp 27), _, _, _, none⟩) rfl (fun K hK => ?_) AllReadyH.nil
            rw [if_pos (by kernel_rfl)]
            refine wp_store_mid 60 (.tmp 9) (.tmp 27) rfl hA 0 csF.toArray (by kernel_rfl) (by kernel_rfl) (there_of_obj HOA.out (by simp [HLF.out.1, z60])) (by rw [info60]; simp [HLF.out.1]) HLF.out.2 ?_
            have hP : Hid (SObj (World.setCells wk4 hA 0 csF) hA 60 csF ∧ SObj (World.setCells wk4 hA 0 csF) hB 63 z38 ∧ Below w1.heap.size w1 (World.setCells wk4 hA 0 csF)) := Lib.hid ⟨SObj.putAll csF z60 [] 0 wk4 HOA.out (by rw [HLF.out.1]; rfl) rfl, SObj.farCells (fun e => hne e.symm) csF 0 HOB.out, below_cells2 hleA csF 0 _ hS4⟩
            (try rw [List.toList_toArray])
            generalize World.setCells _ _ _ _ = wk5 at hP ⊢
            refine hK.out _ _ hP.out.2.2 (fun hS5 => ?_)
            clear hK K
            (try simp only [Act.put, List.setIfInBounds_toArray, List.set_cons_zero, List.set_cons_succ])
            refine wpAnyH_ready (rs := [13]) (by kernel_rfl) (by simp) ?_
            refine AllReadyH.cons (o := ⟨none, .store 63 (.tmp 10) (.tmp 32), _, _, _, none⟩) rfl (fun K hK => ?_) AllReadyH.nil
            rw [if_pos (by kernel_rfl)]
            refine wp_store_mid 63 (.tmp 10) (.tmp 32) rfl hB 0 (fG o).toArray (by kernel_rfl) (by kernel_rfl) (there_of_obj hP.out.2.1 (by simp [(HLG.out o).1, z38])) (by rw [info63]; simp [(HLG.out o).1]) (HLG.out o).2 ?_
            have hP2 : Hid (SObj (World.setCells wk5 hB 0 (fG o)) hA 60 csF ∧ SObj (World.setCells wk5 hB 0 (fG o)) hB 63 (fG o) ∧ Below w1.heap.size w1 (World.setCells wk5 hB 0 (fG o))) := Lib.hid ⟨SObj.farCells hne (fG o) 0 hP.out.1, SObj.putAll (fG o) z38 [] 0 wk5 hP.out.2.1 (by rw [(HLG.out o).1]; rfl) rfl, below_cells2 hleB (fG o) 0 _ hP.out.2.2⟩
            (try rw [List.toList_toArray])
            generalize World.setCells _ _ _ _ = wk6 at hP2 ⊢
            refine hK.out _ _ hP2.out.2.2 (fun hS6 => ?_)
            clear hK K
            (try simp only [Act.put, List.setIfInBounds_toArray, List.set_cons_zero, List.set_cons_succ])
            refine wpAnyH_done (by kernel_rfl) ?_ _
            refine NoPanic.normal ?_
            go_wp2
            go_meet
            exact ⟨hA, hB, o, rfl, rfl, Lib.hid hP2.out⟩
      refine AllReadyH.cons (o := ⟨some 9, .alloc 60, _, _, _, none⟩) rfl (fun K hK => ?_) AllReadyH.nil
      · as_aux_lemma =>
        go_simp
        obtain ⟨hA, hh⟩ : ∃ x, x = wk1.heap.size := ⟨_, rfl⟩
        have hleA : w1.heap.size ≤ hA := by rw [hh]; exact hS1.size
        have hO : Hid (SObj (World.alloc wk1 (.cells z60.toArray 60)) hA 60 z60 ∧ Below w1.heap.size w1 (World.alloc wk1 (.cells z60.toArray 60))) := Lib.hid (by rw [hh]; exact ⟨obj_new _ _ _, hS1.alloc hS1.size _⟩)
        have HOB := Lib.hid (HOB.out.alloc (.cells z60.toArray 60))
        rw [← hh]
        clear hh
        unfold z60 at hO HOB
        generalize World.alloc _ _ = wk2 at hO HOB ⊢
        refine hK.out _ _ hO.out.2 (fun hS2 => ?_)
        have HOA : Hid (SObj wk2 hA 60 z60) := Lib.hid hO.out.1
        have HOB : Hid (SObj wk2 hB 63 z38) := HOB
        clear hK K
        (try simp only [Act.put, List.setIfInBounds_toArray, List.set_cons_zero, List.set_cons_succ])
        refine wpAnyH_ready (rs := [4]) (by kernel_rfl) (by simp) ?_
        refine AllReadyH.cons (o := ⟨some 27, _, _, _, _, none⟩) rfl (fun K hK => ?_) AllReadyH.nil
        · as_aux_lemma =>
          go_simp
          go_at_call 26; refine (HCF.out _ hS2).mono ?_; rintro e wk3 ⟨rfl, hb⟩
          have HOA := Lib.hid (HOA.out.below hb HOA.out.lt)
          have HOB := Lib.hid (HOB.out.below hb HOB.out.lt)
          refine hK.out _ _ (below_step hb hS2 (Nat.le_refl _)) (fun hS3 => ?_)
          clear hK K
          (try simp only [Act.put, List.setIfInBounds_toArray, List.set_cons_zero, List.set_cons_succ])
          refine wpAnyH_ready (rs := [9]) (by kernel_rfl) (by simp) ?_
          refine AllReadyH.cons (o := ⟨some 32, _, _, _, _, none⟩) rfl (fun K hK => ?_) AllReadyH.nil
          · as_aux_lemma =>
            go_simp
            go_at_call 27; refine (HCG.out _ hS3).mono ?_; rintro e wk4 ⟨⟨o, rfl⟩, hb⟩
            have HOA := Lib.hid (HOA.out.below hb HOA.out.lt)
            have HOB := Lib.hid (HOB.out.below hb HOB.out.lt)
            refine hK.out _ _ (below_step hb hS3 (Nat.le_refl _)) (fun hS4 => ?_)
            clear hK K
            (try simp only [Act.put, List.setIfInBounds_toArray, List.set_cons_zero, List.set_cons_succ])
            have hne : hA ≠ hB := fun e => by
              have t1 := HOA.out.ty
              rw [e] at t1
              exact absurd (t1.inj HOB.out.ty) (by decide)
            refine wpAnyH_ready (rs := [12]) (by kernel_rfl) (by simp) ?_
            refine AllReadyH.cons (o := ⟨none, .store 60 (.tmp 9) (.tmp 27), _, _, _, none⟩) rfl (fun K hK => ?_) AllReadyH.nil
            rw [if_pos (by kernel_rfl)]
            refine wp_store_mid 60 (.tmp 9) (.tmp 27) rfl hA 0 csF.toArray (by kernel_rfl) (by kernel_rfl) (there_of_obj HOA.out (by simp [HLF.out.1, z60])) (by rw [info60]; simp [HLF.out.1]) HLF.out.2 ?_
            have hP : Hid (SObj (World.setCells wk4 hA 0 csF) hA 60 csF ∧ SObj (World.setCells wk4 hA 0 csF) hB 63 z38 ∧ Below w1.heap.size w1 (World.setCells wk4 hA 0 csF)) := Lib.hid ⟨SObj.putAll csF z60 [] 0 wk4 HOA.out (by rw [HLF.out.1]; rfl) rfl, SObj.farCells (fun e => hne e.symm) csF 0 HOB.out, below_cells2 hleA csF 0 _ hS4⟩
            (try rw [List.toList_toArray])
            generalize World.setCells _ _ _ _ = wk5 at hP ⊢
            refine hK.out _ _ hP.out.2.2 (fun hS5 => ?_)
            clear hK K
            (try simp only [Act.put, List.setIfInBounds_toArray, List.set_cons_zero, List.set_cons_succ])
            refine wpAnyH_ready (rs := [13]) (by kernel_rfl) (by simp) ?_
            refine AllReadyH.cons (o := ⟨none, .store 63 (.tmp 10) (.tmp 32), _, _, _, none⟩) rfl (fun K hK => ?_) AllReadyH.nil
            rw [if_pos (by kernel_rfl)]
            refine wp_store_mid 63 (.tmp 10) (.tmp 32) rfl hB 0 (fG o).toArray (by kernel_rfl) (by kernel_rfl) (there_of_obj hP.out.2.1 (by simp [(HLG.out o).1, z38])) (by rw [info63]; simp [(HLG.out o).1]) (HLG.out o).2 ?_
            have hP2 : Hid (SObj (World.setCells wk5 hB 0 (fG o)) hA 60 csF ∧ SObj (World.setCells wk5 hB 0 (fG o)) hB 63 (fG o) ∧ Below w1.heap.size w1 (World.setCells wk5 hB 0 (fG o))) := Lib.hid ⟨SObj.farCells hne (fG o) 0 hP.out.1, SObj.putAll (fG o) z38 [] 0 wk5 hP.out.2.1 (by rw [(HLG.out o).1]; rfl) rfl, below_cells2 hleB (fG o) 0 _ hP.out.2.2⟩
            (try rw [List.toList_toArray])
            generalize World.setCells _ _ _ _ = wk6 at hP2 ⊢
            refine hK.out _ _ hP2.out.2.2 (fun hS6 => ?_)
            clear hK K
            (try simp only [Act.put, List.setIfInBounds_toArray, List.set_cons_zero, List.set_cons_succ])
            refine wpAnyH_done (by kernel_rfl) ?_ _
            refine NoPanic.normal ?_
            go_wp2
            go_meet
            exact ⟨hA, hB, o, rfl, rfl, Lib.hid hP2.out⟩
  case rest =>
    rcases hcut with ⟨hA, hB, o, rfl, rfl, HC⟩
    as_aux_lemma =>
      clear k0 k1 k2 k3
      have HB1 : Hid (Below w.heap.size w wc) := Lib.hid (H1.out.2.1.trans (HC.out.2.2.mono H1.out.2.1.size))
      have HRW := Lib.hid (HRB.out wc HB1.out)
      obtain ⟨eof, heof⟩ : ∃ e, e = vp.2.eof := ⟨_, rfl⟩
      have c44 : wc.cell? ⟨hA, 44, none⟩ = some (.bool eof) := HC.out.1.cell 44 (by rw [H.out.2.2.1, heof]; rfl)
      have g37 : wc.cell? ⟨hB, 37, none⟩ = some (.bool o) := HC.out.2.1.cell 37 (by rw [H.out.2.2.2.1]; rfl)
      have HEF := Lib.hid heof; clear heof
      cases eof with
      | true => as_aux_lemma =>
        go_wp2_with (first | (refine HRW.out.mono ?_; rintro _ w3 ⟨rfl, b3⟩; have H3 := Lib.hid b3; clear b3))
        go_ret
        exact ⟨rfl, H3.out⟩
      | false => as_aux_lemma =>
        cases o with
        | true => as_aux_lemma =>
          go_wp2_with (first | (refine HRW.out.mono ?_; rintro _ w3 ⟨rfl, b3⟩; have H3 := Lib.hid b3; clear b3))
          go_ret
          exact ⟨rfl, H3.out⟩
        | false => as_aux_lemma =>
          have HE : FGeq vp.1 vs.1 := H.out.2.2.2.2 HEF.out.symm
          obtain ⟨d, hd⟩ : ∃ d, d = (!(OO u r vs.1.level vs.1.deltas vs.1.ref vs.1.mode (lv4 s0 s1 s2 s3) 8)) := ⟨_, rfl⟩
          obtain ⟨P, hP⟩ : ∃ P, P = PP u r vs.1.level vs.1.sharp vs.1.deltas vs.1.ref vs.1.mode (lv4 s0 s1 s2 s3) := ⟨_, rfl⟩
          have g36 : wc.cell? ⟨hB, 36, none⟩ = some (.bool d) := HC.out.2.1.cell 36 (by rw [H.out.2.2.2.1, hd]; rfl)
          obtain ⟨csP, hcsP⟩ : ∃ cs, cs = dQL P := ⟨_, rfl⟩
          have HLP : Hid (csP.length = 24) := Lib.hid (by rw [hcsP]; rfl)
          have HRG : Hid (wc.rangeAt hB 12 csP) := Lib.hid (fun j v hv => HC.out.2.1.cell (12 + j) (by
            have hj : j < 24 := by have := (List.getElem?_eq_some_iff.1 hv).1; rw [HLP.out] at this; exact this
            rw [← hv, hcsP, hP, H.out.2.2.2.1]
            show (([.bool vs.1.simple, .int .i64 vs.1.level, .int .i64 vs.1.sharp, .bool vs.1.deltas, .int .i64 (vs.1.ref 0), .int .i64 (vs.1.ref 1), .int .i64 (vs.1.ref 2), .int .i64 (vs.1.ref 3), .int .i64 (vs.1.mode 0), .int .i64 (vs.1.mode 1), .int .i64 (vs.1.mode 2), .int .i64 (vs.1.mode 3)] : List Value) ++ (dQL (PP u r vs.1.level vs.1.sharp vs.1.deltas vs.1.ref vs.1.mode (lv4 s0 s1 s2 s3)) ++ _))[12 + j]? = _
            rw [List.getElem?_append_right (by simp), List.getElem?_append_left (by simp; exact hj)]
            simp))
          have HRF : d = true → Hid (wc.rangeAt hA 12 csP) := fun e => Lib.hid (by
            have hO : OO u r vs.1.level vs.1.deltas vs.1.ref vs.1.mode (lv4 s0 s1 s2 s3) 8 = false := by rw [e] at hd; simpa using hd.symm
            have hQ : ∀ m k, m < 8 → QF u r vp.1 (fun i => ([s0, s1, s2, s3] : List Int).getD i 0) m k = P m k := fun m k hm => by
              have hO' : OO u r vp.1.level vp.1.deltas vp.1.ref vp.1.mode (lv4 s0 s1 s2 s3) 8 = false := by
                rw [← hO]
                have : ∀ n, OO u r vp.1.level vp.1.deltas vp.1.ref vp.1.mode (lv4 s0 s1 s2 s3) n = OO u r vs.1.level vs.1.deltas vs.1.ref vs.1.mode (lv4 s0 s1 s2 s3) n := by
                  intro n
                  induction n with
                  | zero => rfl
                  | succ n ih => unfold OO; rw [ih]; unfold NN MM; rw [HE.level, HE.deltas, HE.ref 0 (by omega), HE.mode 0 (by omega)]
                exact this 8
              have := q_eq u r vp.1 (lv4 s0 s1 s2 s3) hO' m k hm
              rw [hP]
              refine this.trans ?_
              unfold PP NN MM
              rw [HE.level, HE.sharp, HE.deltas, HE.ref 0 (by omega), HE.mode 0 (by omega)]
            intro j v hv
            refine HC.out.1.cell (12 + j) ?_
            have hj : j < 24 := by have := (List.getElem?_eq_some_iff.1 hv).1; rw [HLP.out] at this; exact this
            rw [← hv, hcsP, H.out.2.2.1]
            have hq : dQL (QF u r vp.1 (fun i => ([s0, s1, s2, s3] : List Int).getD i 0)) = dQL P := by
              unfold dQL
              simp only [hQ _ _ (show 0 < 8 by omega), hQ _ _ (show 1 < 8 by omega), hQ _ _ (show 2 < 8 by omega), hQ _ _ (show 3 < 8 by omega), hQ _ _ (show 4 < 8 by omega), hQ _ _ (show 5 < 8 by omega), hQ _ _ (show 6 < 8 by omega), hQ _ _ (show 7 < 8 by omega)]
            rw [← hq]
            show (([.bool vp.1.simple, .int .i64 vp.1.level, .int .i64 vp.1.sharp, .bool vp.1.deltas, .int .i64 (vp.1.ref 0), .int .i64 (vp.1.ref 1), .int .i64 (vp.1.ref 2), .int .i64 (vp.1.ref 3), .int .i64 (vp.1.mode 0), .int .i64 (vp.1.mode 1), .int .i64 (vp.1.mode 2), .int .i64 (vp.1.mode 3)] : List Value) ++ (dQL (QF u r vp.1 (fun i => ([s0, s1, s2, s3] : List Int).getD i 0)) ++ _))[12 + j]? = _
            rw [List.getElem?_append_right (by simp), List.getElem?_append_left (by simp; exact hj)]
            simp)
          have HCP := Lib.hid hcsP; clear hcsP hP hd
          have cf0 : wc.cell? ⟨hA, 0, none⟩ = some (.bool vs.1.simple) := HC.out.1.cell 0 (by rw [H.out.2.2.1, ← HE.simple]; rfl)
          have cg0 : wc.cell? ⟨hB, 0, none⟩ = some (.bool vs.1.simple) := HC.out.2.1.cell 0 (by rw [H.out.2.2.2.1]; rfl)
          have cf1 : wc.cell? ⟨hA, 1, none⟩ = some (.int .i64 vs.1.level) := HC.out.1.cell 1 (by rw [H.out.2.2.1, ← HE.level]; rfl)
          have cg1 : wc.cell? ⟨hB, 1, none⟩ = some (.int .i64 vs.1.level) := HC.out.2.1.cell 1 (by rw [H.out.2.2.2.1]; rfl)
          have cf2 : wc.cell? ⟨hA, 2, none⟩ = some (.int .i64 vs.1.sharp) := HC.out.1.cell 2 (by rw [H.out.2.2.1, ← HE.sharp]; rfl)
          have cg2 : wc.cell? ⟨hB, 2, none⟩ = some (.int .i64 vs.1.sharp) := HC.out.2.1.cell 2 (by rw [H.out.2.2.2.1]; rfl)
          have cf3 : wc.cell? ⟨hA, 3, none⟩ = some (.bool vs.1.deltas) := HC.out.1.cell 3 (by rw [H.out.2.2.1, ← HE.deltas]; rfl)
          have cg3 : wc.cell? ⟨hB, 3, none⟩ = some (.bool vs.1.deltas) := HC.out.2.1.cell 3 (by rw [H.out.2.2.2.1]; rfl)
          have cf4 : wc.cell? ⟨hA, 4, none⟩ = some (.int .i64 (vs.1.ref 0)) := HC.out.1.cell 4 (by rw [H.out.2.2.1, ← HE.ref 0 (by omega)]; rfl)
          have cg4 : wc.cell? ⟨hB, 4, none⟩ = some (.int .i64 (vs.1.ref 0)) := HC.out.2.1.cell 4 (by rw [H.out.2.2.2.1]; rfl)
          have cf5 : wc.cell? ⟨hA, 5, none⟩ = some (.int .i64 (vs.1.ref 1)) := HC.out.1.cell 5 (by rw [H.out.2.2.1, ← HE.ref 1 (by omega)]; rfl)
          have cg5 : wc.cell? ⟨hB, 5, none⟩ = some (.int .i64 (vs.1.ref 1)) := HC.out.2.1.cell 5 (by rw [H.out.2.2.2.1]; rfl)
          have cf6 : wc.cell? ⟨hA, 6, none⟩ = some (.int .i64 (vs.1.ref 2)) := HC.out.1.cell 6 (by rw [H.out.2.2.1, ← HE.ref 2 (by omega)]; rfl)
          have cg6 : wc.cell? ⟨hB, 6, none⟩ = some (.int .i64 (vs.1.ref 2)) := HC.out.2.1.cell 6 (by rw [H.out.2.2.2.1]; rfl)
          have cf7 : wc.cell? ⟨hA, 7, none⟩ = some (.int .i64 (vs.1.ref 3)) := HC.out.1.cell 7 (by rw [H.out.2.2.1, ← HE.ref 3 (by omega)]; rfl)
          have cg7 : wc.cell? ⟨hB, 7, none⟩ = some (.int .i64 (vs.1.ref 3)) := HC.out.2.1.cell 7 (by rw [H.out.2.2.2.1]; rfl)
          have cf8 : wc.cell? ⟨hA, 8, none⟩ = some (.int .i64 (vs.1.mode 0)) := HC.out.1.cell 8 (by rw [H.out.2.2.1, ← HE.mode 0 (by omega)]; rfl)
          have cg8 : wc.cell? ⟨hB, 8, none⟩ = some (.int .i64 (vs.1.mode 0)) := HC.out.2.1.cell 8 (by rw [H.out.2.2.2.1]; rfl)
          have cf9 : wc.cell? ⟨hA, 9, none⟩ = some (.int .i64 (vs.1.mode 1)) := HC.out.1.cell 9 (by rw [H.out.2.2.1, ← HE.mode 1 (by omega)]; rfl)
          have cg9 : wc.cell? ⟨hB, 9, none⟩ = some (.int .i64 (vs.1.mode 1)) := HC.out.2.1.cell 9 (by rw [H.out.2.2.2.1]; rfl)
          have cf10 : wc.cell? ⟨hA, 10, none⟩ = some (.int .i64 (vs.1.mode 2)) := HC.out.1.cell 10 (by rw [H.out.2.2.1, ← HE.mode 2 (by omega)]; rfl)
          have cg10 : wc.cell? ⟨hB, 10, none⟩ = some (.int .i64 (vs.1.mode 2)) := HC.out.2.1.cell 10 (by rw [H.out.2.2.2.1]; rfl)
          have cf11 : wc.cell? ⟨hA, 11, none⟩ = some (.int .i64 (vs.1.mode 3)) := HC.out.1.cell 11 (by rw [H.out.2.2.1, ← HE.mode 3 (by omega)]; rfl)
          have cg11 : wc.cell? ⟨hB, 11, none⟩ = some (.int .i64 (vs.1.mode 3)) := HC.out.2.1.cell 11 (by rw [H.out.2.2.2.1]; rfl)
          clear HE
          obtain ⟨sm, hsm⟩ : ∃ x, x = vs.1.simple := ⟨_, rfl⟩
          obtain ⟨lv, hlv⟩ : ∃ x, x = vs.1.level := ⟨_, rfl⟩
          obtain ⟨sh, hsh⟩ : ∃ x, x = vs.1.sharp := ⟨_, rfl⟩
          obtain ⟨dl, hdl⟩ : ∃ x, x = vs.1.deltas := ⟨_, rfl⟩
          obtain ⟨rf, hrf⟩ : ∃ x, x = vs.1.ref := ⟨_, rfl⟩
          obtain ⟨md, hmd⟩ : ∃ x, x = vs.1.mode := ⟨_, rfl⟩
          rw [← hsm] at cf0 cg0
          rw [← hlv] at cf1 cg1
          rw [← hsh] at cf2 cg2
          rw [← hdl] at cf3 cg3
          rw [← hrf] at cf4 cg4 cf5 cg5 cf6 cg6 cf7 cg7
          rw [← hmd] at cf8 cg8 cf9 cg9 cf10 cg10 cf11 cg11
          clear hsm hlv hsh hdl hrf hmd
          have kn1 := neq4 (rf 0) (rf 1) (rf 2) (rf 3)
          have kn2 := neq4 (md 0) (md 1) (md 2) (md 3)
          cases d with
          | false => as_aux_lemma =>
            clear HRF
            go_wp2_with (first | (refine HRW.out.mono ?_; rintro _ w3 ⟨rfl, b3⟩; have H3 := Lib.hid b3; clear b3))
            go_ret
            exact ⟨rfl, H3.out⟩
          | true => as_aux_lemma =>
            have HRF := HRF rfl
            have HI := Lib.hid (show (Tryd.prog.info? 56).map (·.size) = some csP.length by rw [info56, HLP.out])
            go_upto_region 10 with fail
            clear cf0 cg0 cf1 cg1 cf2 cg2 cf3 cg3 cf4 cg4 cf5 cg5 cf6 cg6 cf7 cg7 cf8 cg8 cf9 cg9 cf10 cg10 cf11 cg11 kn1 kn2 c44 g37
            as_aux_lemma =>
              go_wp2_with (first | (refine wpList_wanted_load_mid 56 (.tmp 84) rfl hA 12 rfl csP _ HRF.out Tryd.underlying56 rfl HI.out (by kernel_rfl) ?_) | (refine wpList_wanted_load_mid 56 (.tmp 86) rfl hB 12 rfl csP _ HRG.out Tryd.underlying56 rfl HI.out (by kernel_rfl) ?_))
              as_aux_lemma =>
                refine (limits_any P csP HCP.out _).mono ?_
                rintro _ w3 ⟨rfl, b3⟩
                have H3 := Lib.hid (HB1.out.trans (b3.mono HB1.out.size)); clear b3
                go_wp2_with fail
                refine (HRB.out w3 H3.out).mono ?_
                rintro _ w4 ⟨rfl, b4⟩
                have H4 := Lib.hid b4; clear b4
                go_wp2
                go_ret
                exact ⟨rfl, H4.out⟩
theorem fnFilters_walk (w : World) (ht : Tabs w) (a0 : Option Addr) (n0 c0 : Nat) (z0 : List Int) (h0 : IsRow .u8 w a0 n0 c0 z0) (u r : Bool) (st : Nat → Int) (wf : ∀ i, i < 4 → (Lit.int .i64 (st i)).wf = true) :
    Calls Tryd.prog 8 #[.slice a0 n0 c0, .bool u, .bool r, .agg (cellsOf .i64 4 st).toArray] w fun e w' => e = .returned (.bool true) ∧ Below w.heap.size w w' := by
  have h2 := ht.two
  have m0 : n0 ≤ 9223372036854775807 := by have := h0.arg.2.1; have := h0.arg.2.2.1; unfold maxLen at this; omega
  obtain ⟨zs, hl, hrow, hz⟩ := h0.bytes
  clear h0
  have eA : (Value.agg (cellsOf .i64 4 st).toArray) = .agg #[.int .i64 (st 0), .int .i64 (st 1), .int .i64 (st 2), .int .i64 (st 3)] := rfl
  rw [eA]
  clear eA
  obtain ⟨s0, hs0⟩ : ∃ x, x = st 0 := ⟨_, rfl⟩
  obtain ⟨s1, hs1⟩ : ∃ x, x = st 1 := ⟨_, rfl⟩
  obtain ⟨s2, hs2⟩ : ∃ x, x = st 2 := ⟨_, rfl⟩
  obtain ⟨s3, hs3⟩ : ∃ x, x = st 3 := ⟨_, rfl⟩
  rw [← hs0, ← hs1, ← hs2, ← hs3]
  clear hs0 hs1 hs2 hs3 wf
  obtain ⟨w1, hw1⟩ : ∃ x, x = w.alloc (.cells #[.int .i64 s0, .int .i64 s1, .int .i64 s2, .int .i64 s3] 40) := ⟨_, rfl⟩
  have H1 : Hid (SObj w1 w.heap.size 40 [.int .i64 s0, .int .i64 s1, .int .i64 s2, .int .i64 s3] ∧ Below w.heap.size w w1 ∧ w1.heap.size = w.heap.size + 1) := Lib.hid (by rw [hw1]; exact ⟨obj_new w _ [.int .i64 s0, .int .i64 s1, .int .i64 s2, .int .i64 s3], (Below.refl _ _).alloc (Nat.le_refl _) _, by simp⟩)
  have HRB : Hid (∀ wk, Below w.heap.size w wk → Calls Tryd.prog 11 #[] wk fun e w' => e = .returned (.bool true) ∧ Below w.heap.size w w') := Lib.hid (fun wk hb => (readBool_any _ (ht.below h2 hb) (by have := hb.size; omega)).mono fun _ _ ⟨e, h⟩ => ⟨e, hb.trans (h.mono hb.size)⟩)
  by_cases b0 : 2147483647 < n0
  · clear hl hrow hz ht HRB
    go_enter Tryd.func8, Tryd.ntmps8
    go_wp2_with fail
    rw [← hw1]
    clear hw1
    go_ret
    exact ⟨rfl, H1.out.2.1⟩
  cases hw : isWr n0 zs with
  | false =>
    have H := Lib.hid (And.intro ht (And.intro hrow hw)); clear ht hl hrow hz hw
    go_enter Tryd.func8, Tryd.ntmps8
    go_wp2_with fail
    rw [← hw1]
    clear hw1
    refine (isWritten_any a0 n0 c0 zs w1 (H.out.2.1.below H1.out.2.1) (by omega)).mono ?_
    rintro _ _ ⟨rfl, rfl⟩
    rw [H.out.2.2]
    go_wp2_with fail
    refine (HRB.out w1 H1.out.2.1).mono ?_
    rintro _ w3 ⟨rfl, b3⟩
    have H3 := Lib.hid b3; clear b3
    go_wp2
    go_ret
    exact ⟨rfl, H3.out⟩
  | true =>
    by_cases hin : (-63 ≤ s0 ∧ s0 ≤ 63) ∧ (-63 ≤ s1 ∧ s1 ≤ 63) ∧ (-63 ≤ s2 ∧ s2 ≤ 63) ∧ (-63 ≤ s3 ∧ s3 ≤ 63)
    · obtain ⟨⟨a1, a2⟩, ⟨b1, b2⟩, ⟨d1, d2⟩, e1, e2⟩ := hin
      exact fnFilters_good w ht a0 n0 c0 zs u r s0 s1 s2 s3 hl hrow hz hw a1 a2 b1 b2 d1 d2 e1 e2
    · have HS4 : Hid (Arg .i64 w1 (some ⟨w.heap.size, 0, none⟩) 4 (lv4 s0 s1 s2 s3)) := Lib.hid (fun _ => ⟨w.heap.size, 0, rfl, by rw [H1.out.2.2]; omega, fun i hi => by
        rw [Nat.zero_add]
        have : i = 0 ∨ i = 1 ∨ i = 2 ∨ i = 3 := by omega
        rcases this with rfl | rfl | rfl | rfl
        · exact H1.out.1.cell 0 rfl
        · exact H1.out.1.cell 1 rfl
        · exact H1.out.1.cell 2 rfl
        · exact H1.out.1.cell 3 rfl⟩)
      have HIR : Hid (inR (lv4 s0 s1 s2 s3) (-63) 63 4 = false) := Lib.hid (by
        cases h : inR (lv4 s0 s1 s2 s3) (-63) 63 4 with
        | false => rfl
        | true =>
          have := inR_true.1 h
          exact absurd ⟨this 0 (by omega), this 1 (by omega), this 2 (by omega), this 3 (by omega)⟩ hin)
      clear hin
      have H := Lib.hid (And.intro ht (And.intro hrow hw)); clear ht hl hrow hz hw
      go_enter Tryd.func8, Tryd.ntmps8
      go_wp2_with fail
      rw [← hw1]
      clear hw1
      refine (isWritten_any a0 n0 c0 zs w1 (H.out.2.1.below H1.out.2.1) (by omega)).mono ?_
      rintro _ _ ⟨rfl, rfl⟩
      rw [H.out.2.2]
      go_wp2_with fail
      refine (inRange_any _ 4 4 (lv4 s0 s1 s2 s3) (-63) 63 w1 HS4.out (by omega)).mono ?_
      rintro _ _ ⟨rfl, rfl⟩
      rw [HIR.out]
      go_wp2_with fail
      refine (HRB.out w1 H1.out.2.1).mono ?_
      rintro _ w3 ⟨rfl, b3⟩
      have H3 := Lib.hid b3; clear b3
      go_wp2
      go_ret
      exact ⟨rfl, H3.out⟩
end Go.Proofs.YthmkmemocjnleaaDoor
