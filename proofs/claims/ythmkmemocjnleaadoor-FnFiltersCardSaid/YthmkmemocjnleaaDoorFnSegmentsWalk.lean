/- The walk of FnSegments. -/
import Derived.Test.YthmkmemocjnleaaDoorSegL
import Derived.Test.YthmkmemocjnleaaDoorSegB
import Derived.ChangeKeysEq
import Derived.Laws.StructEq
namespace Go.Proofs.YthmkmemocjnleaaDoor
open Go.RowKit
set_option linter.unusedVariables false

theorem prG_bd {σ : Type} (step : σ → Int → Bool × σ) (s : σ) : 0 ≤ (prG step s).1 ∧ (prG step s).1 ≤ 255 := by
  have hb := bitsG_range step 128 8 0 (step s 128).2
  simp only [Int.zero_mul, Int.zero_add, Int.one_mul] at hb
  unfold prG
  split
  · omega
  · simp
theorem segG_bd {σ : Type} (step : σ → Int → Bool × σ) (s : σ) : (∀ i, -128 ≤ (segG step s).1.q i ∧ (segG step s).1.q i ≤ 127) ∧ (∀ i, -128 ≤ (segG step s).1.l i ∧ (segG step s).1.l i ≤ 127) ∧ ∀ i, 0 ≤ (segG step s).1.p i ∧ (segG step s).1.p i ≤ 255 := by
  have o7 := fun s' => opt_bd' step 7 (by omega) s'
  have o6 := fun s' => opt_bd' step 6 (by omega) s'
  have pb := fun s' => prG_bd step s'
  have key : ∀ (m t a : Bool) (q l : Nat → Int) (s : σ), (∀ i, -128 ≤ q i ∧ q i ≤ 127) → (∀ i, -128 ≤ l i ∧ l i ≤ 127) → (∀ i, -128 ≤ (segT step m t a q l s).1.q i ∧ (segT step m t a q l s).1.q i ≤ 127) ∧ (∀ i, -128 ≤ (segT step m t a q l s).1.l i ∧ (segT step m t a q l s).1.l i ≤ 127) ∧ ∀ i, 0 ≤ (segT step m t a q l s).1.p i ∧ (segT step m t a q l s).1.p i ≤ 255 := by
    intro m t a q l s hq hl
    unfold segT
    cases m with
    | true => exact ⟨hq, hl, fun i => pb _⟩
    | false => exact ⟨hq, hl, fun i => by simp⟩
  unfold segG
  split
  · unfold segB
    split
    · unfold segA
      refine key _ _ _ _ _ _ (fun i => ?_) (fun i => ?_)
      · have := o7 (itS (optG step 128 7) i (step (step (step (step s 128).2 128).2 128).2 128).2)
        unfold itV; omega
      · have := o6 (itS (optG step 128 6) i (itS (optG step 128 7) 4 (step (step (step (step s 128).2 128).2 128).2 128).2))
        unfold itV; omega
    · exact key _ _ _ _ _ _ (fun i => by simp) (fun i => by simp)
  · exact ⟨fun i => by simp, fun i => by simp, fun i => by simp⟩

theorem eq40 (w : World) (a b c d : Int) : (binOp .eql 40 (.agg #[.int .i64 a, .int .i64 b, .int .i64 c, .int .i64 d]) (.agg #[.int .i64 a, .int .i64 b, .int .i64 c, .int .i64 d])).run Tryd.prog w = .ok (.bool true) w := by
  obtain ⟨i, hi, _⟩ := info_parts (show (Tryd.prog.info? 3).map (fun i => (i.zero, i.size, i.bytes)) = some (some (.int .i64 0), 1, 8) by kernel_rfl)
  have hc : Tryd.prog.cellsOf 3 = 1 := by kernel_rfl
  rw [run_eql_struct, run_equalIn_array w 9999 _ _ Tryd.underlying40 hi, hc]
  simp [List.range, List.range.loop, Op.eqItems, go_sem]
theorem eq41 (w : World) (a b c : Int) : (binOp .eql 41 (.agg #[.int .i64 a, .int .i64 b, .int .i64 c]) (.agg #[.int .i64 a, .int .i64 b, .int .i64 c])).run Tryd.prog w = .ok (.bool true) w := by
  obtain ⟨i, hi, _⟩ := info_parts (show (Tryd.prog.info? 3).map (fun i => (i.zero, i.size, i.bytes)) = some (some (.int .i64 0), 1, 8) by kernel_rfl)
  have hc : Tryd.prog.cellsOf 3 = 1 := by kernel_rfl
  rw [run_eql_struct, run_equalIn_array w 9999 _ _ Tryd.underlying41 hi, hc]
  simp [List.range, List.range.loop, Op.eqItems, go_sem]

set_option maxRecDepth 100000 in
set_option maxHeartbeats 1600000 in
theorem fnSegments_good (w : World) (ht : Tabs w) (a0 : Option Addr) (n0 c0 : Nat) (zs : List Int) (hl : zs.length = n0) (hrow : Arg .u8 w a0 n0 (fun i => zs.getD i 0)) (hz : Bytes zs) (hw : isWr n0 zs = true) :
    Calls Tryd.prog 6 #[.slice a0 n0 c0] w fun e w' => e = .returned (.bool true) ∧ Below w.heap.size w w' := by
  obtain ⟨hn, hg⟩ := wr_good hl hw hz
  have h2 := ht.two
  have bd := segG_bd (stepP zs) ds0
  have bo := segG_both zs hg ds0 (ss0 zs) (rs0 zs hg)
  obtain ⟨vp, hvp⟩ : ∃ v, v = segG (stepP zs) ds0 := ⟨_, rfl⟩
  obtain ⟨vs, hvs⟩ : ∃ v, v = segG (stepS zs) (ss0 zs) := ⟨_, rfl⟩
  rw [← hvp] at bd
  rw [← hvp, ← hvs] at bo
  have H := Lib.hid (And.intro ht (And.intro hl (And.intro hrow (And.intro hz (And.intro hg (And.intro hw (And.intro hvp (And.intro hvs (And.intro bd bo)))))))))
  clear ht hl hrow hz hg hw hvp hvs bd bo
  go_enter Tryd.func6, Tryd.ntmps6
  go_wp2_with fail
  refine (isWritten_any a0 n0 c0 zs w H.out.2.2.1 (by omega)).mono ?_
  rintro _ _ ⟨rfl, rfl⟩
  rw [H.out.2.2.2.2.2.1]
  go_wp2_with fail
  refine (segmentsOf_any a0 n0 c0 zs w H.out.1 h2 H.out.2.1 H.out.2.2.1 H.out.2.2.2.1 H.out.2.2.2.2.1.2 hn vp H.out.2.2.2.2.2.2.1 H.out.2.2.2.2.2.2.2.2.1.1 H.out.2.2.2.2.2.2.2.2.1.2.1 H.out.2.2.2.2.2.2.2.2.1.2.2).mono ?_
  rintro _ w1 ⟨rfl, b1⟩
  have H1 := Lib.hid b1; clear b1
  unfold segO
  go_wp2_with fail
  refine (segmentsOfS_any a0 n0 c0 zs w1 H.out.2.1 (H.out.2.2.1.below H1.out) H.out.2.2.2.1 H.out.2.2.2.2.1.2 hn vs H.out.2.2.2.2.2.2.2.1).mono ?_
  rintro _ w2 ⟨⟨o, rfl⟩, b2⟩
  have H2 := Lib.hid (H1.out.trans (b2.mono H1.out.size)); clear b2 H1
  unfold segOS
  have HR : Hid (∀ o1 o2 : Go.Obj, Calls Tryd.prog 11 #[] ((w2.alloc o1).alloc o2) fun e w' => e = .returned (.bool true) ∧ Below w.heap.size w w') := Lib.hid (fun o1 o2 => by
    have hb : Below w.heap.size w ((w2.alloc o1).alloc o2) := (H2.out.alloc H2.out.size _).alloc (by have := H2.out.size; simp; omega) _
    exact (readBool_any _ (H.out.1.below h2 hb) (by have := hb.size; omega)).mono fun _ _ ⟨e, h⟩ => ⟨e, hb.trans (h.mono hb.size)⟩)
  cases he : vp.2.eof with
  | true =>
    clear he
    go_wp2_with (first | (refine (HR.out _ _).mono ?_; rintro _ w3 ⟨rfl, b3⟩; have H3 := Lib.hid b3; clear b3))
    go_ret
    exact ⟨rfl, H3.out⟩
  | false =>
    cases o with
    | true =>
      clear he
      go_wp2_with (first | (refine (HR.out _ _).mono ?_; rintro _ w3 ⟨rfl, b3⟩; have H3 := Lib.hid b3; clear b3))
      go_ret
      exact ⟨rfl, H3.out⟩
    | false =>
      have HE := H.out.2.2.2.2.2.2.2.2.2 he
      clear he
      have e1 := HE.u
      have e2 := HE.m
      have e3 := HE.t
      have e4 := HE.a
      have q0 := HE.q 0 (by omega)
      have q1 := HE.q 1 (by omega)
      have q2 := HE.q 2 (by omega)
      have q3 := HE.q 3 (by omega)
      have l0 := HE.l 0 (by omega)
      have l1 := HE.l 1 (by omega)
      have l2 := HE.l 2 (by omega)
      have l3 := HE.l 3 (by omega)
      have p0 := HE.p 0 (by omega)
      have p1 := HE.p 1 (by omega)
      have p2 := HE.p 2 (by omega)
      rw [e1, e2, e3, e4, q0, q1, q2, q3, l0, l1, l2, l3, p0, p1, p2]
      clear e1 e2 e3 e4 q0 q1 q2 q3 l0 l1 l2 l3 p0 p1 p2 HE H
      generalize vs.1.u = u
      generalize vs.1.m = m
      generalize vs.1.t = t
      generalize vs.1.a = a
      generalize vs.1.q 0 = q0
      generalize vs.1.q 1 = q1
      generalize vs.1.q 2 = q2
      generalize vs.1.q 3 = q3
      generalize vs.1.l 0 = l0
      generalize vs.1.l 1 = l1
      generalize vs.1.l 2 = l2
      generalize vs.1.l 3 = l3
      generalize vs.1.p 0 = p0
      generalize vs.1.p 1 = p1
      generalize vs.1.p 2 = p2
      have k40 := eq40
      have k41 := eq41
      cases t <;> cases m
      all_goals as_aux_lemma =>
        go_wp2_with (first | (refine (HR.out _ _).mono ?_; rintro _ w3 ⟨rfl, b3⟩; have H3 := Lib.hid b3; clear b3))
        go_ret
        exact ⟨rfl, H3.out⟩

theorem fnSegments_walk (w : World) (ht : Tabs w) (a0 : Option Addr) (n0 c0 : Nat) (z0 : List Int) (h0 : IsRow .u8 w a0 n0 c0 z0) :
    Calls Tryd.prog 6 #[.slice a0 n0 c0] w fun e w' => e = .returned (.bool true) ∧ Below w.heap.size w w' := by
  have h2 := ht.two
  have m0 : n0 ≤ 9223372036854775807 := by have := h0.arg.2.1; have := h0.arg.2.2.1; unfold maxLen at this; omega
  obtain ⟨zs, hl, hrow, hz⟩ := h0.bytes
  clear h0
  by_cases b0 : 2147483647 < n0
  · clear hl hrow hz ht
    go_enter Tryd.func6, Tryd.ntmps6
    go_wp2
    go_ret
    exact ⟨rfl, Below.refl _ _⟩
  cases hw : isWr n0 zs with
  | false =>
    have H := Lib.hid (And.intro ht (And.intro hrow hw)); clear ht hl hrow hz hw
    go_enter Tryd.func6, Tryd.ntmps6
    go_wp2_with fail
    refine (isWritten_any a0 n0 c0 zs w H.out.2.1 (by omega)).mono ?_
    rintro _ _ ⟨rfl, rfl⟩
    rw [H.out.2.2]
    go_wp2_with fail
    refine (readBool_any w H.out.1 h2).mono ?_
    rintro _ w3 ⟨rfl, b3⟩
    have H3 := Lib.hid b3; clear b3
    go_wp2
    go_ret
    exact ⟨rfl, H3.out⟩
  | true => exact fnSegments_good w ht a0 n0 c0 zs hl hrow hz hw
end Go.Proofs.YthmkmemocjnleaaDoor
