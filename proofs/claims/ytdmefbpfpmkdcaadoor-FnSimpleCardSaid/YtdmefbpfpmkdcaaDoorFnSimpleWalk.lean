/- laws.FnSimple. -/
import Derived.Test.YtdmefbpfpmkdcaaDoorISim
import Derived.Test.YtdmefbpfpmkdcaaDoorSSim
import Derived.Test.YtdmefbpfpmkdcaaDoorLaidS
import Derived.Test.YtdmefbpfpmkdcaaDoorOpenI
import Derived.Test.YtdmefbpfpmkdcaaDoorInts
import Derived.Test.YtdmefbpfpmkdcaaDoorSums
import Derived.Test.YtdmefbpfpmkdcaaDoorFnReadWrittenWalk
namespace Go.Proofs.YtdmefbpfpmkdcaaDoor
open Go.RowKit
set_option linter.unusedVariables false

/-- Bytes as a stream. -/
theorem strm_of {f : Nat → Int} {n : Nat} (h : ∀ i, i < n → 0 ≤ f i ∧ f i ≤ 255) : Strm f (numOf (natF f) n) n := fun j hj => by
  have hb : ∀ i, i < n → natF f i < 256 := fun i hi => by have := h i hi; unfold natF; omega
  rw [numOf_byte _ _ hb j hj]
  have := h j hj
  unfold natF; omega

set_option maxRecDepth 100000 in
set_option maxHeartbeats 400000 in
theorem simple_good (w : World) (ht : Laid w) (cn sn mn tn : Nat) (t1 : Int) (a : Option Addr) (n c : Nat) (f : Nat → Int) (ha : Arg .u8 w a n f) (hf : ∀ i, i < n → 0 ≤ f i ∧ f i ≤ 255)
    (q1 : 1 ≤ cn) (q2 : cn ≤ 2) (q3 : sn ≤ 4096) (q4 : tn < sn) (q5 : n ≤ 1048576) (q6 : mn ≤ 4096) (q7 : cn = 2 → (tn : Int) < t1 ∧ t1 < (sn : Int)) (f9 : -9223372036854775808 ≤ t1) (f10 : t1 ≤ 9223372036854775807) :
    Calls Tryd.prog 6 #[.int .i64 cn, .agg #[.int .i64 tn, .int .i64 t1], .int .i64 sn, .slice a n c, .int .i64 mn] w fun e w' => e = .returned (.bool true) ∧ Below w.heap.size w w' := by
  obtain ⟨b, hb⟩ : ∃ b : Nat, t1 % 4294967296 = (b : Int) := ⟨(t1 % 4294967296).toNat, by omega⟩
  have hc : cn = 1 ∨ cn = 2 := by omega
  have hb2 : cn = 2 → t1 = (b : Int) ∧ tn < b ∧ b < sn := fun h => by have := q7 h; omega
  have hst := strm_of hf
  obtain ⟨w1, hw1⟩ : ∃ x, x = w.alloc (.cells #[.int .i64 tn, .int .i64 t1] 42) := ⟨_, rfl⟩
  obtain ⟨gb, hgb⟩ : ∃ x, x = w.heap.size := ⟨_, rfl⟩
  have ho1 : Only (fun _ => False) w w1 := by rw [hw1]; exact Only.alloc _ _ _
  have hob : SObj w1 gb 42 [.int .i64 tn, .int .i64 t1] := by rw [hw1, hgb]; exact obj_new w 42 [.int .i64 tn, .int .i64 t1]
  have c0 := hob.cell 0 rfl
  have c1 := hob.cell 1 rfl
  have ha1 : Arg .u8 w1 a n f := ha.only ho1 (fun _ _ _ h => h)
  have HI := Lib.hid (isim_any cn tn sn mn t1 b a n c f (numOf (natF f) n) w1 ha1 hst q5 (ht.1.only ho1 (fun h => h)) (ht.2.only ho1 (fun _ _ h => h)) hc q4 (fun h => (hb2 h).2.2) hb q3 q6)
  have H := Lib.hid (And.intro hob (And.intro ha1 (And.intro hst (And.intro hb2 (And.intro (simC_code tn b cn hc (by omega) (fun h => by have := (hb2 h).2; omega)) ho1)))))
  have hd : cn = 1 ∧ ¬ ((cn : Int) = 2) ∨ cn = 2 ∧ (tn : Int) < t1 ∧ t1 < (sn : Int) := by
    rcases hc with h | h
    · exact .inl ⟨h, by omega⟩
    · exact .inr ⟨h, q7 h⟩
  have HSF := Lib.hid (fun (w2 : World) (hb : Below w1.heap.size w1 w2) => ssim_any cn tn sn mn t1 b a n c f (numOf (natF f) n) w2 (ha1.below hb) hst q5 hc q4 hb2 q3 q6)
  have HG := Lib.hid hgb
  clear hc hf hob ha ht ho1 ha1 hst hb2 hb q7
  go_enter Tryd.func6, Tryd.ntmps6
  go_upto_region 1 with fail
  rw [← hw1, ← hgb]
  clear hw1 hgb
  rcases hd with ⟨rfl, hd⟩ | ⟨rfl, hd1, hd2⟩
  all_goals
    go_wp2_with fail
    refine HI.out.mono ?_
    rintro _ w2 ⟨⟨l, kind, a', c', rfl, htold, hown⟩, hb2⟩
    have H2 := Lib.hid (And.intro htold (And.intro hown hb2))
    have c0 := (H.out.1.below hb2 H.out.1.lt).cell 0 rfl
    have c1 := (H.out.1.below hb2 H.out.1.lt).cell 1 rfl
    have HS := Lib.hid (HSF.out w2 hb2)
    clear htold hown hb2
    go_wp2_with fail
    refine HS.out.mono ?_
    rintro _ w3 ⟨⟨l2, kind2, a2, c2, rfl, htold2, hown2⟩, hb3⟩
    obtain ⟨rfl, rfl⟩ := Told.uniq H.out.2.2.2.2.1 H2.out.1 htold2
    have hlen : l.length ≤ 4096 := by have := htold2.len; omega
    have H3 := Lib.hid (And.intro hown2 hb3)
    have h12 := H2.out.2.2.size
    have har1 : Arg .i64 w3 a' l.length (listF l) := (H2.out.2.1.below hb3).arg
    have har2 : Arg .i64 w3 a2 l.length (listF l) := hown2.arg
    have HN := Lib.hid (ints_any a' l.length c' (listF l) a2 l.length c2 (listF l) w3 har1 har2 hlen rfl)
    have hsame : sameI (listF l) (listF l) l.length = true := decide_eq_true (fun _ _ => rfl)
    rw [hsame] at HN
    clear htold2 hown2 hb3 har1 har2 hsame c0 c1
    go_wp2_with fail
    refine HN.out.mono ?_
    rintro _ w4 ⟨rfl, hb4⟩
    have H4 := Lib.hid hb4
    clear hb4
    go_wp2_with fail
    refine (readSums_any w4).mono ?_
    rintro _ w5 ⟨rfl, rfl⟩
    go_wp2
    go_ret
    have h5 := H.out.2.2.2.2.2.size
    have h6 := H3.out.2.size
    refine ⟨rfl, ?_⟩
    exact (((H.out.2.2.2.2.2.below (Nat.le_refl _) (fun _ h => h.elim)).trans (H2.out.2.2.mono h5)).trans (H3.out.2.mono (by omega))).trans (H4.out.mono (by omega))

set_option maxRecDepth 100000 in
set_option maxHeartbeats 400000 in
theorem fnSimple_walk (w : World) (ht : Laid w) (cnt : Int) (w0 : (Lit.int .i64 cnt).wf = true) (z1 : Nat → Int) (w1 : ∀ i, i < 2 → (Lit.int .i64 (z1 i)).wf = true) (sz : Int) (w2 : (Lit.int .i64 sz).wf = true) (a : Option Addr) (n c : Nat) (z3 : List Int) (h3 : IsRow .u8 w a n c z3) (m : Int) (w4 : (Lit.int .i64 m).wf = true) :
    Calls Tryd.prog 6 #[.int .i64 cnt, .agg (cellsOf .i64 2 z1).toArray, .int .i64 sz, .slice a n c, .int .i64 m] w fun e w' => e = .returned (.bool true) ∧ Below w.heap.size w w' := by
  obtain ⟨g0, l0, m0, _, b0⟩ := h3.arg
  unfold maxLen at m0
  have k0 : n ≤ 9223372036854775807 := by omega
  have e1 : (cellsOf .i64 2 z1).toArray = #[.int .i64 (z1 0), .int .i64 (z1 1)] := rfl
  rw [e1]
  obtain ⟨t0, ht0⟩ : ∃ x, x = z1 0 := ⟨_, rfl⟩
  obtain ⟨t1, ht1⟩ : ∃ x, x = z1 1 := ⟨_, rfl⟩
  have wt0 := w1 0 (by decide)
  have wt1 := w1 1 (by decide)
  rw [← ht0] at wt0 ⊢
  rw [← ht1] at wt1 ⊢
  have i64 : ∀ {x : Int}, (Lit.int .i64 x).wf = true → -9223372036854775808 ≤ x ∧ x ≤ 9223372036854775807 := fun {x} h => by
    simp only [Lit.wf, Bool.and_eq_true, decide_eq_true_eq] at h
    exact h
  obtain ⟨f1, f2⟩ := i64 w0
  obtain ⟨f3, f4⟩ := i64 w2
  obtain ⟨f5, f6⟩ := i64 w4
  obtain ⟨f7, f8⟩ := i64 wt0
  obtain ⟨f9, f10⟩ := i64 wt1
  have H := Lib.hid (And.intro ht (And.intro g0 (fun i (hi : i < n) => u8_bounds (b0 i))))
  clear ht g0 b0 l0 m0 h3 w0 w1 w2 w4 e1 ht0 ht1 wt0 wt1 i64
  by_cases hok : 1 ≤ cnt ∧ cnt ≤ 2 ∧ 1 ≤ sz ∧ sz ≤ 4096 ∧ 0 ≤ t0 ∧ t0 < sz ∧ (cnt = 2 → t0 < t1 ∧ t1 < sz) ∧ n ≤ 1048576 ∧ 0 ≤ m ∧ m ≤ 4096
  · obtain ⟨q1, q2, q3, q4, q5, q6, q7, q8, q9, q10⟩ := hok
    obtain ⟨cn, rfl⟩ : ∃ k : Nat, cnt = (k : Int) := ⟨cnt.toNat, by omega⟩
    obtain ⟨sn, rfl⟩ : ∃ k : Nat, sz = (k : Int) := ⟨sz.toNat, by omega⟩
    obtain ⟨mn, rfl⟩ : ∃ k : Nat, m = (k : Int) := ⟨m.toNat, by omega⟩
    obtain ⟨tn, rfl⟩ : ∃ k : Nat, t0 = (k : Int) := ⟨t0.toNat, by omega⟩
    exact simple_good w H.out.1 cn sn mn tn t1 a n c _ H.out.2.1 H.out.2.2 (by omega) (by omega) (by omega) (by omega) q8 (by omega) (fun h => by have := q7 (by omega); omega) f9 f10
  · have HB : Hid (Only (fun _ => False) w (w.alloc (.cells #[.int .i64 t0, .int .i64 t1] 42))) := Lib.hid (Only.alloc _ _ _)
    have c0 : (w.alloc (.cells #[.int .i64 t0, .int .i64 t1] 42)).cell? ⟨w.heap.size, 0, none⟩ = some (.int .i64 t0) := (obj_new w 42 [.int .i64 t0, .int .i64 t1]).cell 0 rfl
    have c1 : (w.alloc (.cells #[.int .i64 t0, .int .i64 t1] 42)).cell? ⟨w.heap.size, 1, none⟩ = some (.int .i64 t1) := (obj_new w 42 [.int .i64 t0, .int .i64 t1]).cell 1 rfl
    have HK := Lib.hid hok
    clear hok
    go_enter Tryd.func6, Tryd.ntmps6
    go_upto_region 1 with fail
    generalize World.alloc _ _ = w1 at HB c0 c1 ⊢
    have HW : Hid (Below w.heap.size w w1) := Lib.hid (HB.out.below (Nat.le_refl _) (fun _ h => h.elim))
    obtain ⟨gb, hgb⟩ : ∃ x, x = w.heap.size := ⟨_, rfl⟩
    rw [← hgb] at c0 c1 ⊢
    clear hgb
    go_wp2_with fail
    all_goals first
      | (go_ret; exact ⟨rfl, HW.out⟩)
      | (refine (readSums_any w1).mono ?_; rintro _ w2 ⟨rfl, rfl⟩; go_wp2; go_ret; exact ⟨rfl, HW.out⟩)
      | (exfalso; have := HK.out; omega)
end Go.Proofs.YtdmefbpfpmkdcaaDoor
