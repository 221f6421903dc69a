/- laws.FnPrefix. -/
import Derived.Test.YtdmefbpfpmkdcaaDoorIPre
import Derived.Test.YtdmefbpfpmkdcaaDoorLaidP
import Derived.Test.YtdmefbpfpmkdcaaDoorInts
import Derived.Test.YtdmefbpfpmkdcaaDoorSums
import Derived.Test.YtdmefbpfpmkdcaaDoorFnReadWrittenWalk
namespace Go.Proofs.YtdmefbpfpmkdcaaDoor
open Go.RowKit
set_option linter.unusedVariables false

/-- Bytes as a stream. -/
theorem strm_of {f : Nat → Int} {n : Nat} (h : ∀ i, i < n → 0 ≤ f i ∧ f i ≤ 255) : Strm f (numOf (natF f) n) n := fun j hj => by
  have hb : ∀ i, i < n → natF f i < 256 := fun i hi => by have := h i hi; unfold natF; omega
  rw [numOf_byte _ _ hb j hj]
  have := h j hj
  unfold natF; omega
theorem LaidP.only {w w' : World} (h : LaidP w) (ho : Only (fun _ => False) w w') : LaidP w' := ⟨h.1.only ho (fun h => h), h.2.1.only ho (fun _ _ h => h), h.2.2.only ho (fun _ _ h => h)⟩
theorem toldB_ne {p : Pre} (h : toldB p = true) : p ≠ .opened := fun e => by rw [e] at h; cases h

set_option maxRecDepth 100000 in
set_option maxHeartbeats 400000 in
theorem prefix_good (w : World) (ht : LaidP w) (a : Option Addr) (n c : Nat) (f : Nat → Int) (ha : Arg .u8 w a n f) (hf : ∀ i, i < n → 0 ≤ f i ∧ f i ≤ 255) (sn mn : Nat)
    (q1 : 1 ≤ sn) (q2 : sn ≤ 4096) (q3 : mn ≤ 4096) (q4 : n ≤ 1048576) :
    Calls Tryd.prog 8 #[.slice a n c, .int .i64 sn, .int .i64 mn] w fun e w' => e = .returned (.bool true) ∧ Below w.heap.size w w' := by
  have hst := strm_of hf
  obtain ⟨S, hS⟩ : ∃ S, S = numOf (natF f) n := ⟨_, rfl⟩
  rw [← hS] at hst
  have HT := Lib.hid (told_any a n c f S sn w ha hst q4 q1 q2)
  cases htold : toldB (preF S n sn) with
  | false =>
    rw [htold] at HT
    clear hst hf ha ht hS htold
    go_enter Tryd.func8, Tryd.ntmps8
    go_wp2_with fail
    refine HT.out.mono ?_
    rintro _ w1 ⟨rfl, hb1⟩
    have H1 := Lib.hid hb1
    clear hb1
    go_wp2_with fail
    refine (readSums_any w1).mono ?_
    rintro _ w2 ⟨rfl, rfl⟩
    go_wp2
    go_ret
    exact ⟨rfl, H1.out⟩
  | true =>
    rw [htold] at HT
    have H := Lib.hid (And.intro ha (And.intro hst (And.intro ht (toldB_ne htold))))
    clear hst hf ha ht hS htold
    go_enter Tryd.func8, Tryd.ntmps8
    go_wp2_with fail
    refine HT.out.mono ?_
    rintro _ w1 ⟨rfl, hb1⟩
    have hl1 := H.out.2.2.1.only (Only.of_below (S := fun _ => False) hb1)
    have HI := Lib.hid (iprefix_any a n c f S sn mn w1 (H.out.1.below hb1) H.out.2.1 q4 hl1.1 hl1.2.1 hl1.2.2 q1 q2 q3 H.out.2.2.2)
    have H1 := Lib.hid hb1
    clear hb1 hl1
    go_wp2_with fail
    refine HI.out.mono ?_
    rintro e1 w2 ⟨hp1, hb2⟩
    have H2 := Lib.hid (H1.out.trans (hb2.mono H1.out.size))
    have HSF := Lib.hid (sprefix_any a n c f S sn mn w2 (H.out.1.below H2.out) H.out.2.1 q4 q1 q2 q3 H.out.2.2.2)
    have HB2 := Lib.hid hb2
    clear hb2
    rcases hp1 with ⟨h1, rfl⟩ | ⟨C, I, q, l, kind, a1, c1, h1, hcd, rfl, htl, hown⟩
    · have HK := Lib.hid h1
      clear h1
      go_wp2_with fail
      refine HSF.out.mono ?_
      rintro e2 w3 ⟨hp2, hb3⟩
      have H3 := Lib.hid (H2.out.trans (hb3.mono H2.out.size))
      clear hb3
      rcases hp2 with ⟨h2, rfl⟩ | ⟨C2, I2, q2, l2, kind2, a2, c2, h2, _⟩
      · clear h2
        go_wp2_with fail
        refine (readSums_any w3).mono ?_
        rintro _ w4 ⟨rfl, rfl⟩
        go_wp2
        go_ret
        exact ⟨rfl, H3.out⟩
      · exact absurd (HK.out.symm.trans h2) (by intro h; cases h)
    · have HK := Lib.hid (And.intro h1 (And.intro hcd (And.intro htl hown)))
      have hk : kind = 0 ∨ kind = 2 := by rcases htl with ⟨h, _⟩ | ⟨h, _⟩ <;> omega
      clear h1 hcd htl hown
      rcases hk with rfl | rfl
      all_goals
        go_wp2_with fail
        refine HSF.out.mono ?_
        rintro e2 w3 ⟨hp2, hb3⟩
        have H3 := Lib.hid (H2.out.trans (hb3.mono H2.out.size))
        rcases hp2 with ⟨h2, rfl⟩ | ⟨C2, I2, q2, l2, kind2, a2, c2, h2, hcd2, rfl, htl2, hown2⟩
        · exact absurd (h2.symm.trans HK.out.1) (by intro h; cases h)
      · have e5 := h2.symm.trans HK.out.1
        injection e5 with e5 e6
        subst e5
        subst e6
        obtain ⟨rfl, rfl⟩ := Told.uniq hcd2 HK.out.2.2.1 htl2
        have hlen : l.length ≤ 4096 := by have := htl2.len; omega
        have hsame : sameI (listF l) (listF l) l.length = true := decide_eq_true (fun _ _ => rfl)
        have HN := Lib.hid (ints_any a1 l.length c1 (listF l) a2 l.length c2 (listF l) w3 (HK.out.2.2.2.below hb3).arg hown2.arg hlen rfl)
        rw [hsame] at HN
        clear h2 hcd2 htl2 hown2 hb3 hsame
        go_wp2_with fail
        refine HN.out.mono ?_
        rintro _ w4 ⟨rfl, hb4⟩
        have H4 := Lib.hid (H3.out.trans (hb4.mono H3.out.size))
        clear hb4
        go_wp2_with fail
        refine (readSums_any w4).mono ?_
        rintro _ w5 ⟨rfl, rfl⟩
        go_wp2
        go_ret
        exact ⟨rfl, H4.out⟩
      · have e5 := h2.symm.trans HK.out.1
        injection e5 with e5 e6
        subst e5
        subst e6
        obtain ⟨rfl, rfl⟩ := Told.uniq hcd2 HK.out.2.2.1 htl2
        clear h2 hcd2 htl2 hown2 hb3
        go_wp2_with fail
        refine (readSums_any w3).mono ?_
        rintro _ w4 ⟨rfl, rfl⟩
        go_wp2
        go_ret
        exact ⟨rfl, H3.out⟩

set_option maxRecDepth 100000 in
set_option maxHeartbeats 400000 in
theorem fnPrefix_walk (w : World) (ht : LaidP w) (a : Option Addr) (n c : Nat) (z0 : List Int) (h0 : IsRow .u8 w a n c z0) (sz : Int) (w1 : (Lit.int .i64 sz).wf = true) (m : Int) (w2 : (Lit.int .i64 m).wf = true) :
    Calls Tryd.prog 8 #[.slice a n c, .int .i64 sz, .int .i64 m] w fun e w' => e = .returned (.bool true) ∧ Below w.heap.size w w' := by
  obtain ⟨g0, l0, m0, _, b0⟩ := h0.arg
  unfold maxLen at m0
  have k0 : n ≤ 9223372036854775807 := by omega
  have i64 : ∀ {x : Int}, (Lit.int .i64 x).wf = true → -9223372036854775808 ≤ x ∧ x ≤ 9223372036854775807 := fun {x} h => by
    simp only [Lit.wf, Bool.and_eq_true, decide_eq_true_eq] at h
    exact h
  obtain ⟨f1, f2⟩ := i64 w1
  obtain ⟨f3, f4⟩ := i64 w2
  have H := Lib.hid (And.intro ht (And.intro g0 (fun i (hi : i < n) => u8_bounds (b0 i))))
  clear ht g0 b0 l0 m0 h0 w1 w2 i64
  by_cases hok : 1 ≤ sz ∧ sz ≤ 4096 ∧ n ≤ 1048576 ∧ 0 ≤ m ∧ m ≤ 4096
  · obtain ⟨q1, q2, q3, q4, q5⟩ := hok
    obtain ⟨sn, rfl⟩ : ∃ k : Nat, sz = (k : Int) := ⟨sz.toNat, by omega⟩
    obtain ⟨mn, rfl⟩ : ∃ k : Nat, m = (k : Int) := ⟨m.toNat, by omega⟩
    exact prefix_good w H.out.1 a n c _ H.out.2.1 H.out.2.2 sn mn (by omega) (by omega) (by omega) q3
  · have HK := Lib.hid hok
    clear hok
    go_enter Tryd.func8, Tryd.ntmps8
    go_wp2_with fail
    all_goals first
      | (go_ret; exact ⟨rfl, Below.refl _ _⟩)
      | (refine (readSums_any w).mono ?_; rintro _ w2 ⟨rfl, rfl⟩; go_wp2; go_ret; exact ⟨rfl, Below.refl _ _⟩)
      | (exfalso; have := HK.out; omega)
end Go.Proofs.YtdmefbpfpmkdcaaDoor
