/- impl.Symbols: symbols by the code of lengths. -/
import Derived.Test.YtdmefbpfpmkdcaaDoorBuild
namespace Go.Proofs.YtdmefbpfpmkdcaaDoor
open Go.RowKit
set_option linter.unusedVariables false

set_option maxRecDepth 100000 in
theorem doorBuild_any (gh n cp : Nat) (a : Option Addr) (c : Nat → Nat) (w : World) (h : SObj w gh 74 (hCells (.slice none 0 0) (fun _ => 0))) (hr : RevT w) (hg : 4 ≠ gh)
    (ha : Arg .u32 w a n (fun i => (c i : Int))) (hfar : 0 < n → ∀ x, a = some x → x.block ≠ gh) (hw : Whole c n) (hu : 1 < used c n) (hn : n ≤ 4096) :
    Calls Tryd.prog 41 #[.pointer (some ⟨gh, 0, none⟩), .slice a n cp] w fun e w' => e = .returned .nilIface ∧ (∃ gn, TreeS (codesL c n n) (codesL c n n) w' gh gn ∧ w.heap.size ≤ gn) ∧ Only (fun k => k = gh) w w' := by
  have HN := Lib.hid (build_any gh n cp a c w h hr hg ha hfar hw hu hn)
  clear h hr hg ha hfar hw hu
  go_enter Tryd.func41, Tryd.ntmps41
  go_wp2_with fail
  refine HN.out.mono ?_
  rintro _ w2 ⟨rfl, ⟨gn, ht, hgn⟩, ho⟩
  have H2 := Lib.hid (And.intro ht (And.intro hgn ho))
  clear ht hgn ho
  go_wp2
  go_ret
  exact ⟨rfl, ⟨gn, H2.out.1, H2.out.2.1⟩, H2.out.2.2⟩

set_option maxRecDepth 100000 in
set_option maxHeartbeats 400000 in
theorem isyms_any (la : Option Addr) (ln lc : Nat) (lf : Nat → Int) (ch : Nat → Nat) (m : Nat) (a : Option Addr) (n c : Nat) (f : Nat → Int) (S : Nat) (w : World) (hl : Arg .i64 w la ln lf) (hlf : ∀ i, i < ln → lf i = (ch i : Int)) (ha : Arg .u8 w a n f) (hs : Strm f S n) (hmax : n ≤ 1048576) (hr : RevT w) (hse : SntE w)
    (hw : Whole ch ln) (hu : 1 < used ch ln) (hln : ln ≤ 4096) (hm : m ≤ 4096) :
    Calls Tryd.prog 24 #[.slice la ln lc, .slice a n c, .int .i64 m] w fun e w' =>
      (∃ l kind a' c', e = .returned (.tuple #[.slice a' l.length c', .int .i64 (kind : Nat)]) ∧ Told (codesL ch ln ln) S n 0 m l kind ∧ Own .i64 w.heap.size w' a' l.length (listF l)) ∧ Below w.heap.size w w' := by
  have H := Lib.hid (And.intro ha (And.intro hs (And.intro hr (And.intro hse (And.intro hl (And.intro hlf hw))))))
  clear ha hs hr hse hl hlf hw
  go_enter Tryd.func24, Tryd.ntmps24
  go_wp2_with fail
  rw [zeroTree]
  obtain ⟨w0, hw0⟩ : ∃ x, x = w.alloc (.cells (hCells (.slice none 0 0) (fun _ => 0)).toArray 74) := ⟨_, rfl⟩
  obtain ⟨gh, hgh⟩ : ∃ x, x = w.heap.size := ⟨_, rfl⟩
  have H0 : Hid (SObj w0 gh 74 (hCells (.slice none 0 0) (fun _ => 0)) ∧ Only (fun _ => False) w w0 ∧ gh < w0.heap.size) := Lib.hid (by
    rw [hw0, hgh]
    exact ⟨obj_new _ _ _, Only.alloc _ _ _, by simp⟩)
  have HGH := Lib.hid hgh
  rw [← hw0, ← hgh]
  clear hw0 hgh
  refine (newReader_any a n c w0).mono ?_
  rintro _ w1 ⟨rfl, hbr, hb1⟩
  have H1 := Lib.hid (And.intro hbr hb1); clear hbr hb1
  go_wp2_with fail
  refine (newBits_any _ w1).mono ?_
  rintro _ w2 ⟨rfl, ho, hb2⟩
  have H2 := Lib.hid (rdr0 (H.out.1.only H0.out.2.1 (fun _ _ _ h => h)) H.out.2.1 (by omega) H1.out.1 H1.out.2 ho hb2)
  clear ho hb2
  obtain ⟨gd, hgd⟩ : ∃ x, x = w1.heap.size := ⟨_, rfl⟩
  obtain ⟨gr, hgr⟩ : ∃ x, x = w0.heap.size := ⟨_, rfl⟩
  have HR : Hid (Rdr w2 gd gr a n c f S 0 ∧ Only (fun _ => False) w w2 ∧ gr < gd ∧ gr = w0.heap.size ∧ gd < w2.heap.size ∧ SObj w2 gh 74 (hCells (.slice none 0 0) (fun _ => 0))) := Lib.hid (by
    have h5 := H2.out
    rw [← hgd, ← hgr] at h5
    rw [hgr] at h5
    refine ⟨by rw [hgr]; exact h5.1, H0.out.2.1.tr (Only.of_below h5.2.1), by omega, hgr, (h5.1.lt).1, H0.out.1.below h5.2.1 H0.out.2.2⟩)
  rw [← hgd]
  clear H1 H2 hgd hgr
  have hsz2 : gh < w2.heap.size := by have := HR.out.2.1.size; have := HGH.out; have := HR.out.2.2.2.2.2.lt; omega
  have HWD := Lib.hid (words_any la ln lc lf w2 (H.out.2.2.2.2.1.only HR.out.2.1 (fun _ _ _ h => h)) hln (fun i hi => by have h5 := H.out.2.2.2.2.2.1 i hi; have h6 := H.out.2.2.2.2.2.2.le i hi; omega))
  go_wp2_with fail
  refine HWD.out.mono ?_
  rintro _ w3 ⟨⟨a3, c3, rfl, hown3⟩, hb3⟩
  have ho3 : Only (fun _ => False) w w3 := HR.out.2.1.tr (Only.of_below hb3)
  have ha3 : Arg .u32 w3 a3 ln (fun i => (ch i : Int)) := hown3.arg.congr (fun i hi => H.out.2.2.2.2.2.1 i hi)
  have hfar : 0 < ln → ∀ x, a3 = some x → x.block ≠ gh := fun h0 x hx e => by
    obtain ⟨g1, e1, hg1, _⟩ := hown3 h0
    rw [hx] at e1; injection e1 with e1; subst e1
    simp only at e; omega
  have hr3 : Rdr w3 gd gr a n c f S 0 := HR.out.1.only (Only.of_below (S := fun _ => False) hb3) (fun h => h) (fun h => h) (fun _ _ _ h => h)
  have HN := Lib.hid (doorBuild_any gh ln c3 a3 ch w3 (HR.out.2.2.2.2.2.below hb3 hsz2) (H.out.2.2.1.only ho3 (fun h => h)) (by have := H.out.2.2.1.lt; have := HGH.out; omega) ha3 hfar H.out.2.2.2.2.2.2 hu hln)
  have HR3 := Lib.hid (And.intro hr3 ho3)
  clear hown3 hb3 ho3 ha3 hfar hr3
  go_wp2_with fail
  refine HN.out.mono ?_
  rintro _ w4 ⟨rfl, ⟨gn, ht, hgn⟩, ho⟩
  have hcd := H.out.2.2.2.2.2.2.code
  have hlen : (codesL ch ln ln).length ≤ 4096 := by rw [codesL_used]; have := used_le ch ln; omega
  have ho4 : Only (fun k => k = gh) w w4 := (HR3.out.2.mono (fun _ h => h.elim)).tr ho
  have hr4 : Rdr w4 gd gr a n c f S 0 := HR3.out.1.only ho (by have := H0.out.2.2; have := HR.out.2.2; omega) (by have := H0.out.2.2; have := HR.out.2.2; omega) (fun h0 x hx => by
    obtain ⟨g1, o1, e, hg1, _⟩ := H.out.1 h0
    rw [hx] at e; injection e with e; subst e
    have := HGH.out
    simp only
    omega)
  have hE4 : SntE w4 := H.out.2.2.2.1.only ho4 (fun g hg e => by have := H.out.2.2.1.lt; have := HGH.out; omega)
  have HS := Lib.hid (syms_any (codesL ch ln ln) (inn ch ln 15) gh gn gd gr a n c f S 0 m w4 hcd (ht.whole hcd (fun _ _ h => h) hlen) hr4 hE4 (fun g hg e => by have := H.out.2.2.1.lt; have := HGH.out; have := H0.out.2.2; have := HR.out.2.2; rcases e with e | e <;> omega) hm)
  have HO4 := Lib.hid ho4
  clear ht hgn ho hcd hlen ho4 hr4 hE4
  go_wp2_with fail
  refine HS.out.mono ?_
  rintro _ w5 ⟨⟨l, kind, a', c', rfl, htold, hown⟩, ho5⟩
  have H5 := Lib.hid (And.intro htold (And.intro hown ho5))
  clear htold hown ho5
  go_wp2
  go_ret2
  exact ⟨⟨l, kind, a', c', rfl, H5.out.1, H5.out.2.1.mono HO4.out.size⟩, (HO4.out.below (Nat.le_refl _) (fun k hk => by have := HGH.out; omega)).trans (H5.out.2.2.below HO4.out.size (fun k hk => by have := HGH.out; have := H0.out.2.2; have := HR.out.2.2; rcases hk with hk | hk <;> omega))⟩
end Go.Proofs.YtdmefbpfpmkdcaaDoor
