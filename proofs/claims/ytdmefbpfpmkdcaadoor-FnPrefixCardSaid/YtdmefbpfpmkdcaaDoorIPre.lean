/- impl.Prefix: a code as it is written, and symbols by it. -/
import Derived.Test.YtdmefbpfpmkdcaaDoorIHuf
import Derived.Test.YtdmefbpfpmkdcaaDoorSPre
namespace Go.Proofs.YtdmefbpfpmkdcaaDoor
open Go.RowKit
set_option linter.unusedVariables false

set_option maxRecDepth 100000 in
theorem doorTree_any (gd gr gh : Nat) (a : Option Addr) (n c : Nat) (f : Nat → Int) (S size : Nat) (w : World)
    (hr : Rdr w gd gr a n c f S 0) (hse : SntE w) (htp : TabP w) (hrev : RevT w) (hbig : 7 < gd ∧ 7 < gr ∧ 7 < gh ∧ 7 < w.heap.size)
    (hob : SObj w gh 74 (hCells (.slice none 0 0) (fun _ => 0))) (hfar : ∀ x, 0 < n → a = some x → x.block ≠ gh ∧ x.block < w.heap.size) (hne : ¬ Two gd gr gh)
    (hs1 : 1 ≤ size) (hs2 : size ≤ 4096) (hpre : preF S n size ≠ .opened) :
    Calls Tryd.prog 43 #[.pointer (some ⟨gd, 0, none⟩), .pointer (some ⟨gh, 0, none⟩), .int .u32 size] w fun e' w' =>
      HPost (preF S n size) w gd gr gh a n c f S e' w' ∧ Only (fun k => Two gd gr k ∨ k = gh) w w' := by
  have HN := Lib.hid (ihuf_any gd gr gh a n c f S size w hr hse htp hrev hbig hob hfar hne hs1 hs2 hpre)
  clear hr hse htp hrev hbig hob hfar hne hpre
  go_enter Tryd.func43, Tryd.ntmps43
  go_wp2_with fail
  refine HN.out.mono ?_
  rintro e w2 ⟨hp, ho⟩
  rcases hp with ⟨h1, x, rfl⟩ | ⟨rfl, h2⟩
  · have HE : Hid (HPost (preF S n size) w gd gr gh a n c f S (.returned (errV x)) w2 ∧ Only (fun k => Two gd gr k ∨ k = gh) w w2) := Lib.hid ⟨.inl ⟨h1, x, rfl⟩, ho⟩
    clear h1 ho
    unfold errV at HE ⊢
    go_wp2
    go_ret
    exact HE.out
  · have HE : Hid (HPost (preF S n size) w gd gr gh a n c f S (.returned .nilIface) w2 ∧ Only (fun k => Two gd gr k ∨ k = gh) w w2) := Lib.hid ⟨.inr ⟨rfl, h2⟩, ho⟩
    clear h2 ho
    go_wp2
    go_ret
    exact HE.out

set_option maxRecDepth 100000 in
set_option maxHeartbeats 400000 in
theorem iprefix_any (a : Option Addr) (n c : Nat) (f : Nat → Int) (S size m : Nat) (w : World) (ha : Arg .u8 w a n f) (hs : Strm f S n) (hmax : n ≤ 1048576) (hr : RevT w) (hse : SntE w) (htp : TabP w) (hs1 : 1 ≤ size) (hs2 : size ≤ 4096) (hm : m ≤ 4096) (hpre : preF S n size ≠ .opened) :
    Calls Tryd.prog 26 #[.slice a n c, .int .i64 size, .int .i64 m] w fun e w' => PRes (preF S n size) S n m 1 w w' e ∧ Below w.heap.size w w' := by
  have hbg : 7 < w.heap.size := World.block_lt_of_cell? w _ (htp.offs 0 (by decide))
  have H := Lib.hid (And.intro ha (And.intro hs (And.intro hr (And.intro hse (And.intro htp (And.intro hpre hbg))))))
  clear ha hs hr hse htp hpre hbg
  go_enter Tryd.func26, Tryd.ntmps26
  go_wp2_with fail
  rw [zeroTree]
  obtain ⟨w0, hw0⟩ : ∃ x, x = w.alloc (.cells (hCells (.slice none 0 0) (fun _ => 0)).toArray 74) := ⟨_, rfl⟩
  obtain ⟨gh, hgh⟩ : ∃ x, x = w.heap.size := ⟨_, rfl⟩
  have H0 : Hid (SObj w0 gh 74 (hCells (.slice none 0 0) (fun _ => 0)) ∧ Only (fun _ => False) w w0 ∧ gh < w0.heap.size) := Lib.hid (by
    rw [hw0, hgh]
    exact ⟨obj_new _ _ _, Only.alloc _ _ _, by simp⟩)
  have HGH := Lib.hid hgh
  rw [← hw0, ← hgh]
  clear hw0 hgh
  refine (newReader_any a n c w0).mono ?_
  rintro _ w1 ⟨rfl, hbr, hb1⟩
  have H1 := Lib.hid (And.intro hbr hb1); clear hbr hb1
  go_wp2_with fail
  refine (newBits_any _ w1).mono ?_
  rintro _ w2 ⟨rfl, ho, hb2⟩
  have H2 := Lib.hid (rdr0 (H.out.1.only H0.out.2.1 (fun _ _ _ h => h)) H.out.2.1 (by omega) H1.out.1 H1.out.2 ho hb2)
  clear ho hb2
  obtain ⟨gd, hgd⟩ : ∃ x, x = w1.heap.size := ⟨_, rfl⟩
  obtain ⟨gr, hgr⟩ : ∃ x, x = w0.heap.size := ⟨_, rfl⟩
  have HR : Hid (Rdr w2 gd gr a n c f S 0 ∧ Only (fun _ => False) w w2 ∧ gr < gd ∧ gr = w0.heap.size ∧ gd < w2.heap.size ∧ SObj w2 gh 74 (hCells (.slice none 0 0) (fun _ => 0))) := Lib.hid (by
    have h5 := H2.out
    rw [← hgd, ← hgr] at h5
    rw [hgr] at h5
    refine ⟨by rw [hgr]; exact h5.1, H0.out.2.1.tr (Only.of_below h5.2.1), by omega, hgr, (h5.1.lt).1, H0.out.1.below h5.2.1 H0.out.2.2⟩)
  rw [← hgd]
  clear H1 H2 hgd hgr
  have HN := Lib.hid (doorTree_any gd gr gh a n c f S size w2 HR.out.1 (H.out.2.2.2.1.only HR.out.2.1 (fun _ _ h => h)) (H.out.2.2.2.2.1.only HR.out.2.1 (fun _ _ h => h)) (H.out.2.2.1.only HR.out.2.1 (fun h => h))
    (by have := H.out.2.2.2.2.2.2; have := HGH.out; have := H0.out.2.2; have := HR.out.2.2.1; have := HR.out.2.2.2.1; have := HR.out.2.2.2.2.1; omega) HR.out.2.2.2.2.2
    (fun x h0 hx => by
      obtain ⟨g1, o1, e, hg1, _⟩ := H.out.1 h0
      rw [hx] at e; injection e with e; subst e
      have := HGH.out; have := HR.out.2.1.size
      simp only
      omega)
    (fun e => by have := H0.out.2.2; have := HR.out.2.2.1; have := HR.out.2.2.2.1; rcases e with e | e <;> omega) hs1 hs2 H.out.2.2.2.2.2.1)
  go_wp2_with fail
  refine HN.out.mono ?_
  rintro e w4 ⟨hp, ho4⟩
  have HO4 : Hid (Below w.heap.size w w4) := Lib.hid ((HR.out.2.1.below (Nat.le_refl _) (fun _ h => h.elim)).trans (ho4.below HR.out.2.1.size (fun k hk => by
    have := HGH.out; have := H0.out.2.2; have := HR.out.2.2.1; have := HR.out.2.2.2.1
    rcases hk with (hk | hk) | hk <;> omega)))
  have HSE : Hid (SntE w4) := Lib.hid (H.out.2.2.2.1.only (Only.of_below (S := fun _ => False) HO4.out) (fun _ _ h => h))
  clear ho4
  rcases hp with ⟨h1, x, rfl⟩ | ⟨rfl, C, I, q, gn, hpt, hcd, hlen, hts, hgn, hrd⟩
  · have HE := Lib.hid h1
    clear h1
    unfold errV
    go_wp2
    go_ret2
    exact ⟨.inl ⟨HE.out, rfl⟩, HO4.out⟩
  · have HS := Lib.hid (syms_any C I gh gn gd gr a n c f S q m w4 hcd (hts.whole hcd (fun _ _ h => h) hlen) hrd HSE.out (fun g hg e => by
      have := H.out.2.2.2.2.2.2; have := HGH.out; have := H0.out.2.2; have := HR.out.2.2; rcases e with e | e <;> omega) hm)
    have HP := Lib.hid (And.intro hpt hcd)
    clear hpt hcd hlen hts hgn hrd
    go_wp2_with fail
    refine HS.out.mono ?_
    rintro _ w5 ⟨⟨l, kind, a', c', rfl, htold, hown⟩, ho5⟩
    have H5 := Lib.hid (And.intro htold (And.intro hown ho5))
    clear htold hown ho5
    go_wp2
    go_ret2
    exact ⟨.inr ⟨C, I, q, l, kind, a', c', HP.out.1, HP.out.2, rfl, H5.out.1, H5.out.2.1.mono HO4.out.size⟩, HO4.out.trans (H5.out.2.2.below HO4.out.size (fun k hk => by have := HGH.out; have := H0.out.2.2; have := HR.out.2.2; rcases hk with hk | hk <;> omega))⟩
end Go.Proofs.YtdmefbpfpmkdcaaDoor
