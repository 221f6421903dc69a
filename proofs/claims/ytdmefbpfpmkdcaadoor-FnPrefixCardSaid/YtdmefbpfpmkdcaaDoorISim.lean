/- impl.Simple: symbols by a simple code. -/
import Derived.Test.YtdmefbpfpmkdcaaDoorBldS
namespace Go.Proofs.YtdmefbpfpmkdcaaDoor
open Go.RowKit
set_option linter.unusedVariables false

theorem RevT.only {T : Nat → Prop} {w w' : World} (h : RevT w) (ho : Only T w w') (hg : ¬ T 4) : RevT w' := fun k hk =>
  (World.cell?_of_block (ho.block _ (World.block_lt_of_cell? w _ (h k hk)) hg)).trans (h k hk)
theorem RevT.lt {w : World} (h : RevT w) : 4 < w.heap.size := World.block_lt_of_cell? w _ (h 0 (by decide))
theorem zeroTree : Tryd.zeroCells74 = (hCells (.slice none 0 0) (fun _ => 0)).toArray := by kernel_rfl

set_option maxRecDepth 100000 in
theorem doorSimple_any (gh cnt sz : Nat) (a b : Nat) (w : World) (h : SObj w gh 74 (hCells (.slice none 0 0) (fun _ => 0))) (hr : RevT w) (hg : 4 ≠ gh)
    (hc : cnt = 1 ∨ cnt = 2) (ha : a < sz) (hb : cnt = 2 → b < sz) (hb2 : b ≤ 4294967295) (hsz : sz ≤ 4096) :
    Calls Tryd.prog 37 #[.pointer (some ⟨gh, 0, none⟩), .int .u32 cnt, .agg #[.int .u32 a, .int .u32 b], .int .u32 sz] w fun e w' => e = .returned .nilIface ∧ (∃ gn, TreeS (simC a b cnt) (simC a b cnt) w' gh gn ∧ w.heap.size ≤ gn) ∧ Only (fun k => k = gh) w w' := by
  obtain ⟨w1, hw1⟩ : ∃ x, x = w.alloc (.cells #[.int .u32 a, .int .u32 b] 76) := ⟨_, rfl⟩
  have ho1 : Only (fun k => k = gh) w w1 := by rw [hw1]; exact Only.alloc _ _ _
  have hs1 := ho1.size
  have HN := Lib.hid (bldS_any gh cnt sz a b w1 (by rw [hw1]; exact h.alloc _) (hr.only ho1 (fun e => hg e)) hg hc ha hb hb2 hsz)
  have HO := Lib.hid (And.intro ho1 hs1)
  clear h hr hg hc ha hb hb2 hsz ho1 hs1
  go_enter Tryd.func37, Tryd.ntmps37
  go_upto_region 1 with fail
  have c0 : (w.alloc (.cells #[.int .u32 a, .int .u32 b] 76)).cell? ⟨w.heap.size, 0, none⟩ = some (.int .u32 a) := (obj_new w 76 [.int .u32 a, .int .u32 b]).cell 0 rfl
  have c1 : (w.alloc (.cells #[.int .u32 a, .int .u32 b] 76)).cell? ⟨w.heap.size, 1, none⟩ = some (.int .u32 b) := (obj_new w 76 [.int .u32 a, .int .u32 b]).cell 1 rfl
  rw [← hw1] at c0 c1 ⊢
  clear hw1
  go_wp2_with fail
  refine HN.out.mono ?_
  rintro _ w2 ⟨rfl, ⟨gn, ht, hgn⟩, ho⟩
  have H2 := Lib.hid (And.intro ht (And.intro hgn ho))
  clear ht hgn ho
  go_wp2
  go_ret
  exact ⟨rfl, ⟨gn, H2.out.1, Nat.le_trans HO.out.2 H2.out.2.1⟩, HO.out.1.tr H2.out.2.2⟩

set_option maxRecDepth 100000 in
set_option maxHeartbeats 400000 in
theorem isim_any (cnt t0 sz m : Nat) (t1 : Int) (b : Nat) (a : Option Addr) (n c : Nat) (f : Nat → Int) (S : Nat) (w : World) (ha : Arg .u8 w a n f) (hs : Strm f S n) (hmax : n ≤ 1048576) (hr : RevT w) (hse : SntE w)
    (hc : cnt = 1 ∨ cnt = 2) (h0 : t0 < sz) (hb : cnt = 2 → b < sz) (h1 : t1 % 4294967296 = (b : Int)) (hsz : sz ≤ 4096) (hm : m ≤ 4096) :
    Calls Tryd.prog 20 #[.int .i64 cnt, .agg #[.int .i64 t0, .int .i64 t1], .int .i64 sz, .slice a n c, .int .i64 m] w fun e w' =>
      (∃ l kind a' c', e = .returned (.tuple #[.slice a' l.length c', .int .i64 (kind : Nat)]) ∧ Told (simC t0 b cnt) S n 0 m l kind ∧ Own .i64 w.heap.size w' a' l.length (listF l)) ∧ Below w.heap.size w w' := by
  have H := Lib.hid (And.intro ha (And.intro hs (And.intro hr (And.intro hse (And.intro hc hb)))))
  clear ha hs hr hse hb
  go_enter Tryd.func20, Tryd.ntmps20
  go_wp2_with fail
  rw [zeroTree]
  obtain ⟨w0, hw0⟩ : ∃ x, x = (w.alloc (.cells #[.int .i64 t0, .int .i64 t1] 42)).alloc (.cells (hCells (.slice none 0 0) (fun _ => 0)).toArray 74) := ⟨_, rfl⟩
  obtain ⟨gb, hgb⟩ : ∃ x, x = w.heap.size := ⟨_, rfl⟩
  have H0 : Hid (SObj w0 (gb + 1) 74 (hCells (.slice none 0 0) (fun _ => 0)) ∧ SObj w0 gb 42 [.int .i64 t0, .int .i64 t1] ∧ Only (fun _ => False) w w0 ∧ gb + 1 < w0.heap.size) := Lib.hid (by
    have e2 : (w.alloc (.cells #[.int .i64 t0, .int .i64 t1] 42)).heap.size = w.heap.size + 1 := by simp
    refine ⟨?_, ?_, ?_, by rw [hw0, hgb]; simp⟩
    · rw [hw0, hgb, ← e2]; exact obj_new _ _ _
    · rw [hw0, hgb]; exact (obj_new w 42 [.int .i64 t0, .int .i64 t1]).alloc _
    · rw [hw0]; exact (Only.alloc _ _ _).tr (Only.alloc _ _ _))
  have HGB := Lib.hid hgb
  rw [← hw0, ← hgb]
  clear hw0 hgb
  refine (newReader_any a n c w0).mono ?_
  rintro _ w1 ⟨rfl, hbr, hb1⟩
  have H1 := Lib.hid (And.intro hbr hb1); clear hbr hb1
  go_wp2_with fail
  refine (newBits_any _ w1).mono ?_
  rintro _ w2 ⟨rfl, ho, hb2⟩
  have H2 := Lib.hid (rdr0 (H.out.1.only H0.out.2.2.1 (fun _ _ _ h => h)) H.out.2.1 (by omega) H1.out.1 H1.out.2 ho hb2)
  clear ho hb2
  obtain ⟨gd, hgd⟩ : ∃ x, x = w1.heap.size := ⟨_, rfl⟩
  obtain ⟨gr, hgr⟩ : ∃ x, x = w0.heap.size := ⟨_, rfl⟩
  have HR : Hid (Rdr w2 gd gr a n c f S 0 ∧ Only (fun _ => False) w w2 ∧ gr < gd ∧ gr = w0.heap.size ∧ gd < w2.heap.size) := Lib.hid (by
    have h5 := H2.out
    rw [← hgd, ← hgr] at h5
    refine ⟨h5.1, H0.out.2.2.1.tr (Only.of_below (by rw [hgr] at h5; exact h5.2.1)), h5.2.2, hgr, (h5.1.lt).1⟩)
  have HT : Hid (SObj w2 (gb + 1) 74 (hCells (.slice none 0 0) (fun _ => 0)) ∧ SObj w2 gb 42 [.int .i64 t0, .int .i64 t1]) := Lib.hid (by
    have h5 := H2.out.2.1
    have h6 := H0.out.2.2.2
    exact ⟨H0.out.1.below h5 h6, H0.out.2.1.below h5 (by omega)⟩)
  rw [← hgd]
  clear H1 H2 hgd hgr
  have c0 := HT.out.2.cell 0 rfl
  have c1 := HT.out.2.cell 1 rfl
  have hb32 : b ≤ 4294967295 := by omega
  have HN := Lib.hid (doorSimple_any (gb + 1) cnt sz t0 b w2 HT.out.1 (H.out.2.2.1.only HR.out.2.1 (fun h => h)) (by have := H.out.2.2.1.lt; have := HGB.out; omega) hc h0 H.out.2.2.2.2.2 hb32 hsz)
  go_wp2_with fail
  refine HN.out.mono ?_
  rintro _ w3 ⟨rfl, ⟨gn, ht, hgn⟩, ho⟩
  have hcd := simC_code t0 b cnt hc (by omega) (fun h2 => by have := H.out.2.2.2.2.2 h2; omega)
  have hlen : (simC t0 b cnt).length ≤ 4096 := by rcases hc with rfl | rfl <;> simp [simC]
  have ho3 : Only (fun k => k = gb + 1) w w3 := (HR.out.2.1.mono (fun _ h => h.elim)).tr ho
  have hr3 : Rdr w3 gd gr a n c f S 0 := HR.out.1.only ho (by have := H0.out.2.2.2; have := HR.out.2.2; omega) (by have := H0.out.2.2.2; have := HR.out.2.2; omega) (fun h0 x hx => by
    obtain ⟨g1, o1, e, hg1, _⟩ := H.out.1 h0
    rw [hx] at e; injection e with e; subst e
    have := HGB.out
    simp only
    omega)
  have hE3 : SntE w3 := H.out.2.2.2.1.only ho3 (fun g hg e => by have := H.out.2.2.1.lt; have := HGB.out; omega)
  have HS := Lib.hid (syms_any (simC t0 b cnt) (simI cnt) (gb + 1) gn gd gr a n c f S 0 m w3 hcd (ht.whole hcd (fun _ _ h => h) hlen) hr3 hE3 (fun g hg e => by have := H.out.2.2.1.lt; have := HGB.out; have := H0.out.2.2.2; have := HR.out.2.2; rcases e with e | e <;> omega) hm)
  have HO3 := Lib.hid ho3
  clear ht hgn ho hcd hlen ho3 hr3 hE3 c0 c1
  go_wp2_with fail
  refine HS.out.mono ?_
  rintro _ w4 ⟨⟨l, kind, a', c', rfl, htold, hown⟩, ho4⟩
  have H4 := Lib.hid (And.intro htold (And.intro hown ho4))
  clear htold hown ho4
  go_wp2
  go_ret2
  exact ⟨⟨l, kind, a', c', rfl, H4.out.1, H4.out.2.1.mono HO3.out.size⟩, (HO3.out.below (Nat.le_refl _) (fun k hk => by have := HGB.out; omega)).trans (H4.out.2.2.below HO3.out.size (fun k hk => by have := HGB.out; have := H0.out.2.2.2; have := HR.out.2.2; rcases hk with hk | hk <;> omega))⟩
end Go.Proofs.YtdmefbpfpmkdcaaDoor
