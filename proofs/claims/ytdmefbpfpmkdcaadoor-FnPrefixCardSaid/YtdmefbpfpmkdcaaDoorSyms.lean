/- impl.symbols: symbols by a code. -/
import Derived.Test.YtdmefbpfpmkdcaaDoorNxt
import Derived.Test.YtdmefbpfpmkdcaaDoorHufR
import Derived.Test.YtdmefbpfpmkdcaaDoorReadN
import Derived.Test.YtdmefbpfpmkdcaaDoorSSym
namespace Go.Proofs.YtdmefbpfpmkdcaaDoor
open Go.RowKit
set_option linter.unusedVariables false

theorem listF_snoc (l : List Nat) (s : Nat) : cellsOf .i64 l.length (listF l) ++ [.int .i64 (s : Int)] = cellsOf .i64 (l.length + 1) (listF (l ++ [s])) := by
  rw [cellsOf_succ]
  have e : listF (l ++ [s]) l.length = (s : Int) := by unfold listF; simp
  rw [e]
  congr 1
  simp only [cellsOf]
  refine List.map_congr_left fun i hi => ?_
  rw [List.mem_range] at hi
  unfold listF
  rw [List.getD_eq_getElem?_getD, List.getD_eq_getElem?_getD, List.getElem?_append_left hi]
theorem TreeW.only {T : Nat → Prop} {C : List (Nat × Nat)} {w w' : World} {gh gn : Nat} (h : TreeW C w gh gn) (ho : Only T w w') (h1 : ¬ T gh) (h2 : ¬ T gn) : TreeW C w' gh gn := by
  obtain ⟨L, m, nd, lut, At, hD, hLm, hm8, hT⟩ := h
  exact ⟨L, m, nd, lut, At, hD, hLm, hm8, hT.only ho h1 h2⟩
theorem TreeW.lt {C : List (Nat × Nat)} {w : World} {gh gn : Nat} (h : TreeW C w gh gn) : gh < w.heap.size ∧ gn < w.heap.size := by
  obtain ⟨L, m, nd, lut, At, hD, hLm, hm8, hT⟩ := h
  exact ⟨hT.obj.lt, hT.nds.lt⟩
theorem TreeW.ne {C : List (Nat × Nat)} {w : World} {gh gn gd gr : Nat} {a : Option Addr} {n c : Nat} {f : Nat → Int} {S p : Nat} (h : TreeW C w gh gn) (hr : Rdr w gd gr a n c f S p) : ¬ Two gd gr gh ∧ ¬ Two gd gr gn := by
  obtain ⟨L, m, nd, lut, At, hD, hLm, hm8, hT⟩ := h
  obtain ⟨ar, b, i, hdb, _⟩ := hr
  obtain ⟨pr, h2⟩ := hdb.2
  refine ⟨fun e => ?_, fun e => ?_⟩
  · rcases e with e | e
    · subst e; exact absurd (hdb.1.ty.inj hT.obj.ty) (by decide)
    · subst e; exact absurd (h2.ty.inj hT.obj.ty) (by decide)
  · rcases e with e | e
    · subst e; exact absurd (hdb.1.ty.inj hT.nds.ty) (by decide)
    · subst e; exact absurd (h2.ty.inj hT.nds.ty) (by decide)
theorem SntE.only {T : Nat → Prop} {w w' : World} (h : SntE w) (ho : Only T w w') (hg : ∀ g, g ≤ 1 → ¬ T g) : SntE w' := by
  obtain ⟨⟨aE, hE⟩, ⟨aU, hU⟩⟩ := h
  exact ⟨⟨aE, (World.cell?_of_block (ho.block _ (World.block_lt_of_cell? w _ hE) (hg _ (by decide)))).trans hE⟩, ⟨aU, (World.cell?_of_block (ho.block _ (World.block_lt_of_cell? w _ hU) (hg _ (by decide)))).trans hU⟩⟩

def New (gd gr : Nat) (w : World) (k : Nat) : Prop := Two gd gr k ∨ w.heap.size ≤ k
theorem New.cut {gd gr : Nat} {w w' : World} (h : Only (New gd gr w) w w') : Only (Two gd gr) w w' :=
  ⟨h.os, h.tape, h.output, h.size, fun k hk hn => h.block k hk (fun e => by rcases e with e | e; exact hn e; omega)⟩

set_option maxRecDepth 100000 in
theorem doorNext_any (C : List (Nat × Nat)) (I : List Nat) (gh gn gd gr : Nat) (a : Option Addr) (n c : Nat) (f : Nat → Int) (S p k s : Nat) (w : World) (hC : Code C I) (h : TreeW C w gh gn) (hr : Rdr w gd gr a n c f S p) (hs : SntE w)
    (hg : ∀ g, g ≤ 1 → ¬ Two gd gr g) (ht : Tells C (S / 2 ^ p) k s) :
    Calls Tryd.prog 52 #[.pointer (some ⟨gh, 0, none⟩), .pointer (some ⟨gd, 0, none⟩)] w fun e w' =>
      ((p + k ≤ 8 * n ∧ e = .returned (.tuple #[.int .u32 s, .nilIface]) ∧ Rdr w' gd gr a n c f S (p + k)) ∨ (8 * n < p + k ∧ ∃ b, e = .returned (.tuple #[.int .u32 0, errV b]))) ∧ Only (Two gd gr) w w' := by
  have HN := Lib.hid (next_any C I gh gn gd gr a n c f S p k s w hC h hr hs hg ht)
  clear hC h hr hs hg ht
  go_enter Tryd.func52, Tryd.ntmps52
  go_wp2_with fail
  refine HN.out.mono ?_
  rintro _ w2 ⟨h2, ho⟩
  have HO := Lib.hid ho; clear ho
  rcases h2 with ⟨h1, rfl, h3⟩ | ⟨h1, b, rfl⟩
  · have H3 := Lib.hid h3; clear h3
    go_wp2
    go_ret2
    exact ⟨.inl ⟨h1, rfl, H3.out⟩, HO.out⟩
  · go_wp2
    go_ret2
    exact ⟨.inr ⟨h1, b, rfl⟩, HO.out⟩

set_option maxRecDepth 100000 in
set_option maxHeartbeats 800000 in
theorem syms_any (C : List (Nat × Nat)) (I : List Nat) (gh gn gd gr : Nat) (a : Option Addr) (n c : Nat) (f : Nat → Int) (S p m : Nat) (w : World) (hC : Code C I) (h : TreeW C w gh gn) (hr : Rdr w gd gr a n c f S p) (hs : SntE w)
    (hg : ∀ g, g ≤ 1 → ¬ Two gd gr g) (hm : m ≤ 4096) :
    Calls Tryd.prog 38 #[.pointer (some ⟨gh, 0, none⟩), .pointer (some ⟨gd, 0, none⟩), .int .i64 m] w fun e w' =>
      (∃ l kind a' c', e = .returned (.tuple #[.slice a' l.length c', .int .i64 (kind : Nat)]) ∧ Told C S n p m l kind ∧ Own .i64 w.heap.size w' a' l.length (listF l)) ∧ Only (Two gd gr) w w' := by
  obtain ⟨i0, hi, hz0, hz1, hz2⟩ := info_parts infoInt
  have HI := Lib.hid (And.intro hi (And.intro hz0 (And.intro hz1 hz2)))
  obtain ⟨hn1, hn2⟩ := h.ne hr
  obtain ⟨l1, l2, l3⟩ := hr.lt
  have H := Lib.hid (And.intro hC (And.intro h (And.intro hs (And.intro hg (And.intro hn1 (And.intro hn2 (And.intro l1 (And.intro l2 l3))))))))
  have HR0 := Lib.hid hr
  clear hC h hs hg hr hn1 hn2 l1 l2 l3 hi hz0 hz1 hz2
  go_enter Tryd.func38, Tryd.ntmps38
  go_wp2_with fail
  go_loopg [8, 12] (m + 1) (fun j v s12 wr => ∃ (l : List Nat) (i : Nat), i = l.length ∧ s12 = .int .i64 i ∧ i ≤ m ∧ m < j + i ∧ Hid (∃ q, Rds C S n p l q ∧ Rdr wr gd gr a n c f S q ∧ Only (New gd gr w) w wr ∧ wr.ownsRow w.heap.size 3 1 v l.length (cellsOf .i64 l.length (listF l))))
  case atStart => exact ⟨[], 0, rfl, rfl, Nat.zero_le _, by omega, p, Rds.nil, HR0.out, Only.refl _ _, World.ownsRow_nil _ _ _ _⟩
  case round =>
    obtain ⟨l, i, hil, rfl, him, hj, hR⟩ := hrel
    obtain ⟨q, hrd, hr, ho, hown⟩ := hR.out
    have HIL := Lib.hid hil
    clear hR
    by_cases hlt : i < m
    · obtain ⟨k, s, ht⟩ := H.out.1.tells (S / 2 ^ q)
      have hs65 := (Tells.le H.out.1 ht).2
      have HN := Lib.hid (doorNext_any C I gh gn gd gr a n c f S q k s wr H.out.1 (H.out.2.1.only (New.cut ho) H.out.2.2.2.2.1 H.out.2.2.2.2.2.1) hr (H.out.2.2.1.only (New.cut ho) H.out.2.2.2.1) H.out.2.2.2.1 ht)
      have HS := Lib.hid (And.intro hrd (And.intro ho (And.intro hown ht)))
      clear hrd hr ho hown ht hil
      go_wp2_with fail
      refine HN.out.mono ?_
      rintro _ w2 ⟨h2, ho2⟩
      rcases h2 with ⟨h1, rfl, h3⟩ | ⟨h1, b, rfl⟩
      · have ho3 := HS.out.2.1.tr (ho2.mono (S' := New gd gr w) (fun k h => .inl h))
        have hown2 : w2.ownsRow w.heap.size 3 1 u8 i (cellsOf .i64 i (listF l)) := by
          rw [HIL.out]
          exact ownsRow_only HS.out.2.2.1 ho2 (fun k hk h => by
            have h4 := (ownsRow_ty HS.out.2.2.1 hk).2.1
            have h5 := H.out.2.2.2.2.2.2
            rcases h with rfl | rfl <;> omega)
        have H2 := Lib.hid (And.intro h3 (And.intro ho3 (And.intro h1 hown2)))
        have hsz : w.heap.size ≤ (w2.alloc (.cells #[.int .i64 s] 3)).heap.size := by have := ho3.size; simp; omega
        clear h3 ho2 ho3 h1 hown2
        obtain ⟨hi, hz0, hz1, hz2⟩ := HI.out
        go_wp2_with (at_builtin; refine wpList_append_own _ rfl _ _ 22 rfl w.heap.size 3 i0 (.int .i64 0) 1 8 Tryd.underlying22 hi hz0 hz1 hz2 rfl (by decide) _ _ _ rfl (H2.out.2.2.2.alloc _) ⟨w2.heap.size, 0, none⟩ 1 1 [.int .i64 s] rfl rfl (cell_one_new _ _ _) (by simp [Value.oneCell']) (by unfold maxLen; omega) (by omega) (by have := H2.out.2.1.size; simp; omega) ?_)
        intro v' w3 hown3 hgrow _
        have H3 : Hid (w3.ownsRow w.heap.size 3 1 v' (i + 1) (cellsOf .i64 i (listF l) ++ [.int .i64 s]) ∧ Only (fun k => w.heap.size ≤ k) w2 w3) := Lib.hid ⟨hown3, (Only.alloc _ w2 _).tr (Only.of_grown hgrow (fun k hk => (ownsRow_ty H2.out.2.2.2 hk).2.1))⟩
        clear hown3 hgrow
        go_wp2
        go_roundg (gk - 1)
        case measure => omega
        case rel =>
          have h3 := H3.out.1
          rw [HIL.out, listF_snoc] at h3
          refine ⟨l ++ [s], i + 1, by rw [List.length_append, List.length_singleton, HIL.out], by go_num, by omega, by omega, q + k, Rds.snoc l q k s HS.out.1 HS.out.2.2.2 H2.out.2.2.1, H2.out.1.only H3.out.2 (by have := H.out.2.2.2.2.2.2.1; omega) (by have := H.out.2.2.2.2.2.2.2.1; omega) (fun h0 x hx => by have := H.out.2.2.2.2.2.2.2.2 h0 x hx; omega), H2.out.2.1.tr (H3.out.2.mono (fun k h => .inr h)), ?_⟩
          rw [List.length_append, List.length_singleton]
          exact h3
      · have HO := Lib.hid (And.intro h1 (HS.out.2.1.tr (ho2.mono (S' := New gd gr w) (fun k h => .inl h)))); clear h1
        have hown2 : w2.ownsRow w.heap.size 3 1 u8 l.length (cellsOf .i64 l.length (listF l)) :=
          ownsRow_only HS.out.2.2.1 ho2 (fun k hk h => by
            have h4 := (ownsRow_ty HS.out.2.2.1 hk).2.1
            have h5 := H.out.2.2.2.2.2.2
            rcases h with rfl | rfl <;> omega)
        have HW := Lib.hid hown2
        clear ho2 hown2
        unfold errV
        go_wp2
        go_ret2
        obtain ⟨a', c', hv, hc', hw'⟩ := own_of_cells HW.out
        exact ⟨⟨l, 2, a', c', by rw [hv]; rfl, .inr ⟨rfl, by rw [← HIL.out]; exact hlt, q, k, s, HS.out.1, HS.out.2.2.2, HO.out.1⟩, hw'⟩, New.cut HO.out.2⟩
    · go_wp2
      go_ret2
      obtain ⟨a', c', hv, hc', hw'⟩ := own_of_cells hown
      exact ⟨⟨l, 0, a', c', by rw [hv]; rfl, .inl ⟨rfl, by rw [← HIL.out]; omega, q, hrd⟩, hw'⟩, New.cut ho⟩
end Go.Proofs.YtdmefbpfpmkdcaaDoor
