/- The reference's some: symbols by a code. -/
import Derived.Test.YtdmefbpfpmkdcaaDoorSyms
import Derived.Laws.Rows
import Derived.Deep.OwnRows
import Derived.Deep.MidRow
import Derived.Deep.RegionWith
namespace Go.Proofs.YtdmefbpfpmkdcaaDoor
open Go.RowKit
set_option linter.unusedVariables false

/-- A code of the reference: cs are its cells; its M symbols lie at sa. -/
def CodeOK (C : List (Nat × Nat)) (w : World) (cs : Array Value) (sa : Option Addr) (sc M : Nat) : Prop :=
  (∃ c n, C = codesL c n n ∧ Whole c n ∧ M = (sys c n 15).length ∧ M ≠ 1 ∧ CodeR w (hh c n) (sys c n 15) cs sa sc) ∨ (∃ s h, C = [(1, s)] ∧ M = 1 ∧ CodeR w h [s] cs sa sc)
theorem CodeOK.only {T : Nat → Prop} {C : List (Nat × Nat)} {w w' : World} {cs : Array Value} {sa : Option Addr} {sc M : Nat} (k : CodeOK C w cs sa sc M) (ho : Only T w w') (hn : 0 < M → ∀ x, sa = some x → ¬ T x.block) : CodeOK C w' cs sa sc M := by
  rcases k with ⟨c, n, h1, h2, h3, h4, h5⟩ | ⟨s, h, h1, h2, h3⟩
  · exact .inl ⟨c, n, h1, h2, h3, h4, h5.only ho (by rw [← h3]; exact hn)⟩
  · exact .inr ⟨s, h, h1, h2, h3.only ho (fun _ => hn (by omega))⟩
theorem CodeOK.size {C : List (Nat × Nat)} {w : World} {cs : Array Value} {sa : Option Addr} {sc M : Nat} (k : CodeOK C w cs sa sc M) : cs.size = 17 := by
  rcases k with ⟨c, n, h1, h2, h3, h4, h5⟩ | ⟨s, h, h1, h2, h3⟩
  · rw [h5.cells]; simp [cdCells]
  · rw [h3.cells]; simp [cdCells]
theorem infoCode : (Tryd.prog.info? 86).map (·.size) = some 17 := by kernel_rfl

set_option maxRecDepth 100000 in
theorem ssym_one (g : Nat) (cs : Array Value) (sa : Option Addr) (sc s : Nat) (h : Nat → Nat) (w : World) (hr : CodeR w h [s] cs sa sc) :
    Calls Tryd.prog 59 #[.pointer (some ⟨g, 0, none⟩), .agg cs] w fun e w' => e = .returned (.int .i64 s) ∧ Only (fun _ => False) w w' := by
  have hcl := hr.cells
  subst hcl
  obtain ⟨gs, os, hsa, hgs, ra⟩ := hr.row (by simp)
  subst hsa
  have e0 : ([s] : List Nat).length = 1 := rfl
  rw [e0]
  have el : listF [s] 0 = (s : Int) := rfl
  obtain ⟨cl, hcl⟩ : ∃ x, x = cdCells h (.slice (some ⟨gs, os, none⟩) 1 sc) := ⟨_, rfl⟩
  have ho : SObj (w.alloc (.cells cl.toArray 86)) w.heap.size 86 cl := obj_new _ _ _
  have c16 := ho.cell 16 (by rw [hcl]; exact cdCells_sym _ _)
  have cy : (w.alloc (.cells cl.toArray 86)).cell? ⟨gs, os, none⟩ = some (.int .i64 s) := by
    rw [World.cell?_of_block (w := w) (Below.heap_alloc w _ gs hgs)]
    have := ra 0 (by simp)
    rw [el] at this
    exact this
  have HO : Hid (Only (fun _ => False) w (w.alloc (.cells cl.toArray 86))) := Lib.hid (Only.alloc _ _ _)
  rw [← hcl]
  clear hcl ho ra hr
  go_enter Tryd.func59, Tryd.ntmps59
  go_upto_region 1 with fail
  generalize World.alloc _ _ = w1 at *
  go_wp2
  go_ret
  exact ⟨rfl, HO.out⟩

theorem ssym_c (C : List (Nat × Nat)) (g : Nat) (a : Option Addr) (nb cb : Nat) (f : Nat → Int) (S p : Nat) (op : Bool) (cs : Array Value) (sa : Option Addr) (sc M k s : Nat) (w : World) (h : SB w g a nb cb f S p false op) (hc : CodeOK C w cs sa sc M)
    (hsg : 0 < M → ∀ x, sa = some x → x.block ≠ g) (ht : Tells C (S / 2 ^ p) k s) :
    Calls Tryd.prog 59 #[.pointer (some ⟨g, 0, none⟩), .agg cs] w fun e w' =>
      ((p + k ≤ 8 * nb ∧ e = .returned (.int .i64 s) ∧ SB w' g a nb cb f S (p + k) false op) ∨ (8 * nb < p + k ∧ e = .returned (.int .i64 0) ∧ SB w' g a nb cb f S (8 * nb) true op)) ∧ Only (fun k => k = g) w w' := by
  rcases hc with ⟨c, n, rfl, h2, rfl, h4, h5⟩ | ⟨s1, h1, rfl, rfl, h3⟩
  · exact ssym_any g a nb cb f S p op c n cs sa sc k s w h h2 h5 h4 hsg ht
  · unfold Tells at ht
    rw [List.mem_singleton] at ht
    injection ht with e1 e2
    subst e2
    have hk : k = 0 := by
      rcases Nat.eq_zero_or_pos k with hz | hz
      · exact hz
      · have := pth_low (S / 2 ^ p) k
        have h5 : (2 : Nat) ^ 1 ≤ 2 ^ k := Nat.pow_le_pow_right (by decide) hz
        omega
    subst hk
    refine (ssym_one g cs sa sc s h1 w h3).mono ?_
    rintro _ w' ⟨rfl, ho⟩
    exact ⟨.inl ⟨h.le, rfl, h.only ho (fun h => h) (fun _ _ _ h => h)⟩, ho.mono (fun _ h => h.elim)⟩

def New1 (g : Nat) (w : World) (k : Nat) : Prop := k = g ∨ w.heap.size ≤ k
theorem New1.cut {g : Nat} {w w' : World} (h : Only (New1 g w) w w') : Only (fun k => k = g) w w' :=
  ⟨h.os, h.tape, h.output, h.size, fun k hk hn => h.block k hk (fun e => by rcases e with e | e; exact hn e; omega)⟩

set_option maxRecDepth 100000 in
set_option maxHeartbeats 800000 in
theorem some_any (C : List (Nat × Nat)) (I : List Nat) (g : Nat) (a : Option Addr) (nb cb : Nat) (f : Nat → Int) (S p m : Nat) (op : Bool) (cs : Array Value) (sa : Option Addr) (sc M : Nat) (w : World) (hC : Code C I) (h : SB w g a nb cb f S p false op) (hc : CodeOK C w cs sa sc M)
    (hsg : 0 < M → ∀ x, sa = some x → x.block ≠ g ∧ x.block < w.heap.size) (hm : m ≤ 4096) :
    Calls Tryd.prog 44 #[.pointer (some ⟨g, 0, none⟩), .agg cs, .int .i64 m] w fun e w' =>
      (∃ l kind a' c', e = .returned (.tuple #[.slice a' l.length c', .int .i64 (kind : Nat)]) ∧ Told C S nb p m l kind ∧ Own .i64 w.heap.size w' a' l.length (listF l)) ∧ Only (fun k => k = g) w w' := by
  obtain ⟨i0, hi, hz0, hz1, hz2⟩ := info_parts infoInt
  have HI := Lib.hid (And.intro hi (And.intro hz0 (And.intro hz1 hz2)))
  have hgl := h.obj.lt
  have har : 0 < nb → ∀ x, a = some x → x.block < w.heap.size := fun h0 x hx => by
    obtain ⟨g1, o1, e, hg1, _⟩ := h.row h0
    rw [hx] at e; injection e with e; subst e; exact hg1
  obtain ⟨w1, hw1⟩ : ∃ x, x = w.alloc (.cells cs 86) := ⟨_, rfl⟩
  have ha1 : Only (fun _ => False) w w1 := by rw [hw1]; exact Only.alloc _ _ _
  have hbx : w1.heap[w.heap.size]? = some (.cells cs 86 (0, 0)) := by rw [hw1]; exact heap_alloc_new w _
  obtain ⟨gb, hgb⟩ : ∃ x, x = w.heap.size := ⟨_, rfl⟩
  rw [← hgb] at hbx hgl
  have hgw : gb < w1.heap.size := (Array.getElem?_eq_some_iff.1 hbx).1
  have H := Lib.hid (And.intro hC (And.intro (h.only ha1 (fun h => h) (fun _ _ _ h => h)) (And.intro (hc.only ha1 (fun _ _ _ h => h)) (And.intro hsg (And.intro ha1 (And.intro hbx (And.intro hgb (And.intro hgl (And.intro har (And.intro hc.size hgw))))))))))
  clear hC h hc hsg hgl har ha1 hbx hi hz0 hz1 hz2 hgw
  go_enter Tryd.func44, Tryd.ntmps44
  go_upto_region 1 with fail
  rw [← hgb, ← hw1]
  clear hw1 hgb
  go_wp2_with fail
  go_loopg [8, 9] (m + 1) (fun j v s9 wr => ∃ (l : List Nat) (i : Nat), i = l.length ∧ s9 = .int .i64 i ∧ i ≤ m ∧ m < j + i ∧ Hid (∃ q, Rds C S nb p l q ∧ SB wr g a nb cb f S q false op ∧ Only (New1 g w1) w1 wr ∧ wr.ownsRow w1.heap.size 3 1 v l.length (cellsOf .i64 l.length (listF l))))
  case atStart => exact ⟨[], 0, rfl, rfl, Nat.zero_le _, by omega, p, Rds.nil, H.out.2.1, Only.refl _ _, World.ownsRow_nil _ _ _ _⟩
  case round =>
    obtain ⟨l, i, hil, rfl, him, hj, hR⟩ := hrel
    obtain ⟨q, hrd, hr, ho, hown⟩ := hR.out
    have HIL := Lib.hid hil
    clear hR
    by_cases hlt : i < m
    · obtain ⟨k, s, ht⟩ := H.out.1.tells (S / 2 ^ q)
      have hs65 := (Tells.le H.out.1 ht).2
      have hcr : CodeOK C wr cs sa sc M := H.out.2.2.1.only (New1.cut ho) (fun h0 x hx => (H.out.2.2.2.1 h0 x hx).1)
      have HN := Lib.hid (ssym_c C g a nb cb f S q op cs sa sc M k s wr hr hcr (fun h0 x hx => (H.out.2.2.2.1 h0 x hx).1) ht)
      have hbr : wr.heap[gb]? = some (.cells cs 86 (0, 0)) := by
        rw [(New1.cut ho).block gb H.out.2.2.2.2.2.2.2.2.2.2 (by have := H.out.2.2.2.2.2.2.2.1; omega)]
        exact H.out.2.2.2.2.2.1
      have hin : (Tryd.prog.info? 86).map (·.size) = some cs.size := by rw [infoCode, H.out.2.2.2.2.2.2.2.2.2.1]
      have HS := Lib.hid (And.intro hrd (And.intro ho (And.intro hown (And.intro ht (And.intro hbr hin)))))
      clear hrd hr ho hown ht hil hcr hbr hin
      go_upto_region 5 with fail
      go_wp2_with (first | (refine wpList_load_row rfl 86 (.tmp 4) rfl gb rfl 86 cs (0,0) _ HS.out.2.2.2.2.1 Tryd.underlying86 rfl HS.out.2.2.2.2.2 ?_))
      refine HN.out.mono ?_
      rintro _ w2 ⟨h2, ho2⟩
      have hown2 : w2.ownsRow w1.heap.size 3 1 u8 i (cellsOf .i64 i (listF l)) := by
        rw [HIL.out]
        exact ownsRow_only HS.out.2.2.1 ho2 (fun k hk h => by
          have h4 := (ownsRow_ty HS.out.2.2.1 hk).2.1
          have h5 := H.out.2.2.2.2.2.2.2.1
          have h6 := H.out.2.2.2.2.2.2.2.2.2.2
          omega)
      rcases h2 with ⟨h1, rfl, h3⟩ | ⟨h1, rfl, h3⟩
      · have ho3 := HS.out.2.1.tr (ho2.mono (S' := New1 g w1) (fun k h => .inl h))
        have csh := h3.obj.cell 2 rfl
        have H2 := Lib.hid (And.intro h3 (And.intro ho3 (And.intro h1 hown2)))
        have hsz : w1.heap.size ≤ (w2.alloc (.cells #[.int .i64 s] 3)).heap.size := by have := ho3.size; simp; omega
        clear h3 ho2 ho3 h1 hown2
        obtain ⟨hi, hz0, hz1, hz2⟩ := HI.out
        go_wp2_with (at_builtin; refine wpList_append_own _ rfl _ _ 22 rfl w1.heap.size 3 i0 (.int .i64 0) 1 8 Tryd.underlying22 hi hz0 hz1 hz2 rfl (by decide) _ _ _ rfl (H2.out.2.2.2.alloc _) ⟨w2.heap.size, 0, none⟩ 1 1 [.int .i64 s] rfl rfl (cell_one_new _ _ _) (by simp [Value.oneCell']) (by unfold maxLen; omega) (by omega) (by have := H2.out.2.1.size; simp; omega) ?_)
        intro v' w3 hown3 hgrow _
        have H3 : Hid (w3.ownsRow w1.heap.size 3 1 v' (i + 1) (cellsOf .i64 i (listF l) ++ [.int .i64 s]) ∧ Only (fun k => w1.heap.size ≤ k) w2 w3) := Lib.hid ⟨hown3, (Only.alloc _ w2 _).tr (Only.of_grown hgrow (fun k hk => (ownsRow_ty H2.out.2.2.2 hk).2.1))⟩
        clear hown3 hgrow csh
        go_wp2
        go_roundg (gk - 1)
        case measure => omega
        case rel =>
          have h3 := H3.out.1
          rw [HIL.out, listF_snoc] at h3
          have hg1 := H.out.2.2.2.2.2.2.2.1
          have hg2 := H.out.2.2.2.2.2.2.2.2.2.2
          refine ⟨l ++ [s], i + 1, by rw [List.length_append, List.length_singleton, HIL.out], by go_num, by omega, by omega, q + k, Rds.snoc l q k s HS.out.1 HS.out.2.2.2.1 H2.out.2.2.1, H2.out.1.only H3.out.2 (by omega) (fun h0 x hx => by have := H.out.2.2.2.2.2.2.2.2.1 h0 x hx; have := H.out.2.2.2.2.1.size; omega), H2.out.2.1.tr (H3.out.2.mono (fun k h => .inr h)), ?_⟩
          rw [List.length_append, List.length_singleton]
          exact h3
      · have HO := Lib.hid (And.intro h1 (And.intro (HS.out.2.1.tr (ho2.mono (S' := New1 g w1) (fun k h => .inl h))) hown2))
        have csh := h3.obj.cell 2 rfl
        clear h1 ho2 hown2 h3
        go_wp2
        go_ret2
        rw [HIL.out] at HO
        obtain ⟨a', c', hv, hc', hw'⟩ := own_of_cells HO.out.2.2
        exact ⟨⟨l, 2, a', c', by rw [hv]; rfl, .inr ⟨rfl, by rw [← HIL.out]; exact hlt, q, k, s, HS.out.1, HS.out.2.2.2.1, HO.out.1⟩, hw'.mono H.out.2.2.2.2.1.size⟩, (H.out.2.2.2.2.1.mono (S' := fun k => k = g) (fun _ h => h.elim)).tr (New1.cut HO.out.2.1)⟩
    · go_wp2
      go_ret2
      obtain ⟨a', c', hv, hc', hw'⟩ := own_of_cells hown
      exact ⟨⟨l, 0, a', c', by rw [hv]; rfl, .inl ⟨rfl, by rw [← HIL.out]; omega, q, hrd⟩, hw'.mono H.out.2.2.2.2.1.size⟩, (H.out.2.2.2.2.1.mono (S' := fun k => k = g) (fun _ h => h.elim)).tr (New1.cut ho)⟩
end Go.Proofs.YtdmefbpfpmkdcaaDoor
