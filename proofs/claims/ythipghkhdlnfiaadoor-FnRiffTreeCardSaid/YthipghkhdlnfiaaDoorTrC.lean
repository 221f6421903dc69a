/- The law's walker: names and bytes by choices. -/
import Derived.Test.YthipghkhdlnfiaaDoorTrA
import Derived.Test.YthipghkhdlnfiaaDoorRfP
import Derived.Deep.RegionHeld3
import Derived.Deep.LoopGhost
namespace Go.Proofs.YthipghkhdlnfiaaDoor
open Go.RowKit
set_option linter.unusedVariables false

theorem u8_fit (n : Int) (h0 : 0 ≤ n) (h1 : n ≤ 255) : IntKind.u8.wrap n = n := by
  simp [IntKind.wrap, IntKind.signed, IntKind.bits]
  omega
theorem row_shape' {w : World} {base : Nat} {e : TypeId} {size : Nat} {v : Value} {n : Nat} {xs : List Value} (h : w.ownsRow base e size v n xs) : ∃ a c, v = .slice a n c := by
  rcases h.2 with ⟨h, h0⟩ | ⟨g, cap, cur, h, _⟩
  · exact ⟨none, 0, by rw [h, h0]⟩
  · exact ⟨_, _, h⟩
theorem agg4_results {fn : Func} {tmps : Array Value} {w : World} {a g : Nat} {x0 x1 x2 x3 : Value} (hr : fn.results = #[.cell a 26]) (ha : tmps.getD a undef = .pointer (some ⟨g, 0, none⟩)) (h : SObj w g 26 [x0, x1, x2, x3]) :
    (results fn tmps).run Tryd.prog w = .ok (.agg #[x0, x1, x2, x3]) w :=
  results_cell_row hr tmps w g 26 #[x0, x1, x2, x3] (0, 0) _ ha h Tryd.underlying26 rfl (by kernel_rfl)

theorem cell_only {S : Nat → Prop} {w w' : World} (ho : Only S w w') {g o : Nat} (hn : ¬ S g) {v : Value} (h : w.cell? ⟨g, o, none⟩ = some v) : w'.cell? ⟨g, o, none⟩ = some v := by
  rw [World.cell?_of_block (w := w) (ho.block g (World.block_lt_of_cell? w _ h) hn)]; exact h

set_option maxRecDepth 100000 in
set_option maxHeartbeats 4000000 in
theorem wkName_any (gw gc : Nat) (ba : Option Addr) (bn bc : Nat) (f : Nat → Int) (w : World) (s0 x0 k0 : Value) (hp : SObj w gw 51 [.pointer (some ⟨gc, 0, none⟩), s0, x0, k0]) (hc : CH w gc ba bn bc f) :
    Calls Tryd.prog 27 #[.pointer (some ⟨gw, 0, none⟩)] w fun e w' => ∃ a b : Nat, e = .returned (.agg #[.int .u8 a, .int .u8 120, .int .u8 121, .int .u8 b]) ∧ a ≤ 255 ∧ b ≤ 255 ∧ CH w' gc ba bn bc f ∧ Only (fun k => k = gc) w w' := by
  have ne : gw ≠ gc := fun e => by obtain ⟨i, _, hs⟩ := hc.obj; rw [e] at hp; exact absurd (hp.ty.inj hs.ty) (by decide)
  have hgl : gc < w.heap.size := by obtain ⟨i, _, hs⟩ := hc.obj; exact hs.lt
  have H0 : Hid (CH (w.alloc (.cells #[.int .u8 0, .int .u8 0, .int .u8 0, .int .u8 0] 26)).drew gc ba bn bc f ∧ Only (fun k => k = gc) w (w.alloc (.cells #[.int .u8 0, .int .u8 0, .int .u8 0, .int .u8 0] 26)).drew ∧ SObj (w.alloc (.cells #[.int .u8 0, .int .u8 0, .int .u8 0, .int .u8 0] 26)).drew w.heap.size 26 [.int .u8 0, .int .u8 0, .int .u8 0, .int .u8 0]) := Lib.hid (by
    have ho : Only (fun _ => False) w (w.alloc (.cells #[.int .u8 0, .int .u8 0, .int .u8 0, .int .u8 0] 26)).drew := (Only.alloc _ w _).dr
    exact ⟨hc.only ho (fun h => h) (fun _ _ _ h => h), ho.mono (fun _ h => h.elim), (obj_new w 26 [.int .u8 0, .int .u8 0, .int .u8 0, .int .u8 0]).drew⟩)
  have q0 : w.cell? ⟨gw, 0, none⟩ = some (.pointer (some ⟨gc, 0, none⟩)) := hp.cell 0 rfl
  have q1 : (w.alloc (.cells #[.int .u8 0, .int .u8 0, .int .u8 0, .int .u8 0] 26)).cell? ⟨gw, 0, none⟩ = some (.pointer (some ⟨gc, 0, none⟩)) := (hp.alloc _).cell 0 rfl
  have HP := Lib.hid (And.intro ne hgl)
  have HBA := Lib.hid hc.row
  have HC1 : Hid (Calls Tryd.prog 25 #[.pointer (some ⟨gc, 0, none⟩), .int .i64 20] (w.alloc (.cells #[.int .u8 0, .int .u8 0, .int .u8 0, .int .u8 0] 26)).drew fun e w' => ∃ v : Nat, e = .returned (.int .i64 v) ∧ v < 20 ∧ CH w' gc ba bn bc f ∧ Only (fun k => k = gc) (w.alloc (.cells #[.int .u8 0, .int .u8 0, .int .u8 0, .int .u8 0] 26)).drew w') := Lib.hid (chNext_any 20 gc ba bn bc f _ H0.out.1 (by decide) (by decide))
  have nw : w.heap.size ≠ gw := fun e => by have := hp.lt; omega
  obtain ⟨nb, hnb⟩ : ∃ x, x = w.heap.size := ⟨_, rfl⟩
  have HNB : Hid (nb ≠ gc) := Lib.hid (by omega)
  clear hp hc
  go_enter Tryd.func27, Tryd.ntmps27
  go_wp2_with fail
  rw [← hnb] at H0 nw ⊢
  have HNN := Lib.hid hnb
  clear hnb ne hgl
  go_region_held3 (fun w' => w'.cell? ⟨gw, 0, none⟩ = some (.pointer (some ⟨gc, 0, none⟩)))
    (first
      | with_reducible exact q1
      | with_reducible exact q3
      | with_reducible exact q2
      | (simp only [drew_cell]; with_reducible exact q1)
      | (simp only [far_cell n0]; with_reducible exact q3))
    (first
      | (go_at_call 25; (with_reducible refine HC1.out.mono ?_); rintro _ w2 ⟨va, rfl, hva, hc2, ho2⟩; have q2 : w2.cell? ⟨gw, 0, none⟩ = some (.pointer (some ⟨gc, 0, none⟩)) := cell_only ho2 HP.out.1 q1; have H2 : Hid (CH w2 gc ba bn bc f ∧ Only (fun k => k = gc) w w2 ∧ SObj w2 nb 26 [.int .u8 0, .int .u8 0, .int .u8 0, .int .u8 0] ∧ va < 20) := Lib.hid ⟨hc2, H0.out.2.1.tr ho2, H0.out.2.2.only ho2 HNB.out, hva⟩; have HC2 : Hid (Calls Tryd.prog 25 #[.pointer (some ⟨gc, 0, none⟩), .int .i64 256] w2 fun e w' => ∃ v : Nat, e = .returned (.int .i64 v) ∧ v < 256 ∧ CH w' gc ba bn bc f ∧ Only (fun k => k = gc) w2 w') := Lib.hid (chNext_any 256 gc ba bn bc f w2 hc2 (by decide) (by decide)); clear hc2 ho2 hva)
      | (go_at_call 25; (with_reducible refine HC2.out.mono ?_); rintro _ w3 ⟨vb, rfl, hvb, hc3, ho3⟩; have q3 : w3.cell? ⟨gw, 0, none⟩ = some (.pointer (some ⟨gc, 0, none⟩)) := cell_only ho3 HP.out.1 q2; have H3 : Hid (CH w3 gc ba bn bc f ∧ Only (fun k => k = gc) w w3 ∧ SObj w3 nb 26 [.int .u8 0, .int .u8 0, .int .u8 0, .int .u8 0] ∧ vb < 256) := Lib.hid ⟨hc3, H2.out.2.1.tr ho3, H2.out.2.2.1.only ho3 HNB.out, hvb⟩; have va1 : va ≤ 19 := (by have := H2.out.2.2.2; omega); have vb1 : vb ≤ 255 := (by omega); clear hc3 ho3 hvb; have n0 := nw; have c0 := H3.out.2.2.1.cell 0 rfl; have c1 := H3.out.2.2.1.cell 1 rfl; have c2 := H3.out.2.2.1.cell 2 rfl; have c3 := H3.out.2.2.1.cell 3 rfl; have f0 := H3.out.2.2.1.free 0; have f1 := H3.out.2.2.1.free 1; have f2 := H3.out.2.2.1.free 2; have f3 := H3.out.2.2.1.free 3))
  have e1 : IntKind.u8.wrap (IntKind.i64.wrap (97 + (va : Int))) = ((97 + va : Nat) : Int) := by
    rw [IntWalk.i64_in _ (by omega), u8_fit _ (by omega) (by omega)]; omega
  have e2 : IntKind.u8.wrap (vb : Int) = (vb : Int) := u8_fit _ (by omega) (by omega)
  rw [e1, e2]
  have HF : Hid (∃ w4, w4 = ((((w3.setCell ⟨nb, 0, none⟩ (.int .u8 ((97 + va : Nat) : Int))).setCell ⟨nb, 1, none⟩ (.int .u8 120)).setCell ⟨nb, 2, none⟩ (.int .u8 121)).setCell ⟨nb, 3, none⟩ (.int .u8 (vb : Int))) ∧ SObj w4 nb 26 [.int .u8 ((97 + va : Nat) : Int), .int .u8 120, .int .u8 121, .int .u8 (vb : Int)] ∧ CH w4 gc ba bn bc f ∧ Only (fun k => k = gc) w w4) := Lib.hid (by
    have ho : Only (fun k => k = nb) w3 ((((w3.setCell ⟨nb, 0, none⟩ (.int .u8 ((97 + va : Nat) : Int))).setCell ⟨nb, 1, none⟩ (.int .u8 120)).setCell ⟨nb, 2, none⟩ (.int .u8 121)).setCell ⟨nb, 3, none⟩ (.int .u8 (vb : Int))) := (((Only.setCell (S := fun k => k = nb) w3 _ _ rfl).tr (Only.setCell _ _ _ rfl)).tr (Only.setCell _ _ _ rfl)).tr (Only.setCell _ _ _ rfl)
    refine ⟨_, rfl, (((H3.out.2.2.1.set 0 _).set 1 _).set 2 _).set 3 _, H3.out.1.only ho (fun e => HNB.out e.symm) (fun h0 p hp e => ?_), H3.out.2.1.trans ho (fun k hk _ e => ?_)⟩
    · obtain ⟨g, o, hba, hg, _⟩ := HBA.out h0
      rw [hba] at hp; injection hp with hp; rw [← hp] at e
      have := HNN.out
      have e : g = nb := e
      omega
    · have := HNN.out; have e : k = nb := e; omega)
  clear c0 c1 c2 c3 f0 f1 f2 f3
  obtain ⟨w4, hw4, HF⟩ := HF.out
  rw [← hw4]
  clear hw4
  have HF := Lib.hid HF
  go_wp2
  (try simp only [Exit.inBlock, Exit.then])
  refine bodyPost_ret (agg4_results (g := nb) Tryd.results27 rfl HF.out.1) rfl ?_
  exact ⟨97 + va, vb, rfl, by omega, by omega, HF.out.2.1, HF.out.2.2⟩

set_option maxRecDepth 100000 in
set_option maxHeartbeats 4000000 in
theorem wkBytes_any (gw gc : Nat) (ba : Option Addr) (bn bc : Nat) (f : Nat → Int) (w : World) (s0 x0 k0 : Value) (hp : SObj w gw 51 [.pointer (some ⟨gc, 0, none⟩), s0, x0, k0]) (hc : CH w gc ba bn bc f) :
    Calls Tryd.prog 28 #[.pointer (some ⟨gw, 0, none⟩)] w fun e w' => ∃ (v : Value) (l : List Int), e = .returned v ∧ w'.ownsRow w.heap.size 5 1 v l.length (u8s l) ∧ l.length ≤ 11 ∧ (∀ x ∈ l, 0 ≤ x ∧ x ≤ 255) ∧ CH w' gc ba bn bc f ∧ Only (fun k => k = gc) w w' := by
  have ne : gw ≠ gc := fun e => by obtain ⟨i, _, hs⟩ := hc.obj; rw [e] at hp; exact absurd (hp.ty.inj hs.ty) (by decide)
  have hgl : gc < w.heap.size := by obtain ⟨i, _, hs⟩ := hc.obj; exact hs.lt
  obtain ⟨B, hB⟩ : ∃ B, B = w.heap.size := ⟨_, rfl⟩
  rw [← hB]
  have HC1 : Hid (Calls Tryd.prog 25 #[.pointer (some ⟨gc, 0, none⟩), .int .i64 12] w fun e w' => ∃ v : Nat, e = .returned (.int .i64 v) ∧ v < 12 ∧ CH w' gc ba bn bc f ∧ Only (fun k => k = gc) w w') := Lib.hid (chNext_any 12 gc ba bn bc f w hc (by decide) (by decide))
  have q0 : w.cell? ⟨gw, 0, none⟩ = some (.pointer (some ⟨gc, 0, none⟩)) := hp.cell 0 rfl
  have HP := Lib.hid (And.intro ne (And.intro hgl (And.intro hB q0)))
  have HBA : Hid (0 < bn → ∀ p, ba = some p → p.block < B) := Lib.hid (fun h0 p hp => by
    obtain ⟨g, o, hba, hg, _⟩ := hc.row h0
    rw [hba] at hp; injection hp with hp; rw [← hp, hB]; exact hg)
  obtain ⟨i0, hi, hz0, hz1, hz2⟩ := info_parts (show (Tryd.prog.info? 5).map (fun i => (i.zero, i.size, i.bytes)) = some (some (.int .u8 0), 1, 1) by kernel_rfl)
  have HI := Lib.hid (And.intro hi (And.intro hz0 (And.intro hz1 hz2)))
  clear hi hz0 hz1 hz2 ne hgl hB hp hc
  go_enter Tryd.func28, Tryd.ntmps28
  go_wp2_with fail
  refine HC1.out.mono ?_
  rintro _ w2 ⟨v, rfl, hv, hc2, ho2⟩
  have H2 := Lib.hid (And.intro hc2 ho2)
  clear hc2 ho2 q0
  go_wp2_with fail
  go_loopg [3, 4] 14 (fun g s3 s4 wr => ∃ (i : Nat) (l : List Int), s4 = .int .i64 i ∧ i + 1 ≤ g ∧ l.length + i ≤ 11 ∧ Hid (wr.ownsRow B 5 1 s3 l.length (u8s l) ∧ CH wr gc ba bn bc f ∧ Only (fun k => k = gc) w wr ∧ ∀ x ∈ l, 0 ≤ x ∧ x ≤ 255))
  case atStart => exact ⟨v, [], rfl, by omega, by simp; omega, World.ownsRow_nil _ _ _ _, H2.out.1, H2.out.2, fun x h => by cases h⟩
  case round =>
    obtain ⟨i, l, rfl, hg, hl, hR⟩ := hrel
    have HG := Lib.hid hg; clear hg
    obtain ⟨sa, sc, hs⟩ := row_shape' hR.out.1
    subst hs
    by_cases hlt : 0 < i
    · have q0 : wr.cell? ⟨gw, 0, none⟩ = some (.pointer (some ⟨gc, 0, none⟩)) := cell_only hR.out.2.2.1 HP.out.1 HP.out.2.2.2
      have HC3 : Hid (Calls Tryd.prog 25 #[.pointer (some ⟨gc, 0, none⟩), .int .i64 256] wr fun e w' => ∃ v : Nat, e = .returned (.int .i64 v) ∧ v < 256 ∧ CH w' gc ba bn bc f ∧ Only (fun k => k = gc) wr w') := Lib.hid (chNext_any 256 gc ba bn bc f wr hR.out.2.1 (by decide) (by decide))
      go_wp2_with fail
      refine HC3.out.mono ?_
      rintro _ w3 ⟨x, rfl, hx, hc3, ho3⟩
      have hx1 : (x : Int) ≤ 255 := by omega
      have hx0 : (0 : Int) ≤ (x : Int) := by omega
      have e2 : IntKind.u8.wrap (x : Int) = (x : Int) := u8_fit _ hx0 hx1
      have H3 : Hid (w3.ownsRow B 5 1 (.slice sa l.length sc) l.length (u8s l) ∧ CH w3 gc ba bn bc f ∧ Only (fun k => k = gc) w w3 ∧ B ≤ w3.heap.size) := Lib.hid (by
        have ho := hR.out.2.2.1.tr ho3
        refine ⟨ownsRow_only hR.out.1 ho3 (fun k hk e => ?_), hc3, ho, by have := ho.size; have := HP.out.2.2.1; omega⟩
        have h1 := (ownsRow_ty hR.out.1 hk).1
        obtain ⟨i, _, hs⟩ := hR.out.2.1.obj
        have e : k = gc := e
        rw [e] at h1
        exact absurd (h1.inj hs.ty) (by decide))
      clear hc3 ho3 q0
      obtain ⟨hi, hz0, hz1, hz2⟩ := HI.out
      go_wp2_with (at_builtin; refine wpList_append_own _ rfl _ _ 22 rfl B 5 i0 (.int .u8 0) 1 1 Tryd.underlying22 hi hz0 hz1 hz2 rfl (by decide) _ _ _ rfl (H3.out.1.alloc _) ⟨w3.heap.size, 0, none⟩ 1 1 [.int .u8 x] rfl rfl (cells_new w3 5 [.int .u8 x]) (by simp [Value.oneCell']) (by unfold maxLen; omega) (by omega) (by simp; have := H3.out.2.2.2; omega) ?_; intro v5 w5 hown hgr _; have H5 := Lib.hid (And.intro hown hgr); clear hown hgr)
      have H6 : Hid (w5.ownsRow B 5 1 v5 (l ++ [(x : Int)]).length (u8s (l ++ [(x : Int)])) ∧ CH w5 gc ba bn bc f ∧ Only (fun k => k = gc) w w5 ∧ ∀ y ∈ l ++ [(x : Int)], 0 ≤ y ∧ y ≤ 255) := Lib.hid (by
        have ho : Only (fun k => (Value.slice sa l.length sc).ownBlock = some k) w3 w5 := (Only.alloc _ w3 _).tr (Only.of_grown H5.out.2 (fun k hk => hk))
        refine ⟨?_, H3.out.2.1.only ho (fun e => ?_) (fun h0 p hp e => ?_), H3.out.2.2.1.trans ho (fun k hk _ e => ?_), fun y hy => ?_⟩
        · rw [List.length_append]; unfold u8s; rw [List.map_append]; exact H5.out.1
        · have h1 := (ownsRow_ty H3.out.1 e).1
          obtain ⟨i, _, hs⟩ := H3.out.2.1.obj
          exact absurd (h1.inj hs.ty) (by decide)
        · have := (ownsRow_ty H3.out.1 e).2.1
          have := HBA.out h0 p hp
          omega
        · have := (ownsRow_ty H3.out.1 e).2.1
          have := HP.out.2.2.1
          omega
        · rcases List.mem_append.1 hy with h | h
          · exact hR.out.2.2.2 y h
          · simp at h; omega)
      clear H5 H3
      go_roundg (gk - 1)
      case measure => have := HG.out; omega
      case rel => exact ⟨i - 1, l ++ [(x : Int)], by go_num, by have := HG.out; omega, by simp; omega, H6.out.1, H6.out.2.1, H6.out.2.2.1, H6.out.2.2.2⟩
    · go_wp2
      go_ret
      exact ⟨_, l, rfl, hR.out.1, by omega, hR.out.2.2.2, hR.out.2.1, hR.out.2.2.1⟩
end Go.Proofs.YthipghkhdlnfiaaDoor
