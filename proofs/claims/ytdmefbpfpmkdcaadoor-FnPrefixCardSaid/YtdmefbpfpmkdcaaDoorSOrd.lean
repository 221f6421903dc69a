/- The reference's flag and order; its symbol where the bits ended. -/
import Derived.Test.YtdmefbpfpmkdcaaDoorPre
import Derived.Test.YtdmefbpfpmkdcaaDoorTurn
namespace Go.Proofs.YtdmefbpfpmkdcaaDoor
open Go.RowKit
set_option linter.unusedVariables false

theorem sread_f (g : Nat) (a : Option Addr) (n c : Nat) (f : Nat → Int) (S p k : Nat) (sh op : Bool) (w : World) (h : SB w g a n c f S p sh op) (hk : k ≤ 24) :
    Calls Tryd.prog 65 #[.pointer (some ⟨g, 0, none⟩), .int .i64 k] w fun e w' =>
      e = .returned (.int .i64 (rdv S n p k)) ∧ SB w' g a n c f S (nx n p k) (sh || decide (8 * n < p + k)) op ∧ Only (fun k => k = g) w w' := by
  refine (sread_any g a n c f S p k sh op w h hk).mono ?_
  rintro e w' ⟨⟨h1, rfl, h3⟩ | ⟨h1, rfl, h3⟩, ho⟩
  · have e1 : decide (8 * n < p + k) = false := decide_eq_false (by omega)
    rw [rdv_in h1, nx_in h1, e1, Bool.or_false]
    exact ⟨rfl, h3, ho⟩
  · have e1 : decide (8 * n < p + k) = true := decide_eq_true h1
    have e2 : rdv S n p k = 0 := by unfold rdv; rw [if_neg (by omega)]
    have e3 : nx n p k = 8 * n := by unfold nx; rw [if_neg (by omega)]
    rw [e2, e3, e1, Bool.or_true]
    exact ⟨rfl, h3, ho⟩

set_option maxRecDepth 100000 in
theorem flag_any (g : Nat) (a : Option Addr) (n c : Nat) (f : Nat → Int) (S p : Nat) (sh op : Bool) (w : World) (h : SB w g a n c f S p sh op) :
    Calls Tryd.prog 55 #[.pointer (some ⟨g, 0, none⟩)] w fun e w' =>
      e = .returned (.bool (decide (rdv S n p 1 = 1))) ∧ SB w' g a n c f S (nx n p 1) (sh || decide (8 * n < p + 1)) op ∧ Only (fun k => k = g) w w' := by
  have HN := Lib.hid (sread_f g a n c f S p 1 sh op w h (by decide))
  clear h
  obtain ⟨v, hv⟩ : ∃ v, v = rdv S n p 1 := ⟨_, rfl⟩
  rw [← hv] at HN ⊢
  clear hv
  have e : decide (v = 1) = ((v : Int) == 1) := by by_cases h : v = 1 <;> simp [h] <;> omega
  rw [e]
  clear e
  go_enter Tryd.func55, Tryd.ntmps55
  go_wp2_with fail
  refine HN.out.mono ?_
  rintro _ w2 ⟨rfl, hs, ho⟩
  have H2 := Lib.hid (And.intro hs ho)
  clear hs ho
  go_wp2
  go_ret
  exact ⟨rfl, H2.out⟩

theorem info19 : (Tryd.prog.info? 108).map (·.size) = some 19 := by kernel_rfl
/-- The reference's order as it is built. -/
def tab19 : Array Value := (cellsOf .i64 19 (fun i => (ordP i : Int))).toArray
theorem icells_all {n : Nat} (f : Nat → Int) : (cellsOf .i64 n f).toArray.all (·.oneCell') = true := by
  refine Array.all_eq_true_iff_forall_mem.2 (fun v hv => ?_)
  have hv : v ∈ cellsOf .i64 n f := by simpa using hv
  obtain ⟨i, _, rfl⟩ := List.mem_map.1 hv
  rfl

set_option maxRecDepth 100000 in
set_option maxHeartbeats 400000 in
theorem order_any (w : World) :
    Calls Tryd.prog 66 #[] w fun e w' => e = .returned (.agg tab19) ∧ Below w.heap.size w w' := by
  have HT : Hid (tab19.all (·.oneCell') = true) := Lib.hid (icells_all _)
  have hob : SObj (w.alloc (.cells (cellsOf .i64 19 (fun _ => 0)).toArray 108)) w.heap.size 108 (cellsOf .i64 19 (fun _ => 0)) := obj_new _ _ _
  have HR : Hid ((w.alloc (.cells (cellsOf .i64 19 (fun _ => 0)).toArray 108)).there w.heap.size 0 tab19.size) := Lib.hid (there_of_obj hob (by simp [tab19, cellsOf]))
  have hpa : SObj (World.setCells (w.alloc (.cells (cellsOf .i64 19 (fun _ => 0)).toArray 108)) w.heap.size 0 tab19.toList) w.heap.size 108 tab19.toList := SObj.putAll tab19.toList (cellsOf .i64 19 (fun _ => 0)) [] 0 _ hob (by simp [tab19, cellsOf]) rfl
  have hbl : Below w.heap.size w (World.setCells (w.alloc (.cells (cellsOf .i64 19 (fun _ => 0)).toArray 108)) w.heap.size 0 tab19.toList) :=
    ((Only.alloc (fun k => w.heap.size ≤ k) _ _).tr (Only.setCells (S := fun k => w.heap.size ≤ k) (Nat.le_refl _) _ _ _)).below (Nat.le_refl _) (fun _ h => h)
  have HS := Lib.hid (And.intro hpa hbl)
  clear hpa hbl hob
  go_enter Tryd.func66, Tryd.ntmps66
  go_wp2_with (refine wpList_store_mid rfl 108 (.tmp 0) (.tmp 1) rfl w.heap.size 0 tab19 rfl rfl HR.out info19 HT.out ?_)
  refine bodyPost_ret (v := .agg tab19) ?_ rfl ⟨rfl, HS.out.2⟩
  exact results_cell Tryd.results66 rfl (run_loadVar_mid (P := Tryd.prog) _ w.heap.size 0 108 tab19.toList _ (fun j v hv => by rw [Nat.zero_add]; exact HS.out.1.cell j hv) Tryd.underlying108 rfl info19)

set_option maxRecDepth 100000 in
set_option maxHeartbeats 400000 in
theorem ssym_short (C : List (Nat × Nat)) (g : Nat) (a : Option Addr) (nb cb : Nat) (f : Nat → Int) (S : Nat) (op : Bool) (cs : Array Value) (sa : Option Addr) (sc M : Nat) (w : World) (h : SB w g a nb cb f S (8 * nb) true op) (hc : CodeOK C w cs sa sc M) (h1 : M ≠ 1) :
    Calls Tryd.prog 59 #[.pointer (some ⟨g, 0, none⟩), .agg cs] w fun e w' =>
      e = .returned (.int .i64 0) ∧ SB w' g a nb cb f S (8 * nb) true op ∧ Only (fun k => k = g) w w' := by
  obtain ⟨ch, hcl, hM4⟩ : ∃ ch : Nat → Nat, cs = (cdCells ch (.slice sa M sc)).toArray ∧ M ≤ 65536 := by
    rcases hc with ⟨c, n, rfl, h2, rfl, h4, h5⟩ | ⟨s1, h1', rfl, rfl, h3⟩
    · exact ⟨_, h5.cells, by have := sys_le c n h2.le; have := h2.max; omega⟩
    · exact absurd rfl h1
  subst hcl
  have hgl := h.obj.lt
  have H1 : Hid (SObj (w.alloc (.cells (cdCells ch (.slice sa M sc)).toArray 86)) w.heap.size 86 (cdCells ch (.slice sa M sc)) ∧ Only (fun _ => False) w (w.alloc (.cells (cdCells ch (.slice sa M sc)).toArray 86))) := Lib.hid ⟨obj_new _ _ _, Only.alloc _ _ _⟩
  have HS := Lib.hid h
  clear h hc
  obtain ⟨cl, hcl⟩ : ∃ x, x = cdCells ch (.slice sa M sc) := ⟨_, rfl⟩
  rw [← hcl] at H1 ⊢
  obtain ⟨cs, hcs⟩ : ∃ x, x = cl.toArray := ⟨_, rfl⟩
  rw [← hcs] at H1 ⊢
  have HC := Lib.hid (And.intro hcl hcs)
  clear hcl hcs
  go_enter Tryd.func59, Tryd.ntmps59
  go_upto_region 1 with fail
  obtain ⟨gb, hgb⟩ : ∃ x, x = w.heap.size := ⟨_, rfl⟩
  rw [← hgb] at H1 ⊢
  clear hgb hgl
  generalize World.alloc _ _ = w1 at H1 ⊢
  have c16 := H1.out.1.cell 16 (by rw [HC.out.1]; exact cdCells_sym _ _)
  have hM1 : ((M : Int) == 1) = false := by simp; omega
  go_upto_region 3 with fail
  clear c16
  go_upto_region 4 with fail
  go_wp2_with fail
  go_loopg [5, 6, 7, 8] 1 (fun j s5 s6 s7 s8 wr => s5 = .int .i64 0 ∧ s6 = .int .i64 0 ∧ s7 = .int .i64 0 ∧ s8 = .int .i64 1 ∧ wr = w1)
  case atStart => exact ⟨rfl, rfl, rfl, rfl, rfl⟩
  case round =>
    obtain ⟨rfl, rfl, rfl, rfl, hww⟩ := hrel
    subst hww
    have HN := Lib.hid (sread_f g a nb cb f S (8 * nb) 1 true op wr (HS.out.only H1.out.2 (fun h => h) (fun _ _ _ h => h)) (by decide))
    go_wp2_with fail
    refine HN.out.mono ?_
    rintro _ w2 ⟨rfl, hs2, ho2⟩
    have e2 : rdv S nb (8 * nb) 1 = 0 := by unfold rdv; rw [if_neg (by omega)]
    have e3 : nx nb (8 * nb) 1 = 8 * nb := by unfold nx; rw [if_neg (by omega)]
    rw [e3, Bool.true_or] at hs2
    rw [e2]
    have c2 := hs2.obj.cell 2 rfl
    have H2 := Lib.hid (And.intro hs2 ho2)
    clear hs2 ho2 e2 e3
    go_wp2
    go_ret
    exact ⟨rfl, H2.out.1, (H1.out.2.mono (fun _ h => h.elim)).tr H2.out.2⟩
end Go.Proofs.YtdmefbpfpmkdcaaDoor
