/- Next of a reader that had an error; forms as results. -/
import Derived.Test.YthipghkhdlnfiaaDoorRfL
namespace Go.Proofs.YthipghkhdlnfiaaDoor
open Go.RowKit
set_option linter.unusedVariables false

theorem load_form {w : World} {g : Nat} {x0 x1 x2 x3 : Value} (h : SObj w g 26 [x0, x1, x2, x3]) : (loadVar 26 ⟨g, 0, none⟩).run Tryd.prog w = .ok (.agg #[x0, x1, x2, x3]) w :=
  run_loadVar_mid (P := Tryd.prog) w g 0 26 [x0, x1, x2, x3] _ (fun j v hv => by rw [Nat.zero_add]; exact h.cell j hv) Tryd.underlying26 rfl (by kernel_rfl)
set_option maxRecDepth 100000 in
set_option maxHeartbeats 4000000 in
theorem nextErr_any (z : Nat) (v : Value) (er : Addr) (tot chk : Nat) (cr : Value) (buf : List Value) (pad : Bool) (w : World) (hz : SObj w z 89 (zC v (errV er) tot chk cr buf pad)) :
    Calls Tryd.prog 22 #[.pointer (some ⟨z, 0, none⟩)] w fun e w' => e = .returned (.tuple #[zero4, .int .u32 0, .nilIface, errV er]) ∧ Only (fun _ => False) w w' := by
  obtain ⟨g, hg⟩ : ∃ g, g = w.heap.size := ⟨_, rfl⟩
  have ngz : g ≠ z := by have := hz.lt; omega
  have H1 : Hid (SObj (w.alloc (.cells #[.int .u8 0, .int .u8 0, .int .u8 0, .int .u8 0] 55)) g 55 [.int .u8 0, .int .u8 0, .int .u8 0, .int .u8 0] ∧ SObj (w.alloc (.cells #[.int .u8 0, .int .u8 0, .int .u8 0, .int .u8 0] 55)) z 89 (zC v (errV er) tot chk cr buf pad) ∧ Only (fun _ => False) w (w.alloc (.cells #[.int .u8 0, .int .u8 0, .int .u8 0, .int .u8 0] 55))) := Lib.hid ⟨by rw [hg]; exact obj_new w _ [.int .u8 0, .int .u8 0, .int .u8 0, .int .u8 0], hz.alloc _, Only.alloc _ _ _⟩
  have HG := Lib.hid hg
  clear hz hg
  go_enter Tryd.func22, Tryd.ntmps22
  go_upto_region 1 with fail
  rw [← HG.out]
  generalize World.alloc _ _ = w1 at H1 ⊢
  have kz : w1.cell? ⟨z, 1, none⟩ = some (.iface 115 (.pointer (some er))) := H1.out.2.1.cell 1 rfl
  go_upto_region 2 with fail
  have gc0 : w1.cell? ⟨g, 0, none⟩ = some (.int .u8 0) := H1.out.1.cell 0 rfl
  have gf0 : w1.frozen? ⟨g, 0, none⟩ = false := H1.out.1.free 0
  have gc1 : w1.cell? ⟨g, 1, none⟩ = some (.int .u8 0) := H1.out.1.cell 1 rfl
  have gf1 : w1.frozen? ⟨g, 1, none⟩ = false := H1.out.1.free 1
  have gc2 : w1.cell? ⟨g, 2, none⟩ = some (.int .u8 0) := H1.out.1.cell 2 rfl
  have gf2 : w1.frozen? ⟨g, 2, none⟩ = false := H1.out.1.free 2
  have gc3 : w1.cell? ⟨g, 3, none⟩ = some (.int .u8 0) := H1.out.1.cell 3 rfl
  have gf3 : w1.frozen? ⟨g, 3, none⟩ = false := H1.out.1.free 3
  go_region_held3 (fun w' => w'.cell? ⟨z, 1, none⟩ = some (.iface 115 (.pointer (some er)))) (first | exact kz | (simp only [far_cell ngz, drew_cell]; exact kz)) (first | fail)
  all_goals as_aux_lemma =>
    have HF : Hid (SObj ((((w1.setCell ⟨g, 0, none⟩ (.int .u8 0)).setCell ⟨g, 1, none⟩ (.int .u8 0)).setCell ⟨g, 2, none⟩ (.int .u8 0)).setCell ⟨g, 3, none⟩ (.int .u8 0)).drew g 55 [.int .u8 0, .int .u8 0, .int .u8 0, .int .u8 0] ∧ Only (fun k => k = g) w1 ((((w1.setCell ⟨g, 0, none⟩ (.int .u8 0)).setCell ⟨g, 1, none⟩ (.int .u8 0)).setCell ⟨g, 2, none⟩ (.int .u8 0)).setCell ⟨g, 3, none⟩ (.int .u8 0)).drew) := Lib.hid ⟨SObj.drewN (((((H1.out.1.set 0 (.int .u8 0)).set 1 (.int .u8 0)).set 2 (.int .u8 0)).set 3 (.int .u8 0))) 1, ((((Only.setCell (S := fun k => k = g) w1 _ _ rfl).tr (Only.setCell _ _ _ rfl)).tr (Only.setCell _ _ _ rfl)).tr (Only.setCell _ _ _ rfl)).dr⟩
    generalize World.drew _ = wf at HF ⊢
    go_wp2
    refine bodyPost_ret (v := .tuple #[.agg #[.int .u8 0, .int .u8 0, .int .u8 0, .int .u8 0], .int .u32 0, .nilIface, errV er]) ?_ rfl ?_
    · exact results_c3 Tryd.results22 rfl (load_four HF.out.1)
    · exact ⟨rfl, H1.out.2.2.trans HF.out.2 (fun k hk _ e => by have := HG.out; omega)⟩
end Go.Proofs.YthipghkhdlnfiaaDoor
