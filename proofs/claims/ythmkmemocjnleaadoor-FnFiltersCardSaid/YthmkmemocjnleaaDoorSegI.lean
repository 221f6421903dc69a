/- impl.four. -/
import Derived.Test.YthmkmemocjnleaaDoorSegW
namespace Go.Proofs.YthmkmemocjnleaaDoor
open Go.RowKit
set_option linter.unusedVariables false

theorem results_one {P : Program} {fn : Func} {tmps : Array Value} {w : World} {a : Nat} {t : TypeId} {ad : Addr} {v : Value} (hr : fn.results = #[.cell a t]) (ha : tmps.getD a undef = .pointer (some ad)) (hl : (loadVar t ad).run P w = .ok v w) :
    (results fn tmps).run P w = .ok v w := by
  unfold results
  rw [hr]
  rw [Array.getD_eq_getD_getElem?] at ha
  simp [ha, asAddr, hl]

set_option maxRecDepth 100000 in
set_option maxHeartbeats 1600000 in
theorem four_any (q : Nat → Int) (w : World) (hq : ∀ i, -128 ≤ q i ∧ q i ≤ 127) :
    Calls Tryd.prog 44 #[.agg #[.int .i8 (q 0), .int .i8 (q 1), .int .i8 (q 2), .int .i8 (q 3)]] w fun e w' => e = .returned (.agg #[.int .i64 (q 0), .int .i64 (q 1), .int .i64 (q 2), .int .i64 (q 3)]) ∧ Below w.heap.size w w' := by
  obtain ⟨a0, a1⟩ := hq 0
  obtain ⟨b0, b1⟩ := hq 1
  obtain ⟨c0, c1⟩ := hq 2
  obtain ⟨d0, d1⟩ := hq 3
  clear hq
  generalize q 0 = x0 at *
  generalize q 1 = x1 at *
  generalize q 2 = x2 at *
  generalize q 3 = x3 at *
  go_enter Tryd.func44, Tryd.ntmps44
  go_wp2
  have HO : Hid (SObj ((w.alloc (.cells #[.int .i8 x0, .int .i8 x1, .int .i8 x2, .int .i8 x3] 82)).alloc (.cells #[.int .i64 x0, .int .i64 x1, .int .i64 x2, .int .i64 x3] 40)) (w.heap.size + 1) 40 [.int .i64 x0, .int .i64 x1, .int .i64 x2, .int .i64 x3] ∧ Below w.heap.size w ((w.alloc (.cells #[.int .i8 x0, .int .i8 x1, .int .i8 x2, .int .i8 x3] 82)).alloc (.cells #[.int .i64 x0, .int .i64 x1, .int .i64 x2, .int .i64 x3] 40))) := Lib.hid (by
    have := obj_new (w.alloc (.cells #[.int .i8 x0, .int .i8 x1, .int .i8 x2, .int .i8 x3] 82)) 40 [.int .i64 x0, .int .i64 x1, .int .i64 x2, .int .i64 x3]
    exact ⟨by simpa using this, ((Below.refl _ _).alloc (Nat.le_refl _) _).alloc (by simp) _⟩)
  generalize World.alloc _ _ = wf at HO ⊢
  refine bodyPost_ret (v := .agg #[.int .i64 x0, .int .i64 x1, .int .i64 x2, .int .i64 x3]) ?_ rfl ⟨rfl, HO.out.2⟩
  exact results_one Tryd.results44 rfl (run_loadVar_mid (P := Tryd.prog) wf (w.heap.size + 1) 0 40 [.int .i64 x0, .int .i64 x1, .int .i64 x2, .int .i64 x3] _ (fun j v hv => by rw [Nat.zero_add]; exact HO.out.1.cell j hv) Tryd.underlying40 rfl (by kernel_rfl))
end Go.Proofs.YthmkmemocjnleaaDoor
