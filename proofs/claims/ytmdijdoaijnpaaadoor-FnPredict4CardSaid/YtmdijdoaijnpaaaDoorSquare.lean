/- The decoder whose workspace is filled for one block (square), and what is read of it (values). -/
import Derived.Test.YtmdijdoaijnpaaaDoorDec
import Derived.Laws.IdiomCopy
import Derived.Laws.CopyOwn
import Derived.Deep.MidRow
import Derived.BigRegion
import Derived.Deep.RegionLaw
import Derived.Lib.SlBuf
namespace Go.Proofs.YtmdijdoaijnpaaaDoor
open Go.RowKit
set_option linter.unusedVariables false
attribute [local go_sem ↓] zDec_run

/-- n values laid over a row from place o on. -/
def updN (y : Nat → Int) (o n : Nat) (f : Nat → Int) (k : Nat) : Int := if o ≤ k ∧ k < o + n then f (k - o) else y k
theorem row_setCells {k : IntKind} {w : World} {g B N : Nat} {y : Nat → Int} (h : Row k w g B N y) (o n : Nat) (f : Nat → Int) (hn : o + n ≤ N) : Row k (w.setCells g (B + o) (cellsOf k n f)) g B N (updN y o n f) := fun i hi => by
  unfold updN
  by_cases e : o ≤ i ∧ i < o + n
  · rw [if_pos e]
    have hlen : (cellsOf k n f).length = n := by simp [cellsOf]
    have := World.cell?_setCells_in g (cellsOf k n f) (B + o) w (fun j hj => by rw [Nat.add_assoc, h (o + j) (by omega)]; rfl) (i - o) (by omega)
    rw [show B + o + (i - o) = B + i by omega] at this
    rw [this]
    simp [cellsOf]
  · rw [if_neg e, World.cell?_setCells_out g (cellsOf k n f) (B + o) w ⟨g, B + i, none⟩ (fun _ _ => by simp [cellsOf]; omega)]
    exact h i hi
theorem wr_setCells {w : World} {g B N : Nat} (h : Wr w g B N) (b o : Nat) (vs : List Value) : Wr (w.setCells b o vs) g B N := fun i hi => by
  rw [World.frozen?_setCells]; exact h i hi

theorem below_cells {B b : Nat} {a : World} (hB : B ≤ b) : ∀ (vs : List Value) (o : Nat) (w : World), Below B a w → Below B a (w.setCells b o vs)
  | [], _, _, h => h
  | v :: r, o, w, h => below_cells hB r (o + 1) _ (h.setCell hB v)
theorem size_cells (b : Nat) : ∀ (vs : List Value) (o : Nat) (w : World), (w.setCells b o vs).heap.size = w.heap.size
  | [], _, _ => rfl
  | v :: r, o, w => (size_cells b r (o + 1) _).trans (size_setCell _ _ _)
theorem info1 : (Tryd.prog.info? 5).map (·.size) = some 1 := by kernel_rfl
/-- A copy of n bytes into the middle of a block. -/
theorem copy_mid (w : World) (g o dLen dCap : Nat) (a : Option Addr) (n c : Nat) (f : Nat → Int) (ha : Arg .u8 w a n f) (hn : n ≤ dLen) (hr : ∀ j, j < n → (w.cell? ⟨g, o + j, none⟩).isSome = true) (hz : ∀ j, j < n → w.frozen? ⟨g, o + j, none⟩ = false) :
    (Builtin.copy_ #[22, 22] 3 #[.slice (some ⟨g, o, none⟩) dLen dCap, .slice a n c]).run Tryd.prog w = .ok (goInt n) (w.setCells g o (cellsOf .u8 n f)) := by
  by_cases h0 : n = 0
  · subst h0
    have := run_copy_none (P := Tryd.prog) w 22 22 3 5 (some ⟨g, o, none⟩) a dLen dCap 0 c Tryd.underlying22 info1 (by simp)
    simpa [cellsOf, World.setCells] using this
  · obtain ⟨g2, o2, rfl, _, h2⟩ := ha (by omega)
    have hl : (cellsOf .u8 n f).length = n := by simp [cellsOf]
    have := run_copy_cells (P := Tryd.prog) w 22 22 3 5 g o dLen dCap ⟨g2, o2, none⟩ n c (cellsOf .u8 n f) Tryd.underlying22 info1 (by rw [hl]; exact (Nat.min_eq_left hn).symm)
      (Arg.news (ad := ⟨g2, o2, none⟩) ha) (fun j hj => hr j (by omega)) (fun j hj => hz j (by omega)) (cellsOf_one _ _ _)
    rw [hl] at this
    exact this
theorem dec_corner (w : World) (v : Int) : Ybr (w.alloc (.cells (zDec.setIfInBounds 1657 (.int .u8 v)) 120)) w.heap.size (upd (fun _ => 0) 7 v) := by
  refine ⟨fun i hi => ?_, fun i hi => frozen_of_row _ _ _ _ _ (heap_alloc_new w _)⟩
  rw [cell_of_row _ _ _ _ _ _ (heap_alloc_new w _), Array.getElem?_setIfInBounds]
  by_cases h : i = 7
  · subst h
    rw [if_pos rfl, if_pos (by rw [zDec_size]; decide), upd_same]
  · rw [if_neg (by omega), upd_other _ _ _ _ h]; exact zDec_ybr i hi

theorem HA8 (p : Nat) : 1650 + (1 + p) * 32 + 8 = 1650 + (32 * (p + 1) + 8) := by omega
theorem HA9 (p n : Nat) (h : p < n) (hn : n ≤ 16) : 32 * (p + 1) + 8 + n ≤ 832 := by omega
theorem wraps3 (np n : Nat) (hb : np ≤ 256) (hn : n ≤ 16) : IntKind.i64.wrap ((np : Int) + (n : Int)) = (np : Int) + n ∧ IntKind.i64.wrap (8 + (n : Int)) = 8 + (n : Int) ∧ IntKind.i64.wrap (np : Int) = (np : Int) :=
  ⟨IntWalk.i64_in _ (by omega), IntWalk.i64_in _ (by omega), IntWalk.i64_in _ (by omega)⟩
/-- copy as one step of a region that draws. -/
theorem step_copy {P : Program} {ops : Array Oper} {o : Oper} {a : Act} {w : World} {K : Act → World → Prop} {Q : Exit → Act → World → Prop} {E : Prop}
    (hg : o.guard = none) (d s : Operand) (t t' : TypeId) (ho : o.op = .call { callee := .builtin .copy, args := #[d, s], argTypes := #[t, t'] }) (v u : Value) (hd : a.eval d = v) (hs : a.eval s = u) {v' : Value} {w' : World}
    (hr : (Builtin.copy_ #[t, t'] o.type #[v, u]).run P w = .ok v' w') (h : K (a.put o.dst v') w') : if Region.wanted o (yielded ops a.tmps) = true then Oper.wp P o a w K Q else E := by
  rw [if_pos (by simp [Region.wanted, hg])]
  exact Lib.wp_copy_run w d s t t' ho v u hd hs hr h

/-- The workspace behind the corner, the row above and j rows. -/
def sqTo (n la : Nat) (corner : Int) (fa fl fi : Nat → Int) : Nat → Nat → Int
  | 0 => updN (upd (fun _ => 0) 7 corner) 8 la fa
  | j + 1 => updN (upd (sqTo n la corner fa fl fi j) (32 * (j + 1) + 7) (fl j)) (32 * (j + 1) + 8) n (fun k => fi (n * j + k))

set_option maxRecDepth 100000 in
set_option maxHeartbeats 800000 in
theorem square_any (n la : Nat) (corner : Int) (aa : Option Addr) (ca : Nat) (fa : Nat → Int) (al : Option Addr) (cl : Nat) (fl : Nat → Int) (ai : Option Addr) (ci : Nat) (fi : Nat → Int) (w : World)
    (hn : n ≤ 16) (hla : la ≤ 24) (hci : n * n ≤ ci) (hcm : ci ≤ maxLen) (ha : Arg .u8 w aa la fa) (hl : Arg .u8 w al n fl) (hi : Arg .u8 w ai (n * n) fi) :
    Calls Tryd.prog 38 #[.int .i64 n, .int .u8 corner, .slice aa la ca, .slice al n cl, .slice ai (n * n) ci] w fun e w' => e = .returned (.pointer (some ⟨w.heap.size, 0, none⟩)) ∧ Ybr w' w.heap.size (sqTo n la corner fa fl fi n) ∧ Below w.heap.size w w' ∧ w.heap.size < w'.heap.size := by
  have HD := Lib.hid (dec_new w)
  have HA := Lib.hid (And.intro ha (And.intro hl hi)); clear ha hl hi
  have c7 := HD.out.1.1 7 (by decide)
  have z7 := HD.out.1.2 7 (by decide)
  go_enter Tryd.func38, Tryd.ntmps38
  go_wp2_with (refine wpList_build rfl 120 #[] rfl (by simp [zDec_built]) ?_; simp only [zDec_built, Array.map_empty, Option.getD_some])
  have HY : Hid (Ybr (w.alloc (.cells (zDec.setIfInBounds 1657 (.int .u8 corner)) 120)) w.heap.size (upd (fun _ => 0) 7 corner) ∧ Below w.heap.size w (w.alloc (.cells (zDec.setIfInBounds 1657 (.int .u8 corner)) 120)) ∧ w.heap.size < (w.alloc (.cells (zDec.setIfInBounds 1657 (.int .u8 corner)) 120)).heap.size) :=
    Lib.hid ⟨dec_corner w corner, (Below.refl _ _).alloc (Nat.le_refl _) _, by simp⟩
  generalize World.alloc w _ = w1 at HY ⊢
  have HC := Lib.hid (copy_mid w1 w.heap.size (1650 + 8) 24 24 aa la ca fa (HA.out.1.below HY.out.2.1) hla (fun j hj => by rw [Nat.add_assoc, HY.out.1.1 (8 + j) (by omega)]; rfl) (fun j hj => by rw [Nat.add_assoc]; exact HY.out.1.2 (8 + j) (by omega)))
  rw [HC.out]
  have HQ : Hid (Ybr (w1.setCells w.heap.size (1650 + 8) (cellsOf .u8 la fa)) w.heap.size (sqTo n la corner fa fl fi 0) ∧ Below w.heap.size w (w1.setCells w.heap.size (1650 + 8) (cellsOf .u8 la fa)) ∧ w.heap.size < (w1.setCells w.heap.size (1650 + 8) (cellsOf .u8 la fa)).heap.size) :=
    Lib.hid ⟨⟨row_setCells HY.out.1.1 8 la fa (by omega), wr_setCells HY.out.1.2 _ _ _⟩, below_cells (Nat.le_refl _) _ _ _ HY.out.2.1, by rw [size_cells]; exact HY.out.2.2⟩
  generalize World.setCells w1 _ _ _ = w2 at HQ ⊢
  clear HC HY HD c7 z7
  go_wp2
  go_loopw [12] (fun i wr => ∃ p : Nat, p ≤ n ∧ i = .int .i64 p ∧ Hid (Ybr wr w.heap.size (sqTo n la corner fa fl fi p) ∧ Below w.heap.size w wr ∧ w.heap.size < wr.heap.size)) (fun i _ => n - (intOf i).toNat)
  case atStart => exact ⟨0, by omega, rfl, HQ⟩
  case round =>
    obtain ⟨p, hp, rfl, hR⟩ := hrel
    by_cases hlt : p < n
    · obtain ⟨gl, ol, rfl, hgl, rl⟩ := HA.out.2.1 (by omega)
      have c0 : wr.cell? ⟨gl, ol + p, none⟩ = some (.int .u8 (fl p)) := (hR.out.2.1.cell (p := ⟨gl, ol + p, none⟩) hgl).trans (rl p hlt)
      have d0 := hR.out.1.1 (32 * (p + 1) + 7) (by omega)
      have z0 := hR.out.1.2 (32 * (p + 1) + 7) (by omega)
      rw [show 1650 + (32 * (p + 1) + 7) = 1650 + (1 + p) * 32 + 7 by omega] at d0 z0
      generalize sqTo n la corner fa fl fi p (32 * (p + 1) + 7) = q at d0
      clear rl
      have q1 : (0 : Int) ≤ 1 + (p : Int) := by omega
      have q2 : 1 + (p : Int) < 26 := by omega
      have q3 : (1 + (p : Int)).toNat = 1 + p := by omega
      have q4 : IntKind.i64.wrap (1 + (p : Int)) = 1 + (p : Int) := IntWalk.i64_in _ (by omega)
      go_wp2_with fail
      go_region
      have HQ4 := Lib.hid q4; clear q4
      have HW : Hid (Ybr (wr.setCell ⟨w.heap.size, 1650 + (1 + p) * 32 + 7, none⟩ (.int .u8 (fl p))).drew w.heap.size (upd (sqTo n la corner fa fl fi p) (32 * (p + 1) + 7) (fl p)) ∧ Below w.heap.size w (wr.setCell ⟨w.heap.size, 1650 + (1 + p) * 32 + 7, none⟩ (.int .u8 (fl p))).drew ∧ w.heap.size < (wr.setCell ⟨w.heap.size, 1650 + (1 + p) * 32 + 7, none⟩ (.int .u8 (fl p))).drew.heap.size) := by
        rw [show 1650 + (1 + p) * 32 + 7 = 1650 + (32 * (p + 1) + 7) by omega]
        exact Lib.hid ⟨⟨hR.out.1.1.set (32 * (p + 1) + 7) (by omega) (fl p), hR.out.1.2.set _ _⟩, (hR.out.2.1.setCell (by simp) _).drew, by show _ < (World.setCell _ _ _).heap.size; rw [size_setCell]; exact hR.out.2.2⟩
      generalize World.drew _ = w5 at HW ⊢
      have hnn : n * p + n ≤ n * n := by have := Nat.mul_le_mul_left n (show p + 1 ≤ n by omega); rw [Nat.mul_add, Nat.mul_one] at this; exact this
      have hn2 : n * n ≤ 256 := Nat.mul_le_mul hn hn
      obtain ⟨gi, oi, rfl, hgi, ri⟩ := HA.out.2.2 (by omega)
      have HCopy : Hid (∀ c1 c2 : Nat, (Builtin.copy_ #[22, 22] 3 #[.slice (some ⟨w.heap.size, 1650 + (1 + p) * 32 + 8, none⟩) n c1, .slice (some ⟨gi, oi + n * p, none⟩) n c2]).run Tryd.prog w5.drew = .ok (goInt n) (w5.drew.setCells w.heap.size (1650 + (1 + p) * 32 + 8) (cellsOf .u8 n (fun k => fi (n * p + k))))) := Lib.hid (fun c1 c2 =>
        copy_mid w5.drew w.heap.size (1650 + (1 + p) * 32 + 8) n c1 (some ⟨gi, oi + n * p, none⟩) n c2 (fun k => fi (n * p + k)) (fun _ => ⟨gi, oi + n * p, rfl, Nat.lt_of_lt_of_le hgi HW.out.2.1.size, fun i hi => by
          have := (HW.out.2.1.cell (p := ⟨gi, oi + (n * p + i), none⟩) hgi).trans (ri (n * p + i) (by omega))
          rw [Nat.add_assoc]; exact this⟩) (Nat.le_refl _)
          (fun j hj => by have := HW.out.1.1 (32 * (p + 1) + 8 + j) (by omega); rw [show 1650 + (1 + p) * 32 + 8 + j = 1650 + (32 * (p + 1) + 8 + j) by omega]; show (w5.cell? _).isSome = true; rw [this]; rfl)
          (fun j hj => by have := HW.out.1.2 (32 * (p + 1) + 8 + j) (by omega); rw [show 1650 + (1 + p) * 32 + 8 + j = 1650 + (32 * (p + 1) + 8 + j) by omega]; exact this))
      clear c0 d0 z0 ri
      have HM0 : Hid ((n : Int) * (p : Int) = ((n * p : Nat) : Int)) := Lib.hid (by simp)
      generalize hnp : n * p = np at *
      have HNP := Lib.hid hnp; clear hnp
      have m4 : ((np : Int) + n) ≤ ((n * n : Nat) : Int) := by omega
      have hb : np ≤ 256 := by omega
      have s1 : (8 + (n : Int)) ≤ 32 := by omega
      have s2 : (0 : Int) ≤ 8 + (n : Int) := by omega
      have s3 : (8 + (n : Int)).toNat = 8 + n := by omega
      have s4 : (8 : Int) ≤ 8 + (n : Int) := by omega
      have s5 : (0 : Int) ≤ (np : Int) := by omega
      have s6 : (np : Int) ≤ (np : Int) + n := by omega
      have s7 : (np : Int) + n ≤ (ci : Int) := by omega
      have s8 : ((np : Int) + n).toNat = np + n := by omega
      have s9 : (np : Int) < (ci : Int) := by omega
      have s10 : (0 : Int) ≤ (np : Int) + n := by omega
      have s11 : ¬ ci = np := by omega
      obtain ⟨m1, m2, m3⟩ : IntKind.i64.wrap ((np : Int) + (n : Int)) = (np : Int) + n ∧ IntKind.i64.wrap (8 + (n : Int)) = 8 + (n : Int) ∧ IntKind.i64.wrap (np : Int) = (np : Int) :=
        wraps3 np n hb hn
      have m0 := HM0.out
      have q4 := HQ4.out
      go_wp2_with fail
      go_region_law (go_simp; rw [HCopy.out]; go_simp)
      have HE : Hid (Ybr (w5.drew.setCells w.heap.size (1650 + (1 + p) * 32 + 8) (cellsOf .u8 n fun k => fi (np + k))) w.heap.size (sqTo n la corner fa fl fi (p + 1)) ∧ Below w.heap.size w (w5.drew.setCells w.heap.size (1650 + (1 + p) * 32 + 8) (cellsOf .u8 n fun k => fi (np + k))) ∧ w.heap.size < (w5.drew.setCells w.heap.size (1650 + (1 + p) * 32 + 8) (cellsOf .u8 n fun k => fi (np + k))).heap.size) := by
        rw [← HNP.out, show 1650 + (1 + p) * 32 + 8 = 1650 + (32 * (p + 1) + 8) from HA8 p]
        exact Lib.hid ⟨⟨row_setCells (w := w5.drew) HW.out.1.1 (32 * (p + 1) + 8) n _ (HA9 p n hlt hn), wr_setCells (w := w5.drew) HW.out.1.2 _ _ _⟩, below_cells (Nat.le_refl _) _ _ _ HW.out.2.1.drew, by rw [size_cells]; exact HW.out.2.2⟩
      generalize World.setCells _ _ _ _ = w7 at HE ⊢
      go_wp2
      go_roundw
      case rel => exact ⟨p + 1, hlt, by go_num, HE⟩
      case measure => simp [intOf]; clear m0 m1 m2 m3 q4; omega
    · obtain rfl : p = n := by omega
      go_wp2
      go_ret
      exact ⟨rfl, hR.out⟩
end Go.Proofs.YtmdijdoaijnpaaaDoor
