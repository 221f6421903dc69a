/- The reference's readFilters. Printed by wip/gen_filu.py. -/
import Derived.Test.YthmkmemocjnleaaDoorFilT
import Derived.Test.YthmkmemocjnleaaDoorSegR1
namespace Go.Proofs.YthmkmemocjnleaaDoor
open Go.RowKit
set_option linter.unusedVariables false

theorem bits_bd' {σ : Type} (step : σ → Int → Bool × σ) (k : Nat) (s : σ) (m : Int) (hm : (2 : Int) ^ k = m) : 0 ≤ (bitsG step 128 k 0 s).1 ∧ (bitsG step 128 k 0 s).1 < m := by
  have hb := bitsG_range step 128 k 0 s
  simp only [Int.zero_mul, Int.zero_add, Int.one_mul] at hb
  rw [← hm]; exact hb
theorem itS_add {σ : Type} (f : σ → Int × σ) (a : Nat) (s : σ) : ∀ b, itS f (a + b) s = itS f b (itS f a s)
  | 0 => rfl
  | b + 1 => by show (f (itS f (a + b) s)).2 = (f (itS f b (itS f a s))).2; rw [itS_add f a s b]
theorem itV_add {σ : Type} (f : σ → Int × σ) (a : Nat) (s : σ) (b : Nat) : itV f s (a + b) = itV f (itS f a s) b := by unfold itV; rw [itS_add]
theorem FilZ.read {w0 w w' : World} {B gd g n c : Nat} {D0 : Nat → Option Value} {ao : Option Addr} {zs : List Int} {s s' : SS} {sm : Bool} {lv sh : Int} {dl : Bool} {rf md : Nat → Int} (h : FilZ w0 B D0 w gd g ao n c zs s sm lv sh dl rf md) (k : SK w0 B gd g ao n) (h1 : SdX w' g ao n c zs s') (hg : w.grownBy w' (some g)) : FilZ w0 B D0 w' gd g ao n c zs s' sm lv sh dl rf md := by
  obtain ⟨D, a, b⟩ := h
  exact ⟨D, a.read k h1 hg, b⟩
theorem FilZ.put_sm {w0 w : World} {B gd g n c : Nat} {D0 : Nat → Option Value} {ao : Option Addr} {zs : List Int} {s : SS} {sm : Bool} {lv sh : Int} {dl : Bool} {rf md : Nat → Int} (h : FilZ w0 B D0 w gd g ao n c zs s sm lv sh dl rf md) (k : SK w0 B gd g ao n) (v : Bool) : FilZ w0 B D0 (w.setCell ⟨gd, 272, none⟩ (.bool v)) gd g ao n c zs s v lv sh dl rf md := by
  obtain ⟨D, a, b⟩ := h
  exact ⟨_, a.upd k 272 _ b.sm, b.put_sm v⟩
theorem FilZ.at_sm {w0 w : World} {B gd g n c : Nat} {D0 : Nat → Option Value} {ao : Option Addr} {zs : List Int} {s : SS} {sm : Bool} {lv sh : Int} {dl : Bool} {rf md : Nat → Int} (h : FilZ w0 B D0 w gd g ao n c zs s sm lv sh dl rf md) : w.cell? ⟨gd, 272, none⟩ = some (.bool sm) ∧ w.frozen? ⟨gd, 272, none⟩ = false := by
  obtain ⟨D, a, b⟩ := h
  exact ⟨a.cell 272 b.sm, a.free 272⟩
theorem FilZ.put_lv {w0 w : World} {B gd g n c : Nat} {D0 : Nat → Option Value} {ao : Option Addr} {zs : List Int} {s : SS} {sm : Bool} {lv sh : Int} {dl : Bool} {rf md : Nat → Int} (h : FilZ w0 B D0 w gd g ao n c zs s sm lv sh dl rf md) (k : SK w0 B gd g ao n) (v : Int) : FilZ w0 B D0 (w.setCell ⟨gd, 273, none⟩ (.int .i64 v)) gd g ao n c zs s sm v sh dl rf md := by
  obtain ⟨D, a, b⟩ := h
  exact ⟨_, a.upd k 273 _ b.lv, b.put_lv v⟩
theorem FilZ.at_lv {w0 w : World} {B gd g n c : Nat} {D0 : Nat → Option Value} {ao : Option Addr} {zs : List Int} {s : SS} {sm : Bool} {lv sh : Int} {dl : Bool} {rf md : Nat → Int} (h : FilZ w0 B D0 w gd g ao n c zs s sm lv sh dl rf md) : w.cell? ⟨gd, 273, none⟩ = some (.int .i64 lv) ∧ w.frozen? ⟨gd, 273, none⟩ = false := by
  obtain ⟨D, a, b⟩ := h
  exact ⟨a.cell 273 b.lv, a.free 273⟩
theorem FilZ.put_sh {w0 w : World} {B gd g n c : Nat} {D0 : Nat → Option Value} {ao : Option Addr} {zs : List Int} {s : SS} {sm : Bool} {lv sh : Int} {dl : Bool} {rf md : Nat → Int} (h : FilZ w0 B D0 w gd g ao n c zs s sm lv sh dl rf md) (k : SK w0 B gd g ao n) (v : Int) : FilZ w0 B D0 (w.setCell ⟨gd, 274, none⟩ (.int .i64 v)) gd g ao n c zs s sm lv v dl rf md := by
  obtain ⟨D, a, b⟩ := h
  exact ⟨_, a.upd k 274 _ b.sh, b.put_sh v⟩
theorem FilZ.at_sh {w0 w : World} {B gd g n c : Nat} {D0 : Nat → Option Value} {ao : Option Addr} {zs : List Int} {s : SS} {sm : Bool} {lv sh : Int} {dl : Bool} {rf md : Nat → Int} (h : FilZ w0 B D0 w gd g ao n c zs s sm lv sh dl rf md) : w.cell? ⟨gd, 274, none⟩ = some (.int .i64 sh) ∧ w.frozen? ⟨gd, 274, none⟩ = false := by
  obtain ⟨D, a, b⟩ := h
  exact ⟨a.cell 274 b.sh, a.free 274⟩
theorem FilZ.put_dl {w0 w : World} {B gd g n c : Nat} {D0 : Nat → Option Value} {ao : Option Addr} {zs : List Int} {s : SS} {sm : Bool} {lv sh : Int} {dl : Bool} {rf md : Nat → Int} (h : FilZ w0 B D0 w gd g ao n c zs s sm lv sh dl rf md) (k : SK w0 B gd g ao n) (v : Bool) : FilZ w0 B D0 (w.setCell ⟨gd, 275, none⟩ (.bool v)) gd g ao n c zs s sm lv sh v rf md := by
  obtain ⟨D, a, b⟩ := h
  exact ⟨_, a.upd k 275 _ b.dl, b.put_dl v⟩
theorem FilZ.at_dl {w0 w : World} {B gd g n c : Nat} {D0 : Nat → Option Value} {ao : Option Addr} {zs : List Int} {s : SS} {sm : Bool} {lv sh : Int} {dl : Bool} {rf md : Nat → Int} (h : FilZ w0 B D0 w gd g ao n c zs s sm lv sh dl rf md) : w.cell? ⟨gd, 275, none⟩ = some (.bool dl) ∧ w.frozen? ⟨gd, 275, none⟩ = false := by
  obtain ⟨D, a, b⟩ := h
  exact ⟨a.cell 275 b.dl, a.free 275⟩
theorem FilZ.put_keeps {w0 w : World} {B gd g n c : Nat} {D0 : Nat → Option Value} {ao : Option Addr} {zs : List Int} {s : SS} {sm : Bool} {lv sh : Int} {dl : Bool} {rf md : Nat → Int} (h : FilZ w0 B D0 w gd g ao n c zs s sm lv sh dl rf md) (k : SK w0 B gd g ao n) (v : Bool) : FilZ w0 B D0 (w.setCell ⟨gd, 351, none⟩ (.bool v)) gd g ao n c zs s sm lv sh dl rf md := by
  obtain ⟨D, a, b⟩ := h
  obtain ⟨x, hx⟩ := b.keeps
  exact ⟨_, a.upd k 351 _ hx, b.put_keeps v⟩
theorem FilZ.at_keeps {w0 w : World} {B gd g n c : Nat} {D0 : Nat → Option Value} {ao : Option Addr} {zs : List Int} {s : SS} {sm : Bool} {lv sh : Int} {dl : Bool} {rf md : Nat → Int} (h : FilZ w0 B D0 w gd g ao n c zs s sm lv sh dl rf md) : (∃ x, w.cell? ⟨gd, 351, none⟩ = some (.bool x)) ∧ w.frozen? ⟨gd, 351, none⟩ = false := by
  obtain ⟨D, a, b⟩ := h
  obtain ⟨x, hx⟩ := b.keeps
  exact ⟨⟨x, a.cell 351 hx⟩, a.free 351⟩
theorem FilZ.congr {w0 w : World} {B gd g n c : Nat} {D0 : Nat → Option Value} {ao : Option Addr} {zs : List Int} {s : SS} {sm : Bool} {lv sh : Int} {dl : Bool} {rf md rf' md' : Nat → Int} (h : FilZ w0 B D0 w gd g ao n c zs s sm lv sh dl rf md) (h1 : ∀ i, i < 4 → rf i = rf' i) (h2 : ∀ i, i < 4 → md i = md' i) : FilZ w0 B D0 w gd g ao n c zs s sm lv sh dl rf' md' := by
  obtain ⟨D, a, b⟩ := h
  exact ⟨D, a, b.congr h1 h2⟩
theorem FilZ.drewN {w0 w : World} {B gd g n c : Nat} {D0 : Nat → Option Value} {ao : Option Addr} {zs : List Int} {s : SS} {sm : Bool} {lv sh : Int} {dl : Bool} {rf md : Nat → Int} (h : FilZ w0 B D0 w gd g ao n c zs s sm lv sh dl rf md) (k : SK w0 B gd g ao n) (j : Nat) : FilZ w0 B D0 (w.drewN j) gd g ao n c zs s sm lv sh dl rf md := by
  obtain ⟨D, a, b⟩ := h
  exact ⟨D, a.drewN k j, b⟩
end Go.Proofs.YthmkmemocjnleaaDoor
