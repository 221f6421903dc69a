/- What small blocks are foretold to be; the block of 4 rows of 4 (plain). Printed by wip/gen_pred4.py. -/
import Derived.Test.YtmdijdoaijnpaaaDoorPredT
namespace Go.Proofs.YtmdijdoaijnpaaaDoor
open Go.RowKit
set_option linter.unusedVariables false

/-- What stands around a small block, in the workspace: the left ones from below, the corner, 8 above. -/
def edgeF (y : Nat → Int) (k : Nat) : Int := y (if k < 4 then 32 * (4 - k) + 7 else 3 + k)
def tw (E : Nat → Int) (k : Nat) : Int := (E k + E (k + 1) + 1) / 2
def th (E : Nat → Int) (k : Nat) : Int := (E (k - 1) + 2 * E k + E (k + 1) + 2) / 4
def rRD (E : Nat → Int) (j i : Nat) : Int := th E (4 + i - j)
def rVR (E : Nat → Int) (j i : Nat) : Int := if 2 * i + 3 = j then th E 2 else if 2 * i + 2 = j then th E 3 else if 2 * i + 1 = j then th E 4 else if j % 2 = 0 then tw E (4 + (2 * i - j) / 2) else th E (4 + (2 * i - j + 1) / 2)
def rLD (E : Nat → Int) (j i : Nat) : Int := if i + j = 6 then (E 11 + 3 * E 12 + 2) / 4 else th E (6 + i + j)
def rVL (E : Nat → Int) (j i : Nat) : Int := if i = 3 ∧ j = 2 then th E 10 else if i = 3 ∧ j = 3 then th E 11 else if j % 2 = 0 then tw E (5 + i + j / 2) else th E (6 + i + j / 2)
def rHD (E : Nat → Int) (j i : Nat) : Int := if 2 * j + 3 = i then th E 6 else if 2 * j + 2 = i then th E 5 else if 2 * j + 1 = i then th E 4 else if i % 2 = 0 then tw E (3 - (2 * j - i) / 2) else th E (3 - (2 * j - i) / 2)
def rHU (E : Nat → Int) (j i : Nat) : Int := if 5 < i + 2 * j then E 0 else if i + 2 * j = 5 then (E 1 + 3 * E 0 + 2) / 4 else if (i + 2 * j) % 2 = 0 then tw E (2 - (i + 2 * j) / 2) else th E (2 - (i + 2 * j) / 2)
def rVE (E : Nat → Int) (j i : Nat) : Int := th E (5 + i)
def rHE (E : Nat → Int) (j i : Nat) : Int := if j = 3 then (E 1 + 3 * E 0 + 2) / 4 else th E (3 - j)
def rDC (E : Nat → Int) (j i : Nat) : Int := (E 0 + E 5 + E 1 + E 6 + E 2 + E 7 + E 3 + E 8 + 4) / 8
def rTM (E : Nat → Int) (j i : Nat) : Int := hld 0 255 (E (3 - j) + E (5 + i) - E 4)

/-- The block of 4 rows of 4, its first m values filled. -/
def blk4 (y : Nat → Int) (V : Nat → Nat → Int) (m k : Nat) : Int :=
  if (1 ≤ k / 32 ∧ k / 32 ≤ 4 ∧ 8 ≤ k % 32 ∧ k % 32 < 12) ∧ 4 * (k / 32 - 1) + (k % 32 - 8) < m then V (k / 32 - 1) (k % 32 - 8) else y k
theorem blk4_zero (y : Nat → Int) (V : Nat → Nat → Int) (k : Nat) : blk4 y V 0 k = y k := by unfold blk4; rw [if_neg (by omega)]
theorem blk4_next (y : Nat → Int) (V : Nat → Nat → Int) (j i : Nat) (hj : j < 4) (hi : i < 4) : blk4 y V (4 * j + i) (32 * (j + 1) + 8 + i) = y (32 * (j + 1) + 8 + i) := by
  unfold blk4; rw [if_neg (by omega)]
theorem blk4_step (y : Nat → Int) (V : Nat → Nat → Int) (j i k : Nat) (hj : j < 4) (hi : i < 4) : upd (blk4 y V (4 * j + i)) (32 * (j + 1) + 8 + i) (V j i) k = blk4 y V (4 * j + (i + 1)) k := by
  unfold upd
  by_cases h : k = 32 * (j + 1) + 8 + i
  · subst h
    have e1 : (32 * (j + 1) + 8 + i) / 32 = j + 1 := by omega
    have e2 : (32 * (j + 1) + 8 + i) % 32 = 8 + i := by omega
    rw [if_pos rfl]
    unfold blk4
    rw [e1, e2, if_pos ⟨by omega, by omega⟩, show j + 1 - 1 = j by omega, show 8 + i - 8 = i by omega]
  · rw [if_neg h]
    unfold blk4
    by_cases h2 : (1 ≤ k / 32 ∧ k / 32 ≤ 4 ∧ 8 ≤ k % 32 ∧ k % 32 < 12) ∧ 4 * (k / 32 - 1) + (k % 32 - 8) < 4 * j + i
    · rw [if_pos h2, if_pos ⟨h2.1, by omega⟩]
    · rw [if_neg h2, if_neg (by omega)]
theorem blk4_row0 (y : Nat → Int) (V : Nat → Nat → Int) (m k : Nat) (h : k < 32) : blk4 y V m k = y k := by unfold blk4; rw [if_neg (by omega)]
theorem blk4_left (y : Nat → Int) (V : Nat → Nat → Int) (m r : Nat) : blk4 y V m (32 * r + 7) = y (32 * r + 7) := by unfold blk4; rw [if_neg (by omega)]
theorem wr4 (p q : Nat) (hp : p < 4) (hq : q < 4) : IntKind.i64.wrap (1 + (p : Int)) = 1 + (p : Int) ∧ IntKind.i64.wrap (8 + (q : Int)) = 8 + (q : Int) := ⟨IntWalk.i64_in _ (by omega), IntWalk.i64_in _ (by omega)⟩
theorem adr4 (p q : Nat) : 1650 + (1 + p) * 32 + (8 + q) = 1650 + (32 * (p + 1) + 8 + q) := by omega
/-- The block filled by columns. -/
def colF (y : Nat → Int) (V : Nat → Nat → Int) (m k : Nat) : Int :=
  if (1 ≤ k / 32 ∧ k / 32 ≤ 4 ∧ 8 ≤ k % 32 ∧ k % 32 < 12) ∧ 4 * (k % 32 - 8) + (k / 32 - 1) < m then V (k / 32 - 1) (k % 32 - 8) else y k
theorem colF_zero (y : Nat → Int) (V : Nat → Nat → Int) (k : Nat) : colF y V 0 k = y k := by unfold colF; rw [if_neg (by omega)]
theorem colF_all (y : Nat → Int) (V : Nat → Nat → Int) (k : Nat) : colF y V 16 k = blk4 y V 16 k := by
  unfold colF blk4
  by_cases h : 1 ≤ k / 32 ∧ k / 32 ≤ 4 ∧ 8 ≤ k % 32 ∧ k % 32 < 12
  · rw [if_pos ⟨h, by omega⟩, if_pos ⟨h, by omega⟩]
  · rw [if_neg (fun c => h c.1), if_neg (fun c => h c.1)]
theorem colF_next (y : Nat → Int) (V : Nat → Nat → Int) (j i : Nat) (hj : j < 4) (hi : i < 4) : colF y V (4 * i + j) (32 * (j + 1) + 8 + i) = y (32 * (j + 1) + 8 + i) := by
  unfold colF; rw [if_neg (by omega)]
theorem colF_step (y : Nat → Int) (V : Nat → Nat → Int) (j i k : Nat) (hj : j < 4) (hi : i < 4) : upd (colF y V (4 * i + j)) (32 * (j + 1) + 8 + i) (V j i) k = colF y V (4 * i + (j + 1)) k := by
  unfold upd
  by_cases h : k = 32 * (j + 1) + 8 + i
  · subst h
    have e1 : (32 * (j + 1) + 8 + i) / 32 = j + 1 := by omega
    have e2 : (32 * (j + 1) + 8 + i) % 32 = 8 + i := by omega
    rw [if_pos rfl]
    unfold colF
    rw [e1, e2, if_pos ⟨by omega, by omega⟩, show j + 1 - 1 = j by omega, show 8 + i - 8 = i by omega]
  · rw [if_neg h]
    unfold colF
    by_cases h2 : (1 ≤ k / 32 ∧ k / 32 ≤ 4 ∧ 8 ≤ k % 32 ∧ k % 32 < 12) ∧ 4 * (k % 32 - 8) + (k / 32 - 1) < 4 * i + j
    · rw [if_pos h2, if_pos ⟨h2.1, by omega⟩]
    · rw [if_neg h2, if_neg (by omega)]

def B4 (w0 w : World) (g : Nat) (y : Nat → Int) (V : Nat → Nat → Int) (m : Nat) : Prop := Ybr w g (blk4 y V m) ∧ w0.grownBy w (some g)
theorem B4.zero {w : World} {g : Nat} {y : Nat → Int} (V : Nat → Nat → Int) (h : Ybr w g y) : B4 w w g y V 0 := ⟨h.congr (fun i _ => (blk4_zero _ _ i).symm), World.grownBy.refl _ _⟩
theorem B4.step {w0 w : World} {g : Nat} {y : Nat → Int} {V : Nat → Nat → Int} {m : Nat} (j i m' A : Nat) {v : Int} (h : B4 w0 w g y V m) (hj : j < 4) (hi : i < 4) (hA : A = 1650 + (32 * (j + 1) + 8 + i)) (hm : m = 4 * j + i) (hm' : m' = 4 * j + (i + 1)) (hv : v = V j i) :
    B4 w0 (w.setCell ⟨g, A, none⟩ (.int .u8 v)) g y V m' := by
  subst hA hm hm' hv
  exact ⟨(h.1.set (32 * (j + 1) + 8 + i) (by omega) _).congr (fun k _ => blk4_step y V j i k hj hi), grownBy.trans h.2 (grownBy_setCell _ _ _)⟩
def C4 (w0 w : World) (g : Nat) (y : Nat → Int) (V : Nat → Nat → Int) (m : Nat) : Prop := Ybr w g (colF y V m) ∧ w0.grownBy w (some g)
theorem C4.step {w0 w : World} {g : Nat} {y : Nat → Int} {V : Nat → Nat → Int} {m : Nat} (j i m' A : Nat) {v : Int} (h : C4 w0 w g y V m) (hj : j < 4) (hi : i < 4) (hA : A = 1650 + (32 * (j + 1) + 8 + i)) (hm : m = 4 * i + j) (hm' : m' = 4 * i + (j + 1)) (hv : v = V j i) :
    C4 w0 (w.setCell ⟨g, A, none⟩ (.int .u8 v)) g y V m' := by
  subst hA hm hm' hv
  exact ⟨(h.1.set (32 * (j + 1) + 8 + i) (by omega) _).congr (fun k _ => colF_step y V j i k hj hi), grownBy.trans h.2 (grownBy_setCell _ _ _)⟩
/-- What a function of small predictions does. -/
def Small (k : Nat) (R : (Nat → Int) → Nat → Nat → Int) : Prop := ∀ (g : Nat) (y : Nat → Int) (w : World), Ybr w g y → (∀ i, 0 ≤ y i ∧ y i ≤ 255) →
  Calls Tryd.prog k #[.pointer (some ⟨g, 0, none⟩), .int .i64 1, .int .i64 8] w fun e w' => e = .returned (.tuple #[]) ∧ Ybr w' g (blk4 y (R (edgeF y)) 16) ∧ w.grownBy w' (some g)
end Go.Proofs.YtmdijdoaijnpaaaDoor
