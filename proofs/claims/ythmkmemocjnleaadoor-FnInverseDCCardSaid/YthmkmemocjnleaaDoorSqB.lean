/- Bounds and places of the workspace that square fills. -/
import Derived.Test.YthmkmemocjnleaaDoorSquare
namespace Go.Proofs.YthmkmemocjnleaaDoor
open Go.RowKit

theorem updN_in {y f : Nat → Int} (o n : Nat) (hy : ∀ k, 0 ≤ y k ∧ y k ≤ 255) (hf : ∀ k, 0 ≤ f k ∧ f k ≤ 255) (k : Nat) : 0 ≤ updN y o n f k ∧ updN y o n f k ≤ 255 := by
  unfold updN; split
  · exact hf _
  · exact hy _
theorem upd_in {y : Nat → Int} (i : Nat) {v : Int} (hy : ∀ k, 0 ≤ y k ∧ y k ≤ 255) (hv : 0 ≤ v ∧ v ≤ 255) (k : Nat) : 0 ≤ upd y i v k ∧ upd y i v k ≤ 255 := by
  unfold upd; split
  · exact hv
  · exact hy _
theorem sqTo_in (n la : Nat) {corner : Int} {fa fl fi : Nat → Int} (hc : 0 ≤ corner ∧ corner ≤ 255) (ha : ∀ k, 0 ≤ fa k ∧ fa k ≤ 255) (hl : ∀ k, 0 ≤ fl k ∧ fl k ≤ 255) (hi : ∀ k, 0 ≤ fi k ∧ fi k ≤ 255) : ∀ j k, 0 ≤ sqTo n la corner fa fl fi j k ∧ sqTo n la corner fa fl fi j k ≤ 255
  | 0, k => updN_in _ _ (upd_in _ (fun _ => ⟨by decide, by decide⟩) hc) ha k
  | j + 1, k => updN_in _ _ (upd_in _ (sqTo_in n la hc ha hl hi j) (hl j)) (fun _ => hi _) k
theorem sq_row0 (n la : Nat) (c : Int) (fa fl fi : Nat → Int) (k : Nat) (hk : k < 32) : ∀ j, sqTo n la c fa fl fi j k = sqTo n la c fa fl fi 0 k
  | 0 => rfl
  | j + 1 => by
    have ih := sq_row0 n la c fa fl fi k hk j
    rw [← ih]
    show updN (upd _ _ _) _ _ _ k = _
    unfold updN upd
    rw [if_neg (by omega), if_neg (by omega)]
theorem sq_left (n la : Nat) (c : Int) (fa fl fi : Nat → Int) (hn : n ≤ 16) (j : Nat) : ∀ m, j < m → sqTo n la c fa fl fi m (32 * (j + 1) + 7) = fl j
  | 0, h => absurd h (by omega)
  | m + 1, h => by
    show updN (upd _ _ _) _ _ _ _ = _
    unfold updN upd
    rw [if_neg (by omega)]
    by_cases e : j = m
    · subst e; rw [if_pos rfl]
    · rw [if_neg (by omega)]; exact sq_left n la c fa fl fi hn j m (by omega)
theorem sq_corner (n la : Nat) (c : Int) (fa fl fi : Nat → Int) (m : Nat) : sqTo n la c fa fl fi m 7 = c := by
  rw [sq_row0 _ _ _ _ _ _ _ (by decide)]
  show updN (upd _ _ _) _ _ _ _ = _
  unfold updN upd
  rw [if_neg (by omega), if_pos rfl]
theorem sq_top (n la : Nat) (c : Int) (fa fl fi : Nat → Int) (m i : Nat) (hi : i < la) (h24 : i < 24) : sqTo n la c fa fl fi m (8 + i) = fa i := by
  rw [sq_row0 _ _ _ _ _ _ _ (by omega)]
  show updN (upd _ _ _) _ _ _ _ = _
  unfold updN
  rw [if_pos (by omega)]
  congr 1
  omega
/-- The values of the block itself. -/
theorem sq_in4 (la : Nat) (c : Int) (fa fl fi : Nat → Int) (j i : Nat) (hj : j < 4) (hi : i < 4) : sqTo 4 la c fa fl fi 4 (32 * (j + 1) + 8 + i) = fi (4 * j + i) := by
  have key : ∀ m, j < m → m ≤ 4 → sqTo 4 la c fa fl fi m (32 * (j + 1) + 8 + i) = fi (4 * j + i) := by
    intro m
    induction m with
    | zero => intro h; omega
    | succ m ih =>
      intro h hm
      show updN (upd _ _ _) _ _ _ _ = _
      unfold updN upd
      by_cases e : j = m
      · subst e
        rw [if_pos (by omega)]
        congr 1
        omega
      · rw [if_neg (by omega), if_neg (by omega)]
        exact ih (by omega) (by omega)
  exact key 4 hj (Nat.le_refl _)
end Go.Proofs.YthmkmemocjnleaaDoor
