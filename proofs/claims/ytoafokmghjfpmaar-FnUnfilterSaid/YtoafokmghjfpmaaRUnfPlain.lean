/- The plain law of undoing the filter of a plane: the values U, defined by their own equation; no program. -/
import Derived.Test.YtoafokmghjfpmaaRMem
import Derived.Test.YtoafokmghjfpmaaRSums
namespace Go.Proofs.YtoafokmghjfpmaaR
open Go.RowKit

/-- What the i-th number of a plane of width w is foretold to be, by those ahead of it. -/
def guess (kind w : Nat) (U : Nat → Int) (i : Nat) : Int :=
  if kind = 0 ∨ i = 0 then 0 else if i % w = 0 then U (i - w) else if i < w ∨ kind = 1 then U (i - 1) else if kind = 2 then U (i - w)
  else held255 (U (i - 1) + U (i - w) - U (i - w - 1))

def uList (kind w : Nat) (f : Nat → Int) : Nat → List Int
  | 0 => []
  | n + 1 => uList kind w f n ++ [IntKind.u8.wrap (f n + guess kind w (fun j => (uList kind w f n).getD j 0) n)]
theorem uList_length (kind w : Nat) (f : Nat → Int) (n : Nat) : (uList kind w f n).length = n := by
  induction n with
  | zero => rfl
  | succ n ih => simp [uList, ih]
theorem uList_get (kind w : Nat) (f : Nat → Int) (i n : Nat) (h : i < n) : (uList kind w f n).getD i 0 = (uList kind w f (i + 1)).getD i 0 := by
  induction n with
  | zero => omega
  | succ n ih =>
    by_cases e : i = n
    · subst e; rfl
    · have hi : i < n := by omega
      rw [← ih hi]
      simp [uList, List.getD, List.getElem?_append, uList_length, hi]
theorem guess_congr {kind w : Nat} {U V : Nat → Int} {i : Nat} (hw : 0 < w) (h : ∀ j, j < i → U j = V j) : guess kind w U i = guess kind w V i := by
  unfold guess
  by_cases h0 : kind = 0 ∨ i = 0
  · rw [if_pos h0, if_pos h0]
  · rw [if_neg h0, if_neg h0]
    have hi : 0 < i := by omega
    by_cases h1 : i % w = 0
    · rw [if_pos h1, if_pos h1]; exact h _ (by omega)
    · rw [if_neg h1, if_neg h1]
      by_cases h2 : i < w ∨ kind = 1
      · rw [if_pos h2, if_pos h2]; exact h _ (by omega)
      · rw [if_neg h2, if_neg h2, h (i - 1) (by omega), h (i - w) (by omega), h (i - w - 1) (by omega)]

/-- The values: U i = the i-th number and what is foretold by the values ahead, within a byte. -/
theorem exists_U (kind w : Nat) (f : Nat → Int) (hw : 0 < w) : ∃ U : Nat → Int, ∀ i, U i = IntKind.u8.wrap (f i + guess kind w U i) := by
  refine ⟨fun i => (uList kind w f (i + 1)).getD i 0, fun i => ?_⟩
  have e : (uList kind w f (i + 1)).getD i 0 = IntKind.u8.wrap (f i + guess kind w (fun j => (uList kind w f i).getD j 0) i) := by
    simp [uList, List.getD, uList_length]
  refine e.trans ?_
  congr 2
  exact guess_congr hw (fun j hj => uList_get kind w f j i hj)

theorem wrap_u8_mod (x : Int) : IntKind.u8.wrap x = x % 256 := by simp [IntKind.wrap, IntKind.signed, IntKind.bits]
theorem wrap_u8 (x : Int) : 0 ≤ IntKind.u8.wrap x ∧ IntKind.u8.wrap x ≤ 255 := by
  have e : IntKind.u8.wrap x = x % 256 := by simp [IntKind.wrap, IntKind.signed, IntKind.bits]
  rw [e]; omega
theorem wrap_u8_id {x : Int} (h : 0 ≤ x) (h2 : x ≤ 255) : IntKind.u8.wrap x = x := by
  have e : IntKind.u8.wrap x = x % 256 := by simp [IntKind.wrap, IntKind.signed, IntKind.bits]
  rw [e]; omega
theorem guess_range {kind w : Nat} {U : Nat → Int} (h : ∀ i, 0 ≤ U i ∧ U i ≤ 255) (i : Nat) : 0 ≤ guess kind w U i ∧ guess kind w U i ≤ 255 := by
  unfold guess
  split
  · omega
  · split
    · exact h _
    · split
      · exact h _
      · split
        · exact h _
        · exact held_range _

/-- The plane while the filter is being undone: the first p numbers are done. -/
def mix (U f : Nat → Int) (p : Nat) (i : Nat) : Int := if i < p then U i else f i
theorem mix_lt (U f : Nat → Int) (p i : Nat) (h : i < p) : mix U f p i = U i := by simp [mix, h]
theorem mix_ge (U f : Nat → Int) (p i : Nat) (h : p ≤ i) : mix U f p i = f i := by simp [mix]; omega
theorem mix_step (U f : Nat → Int) (p : Nat) : ∀ i, upd (mix U f p) p (U p) i = mix U f (p + 1) i := by
  intro i
  unfold upd mix
  by_cases e : i = p
  · subst e; rw [if_pos rfl, if_pos (by omega)]
  · rw [if_neg e]
    by_cases h : i < p
    · rw [if_pos h, if_pos (by omega)]
    · rw [if_neg h, if_neg (by omega)]
/-- One store. -/
theorem mix_round {w wr : World} {g n p : Nat} {U f : Nat → Int} {v : Int} (hv : v = U p) (hn : p < n) (hgr : w.grownBy wr (some g)) (hr : Row .u8 wr g 0 n (mix U f p)) (hw : Wr wr g 0 n) :
    w.grownBy (wr.setCell ⟨g, p, none⟩ (.int .u8 v)) (some g) ∧ Row .u8 (wr.setCell ⟨g, p, none⟩ (.int .u8 v)) g 0 n (mix U f (p + 1)) ∧ Wr (wr.setCell ⟨g, p, none⟩ (.int .u8 v)) g 0 n := by
  refine ⟨grownBy.trans hgr (grownBy_setCell _ _ _), ?_, hw.set _ _⟩
  have h1 := hr.set p hn v
  simp only [Nat.zero_add] at h1
  rw [hv] at h1 ⊢
  exact h1.congr fun i _ => mix_step U f p i
end Go.Proofs.YtoafokmghjfpmaaR
