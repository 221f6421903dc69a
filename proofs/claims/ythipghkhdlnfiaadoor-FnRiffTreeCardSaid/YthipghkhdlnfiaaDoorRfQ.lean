/- How many chunks, kinds and lists around there are at most. -/
import Derived.Test.YthipghkhdlnfiaaDoorRfM
namespace Go.Proofs.YthipghkhdlnfiaaDoor
open Go.RowKit
set_option linter.unusedVariables false

theorem readLast_length (m a : Nat) (rest : List Int) : ∀ l : List Ck, (readLast m a rest l).length = l.length
  | [] => rfl
  | [_] => rfl
  | c :: d :: cs => by
    show (c :: readLast m a rest (d :: cs)).length = _
    rw [List.length_cons, readLast_length m a rest (d :: cs)]; rfl
theorem opM_bounds (N : Nat) (s : St) (p : Int × Int) : (opM N s p).1.kinds = s.kinds ∧ (opM N s p).1.out.length ≤ s.out.length + 1 ∧ (opM N s p).1.outer.length ≤ s.outer.length + 1 := by
  unfold opM
  split
  · unfold opNext
    split
    · exact ⟨rfl, by simp, by simp⟩
    · split
      · exact ⟨rfl, by simp, by simp⟩
      · exact ⟨rfl, by simp, by simp⟩
  · split
    · unfold opRead
      split
      · exact ⟨rfl, by simp, by simp⟩
      · exact ⟨rfl, by show (readLast _ _ _ s.out).length ≤ _; rw [readLast_length]; omega, by simp [St.take]⟩
    · split
      · unfold opInto
        split
        · exact ⟨rfl, by simp, by simp⟩
        · split
          · exact ⟨rfl, by simp [St.take], by simp [St.take]⟩
          · exact ⟨rfl, by simp, by simp⟩
      · split
        · unfold opBack
          split
          · exact ⟨rfl, by simp, by simp⟩
          · rename_i r rs h
            exact ⟨rfl, by simp, by rw [h]; simp; omega⟩
        · exact ⟨rfl, by simp, by simp⟩
theorem runM_bounds (N : Nat) : ∀ (l : List (Int × Int)) (s : St), (runM N s l).kinds.length = s.kinds.length + l.length ∧ (runM N s l).out.length ≤ s.out.length + l.length ∧ (runM N s l).outer.length ≤ s.outer.length + l.length
  | [], s => ⟨rfl, Nat.le_refl _, Nat.le_refl _⟩
  | p :: l, s => by
    have h := runM_bounds N l (stepM N s p)
    have b := opM_bounds N s p
    have e : runM N s (p :: l) = runM N (stepM N s p) l := rfl
    have k : (stepM N s p).kinds.length = s.kinds.length + 1 := by
      show ((opM N s p).1.kinds ++ [_]).length = _
      rw [b.1]; simp
    have o : (stepM N s p).out = (opM N s p).1.out := rfl
    have u : (stepM N s p).outer = (opM N s p).1.outer := rfl
    rw [e, List.length_cons]
    rw [k, o, u] at h
    omega
theorem runM_snoc (N : Nat) (s : St) (l : List (Int × Int)) (p : Int × Int) : runM N s (l ++ [p]) = stepM N (runM N s l) p := by
  unfold runM
  rw [List.foldl_append]; rfl
end Go.Proofs.YthipghkhdlnfiaaDoor
