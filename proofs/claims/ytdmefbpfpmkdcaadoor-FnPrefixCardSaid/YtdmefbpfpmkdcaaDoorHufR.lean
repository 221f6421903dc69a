/- Symbols read one behind the other. Plain laws. -/
import Derived.Test.YtdmefbpfpmkdcaaDoorCommon
namespace Go.Proofs.YtdmefbpfpmkdcaaDoor

/-- From bit p on the bits of S (8 * n of them) tell the symbols l, up to bit q. -/
inductive Rds (C : List (Nat × Nat)) (S n p : Nat) : List Nat → Nat → Prop
  | nil : Rds C S n p [] p
  | snoc (l : List Nat) (q k s : Nat) (h : Rds C S n p l q) (ht : Tells C (S / 2 ^ q) k s) (hk : q + k ≤ 8 * n) : Rds C S n p (l ++ [s]) (q + k)
/-- What m symbols from bit p on are: all (kind 0), or as many as there are bits (kind 2). -/
def Told (C : List (Nat × Nat)) (S n p m : Nat) (l : List Nat) (kind : Nat) : Prop :=
  (kind = 0 ∧ l.length = m ∧ ∃ q, Rds C S n p l q) ∨ (kind = 2 ∧ l.length < m ∧ ∃ q k s, Rds C S n p l q ∧ Tells C (S / 2 ^ q) k s ∧ 8 * n < q + k)
theorem Rds.take {C : List (Nat × Nat)} {S n p : Nat} {l : List Nat} {q : Nat} (h : Rds C S n p l q) : ∀ j, j < l.length → ∃ q' k s, Rds C S n p (l.take j) q' ∧ Tells C (S / 2 ^ q') k s ∧ q' + k ≤ 8 * n ∧ l[j]? = some s := by
  induction h with
  | nil => intro j hj; simp at hj
  | snoc l q k s h ht hk ih =>
    intro j hj
    rw [List.length_append, List.length_singleton] at hj
    by_cases e : j = l.length
    · subst e
      refine ⟨q, k, s, ?_, ht, hk, ?_⟩
      · rw [List.take_left]; exact h
      · rw [List.getElem?_append_right (Nat.le_refl _)]; simp
    · obtain ⟨q', k', s', h1, h2, h3, h4⟩ := ih j (by omega)
      refine ⟨q', k', s', ?_, h2, h3, ?_⟩
      · rw [List.take_append_of_le_length (by omega)]; exact h1
      · rw [List.getElem?_append_left (by omega)]; exact h4
theorem Rds.uniq {C : List (Nat × Nat)} {I : List Nat} (hC : Code C I) {S n p : Nat} {l : List Nat} {q : Nat} (h : Rds C S n p l q) : ∀ l' q', l'.length = l.length → Rds C S n p l' q' → l' = l ∧ q' = q := by
  induction h with
  | nil =>
    intro l' q' hl h'
    cases h' with
    | nil => exact ⟨rfl, rfl⟩
    | snoc l q k s h ht hk => simp at hl
  | snoc l q k s h ht hk ih =>
    intro l' q' hl h'
    cases h' with
    | nil => simp at hl
    | snoc l2 q2 k2 s2 h2 ht2 hk2 =>
      obtain ⟨rfl, rfl⟩ := ih l2 q2 (by simpa using hl) h2
      obtain ⟨rfl, rfl⟩ := Tells.uniq hC ht2 ht
      exact ⟨rfl, rfl⟩
theorem Told.stuck {C : List (Nat × Nat)} {I : List Nat} (hC : Code C I) {S n p : Nat} {l l' : List Nat} {q q' k s : Nat} (h : Rds C S n p l q) (ht : Tells C (S / 2 ^ q) k s) (hk : 8 * n < q + k) (h' : Rds C S n p l' q') : l'.length ≤ l.length := by
  rcases Nat.lt_or_ge l.length l'.length with hl | hl
  · exfalso
    obtain ⟨q2, k2, s2, h1, h2, h3, _⟩ := h'.take l.length hl
    obtain ⟨_, rfl⟩ := h.uniq hC _ _ (by rw [List.length_take]; omega) h1
    obtain ⟨rfl, rfl⟩ := Tells.uniq hC h2 ht
    omega
  · exact hl
/-- Both tell the same. -/
theorem Told.uniq {C : List (Nat × Nat)} {I : List Nat} (hC : Code C I) {S n p m : Nat} {l l' : List Nat} {kind kind' : Nat} (h : Told C S n p m l kind) (h' : Told C S n p m l' kind') : l = l' ∧ kind = kind' := by
  rcases h with ⟨rfl, hl, q, h⟩ | ⟨rfl, hl, q, k, s, h, ht, hk⟩ <;> rcases h' with ⟨rfl, hl', q', h'⟩ | ⟨rfl, hl', q', k', s', h', ht', hk'⟩
  · exact ⟨(h'.uniq hC l q (by omega) h).1, rfl⟩
  · have := Told.stuck hC h' ht' hk' h; omega
  · have := Told.stuck hC h ht hk h'; omega
  · have h1 := Told.stuck hC h ht hk h'
    have h2 := Told.stuck hC h' ht' hk' h
    exact ⟨(h'.uniq hC l q (by omega) h).1, rfl⟩
theorem Told.len {C : List (Nat × Nat)} {S n p m : Nat} {l : List Nat} {kind : Nat} (h : Told C S n p m l kind) : l.length ≤ m := by
  rcases h with ⟨_, hl, _⟩ | ⟨_, hl, _⟩ <;> omega
end Go.Proofs.YtdmefbpfpmkdcaaDoor
