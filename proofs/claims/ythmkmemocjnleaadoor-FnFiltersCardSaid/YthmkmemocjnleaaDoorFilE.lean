/- Where all readings agree, the package's numbers are the reference's (plain). -/
import Derived.Test.YthmkmemocjnleaaDoorFilV
namespace Go.Proofs.YthmkmemocjnleaaDoor
open Go.RowKit
set_option linter.unusedVariables false

theorem wi_eq {x lo hi : Int} (h : x = wi x lo hi) (hl : lo ≤ hi) : lo ≤ x ∧ x ≤ hi := by
  have := wi_bd (x := x) hl
  omega
/-- What the reference tells of a block: k = 0, 1, 2. -/
def sayI (sh out : Int) (k : Nat) : Int := if 0 < out then (if k = 0 then 2 * out + ilI sh out else if k = 1 then ilI sh out else hiI out) else 0
theorem agree_parts {on ab dl odd small : Bool} {lv st r m n more : Int} (hn : n = nS on ab lv st) (hmore : more = mS dl r m small) (h : odd3 (odd2 (odd1 odd dl n r) n more) lv n more = false) :
    odd = false ∧ lvO n more = wi (n + more) 0 63 ∧ (lv = 0 → lvO n more = 0) ∧ (-128 ≤ n ∧ n ≤ 127) ∧ (-128 ≤ n + more ∧ n + more ≤ 127) ∧ (dl = true → -128 ≤ n + r ∧ n + r ≤ 127) := by
  unfold odd3 odd2 odd1 at h
  simp only [Bool.or_eq_false_iff, bne_eq_false_iff_eq, Bool.and_eq_false_iff, beq_eq_false_iff_ne, ne_eq] at h
  obtain ⟨⟨⟨⟨h1, h2⟩, h3⟩, h4⟩, h5⟩ := h
  refine ⟨?_, h4, fun hl => by rcases h5 with h5 | h5; exact absurd hl h5; exact h5, wi_eq h2 (by decide), wi_eq h3 (by decide), fun hd => ?_⟩
  · cases dl with
    | false => simpa using h1
    | true => simp at h1; exact h1.1
  · subst hd
    simp at h1
    exact wi_eq h1.2 (by decide)
theorem level_agrees {on ab dl odd small : Bool} {lv st r m n more : Int} (hn : n = nS on ab lv st) (hmore : more = mS dl r m small) (h : odd3 (odd2 (odd1 odd dl n r) n more) lv n more = false) :
    lvlI dl (baseI on (!ab) lv st) r m (if small then 1 else 0) = n + more := by
  obtain ⟨_, _, _, ⟨n0, n1⟩, ⟨s0, s1⟩, hd⟩ := agree_parts hn hmore h
  have hb : baseI on (!ab) lv st = n := by
    rw [hn]
    unfold baseI nS
    cases on with
    | false => rfl
    | true =>
      cases ab with
      | true => rfl
      | false =>
        have : n = st + lv := hn
        simp only [if_true, Bool.not_false, Bool.false_eq_true, if_false]
        exact IntWalk.i8_in _ (by omega)
  rw [hb]
  unfold lvlI
  cases dl with
  | false => have : more = 0 := hmore; simp [this]
  | true =>
    obtain ⟨d0, d1⟩ := hd rfl
    simp only [if_true]
    cases small with
    | false =>
      have : more = r := hmore
      simp only [Bool.false_eq_true, if_false, if_true]
      rw [this]; exact IntWalk.i8_in _ (by omega)
    | true =>
      have : more = r + m := hmore
      simp only [if_true]
      rw [if_neg (by omega), IntWalk.i8_in (n + r) (by omega), IntWalk.i8_in _ (by omega)]
      omega
theorem par_agrees {lv sh x : Int} (k : Nat) (hl : lv = 0 → wi x 0 63 = 0) : (if lv = 0 then 0 else parI sh x k) = sayI sh (wi x 0 63) k := by
  by_cases h0 : lv = 0
  · rw [if_pos h0, hl h0]; unfold sayI; rw [if_neg (by omega)]
  · rw [if_neg h0]
    unfold parI sayI
    by_cases hx : x ≤ 0
    · have e : wi x 0 63 = 0 := by unfold wi; (repeat' split) <;> omega
      rw [if_pos hx, e, if_neg (by omega)]
    · have e : wi x 0 63 = capI x := by unfold wi capI; (repeat' split) <;> omega
      have hp := capI_bd (l := x) (by omega)
      rw [if_neg hx, e, if_pos (show 0 < capI x by omega)]
end Go.Proofs.YthmkmemocjnleaaDoor
