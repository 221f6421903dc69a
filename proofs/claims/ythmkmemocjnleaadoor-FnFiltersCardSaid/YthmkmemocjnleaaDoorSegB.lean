/- Both decoders tell the same of segments while the bytes last (plain). -/
import Derived.Test.YthmkmemocjnleaaDoorSegG
import Derived.Test.YthmkmemocjnleaaDoorFnLiteralsWalk
namespace Go.Proofs.YthmkmemocjnleaaDoor
open Go.RowKit
set_option linter.unusedVariables false

/-- What is the same. -/
structure SGeq (v v' : SG) : Prop where
  u : v.u = v'.u
  m : v.m = v'.m
  t : v.t = v'.t
  a : v.a = v'.a
  q : ∀ i, i < 4 → v.q i = v'.q i
  l : ∀ i, i < 4 → v.l i = v'.l i
  p : ∀ i, i < 3 → v.p i = v'.p i
/-- Two readers of a number that agree. -/
def Agr (zs : List Int) (f : DS → Int × DS) (f' : SS → Int × SS) : Prop :=
  (∀ d, (f d).2.eof = false → d.eof = false) ∧ ∀ d s, RS zs d s → (f d).2.eof = false → (f d).1 = (f' s).1 ∧ RS zs (f d).2 (f' s).2
theorem it_eof {zs : List Int} {f : DS → Int × DS} {f' : SS → Int × SS} (h : Agr zs f f') (d : DS) : ∀ n, (itS f n d).eof = false → d.eof = false
  | 0, e => e
  | n + 1, e => it_eof h d n (h.1 _ e)
theorem it_both {zs : List Int} {f : DS → Int × DS} {f' : SS → Int × SS} (h : Agr zs f f') (d : DS) (s : SS) (hr : RS zs d s) : ∀ n, (itS f n d).eof = false → RS zs (itS f n d) (itS f' n s) ∧ ∀ i, i < n → itV f d i = itV f' s i
  | 0, e => ⟨hr, fun i hi => absurd hi (by omega)⟩
  | n + 1, e => by
    have e1 := h.1 _ e
    obtain ⟨a, b⟩ := it_both h d s hr n e1
    obtain ⟨c1, c2⟩ := h.2 _ _ a e
    refine ⟨c2, fun i hi => ?_⟩
    by_cases hin : i < n
    · exact b i hin
    · obtain rfl : i = n := by omega
      exact c1
theorem opt_agr (zs : List Int) (hz : BothGood zs) (k : Nat) : Agr zs (optG (stepP zs) 128 k) (optG (stepS zs) 128 k) :=
  ⟨fun d h => eof_opt zs 128 k d h, fun d s h he => opt_both zs hz 128 (by decide) (by decide) k d s h he⟩
theorem pr_agr (zs : List Int) (hz : BothGood zs) : Agr zs (prG (stepP zs)) (prG (stepS zs)) := by
  refine ⟨fun d h => ?_, fun d s h he => ?_⟩
  · unfold prG at h
    split at h
    · exact (stepP_eof zs d 128 (eof_bits zs 128 8 0 _ h)).1
    · exact (stepP_eof zs d 128 h).1
  · have e0 : (stepP zs d 128).2.eof = false := by
      unfold prG at he
      split at he
      · exact eof_bits zs 128 8 0 _ he
      · exact he
    obtain ⟨_, c1, c2⟩ := step_both zs hz d s h 128 (by decide) (by decide) e0
    unfold prG at he ⊢
    rw [← c1]
    by_cases hb : (stepP zs d 128).1 = true
    · rw [if_pos hb] at he; rw [if_pos hb, if_pos hb]; exact bits_both zs hz 128 (by decide) (by decide) 8 0 _ _ c2 he
    · rw [if_neg hb, if_neg hb]; exact ⟨rfl, c2⟩
theorem segT_eof (zs : List Int) (hz : BothGood zs) (m t a : Bool) (q l : Nat → Int) (d : DS) (h : (segT (stepP zs) m t a q l d).2.eof = false) : d.eof = false := by
  unfold segT at h
  cases m with
  | true => exact it_eof (pr_agr zs hz) d 3 h
  | false => exact h
theorem segT_both (zs : List Int) (hz : BothGood zs) (m t a : Bool) {q l q' l' : Nat → Int} (d : DS) (s : SS) (hr : RS zs d s) (h : (segT (stepP zs) m t a q l d).2.eof = false) (hq : ∀ i, i < 4 → q i = q' i) (hl : ∀ i, i < 4 → l i = l' i) :
    SGeq (segT (stepP zs) m t a q l d).1 (segT (stepS zs) m t a q' l' s).1 := by
  unfold segT at h ⊢
  cases m with
  | true => exact ⟨rfl, rfl, rfl, rfl, hq, hl, (it_both (pr_agr zs hz) d s hr 3 h).2⟩
  | false => exact ⟨rfl, rfl, rfl, rfl, hq, hl, fun _ _ => rfl⟩
theorem segA_both (zs : List Int) (hz : BothGood zs) (m a : Bool) (d : DS) (s : SS) (hr : RS zs d s) (h : (segA (stepP zs) m a d).2.eof = false) :
    SGeq (segA (stepP zs) m a d).1 (segA (stepS zs) m a s).1 ∧ d.eof = false := by
  unfold segA at h ⊢
  have e1 := segT_eof zs hz _ _ _ _ _ _ h
  have e2 := it_eof (opt_agr zs hz 6) _ 4 e1
  have e3 := it_eof (opt_agr zs hz 7) _ 4 e2
  obtain ⟨a1, a2⟩ := it_both (opt_agr zs hz 7) d s hr 4 e2
  obtain ⟨b1, b2⟩ := it_both (opt_agr zs hz 6) _ _ a1 4 e1
  exact ⟨segT_both zs hz m true a _ _ b1 h a2 b2, e3⟩
theorem segB_both (zs : List Int) (hz : BothGood zs) (m t : Bool) (d : DS) (s : SS) (hr : RS zs d s) (h : (segB (stepP zs) m t d).2.eof = false) :
    SGeq (segB (stepP zs) m t d).1 (segB (stepS zs) m t s).1 := by
  unfold segB at h ⊢
  cases t with
  | true =>
    simp only [if_true] at h ⊢
    have e0 : (stepP zs d 128).2.eof = false := by
      unfold segA at h
      exact it_eof (opt_agr zs hz 7) _ 4 (it_eof (opt_agr zs hz 6) _ 4 (segT_eof zs hz _ _ _ _ _ _ h))
    obtain ⟨_, c1, c2⟩ := step_both zs hz d s hr 128 (by decide) (by decide) e0
    rw [← c1]
    exact (segA_both zs hz m _ _ _ c2 h).1
  | false =>
    simp only [Bool.false_eq_true, if_false] at h ⊢
    exact segT_both zs hz m false false d s hr h (fun _ _ => rfl) (fun _ _ => rfl)
theorem segB_eof (zs : List Int) (hz : BothGood zs) (m t : Bool) (d : DS) (h : (segB (stepP zs) m t d).2.eof = false) : d.eof = false := by
  unfold segB at h
  cases t with
  | true =>
    simp only [if_true] at h
    unfold segA at h
    exact (stepP_eof zs d 128 (it_eof (opt_agr zs hz 7) _ 4 (it_eof (opt_agr zs hz 6) _ 4 (segT_eof zs hz _ _ _ _ _ _ h)))).1
  | false =>
    simp only [Bool.false_eq_true, if_false] at h
    exact segT_eof zs hz _ _ _ _ _ _ h
theorem segG_both (zs : List Int) (hz : BothGood zs) (d : DS) (s : SS) (hr : RS zs d s) (h : (segG (stepP zs) d).2.eof = false) :
    SGeq (segG (stepP zs) d).1 (segG (stepS zs) s).1 := by
  have e0 : (stepP zs d 128).2.eof = false := by
    unfold segG at h
    split at h
    · exact (stepP_eof zs _ 128 (stepP_eof zs _ 128 (segB_eof zs hz _ _ _ h)).1).1
    · exact h
  obtain ⟨_, c1, c2⟩ := step_both zs hz d s hr 128 (by decide) (by decide) e0
  unfold segG at h ⊢
  rw [← c1]
  by_cases hb : (stepP zs d 128).1 = true
  · rw [if_pos hb] at h; rw [if_pos hb, if_pos hb]
    have e2 := segB_eof zs hz _ _ _ h
    have e1 := (stepP_eof zs _ 128 e2).1
    obtain ⟨_, c3, c4⟩ := step_both zs hz _ _ c2 128 (by decide) (by decide) e1
    obtain ⟨_, c5, c6⟩ := step_both zs hz _ _ c4 128 (by decide) (by decide) e2
    rw [← c3, ← c5]
    exact segB_both zs hz _ _ _ _ c6 h
  · rw [if_neg hb, if_neg hb]
    exact ⟨rfl, rfl, rfl, rfl, fun _ _ => rfl, fun _ _ => rfl, fun _ _ => rfl⟩
end Go.Proofs.YthmkmemocjnleaaDoor
