/- Both decoders read the same of filters while the bytes last (plain). -/
import Derived.Test.YthmkmemocjnleaaDoorFilE
namespace Go.Proofs.YthmkmemocjnleaaDoor
open Go.RowKit
set_option linter.unusedVariables false

structure FGeq (v v' : FG) : Prop where
  simple : v.simple = v'.simple
  level : v.level = v'.level
  sharp : v.sharp = v'.sharp
  deltas : v.deltas = v'.deltas
  ref : ∀ i, i < 4 → v.ref i = v'.ref i
  mode : ∀ i, i < 4 → v.mode i = v'.mode i
theorem filD_eof (zs : List Int) (hz : BothGood zs) (sm : Bool) (lv sh : Int) (d : DS) (h : (filD (stepP zs) sm lv sh d).2.eof = false) : (itS (optG (stepP zs) 128 6) 4 d).eof = false ∧ d.eof = false := by
  unfold filD at h
  have e1 := it_eof (opt_agr zs hz 6) _ 4 h
  exact ⟨e1, it_eof (opt_agr zs hz 6) _ 4 e1⟩
theorem filB_eof (zs : List Int) (hz : BothGood zs) (sm : Bool) (lv sh : Int) (d : DS) (h : (filB (stepP zs) sm lv sh d).2.eof = false) : (stepP zs d 128).2.eof = false := by
  unfold filB at h
  split at h
  · exact (filD_eof zs hz _ _ _ _ h).2
  · exact h
theorem filC_eof (zs : List Int) (hz : BothGood zs) (sm : Bool) (lv sh : Int) (d : DS) (h : (filC (stepP zs) sm lv sh d).2.eof = false) : (stepP zs d 128).2.eof = false := by
  unfold filC at h
  split at h
  · exact (stepP_eof zs _ 128 (filB_eof zs hz _ _ _ _ h)).1
  · exact h
theorem filG_both (zs : List Int) (hz : BothGood zs) (d : DS) (s : SS) (hr : RS zs d s) (h : (filG (stepP zs) d).2.eof = false) : FGeq (filG (stepP zs) d).1 (filG (stepS zs) s).1 := by
  unfold filG at h ⊢
  have e3 := filC_eof zs hz _ _ _ _ h
  have e2 := (stepP_eof zs _ 128 e3).1
  have e1 := eof_bits zs 128 3 0 _ e2
  have e0 := eof_bits zs 128 6 0 _ e1
  obtain ⟨_, a1, a2⟩ := step_both zs hz d s hr 128 (by decide) (by decide) e0
  obtain ⟨b1, b2⟩ := bits_both zs hz 128 (by decide) (by decide) 6 0 _ _ a2 e1
  obtain ⟨c1, c2⟩ := bits_both zs hz 128 (by decide) (by decide) 3 0 _ _ b2 e2
  obtain ⟨_, f1, f2⟩ := step_both zs hz _ _ c2 128 (by decide) (by decide) e3
  unfold filC at h ⊢
  rw [← f1, ← a1, ← b1, ← c1]
  by_cases hb : (stepP zs (bitsG (stepP zs) 128 3 0 (bitsG (stepP zs) 128 6 0 (stepP zs d 128).2).2).2 128).1 = true
  · rw [if_pos hb] at h
    rw [if_pos hb, if_pos hb]
    have e4 := filB_eof zs hz _ _ _ _ h
    obtain ⟨_, g1, g2⟩ := step_both zs hz _ _ f2 128 (by decide) (by decide) e4
    unfold filB at h ⊢
    rw [← g1]
    by_cases hc : (stepP zs (stepP zs (bitsG (stepP zs) 128 3 0 (bitsG (stepP zs) 128 6 0 (stepP zs d 128).2).2).2 128).2 128).1 = true
    · rw [if_pos hc] at h
      rw [if_pos hc, if_pos hc]
      obtain ⟨e5, e6⟩ := filD_eof zs hz _ _ _ _ h
      unfold filD at h ⊢
      obtain ⟨i1, i2⟩ := it_both (opt_agr zs hz 6) _ _ g2 4 e5
      obtain ⟨j1, j2⟩ := it_both (opt_agr zs hz 6) _ _ i1 4 h
      exact ⟨rfl, rfl, rfl, rfl, i2, j2⟩
    · rw [if_neg hc, if_neg hc]
      exact ⟨rfl, rfl, rfl, rfl, fun _ _ => rfl, fun _ _ => rfl⟩
  · rw [if_neg hb, if_neg hb]
    exact ⟨rfl, rfl, rfl, rfl, fun _ _ => rfl, fun _ _ => rfl⟩
end Go.Proofs.YthmkmemocjnleaaDoor
