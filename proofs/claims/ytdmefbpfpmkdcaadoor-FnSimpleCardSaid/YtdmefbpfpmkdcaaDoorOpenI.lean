/- An argument that is an array of integers, by value. -/
import Derived.Test.YtdmefbpfpmkdcaaDoorMem
import Derived.OpenShut
import Derived.ChangeArms
namespace Go.Proofs.YtdmefbpfpmkdcaaDoor
open Go.RowKit
set_option linter.unusedVariables false

theorem okWide_array {P : Program} {w : World} {r : Reach} {base : Nat} {v : Value} {t e : TypeId} {n : Nat} (ht : P.underlying t = some (.array n e)) (h : Value.okWide P w r base t v) : ∃ cs, v = .agg cs ∧ cs.size = P.cellsOf t := by
  unfold Value.okWide at h; simp only [ht] at h
  cases v <;> simp at h
  exact ⟨_, rfl, by simpa using h.1⟩

theorem open_ints_val {H : Type} {enc : TypeId × Value → H} {P : Program} {w : World} {base : Nat} {spare : Nat → Bool} {held : Bool} {t ei : TypeId} {m : Nat} {k : IntKind} {fuel : Nat} {cs : List Value} {x : DataW H × List MemPlace}
    (ht : P.underlying t = some (.array m ei)) (hei : P.underlying ei = some (.int k)) (hc : P.cellsOf ei = 1) (hct : P.cellsOf t = m) (h : DataW.trod enc P w base spare held fuel t cs = some x) :
    ∃ f : Nat → Int, cs = cellsOf k m f ∧ ∀ i, i < m → (Lit.int k (f i)).wf = true := by
  obtain ⟨xs, m', _, _, hcl, hxl, hx⟩ := DataW.trod_array ht h
  have each : ∀ i, i < m → ∃ z, cs[i]? = some (.int k z) ∧ (Lit.int k z).wf = true := by
    intro i hi
    have h2 := hx i hi
    rw [hc, Nat.mul_one] at h2
    obtain ⟨y2, hy2⟩ : ∃ y2, xs[i]? = some y2 := ⟨xs[i], List.getElem?_eq_getElem (by omega)⟩
    rw [hy2] at h2
    obtain ⟨z, hz, _, hw⟩ := DataW.trod_int hei h2
    have h3 : cs[i]? = some (.int k z) := by
      have := congrArg (·[0]?) hz
      simpa [List.getElem?_take, List.getElem?_drop] using this
    exact ⟨z, h3, hw⟩
  refine ⟨fun i => match cs[i]? with | some (.int _ z) => z | _ => 0, ?_, fun i hi => ?_⟩
  · apply List.ext_getElem?
    intro i
    by_cases hi : i < m
    · obtain ⟨z, hz, _⟩ := each i hi
      rw [hz]
      simp [cellsOf, hi, hz]
    · rw [List.getElem?_eq_none (by omega), List.getElem?_eq_none (by simp [cellsOf]; omega)]
  · obtain ⟨z, hz, hw⟩ := each i hi
    simp only [hz]
    exact hw
end Go.Proofs.YtdmefbpfpmkdcaaDoor
