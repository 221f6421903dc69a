/- What is known of a slice of arrays of integers that came in. -/
import Derived.Test.YthmkmemocjnleaaDoorCommon
import Derived.OpenShut
import Derived.ChangeArms
namespace Go.Proofs.YthmkmemocjnleaaDoor
open Go.RowKit
set_option linter.unusedVariables false

theorem open_arrs {H : Type} {enc : TypeId × Value → H} {P : Program} {w : World} {base : Nat} {spare : Nat → Bool} {held : Bool} {t e ei : TypeId} {m : Nat} {k : IntKind} {fuel : Nat} {a : Option Addr} {len cap : Nat} {x : DataW H × List MemPlace}
    (ht : P.underlying t = some (.slice e)) (he : P.underlying e = some (.array m ei)) (hei : P.underlying ei = some (.int k)) (hce : P.cellsOf e = m) (hc : P.cellsOf ei = 1) (hm : 0 < m)
    (h : DataW.trod enc P w base spare held fuel t [.slice a len cap] = some x) :
    len ≤ maxLen ∧ ∃ f : Nat → Int, Arg k w a (len * m) f := by
  rcases DataW.trod_slice ht h with ⟨h0, _⟩ | ⟨ad, l, c, elems, rest, n, _, hcs, _, hb, hl, hmx, hlen, hel, _, _⟩
  · simp only [List.cons.injEq, Value.slice.injEq, and_true] at h0
    obtain ⟨rfl, rfl, rfl⟩ := h0
    exact ⟨Nat.zero_le _, fun _ => 0, fun h => absurd h (by omega)⟩
  · simp only [List.cons.injEq, Value.slice.injEq, and_true] at hcs
    obtain ⟨rfl, rfl, rfl⟩ := hcs
    refine ⟨by omega, ?_⟩
    have each : ∀ i, i < len * m → ∃ z, w.cell? ((ad.add (i / m * m)).add (i % m)) = some (.int k z) := by
      intro i hi
      have hq : i / m < len := Nat.div_lt_of_lt_mul (by rw [Nat.mul_comm]; exact hi)
      have hr : i % m < m := Nat.mod_lt _ hm
      have h1 := hel (i / m) hq
      rw [hce] at h1
      obtain ⟨y, hy⟩ : ∃ y, elems[i / m]? = some y := ⟨elems[i / m], List.getElem?_eq_getElem (by omega)⟩
      rw [hy, Option.bind_eq_some_iff] at h1
      obtain ⟨cs, hcs, htr⟩ := h1
      obtain ⟨xs, m', _, _, hcl, hxl, hx⟩ := DataW.trod_array he htr
      have h2 := hx (i % m) hr
      rw [hc, Nat.mul_one] at h2
      obtain ⟨y2, hy2⟩ : ∃ y2, xs[i % m]? = some y2 := ⟨xs[i % m], List.getElem?_eq_getElem (by omega)⟩
      rw [hy2] at h2
      obtain ⟨z, hz, _, _⟩ := DataW.trod_int hei h2
      have h3 : cs[i % m]? = some (.int k z) := by
        have := congrArg (·[0]?) hz
        simpa [List.getElem?_take, List.getElem?_drop] using this
      obtain ⟨_, hcl2, hcell⟩ := World.cells?_some hcs
      refine ⟨z, ?_⟩
      have := hcell (i % m) hr
      rw [h3] at this
      exact this
    by_cases h0 : 0 < len * m
    · obtain ⟨b, off, spot⟩ := ad
      obtain ⟨z0, hz0⟩ := each 0 h0
      have hspot : spot = none := by simpa [Addr.add] using World.cell?_spot hz0
      subst hspot
      have each2 : ∀ i, i < len * m → ∃ z, w.cell? ⟨b, off + i, none⟩ = some (.int k z) := by
        intro i hi
        obtain ⟨z, hz⟩ := each i hi
        rw [Addr.add_lit, Addr.add_lit, Nat.add_assoc, Nat.div_add_mod'] at hz
        exact ⟨z, hz⟩
      refine ⟨fun i => match w.cell? ⟨b, off + i, none⟩ with | some (.int _ z) => z | _ => 0, fun _ => ⟨b, off, rfl, ?_, fun i hi => ?_⟩⟩
      · obtain ⟨z1, hz1⟩ := each2 0 h0
        exact World.block_lt_of_cell? w _ hz1
      · obtain ⟨z, hz⟩ := each2 i hi
        simp only [hz]
    · exact ⟨fun _ => 0, fun h => absurd h h0⟩
end Go.Proofs.YthmkmemocjnleaaDoor
