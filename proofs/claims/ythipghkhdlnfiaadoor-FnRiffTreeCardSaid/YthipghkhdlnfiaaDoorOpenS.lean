/- What is known of slices that came in: of arrays of integers, of pairs of integers, of slices of integers. -/
import Derived.Test.YthipghkhdlnfiaaDoorMem
import Derived.OpenShut
import Derived.ChangeArms
import Derived.ChangeSame
import Derived.Deep.Matrix
namespace Go.Proofs.YthipghkhdlnfiaaDoor
open Go.RowKit
set_option linter.unusedVariables false

theorem open_flat {H : Type} {enc : TypeId × Value → H} {P : Program} {w : World} {base : Nat} {spare : Nat → Bool} {held : Bool} {t e : TypeId} {m : Nat} {k : IntKind} {fuel : Nat} {a : Option Addr} {len cap : Nat} {x : DataW H × List MemPlace}
    (ht : P.underlying t = some (.slice e)) (hce : P.cellsOf e = m) (hm : 0 < m)
    (he : ∀ n cs y, DataW.trod enc P w base spare held n e cs = some y → ∀ j, j < m → ∃ z, cs[j]? = some (.int k z) ∧ (Lit.int k z).wf = true)
    (h : DataW.trod enc P w base spare held fuel t [.slice a len cap] = some x) :
    len ≤ cap ∧ cap ≤ maxLen ∧ ∃ f : Nat → Int, Arg k w a (len * m) f ∧ ∀ i, (Lit.int k (f i)).wf = true := by
  have h00 : (Lit.int k 0).wf = true := by cases k <;> decide
  rcases DataW.trod_slice ht h with ⟨h0, _⟩ | ⟨ad, l, c, elems, rest, n, _, hcs, _, hb, hl, hmx, hlen, hel, _, _⟩
  · simp only [List.cons.injEq, Value.slice.injEq, and_true] at h0
    obtain ⟨rfl, rfl, rfl⟩ := h0
    exact ⟨Nat.le_refl _, Nat.zero_le _, fun _ => 0, fun h => absurd h (by omega), fun _ => h00⟩
  · simp only [List.cons.injEq, Value.slice.injEq, and_true] at hcs
    obtain ⟨rfl, rfl, rfl⟩ := hcs
    refine ⟨hl, hmx, ?_⟩
    have each : ∀ i, i < len * m → ∃ z, w.cell? ((ad.add (i / m * m)).add (i % m)) = some (.int k z) ∧ (Lit.int k z).wf = true := by
      intro i hi
      have hq : i / m < len := Nat.div_lt_of_lt_mul (by rw [Nat.mul_comm]; exact hi)
      have hr : i % m < m := Nat.mod_lt _ hm
      have h1 := hel (i / m) hq
      rw [hce] at h1
      obtain ⟨y, hy⟩ : ∃ y, elems[i / m]? = some y := ⟨elems[i / m], List.getElem?_eq_getElem (by omega)⟩
      rw [hy, Option.bind_eq_some_iff] at h1
      obtain ⟨cs, hcs, htr⟩ := h1
      obtain ⟨z, hz, hw⟩ := he _ _ _ htr (i % m) hr
      obtain ⟨_, hcl2, hcell⟩ := World.cells?_some hcs
      refine ⟨z, ?_, hw⟩
      have := hcell (i % m) hr
      rw [hz] at this
      exact this
    by_cases h0 : 0 < len * m
    · obtain ⟨b, off, spot⟩ := ad
      obtain ⟨z0, hz0, _⟩ := each 0 h0
      have hspot : spot = none := by simpa [Addr.add] using World.cell?_spot hz0
      subst hspot
      have each2 : ∀ i, i < len * m → ∃ z, w.cell? ⟨b, off + i, none⟩ = some (.int k z) ∧ (Lit.int k z).wf = true := by
        intro i hi
        obtain ⟨z, hz, hw⟩ := each i hi
        rw [Addr.add_lit, Addr.add_lit, Nat.add_assoc, Nat.div_add_mod'] at hz
        exact ⟨z, hz, hw⟩
      refine ⟨fun i => if i < len * m then (match w.cell? ⟨b, off + i, none⟩ with | some (.int _ z) => z | _ => 0) else 0, fun _ => ⟨b, off, rfl, ?_, fun i hi => ?_⟩, fun i => ?_⟩
      · obtain ⟨z1, hz1, _⟩ := each2 0 h0
        exact World.block_lt_of_cell? w _ hz1
      · obtain ⟨z, hz, _⟩ := each2 i hi
        simp only [hz, if_pos hi]
      · by_cases hi : i < len * m
        · obtain ⟨z, hz, hw⟩ := each2 i hi
          simp only [hz, if_pos hi]
          exact hw
        · simp only [if_neg hi]; exact h00
    · exact ⟨fun _ => 0, fun h => absurd h h0, fun _ => h00⟩
theorem open_arrs' {H : Type} {enc : TypeId × Value → H} {P : Program} {w : World} {base : Nat} {spare : Nat → Bool} {held : Bool} {t e ei : TypeId} {m : Nat} {k : IntKind} {fuel : Nat} {a : Option Addr} {len cap : Nat} {x : DataW H × List MemPlace}
    (ht : P.underlying t = some (.slice e)) (he : P.underlying e = some (.array m ei)) (hei : P.underlying ei = some (.int k)) (hce : P.cellsOf e = m) (hc : P.cellsOf ei = 1) (hm : 0 < m)
    (h : DataW.trod enc P w base spare held fuel t [.slice a len cap] = some x) :
    len ≤ cap ∧ cap ≤ maxLen ∧ ∃ f : Nat → Int, Arg k w a (len * m) f ∧ ∀ i, (Lit.int k (f i)).wf = true := by
  refine open_flat ht hce hm (fun n cs y htr j hj => ?_) h
  obtain ⟨xs, m', _, _, hcl, hxl, hx⟩ := DataW.trod_array he htr
  have h2 := hx j hj
  rw [hc, Nat.mul_one] at h2
  obtain ⟨y2, hy2⟩ : ∃ y2, xs[j]? = some y2 := ⟨xs[j], List.getElem?_eq_getElem (by omega)⟩
  rw [hy2] at h2
  obtain ⟨z, hz, _, hw⟩ := DataW.trod_int hei h2
  refine ⟨z, ?_, hw⟩
  have := congrArg (·[0]?) hz
  simpa [List.getElem?_take, List.getElem?_drop] using this
theorem open_pairs {H : Type} {enc : TypeId × Value → H} {P : Program} {w : World} {base : Nat} {spare : Nat → Bool} {held : Bool} {t e : TypeId} {f0 f1 : Field} {k : IntKind} {fuel : Nat} {a : Option Addr} {len cap : Nat} {x : DataW H × List MemPlace}
    (ht : P.underlying t = some (.slice e)) (he : P.underlying e = some (.struct #[f0, f1])) (h0 : P.underlying f0.type = some (.int k)) (h1 : P.underlying f1.type = some (.int k)) (o0 : f0.offset = 0) (o1 : f1.offset = 1) (hce : P.cellsOf e = 2) (c0 : P.cellsOf f0.type = 1) (c1 : P.cellsOf f1.type = 1)
    (h : DataW.trod enc P w base spare held fuel t [.slice a len cap] = some x) :
    len ≤ cap ∧ cap ≤ maxLen ∧ ∃ f : Nat → Int, Arg k w a (len * 2) f ∧ ∀ i, (Lit.int k (f i)).wf = true := by
  refine open_flat ht hce (by decide) (fun n cs y htr j hj => ?_) h
  obtain ⟨y0, y1, m, _, _, g0, g1⟩ := Go.ChangeShapes.trod_struct2 he htr
  rw [o0, c0] at g0
  rw [o1, c1] at g1
  obtain ⟨z0, hz0, _, hw0⟩ := DataW.trod_int h0 g0
  obtain ⟨z1, hz1, _, hw1⟩ := DataW.trod_int h1 g1
  rcases (by omega : j = 0 ∨ j = 1) with rfl | rfl
  · refine ⟨z0, ?_, hw0⟩
    have := congrArg (·[0]?) hz0
    simpa [List.getElem?_take, List.getElem?_drop] using this
  · refine ⟨z1, ?_, hw1⟩
    have := congrArg (·[0]?) hz1
    simpa [List.getElem?_take, List.getElem?_drop] using this
/-- A slice of slices of integers that came in: their elements, row by row. -/
def Rows2 (k : IntKind) (w : World) (a : Option Addr) (len : Nat) (A : Nat → Option Addr) (L C : Nat → Nat) (Z : Nat → Nat → Int) : Prop :=
  ∀ r, r < len → (∃ g o, a = some ⟨g, o, none⟩ ∧ w.cell? ⟨g, o + r, none⟩ = some (.slice (A r) (L r) (C r))) ∧ L r ≤ C r ∧ C r ≤ maxLen ∧ Arg k w (A r) (L r) (Z r) ∧ (A r = none → C r = 0) ∧ ∀ i, (Lit.int k (Z r i)).wf = true
theorem open_rows2 {H : Type} {enc : TypeId × Value → H} {P : Program} {w : World} {base : Nat} {held : Bool} {t e q : TypeId} {k : IntKind} {fuel : Nat} {a : Option Addr} {len cap : Nat} {x : DataW H × List MemPlace} (ht : P.underlying t = some (.slice e)) (he : P.underlying e = some (.slice q)) (hq : P.underlying q = some (.int k))
    (ce : P.cellsOf e = 1) (cq : P.cellsOf q = 1) (h : DataW.trod enc P w base (fun _ => true) held fuel t [.slice a len cap] = some x) :
    len ≤ cap ∧ cap ≤ maxLen ∧ ∃ A L C Z, Rows2 k w a len A L C Z := by
  have h00 : (Lit.int k 0).wf = true := by cases k <;> decide
  rcases Go.Deep.open_int_rows ht he hq ce cq h with ⟨h0, _⟩ | ⟨ad, l, c, A, L, C, Z, hcs, _, hl, hm, _, hr⟩
  · simp only [List.cons.injEq, Value.slice.injEq, and_true] at h0
    obtain ⟨rfl, rfl, rfl⟩ := h0
    exact ⟨Nat.le_refl _, Nat.zero_le _, fun _ => none, fun _ => 0, fun _ => 0, fun _ _ => 0, fun r h => absurd h (by omega)⟩
  · simp only [List.cons.injEq, Value.slice.injEq, and_true] at hcs
    obtain ⟨rfl, rfl, rfl⟩ := hcs
    refine ⟨hl, hm, A, L, C, fun r i => (Z r).getD i 0, fun r hlt => ?_⟩
    obtain ⟨h1, h2, h3, h4, h5, h6, h7⟩ := hr r (by omega)
    obtain ⟨b, off, spot⟩ := ad
    have hspot : spot = none := by simpa [Addr.add] using World.cell?_spot (hr 0 (by omega)).1
    subst hspot
    refine ⟨⟨b, off, rfl, by rw [Addr.add_lit] at h1; exact h1⟩, h2, h3, fun h0 => ?_, h6, fun i => ?_⟩
    · match hA : A r with
      | none => have := h6 hA; omega
      | some a' =>
        obtain ⟨_, h8⟩ := h7 a' hA
        obtain ⟨b', off', spot'⟩ := a'
        have h9 := h8 0 (by omega)
        have hspot' : spot' = none := by simpa [Addr.add] using World.cell?_spot h9
        subst hspot'
        refine ⟨b', off', rfl, World.block_lt_of_cell? w _ h9, fun i hi => ?_⟩
        have := h8 i (by omega)
        rw [Addr.add_lit] at this
        exact this
    · show (Lit.int k ((Z r).getD i 0)).wf = true
      by_cases hi : i < (Z r).length
      · have e : (Z r).getD i 0 = (Z r)[i] := by simp [List.getD, List.getElem?_eq_getElem hi]
        rw [e]; exact h5 _ (List.getElem_mem hi)
      · have e : (Z r).getD i 0 = 0 := by simp [List.getD, List.getElem?_eq_none (Nat.not_lt.1 hi)]
        rw [e]; exact h00
end Go.Proofs.YthipghkhdlnfiaaDoor
