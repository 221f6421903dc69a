/- A store of what already stands there leaves the world as it is; whole arrays as one word (Fix), for regions that draw their order. -/
import Derived.Test.YthmkmemocjnleaaDoorSegW
import Derived.Test.YthmkmemocjnleaaDoorSegD
namespace Go.Proofs.YthmkmemocjnleaaDoor
open Go.RowKit
set_option linter.unusedVariables false

theorem setCell_self {w : World} {b i : Nat} {v : Value} (h : w.cell? ⟨b, i, none⟩ = some v) : w.setCell ⟨b, i, none⟩ v = w := by
  have hh : (w.setCell ⟨b, i, none⟩ v).heap = w.heap := by
    unfold World.cell? at h
    apply Array.ext_getElem?
    intro k
    simp only [World.setCell, Array.getElem?_modify]
    split
    · rename_i e
      subst e
      cases hb : w.heap[b]? with
      | none => rfl
      | some o =>
        simp only [hb] at h
        cases o with
        | cells c e f =>
          simp only [Option.isSome_none, Bool.false_eq_true, if_false] at h
          simp only [Option.map_some, Option.isSome_none, Bool.false_eq_true, if_false]
          refine congrArg some (congrArg (fun x => Obj.cells x e f) ?_)
          apply Array.ext_getElem?
          intro k
          rw [Array.getElem?_setIfInBounds]
          split
          · rename_i e'
            subst e'
            have := (Array.getElem?_eq_some_iff.1 h).1
            rw [if_pos this, h]
          · rfl
        | _ => simp at h
    · rfl
  have e : w.setCell ⟨b, i, none⟩ v = { w with heap := (w.setCell ⟨b, i, none⟩ v).heap } := rfl
  rw [e, hh]
theorem setCells_self {w : World} {b : Nat} : ∀ (vs : List Value) (o : Nat), (∀ j v, vs[j]? = some v → w.cell? ⟨b, o + j, none⟩ = some v) → w.setCells b o vs = w
  | [], _, _ => rfl
  | v :: r, o, h => by
    show (w.setCell ⟨b, o, none⟩ v).setCells b (o + 1) r = w
    have h0 : w.cell? ⟨b, o, none⟩ = some v := h 0 v rfl
    rw [setCell_self h0]
    exact setCells_self r (o + 1) (fun j u hu => by have := h (j + 1) u hu; rwa [show o + 1 + j = o + (j + 1) by omega])

/-- The whole of an array lies in block b, and may be written. -/
def Fix (b : Nat) (cs : List Value) (w : World) : Prop := w.rangeAt b 0 cs ∧ w.there b 0 cs.length
theorem fix_drew (b : Nat) (cs : List Value) (w : World) : Fix b cs w.drew ↔ Fix b cs w := Iff.rfl
theorem fix_far {b c : Nat} (h : c ≠ b) (cs : List Value) (w : World) (i : Nat) (v : Value) : Fix b cs (w.setCell ⟨c, i, none⟩ v) ↔ Fix b cs w := by
  have e : ∀ j, (w.setCell ⟨c, i, none⟩ v).cell? ⟨b, j, none⟩ = w.cell? ⟨b, j, none⟩ := fun j => World.cell?_setCell_other _ _ _ _ (by intro e; injection e with e; exact h e)
  unfold Fix World.rangeAt World.there
  simp only [e, World.frozen?_setCell]
theorem fix_load {P : Program} {T : TypeId} {b : Nat} {cs : List Value} {d : TypeDesc} (hu : P.underlying T = some d) (hd : d.isRow = true) (hi : (P.info? T).map (·.size) = some cs.length) (w : World) (h : Fix b cs w) :
    (Instr.loadAt T (.pointer (some ⟨b, 0, none⟩))).run P w = .ok (.agg cs.toArray) w := run_loadAt_mid w b 0 T cs d h.1 hu hd hi
theorem fix_store {P : Program} {T : TypeId} {b : Nat} {cs : List Value} (hi : (P.info? T).map (·.size) = some cs.length) (h1 : cs.toArray.all (·.oneCell') = true) (w : World) (h : Fix b cs w) :
    (Instr.storeAt T (.pointer (some ⟨b, 0, none⟩)) (.agg cs.toArray)).run P w = .ok () w := by
  rw [run_storeAt_mid w b 0 T cs.toArray (by simpa using h.2) (by simpa using hi) h1]
  rw [setCells_self cs.toArray.toList 0 (by intro j u hu; exact h.1 j u (by simpa using hu))]
theorem fix_of_fd {D : Nat → Option Value} {w : World} {b : Nat} {cs : List Value} (h : FD D w b) (e : ∀ i, i < cs.length → D i = cs[i]?) : Fix b cs w := by
  refine ⟨fun j v hv => ?_, fun j hj => ?_⟩
  · have hj := (List.getElem?_eq_some_iff.1 hv).1
    rw [Nat.zero_add, h.2.1 j, e j hj, hv]
  · rw [Nat.zero_add]
    exact ⟨by rw [h.2.1 j, e j hj]; simp [hj], h.2.2 j⟩
theorem fix_cell {b : Nat} {cs : List Value} {w : World} (h : Fix b cs w) (j : Nat) {v : Value} (hv : cs[j]? = some v) : w.cell? ⟨b, j, none⟩ = some v := by have := h.1 j v hv; rwa [Nat.zero_add] at this
theorem fix_free {b : Nat} {cs : List Value} {w : World} (h : Fix b cs w) (j : Nat) (hj : j < cs.length) : w.frozen? ⟨b, j, none⟩ = false := by have := (h.2 j hj).2; rwa [Nat.zero_add] at this
/-- What stands in the first n cells of a block, as a list; that they are there. -/
def rd (b n : Nat) (w : World) : List Value := (List.range n).map fun j => (w.cell? ⟨b, j, none⟩).getD undef
def Has (b n : Nat) (w : World) : Prop := ∀ j, j < n → (w.cell? ⟨b, j, none⟩).isSome = true
theorem rd_drew (b n : Nat) (w : World) : rd b n w.drew = rd b n w := rfl
theorem has_drew (b n : Nat) (w : World) : Has b n w.drew ↔ Has b n w := Iff.rfl
theorem far_eq {b c : Nat} (h : c ≠ b) (w : World) (i : Nat) (v : Value) (j : Nat) : (w.setCell ⟨c, i, none⟩ v).cell? ⟨b, j, none⟩ = w.cell? ⟨b, j, none⟩ := World.cell?_setCell_other _ _ _ _ (by intro e; injection e with e; exact h e)
theorem rd_far {b c : Nat} (h : c ≠ b) (n : Nat) (w : World) (i : Nat) (v : Value) : rd b n (w.setCell ⟨c, i, none⟩ v) = rd b n w := by
  unfold rd; simp only [far_eq h]
theorem has_far {b c : Nat} (h : c ≠ b) (n : Nat) (w : World) (i : Nat) (v : Value) : Has b n (w.setCell ⟨c, i, none⟩ v) ↔ Has b n w := by
  unfold Has; simp only [far_eq h]
theorem rd_at {b n : Nat} {w : World} (h : Has b n w) : w.rangeAt b 0 (rd b n w) := fun j v hv => by
  have hj : j < n := by have := (List.getElem?_eq_some_iff.1 hv).1; simpa [rd] using this
  rw [Nat.zero_add]
  obtain ⟨x, hx⟩ := Option.isSome_iff_exists.1 (h j hj)
  simp [rd, hj, hx] at hv
  rw [hx, hv]
theorem rd_length (b n : Nat) (w : World) : (rd b n w).length = n := by simp [rd]
theorem fix_has {b : Nat} {cs : List Value} {w : World} (h : Fix b cs w) {n : Nat} (hn : cs.length = n) : Has b n w ∧ rd b n w = cs := by
  subst hn
  have h1 : Has b cs.length w := fun j hj => by have := (h.2 j hj).1; rwa [Nat.zero_add] at this
  refine ⟨h1, ?_⟩
  apply List.ext_getElem?
  intro j
  by_cases hj : j < cs.length
  · have h2 := h.1 j cs[j] (by simp [hj])
    rw [Nat.zero_add] at h2
    simp [rd, hj, h2]
  · rw [List.getElem?_eq_none (by rw [rd_length]; omega), List.getElem?_eq_none (by omega)]
theorem has_load {P : Program} {T : TypeId} {b n : Nat} {d : TypeDesc} (hu : P.underlying T = some d) (hd : d.isRow = true) (hi : (P.info? T).map (·.size) = some n) (w : World) (h : Has b n w) :
    (Instr.loadAt T (.pointer (some ⟨b, 0, none⟩))).run P w = .ok (.agg (rd b n w).toArray) w := run_loadAt_mid w b 0 T _ d (rd_at h) hu hd (by rw [rd_length]; exact hi)
theorem has_loadV {P : Program} {T : TypeId} {b n : Nat} {d : TypeDesc} (hu : P.underlying T = some d) (hd : d.isRow = true) (hi : (P.info? T).map (·.size) = some n) (w : World) (h : Has b n w) :
    (loadVar T ⟨b, 0, none⟩).run P w = .ok (.agg (rd b n w).toArray) w := run_loadVar_mid w b 0 T _ d (rd_at h) hu hd (by rw [rd_length]; exact hi)
theorem fix_storeV {P : Program} {T : TypeId} {b : Nat} {cs : List Value} (hi : (P.info? T).map (·.size) = some cs.length) (h1 : cs.toArray.all (·.oneCell') = true) (w : World) (h : Fix b cs w) :
    (storeVar T ⟨b, 0, none⟩ (.agg cs.toArray)).run P w = .ok () w := by
  rw [run_storeVar_mid w b 0 T cs.toArray (by simpa using h.2) (by simpa using hi) h1]
  rw [setCells_self cs.toArray.toList 0 (by intro j u hu; exact h.1 j u (by simpa using hu))]
end Go.Proofs.YthmkmemocjnleaaDoor
