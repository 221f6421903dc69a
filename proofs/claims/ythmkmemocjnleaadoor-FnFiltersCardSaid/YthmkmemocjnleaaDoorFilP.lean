/- The package's head of filters: parseFilterHeader. Printed by wip/gen_filp.py. -/
import Derived.Test.YthmkmemocjnleaaDoorFilC
import Derived.Deep.RegionWith
import Derived.Deep.QuietTactic
namespace Go.Proofs.YthmkmemocjnleaaDoor
open Go.RowKit
set_option linter.unusedVariables false

/-- The cells of the filter header (35 to 50); the others as R0 tells. -/
structure FilS (R0 R : Nat → Option Value) (sm : Bool) (lv sh : Int) (dl : Bool) (rf md : Nat → Int) : Prop where
  sm : R 35 = some (.bool sm)
  lv : R 36 = some (.int .i8 lv)
  sh : R 37 = some (.int .u8 sh)
  dl : R 38 = some (.bool dl)
  rf : ∀ i, i < 4 → R (39 + i) = some (.int .i8 (rf i))
  md : ∀ i, i < 4 → R (43 + i) = some (.int .i8 (md i))
  per : ∀ i, i < 4 → ∃ x, R (47 + i) = some (.int .i8 x)
  lo : ∀ i, i < 35 → R i = R0 i
  hi : ∀ i, 51 ≤ i → R i = R0 i
theorem FilS.congr {R0 R : Nat → Option Value} {sm : Bool} {lv sh : Int} {dl : Bool} {rf md rf' md' : Nat → Int} (h : FilS R0 R sm lv sh dl rf md) (h1 : ∀ i, i < 4 → rf i = rf' i) (h2 : ∀ i, i < 4 → md i = md' i) : FilS R0 R sm lv sh dl rf' md' :=
  { h with rf := fun i hi => by rw [h.rf i hi, h1 i hi], md := fun i hi => by rw [h.md i hi, h2 i hi] }
theorem updR_ne {R : Nat → Option Value} {i k : Nat} {v : Value} (h : k ≠ i) : At51.updR R i v k = R k := by unfold At51.updR; rw [if_neg h]
theorem updR_eq {R : Nat → Option Value} {i : Nat} {v : Value} : At51.updR R i v i = some v := by unfold At51.updR; rw [if_pos rfl]
theorem rput {R : Nat → Option Value} {w : World} {g : Nat} {ao : Option Addr} {n c : Nat} {zs : List Int} {d : DS} (h : At51.Rd R w g ao n c zs d) (i : Nat) (v : Value) (hi : i < 51 ∨ 57 ≤ i) {old : Value} (hs : R i = some old) : At51.Rd (At51.updR R i v) (w.setCell ⟨g, i, none⟩ v) g ao n c zs d := h.put i v hi hs (fun _ => rfl)
theorem FilS.put_sm {R0 R : Nat → Option Value} {sm : Bool} {lv sh : Int} {dl : Bool} {rf md : Nat → Int} (h : FilS R0 R sm lv sh dl rf md) (v : Bool) : FilS R0 (At51.updR R 35 (.bool v)) v lv sh dl rf md where
  sm := updR_eq
  lv := (updR_ne (by omega)).trans h.lv
  sh := (updR_ne (by omega)).trans h.sh
  dl := (updR_ne (by omega)).trans h.dl
  rf := fun i hi => (updR_ne (by omega)).trans (h.rf i hi)
  md := fun i hi => (updR_ne (by omega)).trans (h.md i hi)
  per := fun i hi => by obtain ⟨x, hx⟩ := h.per i hi; exact ⟨x, (updR_ne (by omega)).trans hx⟩
  lo := fun i hi => (updR_ne (by omega)).trans (h.lo i hi)
  hi := fun i hi => (updR_ne (by omega)).trans (h.hi i hi)
theorem FilS.put_lv {R0 R : Nat → Option Value} {sm : Bool} {lv sh : Int} {dl : Bool} {rf md : Nat → Int} (h : FilS R0 R sm lv sh dl rf md) (v : Int) : FilS R0 (At51.updR R 36 (.int .i8 v)) sm v sh dl rf md where
  sm := (updR_ne (by omega)).trans h.sm
  lv := updR_eq
  sh := (updR_ne (by omega)).trans h.sh
  dl := (updR_ne (by omega)).trans h.dl
  rf := fun i hi => (updR_ne (by omega)).trans (h.rf i hi)
  md := fun i hi => (updR_ne (by omega)).trans (h.md i hi)
  per := fun i hi => by obtain ⟨x, hx⟩ := h.per i hi; exact ⟨x, (updR_ne (by omega)).trans hx⟩
  lo := fun i hi => (updR_ne (by omega)).trans (h.lo i hi)
  hi := fun i hi => (updR_ne (by omega)).trans (h.hi i hi)
theorem FilS.put_sh {R0 R : Nat → Option Value} {sm : Bool} {lv sh : Int} {dl : Bool} {rf md : Nat → Int} (h : FilS R0 R sm lv sh dl rf md) (v : Int) : FilS R0 (At51.updR R 37 (.int .u8 v)) sm lv v dl rf md where
  sm := (updR_ne (by omega)).trans h.sm
  lv := (updR_ne (by omega)).trans h.lv
  sh := updR_eq
  dl := (updR_ne (by omega)).trans h.dl
  rf := fun i hi => (updR_ne (by omega)).trans (h.rf i hi)
  md := fun i hi => (updR_ne (by omega)).trans (h.md i hi)
  per := fun i hi => by obtain ⟨x, hx⟩ := h.per i hi; exact ⟨x, (updR_ne (by omega)).trans hx⟩
  lo := fun i hi => (updR_ne (by omega)).trans (h.lo i hi)
  hi := fun i hi => (updR_ne (by omega)).trans (h.hi i hi)
theorem FilS.put_dl {R0 R : Nat → Option Value} {sm : Bool} {lv sh : Int} {dl : Bool} {rf md : Nat → Int} (h : FilS R0 R sm lv sh dl rf md) (v : Bool) : FilS R0 (At51.updR R 38 (.bool v)) sm lv sh v rf md where
  sm := (updR_ne (by omega)).trans h.sm
  lv := (updR_ne (by omega)).trans h.lv
  sh := (updR_ne (by omega)).trans h.sh
  dl := updR_eq
  rf := fun i hi => (updR_ne (by omega)).trans (h.rf i hi)
  md := fun i hi => (updR_ne (by omega)).trans (h.md i hi)
  per := fun i hi => by obtain ⟨x, hx⟩ := h.per i hi; exact ⟨x, (updR_ne (by omega)).trans hx⟩
  lo := fun i hi => (updR_ne (by omega)).trans (h.lo i hi)
  hi := fun i hi => (updR_ne (by omega)).trans (h.hi i hi)
theorem FilS.put_rf {R0 R : Nat → Option Value} {sm : Bool} {lv sh : Int} {dl : Bool} {E md : Nat → Int} {x : Int} (p : Nat) (hp : p < 4) (h : FilS R0 R sm lv sh dl (partZ x E p) md) : FilS R0 (At51.updR R (39 + p) (.int .i8 (E p))) sm lv sh dl (partZ x E (p + 1)) md where
  sm := (updR_ne (by omega)).trans h.sm
  lv := (updR_ne (by omega)).trans h.lv
  sh := (updR_ne (by omega)).trans h.sh
  dl := (updR_ne (by omega)).trans h.dl
  rf := fun i hi => by
    by_cases e : i = p
    · subst e; rw [updR_eq]; unfold partZ; rw [if_pos (by omega)]
    · rw [updR_ne (by omega), h.rf i hi]
      unfold partZ
      by_cases e2 : i < p
      · rw [if_pos e2, if_pos (by omega)]
      · rw [if_neg e2, if_neg (by omega)]
  md := fun i hi => (updR_ne (by omega)).trans (h.md i hi)
  per := fun i hi => by obtain ⟨x, hx⟩ := h.per i hi; exact ⟨x, (updR_ne (by omega)).trans hx⟩
  lo := fun i hi => (updR_ne (by omega)).trans (h.lo i hi)
  hi := fun i hi => (updR_ne (by omega)).trans (h.hi i hi)
theorem FilS.put_md {R0 R : Nat → Option Value} {sm : Bool} {lv sh : Int} {dl : Bool} {E rf : Nat → Int} {x : Int} (p : Nat) (hp : p < 4) (h : FilS R0 R sm lv sh dl rf (partZ x E p)) : FilS R0 (At51.updR R (43 + p) (.int .i8 (E p))) sm lv sh dl rf (partZ x E (p + 1)) where
  sm := (updR_ne (by omega)).trans h.sm
  lv := (updR_ne (by omega)).trans h.lv
  sh := (updR_ne (by omega)).trans h.sh
  dl := (updR_ne (by omega)).trans h.dl
  rf := fun i hi => (updR_ne (by omega)).trans (h.rf i hi)
  md := fun i hi => by
    by_cases e : i = p
    · subst e; rw [updR_eq]; unfold partZ; rw [if_pos (by omega)]
    · rw [updR_ne (by omega), h.md i hi]
      unfold partZ
      by_cases e2 : i < p
      · rw [if_pos e2, if_pos (by omega)]
      · rw [if_neg e2, if_neg (by omega)]
  per := fun i hi => by obtain ⟨x, hx⟩ := h.per i hi; exact ⟨x, (updR_ne (by omega)).trans hx⟩
  lo := fun i hi => (updR_ne (by omega)).trans (h.lo i hi)
  hi := fun i hi => (updR_ne (by omega)).trans (h.hi i hi)
theorem FilS.put_per {R0 R : Nat → Option Value} {sm : Bool} {lv sh : Int} {dl : Bool} {rf md : Nat → Int} (h : FilS R0 R sm lv sh dl rf md) (p : Nat) (hp : p < 4) (v : Int) : FilS R0 (At51.updR R (47 + p) (.int .i8 v)) sm lv sh dl rf md where
  sm := (updR_ne (by omega)).trans h.sm
  lv := (updR_ne (by omega)).trans h.lv
  sh := (updR_ne (by omega)).trans h.sh
  dl := (updR_ne (by omega)).trans h.dl
  rf := fun i hi => (updR_ne (by omega)).trans (h.rf i hi)
  md := fun i hi => (updR_ne (by omega)).trans (h.md i hi)
  per := fun i hi => by
    by_cases e : i = p
    · subst e; exact ⟨v, updR_eq⟩
    · obtain ⟨x, hx⟩ := h.per i hi; exact ⟨x, (updR_ne (by omega)).trans hx⟩
  lo := fun i hi => (updR_ne (by omega)).trans (h.lo i hi)
  hi := fun i hi => (updR_ne (by omega)).trans (h.hi i hi)

/-- What is read so far: the state of the bits, the header's cells. -/
def FilX (w0 : World) (R0 : Nat → Option Value) (w : World) (g : Nat) (ao : Option Addr) (n c : Nat) (zs : List Int) (d : DS) (sm : Bool) (lv sh : Int) (dl : Bool) (rf md : Nat → Int) : Prop :=
  ∃ R, At51.Rd R w g ao n c zs d ∧ FilS R0 R sm lv sh dl rf md ∧ w0.grownBy w (some g)
theorem FilX.congr {w0 : World} {R0 : Nat → Option Value} {w : World} {g : Nat} {ao : Option Addr} {n c : Nat} {zs : List Int} {d : DS} {sm : Bool} {lv sh : Int} {dl : Bool} {rf md rf' md' : Nat → Int} (h : FilX w0 R0 w g ao n c zs d sm lv sh dl rf md) (h1 : ∀ i, i < 4 → rf i = rf' i) (h2 : ∀ i, i < 4 → md i = md' i) : FilX w0 R0 w g ao n c zs d sm lv sh dl rf' md' := by
  obtain ⟨R, a, b, c⟩ := h
  exact ⟨R, a, b.congr h1 h2, c⟩
end Go.Proofs.YthmkmemocjnleaaDoor
