/- The cells of the reference's filters. Printed by wip/gen_filt.py. -/
import Derived.Test.YthmkmemocjnleaaDoorFilH
import Derived.Test.YthmkmemocjnleaaDoorFilP
namespace Go.Proofs.YthmkmemocjnleaaDoor
open Go.RowKit
set_option linter.unusedVariables false

structure FilT (D0 D : Nat → Option Value) (sm : Bool) (lv sh : Int) (dl : Bool) (rf md : Nat → Int) : Prop where
  sm : D 272 = some (.bool sm)
  lv : D 273 = some (.int .i64 lv)
  sh : D 274 = some (.int .i64 sh)
  dl : D 275 = some (.bool dl)
  rf : ∀ i, i < 4 → D (276 + i) = some (.int .i64 (rf i))
  md : ∀ i, i < 4 → D (280 + i) = some (.int .i64 (md i))
  keeps : ∃ b, D 351 = some (.bool b)
  oth : ∀ i, (i < 272 ∨ 284 ≤ i) → i ≠ 351 → D i = D0 i
theorem FilT.congr {D0 D : Nat → Option Value} {sm : Bool} {lv sh : Int} {dl : Bool} {rf md rf' md' : Nat → Int} (h : FilT D0 D sm lv sh dl rf md) (h1 : ∀ i, i < 4 → rf i = rf' i) (h2 : ∀ i, i < 4 → md i = md' i) : FilT D0 D sm lv sh dl rf' md' :=
  { h with rf := fun i hi => by rw [h.rf i hi, h1 i hi], md := fun i hi => by rw [h.md i hi, h2 i hi] }
theorem FilT.put_sm {D0 D : Nat → Option Value} {sm : Bool} {lv sh : Int} {dl : Bool} {rf md : Nat → Int} (h : FilT D0 D sm lv sh dl rf md) (v : Bool) : FilT D0 (At51.updR D 272 (.bool v)) v lv sh dl rf md where
  sm := updR_eq
  lv := (updR_ne (by omega)).trans h.lv
  sh := (updR_ne (by omega)).trans h.sh
  dl := (updR_ne (by omega)).trans h.dl
  rf := fun i hi => (updR_ne (by omega)).trans (h.rf i hi)
  md := fun i hi => (updR_ne (by omega)).trans (h.md i hi)
  keeps := by obtain ⟨b, hb⟩ := h.keeps; exact ⟨b, (updR_ne (by omega)).trans hb⟩
  oth := fun i hi hne => (updR_ne (by omega)).trans (h.oth i hi hne)
theorem FilT.put_lv {D0 D : Nat → Option Value} {sm : Bool} {lv sh : Int} {dl : Bool} {rf md : Nat → Int} (h : FilT D0 D sm lv sh dl rf md) (v : Int) : FilT D0 (At51.updR D 273 (.int .i64 v)) sm v sh dl rf md where
  sm := (updR_ne (by omega)).trans h.sm
  lv := updR_eq
  sh := (updR_ne (by omega)).trans h.sh
  dl := (updR_ne (by omega)).trans h.dl
  rf := fun i hi => (updR_ne (by omega)).trans (h.rf i hi)
  md := fun i hi => (updR_ne (by omega)).trans (h.md i hi)
  keeps := by obtain ⟨b, hb⟩ := h.keeps; exact ⟨b, (updR_ne (by omega)).trans hb⟩
  oth := fun i hi hne => (updR_ne (by omega)).trans (h.oth i hi hne)
theorem FilT.put_sh {D0 D : Nat → Option Value} {sm : Bool} {lv sh : Int} {dl : Bool} {rf md : Nat → Int} (h : FilT D0 D sm lv sh dl rf md) (v : Int) : FilT D0 (At51.updR D 274 (.int .i64 v)) sm lv v dl rf md where
  sm := (updR_ne (by omega)).trans h.sm
  lv := (updR_ne (by omega)).trans h.lv
  sh := updR_eq
  dl := (updR_ne (by omega)).trans h.dl
  rf := fun i hi => (updR_ne (by omega)).trans (h.rf i hi)
  md := fun i hi => (updR_ne (by omega)).trans (h.md i hi)
  keeps := by obtain ⟨b, hb⟩ := h.keeps; exact ⟨b, (updR_ne (by omega)).trans hb⟩
  oth := fun i hi hne => (updR_ne (by omega)).trans (h.oth i hi hne)
theorem FilT.put_dl {D0 D : Nat → Option Value} {sm : Bool} {lv sh : Int} {dl : Bool} {rf md : Nat → Int} (h : FilT D0 D sm lv sh dl rf md) (v : Bool) : FilT D0 (At51.updR D 275 (.bool v)) sm lv sh v rf md where
  sm := (updR_ne (by omega)).trans h.sm
  lv := (updR_ne (by omega)).trans h.lv
  sh := (updR_ne (by omega)).trans h.sh
  dl := updR_eq
  rf := fun i hi => (updR_ne (by omega)).trans (h.rf i hi)
  md := fun i hi => (updR_ne (by omega)).trans (h.md i hi)
  keeps := by obtain ⟨b, hb⟩ := h.keeps; exact ⟨b, (updR_ne (by omega)).trans hb⟩
  oth := fun i hi hne => (updR_ne (by omega)).trans (h.oth i hi hne)
theorem FilT.put_rf {D0 D : Nat → Option Value} {sm : Bool} {lv sh : Int} {dl : Bool} {E md : Nat → Int} {x : Int} (p : Nat) (hp : p < 4) (h : FilT D0 D sm lv sh dl (partZ x E p) md) : FilT D0 (At51.updR D (276 + p) (.int .i64 (E p))) sm lv sh dl (partZ x E (p + 1)) md where
  sm := (updR_ne (by omega)).trans h.sm
  lv := (updR_ne (by omega)).trans h.lv
  sh := (updR_ne (by omega)).trans h.sh
  dl := (updR_ne (by omega)).trans h.dl
  rf := fun i hi => by
    by_cases e : i = p
    · subst e; rw [updR_eq]; unfold partZ; rw [if_pos (by omega)]
    · rw [updR_ne (by omega), h.rf i hi]
      unfold partZ
      by_cases e2 : i < p
      · rw [if_pos e2, if_pos (by omega)]
      · rw [if_neg e2, if_neg (by omega)]
  md := fun i hi => (updR_ne (by omega)).trans (h.md i hi)
  keeps := by obtain ⟨b, hb⟩ := h.keeps; exact ⟨b, (updR_ne (by omega)).trans hb⟩
  oth := fun i hi hne => (updR_ne (by omega)).trans (h.oth i hi hne)
theorem FilT.put_md {D0 D : Nat → Option Value} {sm : Bool} {lv sh : Int} {dl : Bool} {E rf : Nat → Int} {x : Int} (p : Nat) (hp : p < 4) (h : FilT D0 D sm lv sh dl rf (partZ x E p)) : FilT D0 (At51.updR D (280 + p) (.int .i64 (E p))) sm lv sh dl rf (partZ x E (p + 1)) where
  sm := (updR_ne (by omega)).trans h.sm
  lv := (updR_ne (by omega)).trans h.lv
  sh := (updR_ne (by omega)).trans h.sh
  dl := (updR_ne (by omega)).trans h.dl
  rf := fun i hi => (updR_ne (by omega)).trans (h.rf i hi)
  md := fun i hi => by
    by_cases e : i = p
    · subst e; rw [updR_eq]; unfold partZ; rw [if_pos (by omega)]
    · rw [updR_ne (by omega), h.md i hi]
      unfold partZ
      by_cases e2 : i < p
      · rw [if_pos e2, if_pos (by omega)]
      · rw [if_neg e2, if_neg (by omega)]
  keeps := by obtain ⟨b, hb⟩ := h.keeps; exact ⟨b, (updR_ne (by omega)).trans hb⟩
  oth := fun i hi hne => (updR_ne (by omega)).trans (h.oth i hi hne)
theorem FilT.put_keeps {D0 D : Nat → Option Value} {sm : Bool} {lv sh : Int} {dl : Bool} {rf md : Nat → Int} (h : FilT D0 D sm lv sh dl rf md) (v : Bool) : FilT D0 (At51.updR D 351 (.bool v)) sm lv sh dl rf md where
  sm := (updR_ne (by omega)).trans h.sm
  lv := (updR_ne (by omega)).trans h.lv
  sh := (updR_ne (by omega)).trans h.sh
  dl := (updR_ne (by omega)).trans h.dl
  rf := fun i hi => (updR_ne (by omega)).trans (h.rf i hi)
  md := fun i hi => (updR_ne (by omega)).trans (h.md i hi)
  keeps := ⟨v, updR_eq⟩
  oth := fun i hi hne => (updR_ne (by omega)).trans (h.oth i hi hne)
/-- What is read so far. -/
def FilZ (w0 : World) (B : Nat) (D0 : Nat → Option Value) (w : World) (gd g : Nat) (ao : Option Addr) (n c : Nat) (zs : List Int) (s : SS) (sm : Bool) (lv sh : Int) (dl : Bool) (rf md : Nat → Int) : Prop :=
  ∃ D, SW w0 B D w gd g ao n c zs s ∧ FilT D0 D sm lv sh dl rf md
theorem SW.upd {w0 w : World} {B gd g n c : Nat} {D : Nat → Option Value} {ao : Option Addr} {zs : List Int} {s : SS} (h : SW w0 B D w gd g ao n c zs s) (k : SK w0 B gd g ao n) (i : Nat) (v : Value) {old : Value} (ho : D i = some old) : SW w0 B (At51.updR D i v) (w.setCell ⟨gd, i, none⟩ v) gd g ao n c zs s :=
  h.put k (h.2.1.put i v ho (fun _ => rfl))
end Go.Proofs.YthmkmemocjnleaaDoor
