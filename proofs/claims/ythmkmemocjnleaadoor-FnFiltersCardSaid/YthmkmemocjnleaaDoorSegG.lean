/- What the head tells of segments, as a plain function over any decoder; both decoders agree (plain). -/
import Derived.Test.YthmkmemocjnleaaDoorAt51
import Derived.Test.YthmkmemocjnleaaDoorLitsS
namespace Go.Proofs.YthmkmemocjnleaaDoor
open Go.RowKit
set_option linter.unusedVariables false

/-- The state behind n numbers, and the numbers. -/
def itS {σ : Type} (f : σ → Int × σ) : Nat → σ → σ
  | 0, s => s
  | n + 1, s => (f (itS f n s)).2
def itV {σ : Type} (f : σ → Int × σ) (s : σ) (i : Nat) : Int := (f (itS f i s)).1
/-- One of the probabilities. -/
def prG {σ : Type} (step : σ → Int → Bool × σ) (s : σ) : Int × σ := if (step s 128).1 then bitsG step 128 8 0 (step s 128).2 else (255, (step s 128).2)
structure SG where
  u : Bool
  m : Bool
  t : Bool
  a : Bool
  q : Nat → Int
  l : Nat → Int
  p : Nat → Int
def segT {σ : Type} (step : σ → Int → Bool × σ) (m t a : Bool) (q l : Nat → Int) (s : σ) : SG × σ :=
  if m then (⟨true, m, t, a, q, l, itV (prG step) s⟩, itS (prG step) 3 s) else (⟨true, m, t, a, q, l, fun _ => 255⟩, s)
def segA {σ : Type} (step : σ → Int → Bool × σ) (m a : Bool) (s : σ) : SG × σ :=
  segT step m true a (itV (optG step 128 7) s) (itV (optG step 128 6) (itS (optG step 128 7) 4 s)) (itS (optG step 128 6) 4 (itS (optG step 128 7) 4 s))
def segB {σ : Type} (step : σ → Int → Bool × σ) (m t : Bool) (s : σ) : SG × σ :=
  if t then segA step m (step s 128).1 (step s 128).2 else segT step m false false (fun _ => 0) (fun _ => 0) s
def segG {σ : Type} (step : σ → Int → Bool × σ) (s : σ) : SG × σ :=
  if (step s 128).1 then segB step (step (step s 128).2 128).1 (step (step (step s 128).2 128).2 128).1 (step (step (step s 128).2 128).2 128).2
  else (⟨false, false, false, false, fun _ => 0, fun _ => 0, fun _ => 255⟩, (step s 128).2)

/-- The first n numbers, the others as they were. -/
def partZ (z : Int) (E : Nat → Int) (n k : Nat) : Int := if k < n then E k else z

/-- The cells of the segment header. -/
def segC (u m r : Bool) (q l p : Nat → Int) (k : Nat) : Value :=
  if k = 0 then .bool u else if k = 1 then .bool m else if k = 2 then .bool r else if k < 7 then .int .i8 (q (k - 3)) else if k < 11 then .int .i8 (l (k - 7)) else .int .u8 (p (k - 11))
def segR (z : Nat → Option Value) (u m r : Bool) (q l p : Nat → Int) (i : Nat) : Option Value := if 21 ≤ i ∧ i < 35 then some (segC u m r q l p (i - 21)) else z i
theorem segR_congr (z : Nat → Option Value) (u m r : Bool) {q l p q' l' p' : Nat → Int} (h1 : ∀ i, i < 4 → q i = q' i) (h2 : ∀ i, i < 4 → l i = l' i) (h3 : ∀ i, i < 3 → p i = p' i) (i : Nat) : segR z u m r q l p i = segR z u m r q' l' p' i := by
  unfold segR
  split
  · next h =>
    unfold segC
    repeat' split
    · rfl
    · rfl
    · rfl
    · rw [h1 _ (by omega)]
    · rw [h2 _ (by omega)]
    · rw [h3 _ (by omega)]
  · rfl

namespace At51
theorem Rd.step2 {RR RR' : Nat → Option Value} {w w' : World} {g : Nat} {ao : Option Addr} {n c : Nat} {zs : List Int} {d d' : DS} (h : Rd RR w g ao n c zs d) (hg : w.grownBy w' (some g)) (ho : PTd RR' w' g ao n c d') (hok : OKP zs d') : Rd RR' w' g ao n c zs d' where
  tabs := fun i hi => by
    have h0 := FO.lt h.obj
    have h2 := h.two
    have k : ∀ b, b < 2 → w'.heap[b]? = w.heap[b]? := fun b hb => hg.block b (by omega) (by intro e; injection e with e; omega)
    exact ⟨by rw [World.cell?_of_block (w := w) (k _ (Nat.lt_of_le_of_lt (Nat.le_refl _) (by decide +revert)))]; exact (h.tabs i hi).1, by rw [World.cell?_of_block (w := w) (k _ (Nat.lt_of_le_of_lt (Nat.le_refl _) (by decide +revert)))]; exact (h.tabs i hi).2⟩
  two := h.two
  obj := ho
  len := h.len
  row := fun hn => h.row.grown hg (fun r hr p hp => by injection hr with hr; subst hr; exact h.far hn p hp) hn
  far := h.far
  ok := hok
  bytes := h.bytes
  first := h.first
  max := h.max
theorem Rd.put {RR RR' : Nat → Option Value} {w : World} {g : Nat} {ao : Option Addr} {n c : Nat} {zs : List Int} {d : DS} (h : Rd RR w g ao n c zs d) (i : Nat) (v : Value) (hi : i < 51 ∨ 57 ≤ i) {old : Value} (hs : RR i = some old) (he : ∀ k, updR RR i v k = RR' k) : Rd RR' (w.setCell ⟨g, i, none⟩ v) g ao n c zs d :=
  h.step2 (grownBy_setCell _ _ _) ((FO.put h.obj i v hi hs).congr (fun k _ => he k)) h.ok
theorem Rd.congr {RR RR' : Nat → Option Value} {w : World} {g : Nat} {ao : Option Addr} {n c : Nat} {zs : List Int} {d : DS} (h : Rd RR w g ao n c zs d) (he : ∀ k, RR k = RR' k) : Rd RR' w g ao n c zs d :=
  h.step2 (World.grownBy.refl _ _) (FO.congr h.obj (fun k _ => he k)) h.ok
theorem Rd.drewN {RR : Nat → Option Value} {w : World} {g : Nat} {ao : Option Addr} {n c : Nat} {zs : List Int} {d : DS} (h : Rd RR w g ao n c zs d) (k : Nat) : Rd RR (w.drewN k) g ao n c zs d :=
  h.step2 (grownBy_drewN _ _ _) (FO.drewN h.obj k) h.ok
theorem put_u {z : Nat → Option Value} {u m r : Bool} {q l p : Nat → Int} {w : World} {g : Nat} {ao : Option Addr} {n c : Nat} {zs : List Int} {d : DS} (h : Rd (segR z u m r q l p) w g ao n c zs d) (v : Bool) : Rd (segR z v m r q l p) (w.setCell ⟨g, 21, none⟩ (.bool v)) g ao n c zs d :=
  h.put 21 (.bool v) (by omega) rfl (fun k => by
    unfold updR
    by_cases e : k = 21
    · subst e; rfl
    · rw [if_neg e]; unfold segR; split
      · have : ¬ k - 21 = 0 := by omega
        unfold segC; rw [if_neg this, if_neg this]
      · rfl)
theorem put_m {z : Nat → Option Value} {u m r : Bool} {q l p : Nat → Int} {w : World} {g : Nat} {ao : Option Addr} {n c : Nat} {zs : List Int} {d : DS} (h : Rd (segR z u m r q l p) w g ao n c zs d) (v : Bool) : Rd (segR z u v r q l p) (w.setCell ⟨g, 22, none⟩ (.bool v)) g ao n c zs d :=
  h.put 22 (.bool v) (by omega) rfl (fun k => by
    unfold updR
    by_cases e : k = 22
    · subst e; rfl
    · rw [if_neg e]; unfold segR; split
      · have : ¬ k - 21 = 1 := by omega
        unfold segC; rw [if_neg this, if_neg this]
      · rfl)
theorem put_r {z : Nat → Option Value} {u m r : Bool} {q l p : Nat → Int} {w : World} {g : Nat} {ao : Option Addr} {n c : Nat} {zs : List Int} {d : DS} (h : Rd (segR z u m r q l p) w g ao n c zs d) (v : Bool) : Rd (segR z u m v q l p) (w.setCell ⟨g, 23, none⟩ (.bool v)) g ao n c zs d :=
  h.put 23 (.bool v) (by omega) rfl (fun k => by
    unfold updR
    by_cases e : k = 23
    · subst e; rfl
    · rw [if_neg e]; unfold segR; split
      · have : ¬ k - 21 = 2 := by omega
        unfold segC; rw [if_neg this, if_neg this]
      · rfl)
theorem at_q (z : Nat → Option Value) (u m r : Bool) (q l p : Nat → Int) (i : Nat) (hi : i < 4) : segR z u m r q l p (24 + i) = some (.int .i8 (q i)) := by
  unfold segR segC
  rw [if_pos (by omega), if_neg (by omega), if_neg (by omega), if_neg (by omega), if_pos (by omega), show 24 + i - 21 - 3 = i by omega]
theorem at_l (z : Nat → Option Value) (u m r : Bool) (q l p : Nat → Int) (i : Nat) (hi : i < 4) : segR z u m r q l p (28 + i) = some (.int .i8 (l i)) := by
  unfold segR segC
  rw [if_pos (by omega), if_neg (by omega), if_neg (by omega), if_neg (by omega), if_neg (by omega), if_pos (by omega), show 28 + i - 21 - 7 = i by omega]
theorem at_p (z : Nat → Option Value) (u m r : Bool) (q l p : Nat → Int) (i : Nat) (hi : i < 3) : segR z u m r q l p (32 + i) = some (.int .u8 (p i)) := by
  unfold segR segC
  rw [if_pos (by omega), if_neg (by omega), if_neg (by omega), if_neg (by omega), if_neg (by omega), if_neg (by omega), show 32 + i - 21 - 11 = i by omega]
theorem put_q {z : Nat → Option Value} {u m r : Bool} {E l p : Nat → Int} {x : Int} {w : World} {g : Nat} {ao : Option Addr} {n c : Nat} {zs : List Int} {d : DS} (i : Nat) (hi : i < 4) (h : Rd (segR z u m r (partZ x E i) l p) w g ao n c zs d) : Rd (segR z u m r (partZ x E (i + 1)) l p) (w.setCell ⟨g, 24 + i, none⟩ (.int .i8 (E i))) g ao n c zs d :=
  h.put (24 + i) _ (by omega) (at_q _ _ _ _ _ _ _ i hi) (fun k => by
    unfold updR
    by_cases e : k = 24 + i
    · subst e; rw [if_pos rfl, at_q _ _ _ _ _ _ _ i hi]; unfold partZ; rw [if_pos (by omega)]
    · rw [if_neg e]; unfold segR; split
      · have hq : 3 ≤ k - 21 → partZ x E i (k - 21 - 3) = partZ x E (i + 1) (k - 21 - 3) := fun h3 => by
          unfold partZ
          by_cases e2 : k - 21 - 3 < i
          · rw [if_pos e2, if_pos (by omega)]
          · rw [if_neg e2, if_neg (by omega)]
        unfold segC
        repeat' split
        all_goals first | rfl | rw [hq (by omega)]
      · rfl)
theorem put_l {z : Nat → Option Value} {u m r : Bool} {q E p : Nat → Int} {x : Int} {w : World} {g : Nat} {ao : Option Addr} {n c : Nat} {zs : List Int} {d : DS} (i : Nat) (hi : i < 4) (h : Rd (segR z u m r q (partZ x E i) p) w g ao n c zs d) : Rd (segR z u m r q (partZ x E (i + 1)) p) (w.setCell ⟨g, 28 + i, none⟩ (.int .i8 (E i))) g ao n c zs d :=
  h.put (28 + i) _ (by omega) (at_l _ _ _ _ _ _ _ i hi) (fun k => by
    unfold updR
    by_cases e : k = 28 + i
    · subst e; rw [if_pos rfl, at_l _ _ _ _ _ _ _ i hi]; unfold partZ; rw [if_pos (by omega)]
    · rw [if_neg e]; unfold segR; split
      · have hq : 7 ≤ k - 21 → partZ x E i (k - 21 - 7) = partZ x E (i + 1) (k - 21 - 7) := fun h3 => by
          unfold partZ
          by_cases e2 : k - 21 - 7 < i
          · rw [if_pos e2, if_pos (by omega)]
          · rw [if_neg e2, if_neg (by omega)]
        unfold segC
        repeat' split
        all_goals first | rfl | rw [hq (by omega)]
      · rfl)
theorem put_p {z : Nat → Option Value} {u m r : Bool} {q l E : Nat → Int} {x : Int} {w : World} {g : Nat} {ao : Option Addr} {n c : Nat} {zs : List Int} {d : DS} (i : Nat) (hi : i < 3) (h : Rd (segR z u m r q l (partZ x E i)) w g ao n c zs d) : Rd (segR z u m r q l (partZ x E (i + 1))) (w.setCell ⟨g, 32 + i, none⟩ (.int .u8 (E i))) g ao n c zs d :=
  h.put (32 + i) _ (by omega) (at_p _ _ _ _ _ _ _ i hi) (fun k => by
    unfold updR
    by_cases e : k = 32 + i
    · subst e; rw [if_pos rfl, at_p _ _ _ _ _ _ _ i hi]; unfold partZ; rw [if_pos (by omega)]
    · rw [if_neg e]; unfold segR; split
      · have hq : 11 ≤ k - 21 → partZ x E i (k - 21 - 11) = partZ x E (i + 1) (k - 21 - 11) := fun h3 => by
          unfold partZ
          by_cases e2 : k - 21 - 11 < i
          · rw [if_pos e2, if_pos (by omega)]
          · rw [if_neg e2, if_neg (by omega)]
        unfold segC
        repeat' split
        all_goals first | rfl | rw [hq (by omega)]
      · rfl)
end At51
end Go.Proofs.YthmkmemocjnleaaDoor
