/- The loop filters of one line and of many, in plain words: what the package does and what the reference does are the same. No program in sight. -/
import Derived.Test.YtmdijdoaijnpaaaDoorMem
namespace Go.Proofs.YtmdijdoaijnpaaaDoor
open Go.RowKit

/-- A number held between two others. -/
def hld (lo hi x : Int) : Int := if x < lo then lo else if hi < x then hi else x
/-- How far two numbers are apart. -/
def dst (a b : Int) : Int := if a - b < b - a then b - a else a - b
theorem hld_range {lo hi : Int} (h : lo ≤ hi) (x : Int) : lo ≤ hld lo hi x ∧ hld lo hi x ≤ hi := by
  unfold hld; split <;> (try split) <;> omega
theorem dst_range (a b : Int) (ha : 0 ≤ a) (ha2 : a ≤ 255) (hb : 0 ≤ b) (hb2 : b ≤ 255) : 0 ≤ dst a b ∧ dst a b ≤ 255 := by
  unfold dst; split <;> omega
theorem dst_self (a : Int) : dst a a = 0 := by unfold dst; split <;> omega
theorem dst_comm (a b : Int) : dst a b = dst b a := by unfold dst; split <;> split <;> omega

theorem step_a1 (a : Int) : hld (-128) 127 (hld (-128) 127 a + 4) / 8 = hld (-16) 15 ((a + 4) / 8) := by
  unfold hld; (repeat' split) <;> omega
theorem step_a2 (a : Int) : hld (-128) 127 (hld (-128) 127 a + 3) / 8 = hld (-16) 15 ((a + 3) / 8) := by
  unfold hld; (repeat' split) <;> omega
theorem moved_eq (n b : Int) : hld (-128) 127 (n - 128 - b) + 128 = hld 0 255 (n - b) := by
  unfold hld; (repeat' split) <;> omega
theorem short27 (w : Int) (h : -128 ≤ w) (h2 : w ≤ 127) : hld (-128) 127 ((27 * w + 63) / 128) = (27 * w + 63) / 128 := by
  unfold hld; (repeat' split) <;> omega
theorem short18 (w : Int) (h : -128 ≤ w) (h2 : w ≤ 127) : hld (-128) 127 ((18 * w + 63) / 128) = (18 * w + 63) / 128 := by
  unfold hld; (repeat' split) <;> omega
theorem short9 (w : Int) (h : -128 ≤ w) (h2 : w ≤ 127) : hld (-128) 127 ((9 * w + 63) / 128) = (9 * w + 63) / 128 := by
  unfold hld; (repeat' split) <;> omega

/-- Whether an edge in the middle of eight numbers is low enough; whether their neighbours are near to each other; whether the contrast is high. -/
def isNr (l : Nat → Int) (most : Int) : Bool := decide (2 * dst (l 3) (l 4) + dst (l 2) (l 5) / 2 ≤ most)
def isSm (l : Nat → Int) (near : Int) : Bool := decide (dst (l 0) (l 1) ≤ near ∧ dst (l 1) (l 2) ≤ near ∧ dst (l 2) (l 3) ≤ near ∧ dst (l 4) (l 5) ≤ near ∧ dst (l 5) (l 6) ≤ near ∧ dst (l 6) (l 7) ≤ near)
def contr (l : Nat → Int) (high : Int) : Bool := decide (high < dst (l 2) (l 3) ∨ high < dst (l 5) (l 4))
/-- The steps. -/
def stA (l : Nat → Int) (outer : Bool) : Int := (if outer then hld (-128) 127 (l 2 - l 5) else 0) + 3 * (l 4 - l 3)
def st1 (l : Nat → Int) (outer : Bool) : Int := hld (-16) 15 ((stA l outer + 4) / 8)
def st2 (l : Nat → Int) (outer : Bool) : Int := hld (-16) 15 ((stA l outer + 3) / 8)
def stW (l : Nat → Int) : Int := hld (-128) 127 (stA l true)
def two (l : Nat → Int) (outer : Bool) : Nat → Int := upd (upd l 4 (hld 0 255 (l 4 - st1 l outer))) 3 (hld 0 255 (l 3 + st2 l outer))
def four (l : Nat → Int) : Nat → Int := upd (upd (two l false) 5 (hld 0 255 (l 5 - (st1 l false + 1) / 2))) 2 (hld 0 255 (l 2 + (st1 l false + 1) / 2))
def six (l : Nat → Int) : Nat → Int :=
  upd (upd (upd (upd (upd (upd l 4 (hld 0 255 (l 4 - (27 * stW l + 63) / 128))) 3 (hld 0 255 (l 3 + (27 * stW l + 63) / 128)))
    5 (hld 0 255 (l 5 - (18 * stW l + 63) / 128))) 2 (hld 0 255 (l 2 + (18 * stW l + 63) / 128)))
    6 (hld 0 255 (l 6 - (9 * stW l + 63) / 128))) 1 (hld 0 255 (l 1 + (9 * stW l + 63) / 128))
/-- The normal filter of a line. -/
def nrm (most near high : Int) (inner : Bool) (l : Nat → Int) : Nat → Int :=
  if isNr l most = true ∧ isSm l near = true then (if contr l high = true then two l true else if inner = true then four l else six l) else l
/-- The simple one. -/
def smp (most : Int) (l : Nat → Int) : Nat → Int := if isNr l most = true then two l true else l

def In8 (l : Nat → Int) : Prop := ∀ j, j < 8 → 0 ≤ l j ∧ l j ≤ 255
theorem upd_in8 {l : Nat → Int} (h : In8 l) (i : Nat) (x : Int) : In8 (upd l i (hld 0 255 x)) := fun j hj => by
  unfold upd; split
  · exact hld_range (by decide) x
  · exact h j hj
theorem two_in8 {l : Nat → Int} (h : In8 l) (o : Bool) : In8 (two l o) := upd_in8 (upd_in8 h _ _) _ _
theorem four_in8 {l : Nat → Int} (h : In8 l) : In8 (four l) := upd_in8 (upd_in8 (two_in8 h _) _ _) _ _
theorem six_in8 {l : Nat → Int} (h : In8 l) : In8 (six l) := upd_in8 (upd_in8 (upd_in8 (upd_in8 (upd_in8 (upd_in8 h _ _) _ _) _ _) _ _) _ _) _ _
theorem nrm_in8 {most near high : Int} {inner : Bool} {l : Nat → Int} (h : In8 l) : In8 (nrm most near high inner l) := by
  unfold nrm
  split
  · split
    · exact two_in8 h _
    · split
      · exact four_in8 h
      · exact six_in8 h
  · exact h
theorem smp_in8 {most : Int} {l : Nat → Int} (h : In8 l) : In8 (smp most l) := by
  unfold smp
  split
  · exact two_in8 h _
  · exact h

/-- Eight values put back at their places, one after the other. -/
def put8 (f : Nat → Int) (pos : Nat → Nat) (l : Nat → Int) : Nat → Nat → Int
  | 0 => f
  | k + 1 => upd (put8 f pos l k) (pos k) (l k)
def Inj8 (pos : Nat → Nat) : Prop := ∀ i j, i < 8 → j < 8 → pos i = pos j → i = j
theorem put8_at {f : Nat → Int} {pos : Nat → Nat} {l : Nat → Int} (hp : Inj8 pos) : ∀ k, k ≤ 8 → ∀ j, j < k → put8 f pos l k (pos j) = l j
  | 0, _, j, hj => absurd hj (by omega)
  | k + 1, hk, j, hj => by
    by_cases h : j = k
    · subst h; exact upd_same _ _ _
    · rw [put8, upd_other _ _ _ _ (fun e => h (hp j k (by omega) (by omega) e))]
      exact put8_at hp k (by omega) j (by omega)
theorem put8_out {f : Nat → Int} {pos : Nat → Nat} {l : Nat → Int} {x : Nat} : ∀ k, (∀ j, j < k → x ≠ pos j) → put8 f pos l k x = f x
  | 0, _ => rfl
  | k + 1, h => by rw [put8, upd_other _ _ _ _ (h k (by omega))]; exact put8_out k (fun j hj => h j (by omega))
theorem put8_eq {f F : Nat → Int} {pos : Nat → Nat} {l : Nat → Int} (hp : Inj8 pos) (h1 : ∀ j, j < 8 → F (pos j) = l j) (h2 : ∀ x, (∀ j, j < 8 → x ≠ pos j) → F x = f x) : F = put8 f pos l 8 := by
  funext x
  by_cases h : ∃ j, j < 8 ∧ x = pos j
  · obtain ⟨j, hj, rfl⟩ := h
    rw [h1 j hj, put8_at hp 8 (Nat.le_refl _) j hj]
  · have h' : ∀ j, j < 8 → x ≠ pos j := fun j hj e => h ⟨j, hj, e⟩
    rw [h2 x h', put8_out 8 h']
theorem upd_pos {F : Nat → Int} {pos : Nat → Nat} (hp : Inj8 pos) (i j : Nat) (hi : i < 8) (hj : j < 8) (v : Int) : upd F (pos i) v (pos j) = upd (fun k => F (pos k)) i v j := by
  unfold upd
  by_cases h : j = i
  · subst h; rw [if_pos rfl, if_pos rfl]
  · rw [if_neg h, if_neg (fun e => h (hp j i hj hi e))]
/-- One value put at its place. -/
theorem upd_put8 {f F : Nat → Int} {pos : Nat → Nat} {l : Nat → Int} (hp : Inj8 pos) (i : Nat) (hi : i < 8) (v : Int) (h1 : ∀ j, j < 8 → F (pos j) = l j) (h2 : ∀ x, (∀ j, j < 8 → x ≠ pos j) → F x = f x) :
    (∀ j, j < 8 → upd F (pos i) v (pos j) = upd l i v j) ∧ ∀ x, (∀ j, j < 8 → x ≠ pos j) → upd F (pos i) v x = f x := by
  refine ⟨fun j hj => ?_, fun x hx => ?_⟩
  · rw [upd_pos hp i j hi hj]
    unfold upd
    split
    · rfl
    · exact h1 j hj
  · rw [upd_other _ _ _ _ (hx i hi)]; exact h2 x hx
theorem put8_in (f : Nat → Int) (pos : Nat → Nat) (l : Nat → Int) (hl : In8 l) (hf : ∀ x, 0 ≤ f x ∧ f x ≤ 255) : ∀ k, k ≤ 8 → ∀ x, 0 ≤ put8 f pos l k x ∧ put8 f pos l k x ≤ 255
  | 0, _, x => hf x
  | k + 1, hk, x => by
    rw [put8]; unfold upd
    split
    · exact hl k (by omega)
    · exact put8_in f pos l hl hf k (by omega) x

/-- Where the eight values of a line stand. -/
def posOf (I J : Int) (j : Nat) : Nat := (I + ((j : Int) - 4) * J).toNat
theorem posOf_inj {I J : Int} (hJ : J ≠ 0) (h : ∀ j : Nat, j < 8 → 0 ≤ I + ((j : Int) - 4) * J) : Inj8 (posOf I J) := fun i j hi hj e => by
  have a := h i hi
  have b := h j hj
  unfold posOf at e
  have e2 : ((i : Int) - 4) * J = ((j : Int) - 4) * J := by omega
  have e3 := Int.eq_of_mul_eq_mul_right hJ e2
  omega
/-- Lines one after the other. -/
def lines (R : (Nat → Int) → Nat → Int) (I0 S J : Int) (f : Nat → Int) : Nat → Nat → Int
  | 0 => f
  | p + 1 => put8 (lines R I0 S J f p) (posOf (I0 + p * S) J) (R fun j => lines R I0 S J f p (posOf (I0 + p * S) J j)) 8
theorem lines_in {R : (Nat → Int) → Nat → Int} (hR : ∀ l, In8 l → In8 (R l)) {I0 S J : Int} {f : Nat → Int} (hf : ∀ x, 0 ≤ f x ∧ f x ≤ 255) : ∀ p x, 0 ≤ lines R I0 S J f p x ∧ lines R I0 S J f p x ≤ 255
  | 0, x => hf x
  | p + 1, x => put8_in _ _ _ (hR _ fun _ _ => lines_in hR hf p _) (lines_in hR hf p) 8 (Nat.le_refl _) x
end Go.Proofs.YtmdijdoaijnpaaaDoor
