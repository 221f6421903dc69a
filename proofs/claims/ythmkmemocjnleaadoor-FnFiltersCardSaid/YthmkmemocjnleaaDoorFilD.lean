/- The package's DoorFilters. Printed by wip/gen_fild.py. -/
import Derived.Test.YthmkmemocjnleaaDoorFilQ
import Derived.Test.YthmkmemocjnleaaDoorSegI
import Derived.Test.YthmkmemocjnleaaDoorSegD
import Derived.Test.YthmkmemocjnleaaDoorOnly
import Derived.Test.YthmkmemocjnleaaDoorSegW
import Derived.Test.YthmkmemocjnleaaDoorSelfSt
namespace Go.Proofs.YthmkmemocjnleaaDoor
open Go.RowKit
set_option linter.unusedVariables false
set_option linter.unusedSimpArgs false

/-- The decoder that is made: what the segments tell. -/
noncomputable def zFil (u r : Bool) (s0 s1 s2 s3 : Int) : Array Value := ((((((((((((((Tryd.zeroCells169.setIfInBounds 21 (.bool u)).setIfInBounds 22 (.bool false)).setIfInBounds 23 (.bool r)).setIfInBounds 24 (.int .i8 0)).setIfInBounds 25 (.int .i8 0)).setIfInBounds 26 (.int .i8 0)).setIfInBounds 27 (.int .i8 0)).setIfInBounds 28 (.int .i8 s0)).setIfInBounds 29 (.int .i8 s1)).setIfInBounds 30 (.int .i8 s2)).setIfInBounds 31 (.int .i8 s3)).setIfInBounds 32 (.int .u8 0)).setIfInBounds 33 (.int .u8 0)).setIfInBounds 34 (.int .u8 0))
theorem zF_all : (Tryd.zeroCells169.toList.drop 35).take 22 = [.bool false, .int .i8 0, .int .u8 0, .bool false, .int .i8 0, .int .i8 0, .int .i8 0, .int .i8 0, .int .i8 0, .int .i8 0, .int .i8 0, .int .i8 0, .int .i8 0, .int .i8 0, .int .i8 0, .int .i8 0, .slice none 0 0, .int .i64 0, .int .u32 0, .int .u32 0, .int .u8 0, .bool false] := by kernel_rfl
theorem zF_par : (Tryd.zeroCells169.toList.drop 1188).take 32 = [.int .u8 0, .int .u8 0, .int .u8 0, .bool false, .int .u8 0, .int .u8 0, .int .u8 0, .bool false, .int .u8 0, .int .u8 0, .int .u8 0, .bool false, .int .u8 0, .int .u8 0, .int .u8 0, .bool false, .int .u8 0, .int .u8 0, .int .u8 0, .bool false, .int .u8 0, .int .u8 0, .int .u8 0, .bool false, .int .u8 0, .int .u8 0, .int .u8 0, .bool false, .int .u8 0, .int .u8 0, .int .u8 0, .bool false] := by kernel_rfl
theorem zF_13 : (Tryd.zeroCells169.toList.drop 13).take 1 = [.bool false] := by kernel_rfl
theorem zF_size : Tryd.zeroCells169.size = 2482 := by kernel_rfl
theorem zFil_far (u r : Bool) (s0 s1 s2 s3 : Int) (i : Nat) (h : i < 21 ∨ 35 ≤ i) : (zFil u r s0 s1 s2 s3)[i]? = Tryd.zeroCells169[i]? := by
  unfold zFil
  rw [Array.getElem?_setIfInBounds_ne (by omega), Array.getElem?_setIfInBounds_ne (by omega), Array.getElem?_setIfInBounds_ne (by omega), Array.getElem?_setIfInBounds_ne (by omega), Array.getElem?_setIfInBounds_ne (by omega), Array.getElem?_setIfInBounds_ne (by omega), Array.getElem?_setIfInBounds_ne (by omega), Array.getElem?_setIfInBounds_ne (by omega), Array.getElem?_setIfInBounds_ne (by omega), Array.getElem?_setIfInBounds_ne (by omega), Array.getElem?_setIfInBounds_ne (by omega), Array.getElem?_setIfInBounds_ne (by omega), Array.getElem?_setIfInBounds_ne (by omega), Array.getElem?_setIfInBounds_ne (by omega)]
theorem zFil_head (u r : Bool) (s0 s1 s2 s3 : Int) (i : Nat) (h : i < 22) : (zFil u r s0 s1 s2 s3)[35 + i]? = ([.bool false, .int .i8 0, .int .u8 0, .bool false, .int .i8 0, .int .i8 0, .int .i8 0, .int .i8 0, .int .i8 0, .int .i8 0, .int .i8 0, .int .i8 0, .int .i8 0, .int .i8 0, .int .i8 0, .int .i8 0, .slice none 0 0, .int .i64 0, .int .u32 0, .int .u32 0, .int .u8 0, .bool false] : List Value)[i]? := by
  rw [zFil_far _ _ _ _ _ _ _ (by omega), ← Array.getElem?_toList, at_drop _ 35 22 _ zF_all i h]
theorem zFil_seg (u r : Bool) (s0 s1 s2 s3 : Int) : (zFil u r s0 s1 s2 s3)[21]? = some (.bool u) ∧ (zFil u r s0 s1 s2 s3)[23]? = some (.bool r) ∧ (zFil u r s0 s1 s2 s3)[28]? = some (.int .i8 s0) ∧ (zFil u r s0 s1 s2 s3)[29]? = some (.int .i8 s1) ∧ (zFil u r s0 s1 s2 s3)[30]? = some (.int .i8 s2) ∧ (zFil u r s0 s1 s2 s3)[31]? = some (.int .i8 s3) := by
  have hs := zF_size
  unfold zFil
  generalize Tryd.zeroCells169 = Z at hs
  refine ⟨?_, ?_, ?_, ?_, ?_, ?_⟩ <;> simp [hs]
/-- The cells besides, behind the store that makes it a key frame. -/
noncomputable def rFil (u r : Bool) (s0 s1 s2 s3 : Int) : Nat → Option Value := At51.updR (fun i => (zFil u r s0 s1 s2 s3)[i]?) 13 (.bool true)
theorem zFil_par (u r : Bool) (s0 s1 s2 s3 : Int) (P : Nat → Nat → Int) : Par P (rFil u r s0 s1 s2 s3) 0 := by
  have key : ∀ i, i < 32 → rFil u r s0 s1 s2 s3 (1188 + i) = ([.int .u8 0, .int .u8 0, .int .u8 0, .bool false, .int .u8 0, .int .u8 0, .int .u8 0, .bool false, .int .u8 0, .int .u8 0, .int .u8 0, .bool false, .int .u8 0, .int .u8 0, .int .u8 0, .bool false, .int .u8 0, .int .u8 0, .int .u8 0, .bool false, .int .u8 0, .int .u8 0, .int .u8 0, .bool false, .int .u8 0, .int .u8 0, .int .u8 0, .bool false, .int .u8 0, .int .u8 0, .int .u8 0, .bool false] : List Value)[i]? := fun i hi => by
    unfold rFil At51.updR
    rw [if_neg (by omega)]
    show (zFil u r s0 s1 s2 s3)[1188 + i]? = _
    rw [zFil_far _ _ _ _ _ _ _ (by omega), ← Array.getElem?_toList, at_drop _ 1188 32 _ zF_par i hi]
  refine ⟨fun m k hm hk => ?_, fun m hm => ?_⟩
  · rw [Nat.add_assoc, key _ (by omega), if_neg (by omega)]
    have : m = 0 ∨ m = 1 ∨ m = 2 ∨ m = 3 ∨ m = 4 ∨ m = 5 ∨ m = 6 ∨ m = 7 := by omega
    have hk3 : k = 0 ∨ k = 1 ∨ k = 2 := by omega
    rcases this with rfl | rfl | rfl | rfl | rfl | rfl | rfl | rfl <;> rcases hk3 with rfl | rfl | rfl <;> rfl
  · rw [Nat.add_assoc, key _ (by omega), decide_eq_false (show ¬ m < 0 by omega)]
    have : m = 0 ∨ m = 1 ∨ m = 2 ∨ m = 3 ∨ m = 4 ∨ m = 5 ∨ m = 6 ∨ m = 7 := by omega
    rcases this with rfl | rfl | rfl | rfl | rfl | rfl | rfl | rfl <;> rfl
theorem dec_fil (w : World) (u r : Bool) (s0 s1 s2 s3 : Int) :
    At51.FO (fun i => (zFil u r s0 s1 s2 s3)[i]?) (w.alloc (.cells (zFil u r s0 s1 s2 s3) 169)) w.heap.size [.slice none 0 0, .int .i64 0, .int .u32 0, .int .u32 0, .int .u8 0, .bool false] := by
  refine ⟨by simp, fun j v hj hv => ?_, fun i hi => ?_, fun i => frozen_of_row _ _ _ _ _ (heap_alloc_new w _)⟩
  · rw [cell_of_row _ _ _ _ _ _ (heap_alloc_new w _), show 51 + j = 35 + (16 + j) by omega, zFil_head _ _ _ _ _ _ _ (by omega)]
    obtain rfl | rfl | rfl | rfl | rfl | rfl : j = 0 ∨ j = 1 ∨ j = 2 ∨ j = 3 ∨ j = 4 ∨ j = 5 := by omega
    all_goals (rw [← hv]; rfl)
  · rw [cell_of_row _ _ _ _ _ _ (heap_alloc_new w _)]
/-- The header's cells at first. -/
theorem fil_zero (u r : Bool) (s0 s1 s2 s3 : Int) : FilS (rFil u r s0 s1 s2 s3) (rFil u r s0 s1 s2 s3) false 0 0 false (fun _ => 0) (fun _ => 0) := by
  have key : ∀ i, i < 16 → rFil u r s0 s1 s2 s3 (35 + i) = ([.bool false, .int .i8 0, .int .u8 0, .bool false, .int .i8 0, .int .i8 0, .int .i8 0, .int .i8 0, .int .i8 0, .int .i8 0, .int .i8 0, .int .i8 0, .int .i8 0, .int .i8 0, .int .i8 0, .int .i8 0, .slice none 0 0, .int .i64 0, .int .u32 0, .int .u32 0, .int .u8 0, .bool false] : List Value)[i]? := fun i hi => by
    unfold rFil At51.updR
    rw [if_neg (by omega)]
    exact zFil_head _ _ _ _ _ _ _ (by omega)
  exact {
    sm := key 0 (by omega), lv := key 1 (by omega), sh := key 2 (by omega), dl := key 3 (by omega)
    rf := fun i hi => by
      have := key (4 + i) (by omega)
      obtain rfl | rfl | rfl | rfl : i = 0 ∨ i = 1 ∨ i = 2 ∨ i = 3 := by omega
      all_goals exact this
    md := fun i hi => by
      have := key (8 + i) (by omega)
      obtain rfl | rfl | rfl | rfl : i = 0 ∨ i = 1 ∨ i = 2 ∨ i = 3 := by omega
      all_goals exact this
    per := fun i hi => ⟨0, by
      have := key (12 + i) (by omega)
      obtain rfl | rfl | rfl | rfl : i = 0 ∨ i = 1 ∨ i = 2 ∨ i = 3 := by omega
      all_goals exact this⟩
    lo := fun _ _ => rfl
    hi := fun _ _ => rfl }
theorem fil_facts (u r : Bool) (s0 s1 s2 s3 : Int) : rFil u r s0 s1 s2 s3 13 = some (.bool true) ∧ rFil u r s0 s1 s2 s3 21 = some (.bool u) ∧ rFil u r s0 s1 s2 s3 23 = some (.bool r) ∧ ∀ i, i < 4 → rFil u r s0 s1 s2 s3 (28 + i) = some (.int .i8 (([s0, s1, s2, s3] : List Int).getD i 0)) := by
  obtain ⟨h1, h2, h3, h4, h5, h6⟩ := zFil_seg u r s0 s1 s2 s3
  refine ⟨rfl, ?_, ?_, fun i hi => ?_⟩
  · exact h1
  · exact h2
  · obtain rfl | rfl | rfl | rfl : i = 0 ∨ i = 1 ∨ i = 2 ∨ i = 3 := by omega
    · exact h3
    · exact h4
    · exact h5
    · exact h6

/-- The numbers and the marks of the first n blocks, as they stand in the answer. -/
def dP (Q : Nat → Nat → Int) (n i : Nat) : Option Value := if i < 24 then some (.int .u8 (if i / 3 < n then Q (i / 3) (i % 3) else 0)) else none
def dI (inn : Nat → Bool) (n i : Nat) : Option Value := if i < 8 then some (.bool (decide (i < n) && inn i)) else none
theorem fd_of_obj {w : World} {g : Nat} {T : TypeId} {vs : List Value} (h : SObj w g T vs) : FD (fun i => vs[i]?) w g := by
  refine ⟨h.lt, fun i => ?_, fun i => h.free i⟩
  rw [cell_of_row w g i _ T (0, 0) h]; simp
theorem dP_zero (Q : Nat → Nat → Int) (i : Nat) : ([.int .u8 0, .int .u8 0, .int .u8 0, .int .u8 0, .int .u8 0, .int .u8 0, .int .u8 0, .int .u8 0, .int .u8 0, .int .u8 0, .int .u8 0, .int .u8 0, .int .u8 0, .int .u8 0, .int .u8 0, .int .u8 0, .int .u8 0, .int .u8 0, .int .u8 0, .int .u8 0, .int .u8 0, .int .u8 0, .int .u8 0, .int .u8 0] : List Value)[i]? = dP Q 0 i := by
  have e : ([.int .u8 0, .int .u8 0, .int .u8 0, .int .u8 0, .int .u8 0, .int .u8 0, .int .u8 0, .int .u8 0, .int .u8 0, .int .u8 0, .int .u8 0, .int .u8 0, .int .u8 0, .int .u8 0, .int .u8 0, .int .u8 0, .int .u8 0, .int .u8 0, .int .u8 0, .int .u8 0, .int .u8 0, .int .u8 0, .int .u8 0, .int .u8 0] : List Value) = List.replicate 24 (.int .u8 0) := rfl
  rw [e, List.getElem?_replicate]
  unfold dP
  by_cases h : i < 24
  · rw [if_pos h, if_pos h, if_neg (by omega)]
  · rw [if_neg h, if_neg h]
theorem dI_zero (inn : Nat → Bool) (i : Nat) : ([.bool false, .bool false, .bool false, .bool false, .bool false, .bool false, .bool false, .bool false] : List Value)[i]? = dI inn 0 i := by
  have e : ([.bool false, .bool false, .bool false, .bool false, .bool false, .bool false, .bool false, .bool false] : List Value) = List.replicate 8 (.bool false) := rfl
  rw [e, List.getElem?_replicate]
  unfold dI
  by_cases h : i < 8
  · rw [if_pos h, if_pos h, decide_eq_false (by omega)]; rfl
  · rw [if_neg h, if_neg h]
theorem dP_step {Q : Nat → Nat → Int} {w : World} {b n o : Nat} (h : FD (dP Q n) w b) (ho : o = 3 * n) (hn : n < 8) :
    FD (dP Q (n + 1)) (((w.setCell ⟨b, o, none⟩ (.int .u8 (Q n 0))).setCell ⟨b, o + 1, none⟩ (.int .u8 (Q n 1))).setCell ⟨b, o + 2, none⟩ (.int .u8 (Q n 2))) b := by
  subst ho
  have old : ∀ k, k < 3 → dP Q n (3 * n + k) = some (.int .u8 0) := fun k hk => by unfold dP; rw [if_pos (by omega), if_neg (by omega)]
  have f1 := h.put (3 * n) (.int .u8 (Q n 0)) (old 0 (by omega)) (fun _ => rfl)
  have f2 := f1.put (3 * n + 1) (.int .u8 (Q n 1)) (old := .int .u8 0) (by unfold At51.updR; rw [if_neg (by omega)]; exact old 1 (by omega)) (fun _ => rfl)
  have f3 := f2.put (3 * n + 2) (.int .u8 (Q n 2)) (old := .int .u8 0) (by unfold At51.updR; rw [if_neg (by omega), if_neg (by omega)]; exact old 2 (by omega)) (fun _ => rfl)
  refine f3.congr (fun i => ?_)
  unfold At51.updR
  by_cases e2 : i = 3 * n + 2
  · rw [if_pos e2]; unfold dP; rw [if_pos (by omega), if_pos (by omega), show i / 3 = n by omega, show i % 3 = 2 by omega]
  · rw [if_neg e2]
    by_cases e1 : i = 3 * n + 1
    · rw [if_pos e1]; unfold dP; rw [if_pos (by omega), if_pos (by omega), show i / 3 = n by omega, show i % 3 = 1 by omega]
    · rw [if_neg e1]
      by_cases e0 : i = 3 * n
      · rw [if_pos e0]; unfold dP; rw [if_pos (by omega), if_pos (by omega), show i / 3 = n by omega, show i % 3 = 0 by omega]
      · rw [if_neg e0]; unfold dP
        by_cases hi : i < 24
        · rw [if_pos hi, if_pos hi]
          by_cases hl : i / 3 < n
          · rw [if_pos hl, if_pos (by omega)]
          · rw [if_neg hl, if_neg (by omega)]
        · rw [if_neg hi, if_neg hi]
theorem dI_step {inn : Nat → Bool} {w : World} {b n : Nat} (h : FD (dI inn n) w b) (hn : n < 8) : FD (dI inn (n + 1)) (w.setCell ⟨b, n, none⟩ (.bool (inn n))) b := by
  refine h.put n _ (old := .bool false) (by unfold dI; rw [if_pos hn, decide_eq_false (by omega)]; rfl) (fun i => ?_)
  unfold At51.updR
  by_cases e : i = n
  · rw [if_pos e]; unfold dI; rw [if_pos (by omega), decide_eq_true (by omega), e]; simp
  · rw [if_neg e]; unfold dI
    by_cases hi : i < 8
    · rw [if_pos hi, if_pos hi]
      have : decide (i < n) = decide (i < n + 1) := by
        by_cases hl : i < n
        · rw [decide_eq_true hl, decide_eq_true (by omega)]
        · rw [decide_eq_false hl, decide_eq_false (by omega)]
      rw [this]
    · rw [if_neg hi, if_neg hi]
/-- All numbers, as they stand in the decoder. -/
def parL (Q : Nat → Nat → Int) (inn : Nat → Bool) : List Value := [.int .u8 (Q 0 0), .int .u8 (Q 0 1), .int .u8 (Q 0 2), .bool (inn 0), .int .u8 (Q 1 0), .int .u8 (Q 1 1), .int .u8 (Q 1 2), .bool (inn 1), .int .u8 (Q 2 0), .int .u8 (Q 2 1), .int .u8 (Q 2 2), .bool (inn 2), .int .u8 (Q 3 0), .int .u8 (Q 3 1), .int .u8 (Q 3 2), .bool (inn 3), .int .u8 (Q 4 0), .int .u8 (Q 4 1), .int .u8 (Q 4 2), .bool (inn 4), .int .u8 (Q 5 0), .int .u8 (Q 5 1), .int .u8 (Q 5 2), .bool (inn 5), .int .u8 (Q 6 0), .int .u8 (Q 6 1), .int .u8 (Q 6 2), .bool (inn 6), .int .u8 (Q 7 0), .int .u8 (Q 7 1), .int .u8 (Q 7 2), .bool (inn 7)]
def par8 (Q : Nat → Nat → Int) (inn : Nat → Bool) (p : Nat) : List Value := [.int .u8 (Q (2 * p) 0), .int .u8 (Q (2 * p) 1), .int .u8 (Q (2 * p) 2), .bool (inn (2 * p)), .int .u8 (Q (2 * p + 1) 0), .int .u8 (Q (2 * p + 1) 1), .int .u8 (Q (2 * p + 1) 2), .bool (inn (2 * p + 1))]
theorem idx158 (Q : Nat → Nat → Int) (inn : Nat → Bool) (p : Nat) (hp : p < 4) (w : World) : (Instr.index 158 (.agg (parL Q inn).toArray) (.int .i64 p)).run Tryd.prog w = .ok (.agg (par8 Q inn p).toArray) w := by
  obtain rfl | rfl | rfl | rfl : p = 0 ∨ p = 1 ∨ p = 2 ∨ p = 3 := by omega
  all_goals kernel_rfl
theorem idx157 (Q : Nat → Nat → Int) (inn : Nat → Bool) (p q : Nat) (hq : q < 2) (w : World) : (Instr.index 157 (.agg (par8 Q inn p).toArray) (.int .i64 q)).run Tryd.prog w = .ok (.agg #[.int .u8 (Q (2 * p + q) 0), .int .u8 (Q (2 * p + q) 1), .int .u8 (Q (2 * p + q) 2), .bool (inn (2 * p + q))]) w := by
  obtain rfl | rfl : q = 0 ∨ q = 1 := by omega
  all_goals kernel_rfl
theorem parL_at (Q : Nat → Nat → Int) (inn : Nat → Bool) (j : Nat) (x : Value) (h : (parL Q inn)[j]? = some x) : j < 32 ∧ x = if j % 4 = 3 then .bool (inn (j / 4)) else .int .u8 (Q (j / 4) (j % 4)) := by
  have hj : j < 32 := by
    have := (List.getElem?_eq_some_iff.1 h).1
    simpa [parL] using this
  refine ⟨hj, ?_⟩
  have e : ∀ m, m < 8 → ∀ k, k < 4 → (parL Q inn)[4 * m + k]? = some (if k = 3 then .bool (inn m) else .int .u8 (Q m k)) := fun m hm k hk => by
    have : m = 0 ∨ m = 1 ∨ m = 2 ∨ m = 3 ∨ m = 4 ∨ m = 5 ∨ m = 6 ∨ m = 7 := by omega
    have hk4 : k = 0 ∨ k = 1 ∨ k = 2 ∨ k = 3 := by omega
    rcases this with rfl | rfl | rfl | rfl | rfl | rfl | rfl | rfl <;> rcases hk4 with rfl | rfl | rfl | rfl <;> rfl
  have := e (j / 4) (by omega) (j % 4) (by omega)
  rw [show 4 * (j / 4) + j % 4 = j by omega, h] at this
  exact Option.some.inj this
def S2 (B k : Nat) : Prop := k = B + 1 + 1 + 1 ∨ k = B + 1 + 1 + 1 + 1
def FilL (B : Nat) (Q : Nat → Nat → Int) (inn : Nat → Bool) (w4 : World) (n : Nat) (wr : World) : Prop := FD (dP Q n) wr (B + 1 + 1 + 1) ∧ FD (dI inn n) wr (B + 1 + 1 + 1 + 1) ∧ Only (S2 B) w4 wr
theorem FilL.alloc {B : Nat} {Q : Nat → Nat → Int} {inn : Nat → Bool} {w4 : World} {n : Nat} {wr : World} (h : FilL B Q inn w4 n wr) (o : Go.Obj) : FilL B Q inn w4 n (wr.alloc o) :=
  ⟨h.1.grown (World.grownBy_alloc wr o none) (by intro c; cases c), h.2.1.grown (World.grownBy_alloc wr o none) (by intro c; cases c), h.2.2.tr (Only.alloc _ _ _)⟩
def dPL (Q : Nat → Nat → Int) : List Value := [.int .u8 (Q 0 0), .int .u8 (Q 0 1), .int .u8 (Q 0 2), .int .u8 (Q 1 0), .int .u8 (Q 1 1), .int .u8 (Q 1 2), .int .u8 (Q 2 0), .int .u8 (Q 2 1), .int .u8 (Q 2 2), .int .u8 (Q 3 0), .int .u8 (Q 3 1), .int .u8 (Q 3 2), .int .u8 (Q 4 0), .int .u8 (Q 4 1), .int .u8 (Q 4 2), .int .u8 (Q 5 0), .int .u8 (Q 5 1), .int .u8 (Q 5 2), .int .u8 (Q 6 0), .int .u8 (Q 6 1), .int .u8 (Q 6 2), .int .u8 (Q 7 0), .int .u8 (Q 7 1), .int .u8 (Q 7 2)]
def dIL (inn : Nat → Bool) : List Value := [.bool (inn 0), .bool (inn 1), .bool (inn 2), .bool (inn 3), .bool (inn 4), .bool (inn 5), .bool (inn 6), .bool (inn 7)]
theorem dPL_at (Q : Nat → Nat → Int) (i : Nat) (hi : i < (dPL Q).length) : dP Q 8 i = (dPL Q)[i]? := by
  have hi : i < 24 := by simpa [dPL] using hi
  unfold dP
  rw [if_pos hi, if_pos (by omega)]
  have e : ∀ m, m < 8 → ∀ k, k < 3 → (dPL Q)[3 * m + k]? = some (.int .u8 (Q m k)) := fun m hm k hk => by
    have : m = 0 ∨ m = 1 ∨ m = 2 ∨ m = 3 ∨ m = 4 ∨ m = 5 ∨ m = 6 ∨ m = 7 := by omega
    have hk3 : k = 0 ∨ k = 1 ∨ k = 2 := by omega
    rcases this with rfl | rfl | rfl | rfl | rfl | rfl | rfl | rfl <;> rcases hk3 with rfl | rfl | rfl <;> rfl
  have := e (i / 3) (by omega) (i % 3) (by omega)
  rw [show 3 * (i / 3) + i % 3 = i by omega] at this
  exact this.symm
theorem dIL_at (inn : Nat → Bool) (i : Nat) (hi : i < (dIL inn).length) : dI inn 8 i = (dIL inn)[i]? := by
  have hi : i < 8 := by simpa [dIL] using hi
  unfold dI
  rw [if_pos hi, decide_eq_true hi]
  have : i = 0 ∨ i = 1 ∨ i = 2 ∨ i = 3 ∨ i = 4 ∨ i = 5 ∨ i = 6 ∨ i = 7 := by omega
  rcases this with rfl | rfl | rfl | rfl | rfl | rfl | rfl | rfl <;> rfl
theorem info119 : (Tryd.prog.info? 119).map (·.size) = some 24 := by kernel_rfl
theorem info58 : (Tryd.prog.info? 58).map (·.size) = some 8 := by kernel_rfl
/-- The numbers and the marks that are told. -/
def QF (u r : Bool) (v : FG) (st : Nat → Int) (m k : Nat) : Int := if v.level = 0 then 0 else parM u r v st m k
def innF (v : FG) (m : Nat) : Bool := !decide (v.level = 0) && decide (m % 2 = 1)
def Held (w : World) : Prop := True
theorem held_true (w : World) : Held w = True := rfl
theorem near_ne {w : World} {b i j : Nat} {v : Value} (h : i ≠ j) : (w.setCell ⟨b, i, none⟩ v).cell? ⟨b, j, none⟩ = w.cell? ⟨b, j, none⟩ := World.cell?_setCell_other _ _ _ _ (by intro e; injection e with _ e _; exact h e)
theorem near_same {w : World} {b i : Nat} {v : Value} (h : w.cell? ⟨b, i, none⟩ = some v) : (w.setCell ⟨b, i, none⟩ v).cell? ⟨b, i, none⟩ = some v := World.cell?_setCell_same _ _ _ h
theorem info158 : (Tryd.prog.info? 158).map (·.size) = some 32 := by kernel_rfl

set_option maxRecDepth 100000 in
set_option maxHeartbeats 8000000 in
theorem doorFil_any (ao : Option Addr) (n c : Nat) (zs : List Int) (u r : Bool) (s0 s1 s2 s3 : Int) (w : World) (ht : Tabs w) (h2 : 2 ≤ w.heap.size) (hl : zs.length = n) (hrow : Arg .u8 w ao n (fun i => zs.getD i 0)) (hz : Bytes zs) (h255 : zs.getD 0 0 ≠ 255) (hn : n ≤ 1048576)
    (hst : ∀ i, -128 ≤ ([s0, s1, s2, s3] : List Int).getD i 0 ∧ ([s0, s1, s2, s3] : List Int).getD i 0 ≤ 127)
    (v : FG × DS) (hv : v = filG (stepP zs) ds0) :
    Calls Tryd.prog 49 #[.slice ao n c, .bool u, .bool r, .agg #[.int .i8 s0, .int .i8 s1, .int .i8 s2, .int .i8 s3]] w fun e w' => e = .returned (.tuple #[.bool v.1.simple, .int .i8 v.1.level, .int .u8 v.1.sharp, .bool v.1.deltas, .agg #[.int .i8 (v.1.ref 0), .int .i8 (v.1.ref 1), .int .i8 (v.1.ref 2), .int .i8 (v.1.ref 3)], .agg #[.int .i8 (v.1.mode 0), .int .i8 (v.1.mode 1), .int .i8 (v.1.mode 2), .int .i8 (v.1.mode 3)], .agg (dPL (QF u r v.1 (fun i => ([s0, s1, s2, s3] : List Int).getD i 0))).toArray, .agg (dIL (innF v.1)).toArray, .bool v.2.eof]) ∧ Below w.heap.size w w' := by
  have HA := Lib.hid (And.intro ht (And.intro hl (And.intro hrow (And.intro hz (And.intro h255 (And.intro hst hv)))))); clear ht hl hrow hz h255 hst hv
  go_enter Tryd.func49, Tryd.ntmps49
  have HW : Hid (SObj ((((((w.alloc (.cells #[.int .i8 s0, .int .i8 s1, .int .i8 s2, .int .i8 s3] 82)).alloc (.cells #[.int .i8 0, .int .i8 0, .int .i8 0, .int .i8 0] 82)).alloc (.cells #[.int .i8 0, .int .i8 0, .int .i8 0, .int .i8 0] 82)).alloc (.cells #[.int .u8 0, .int .u8 0, .int .u8 0, .int .u8 0, .int .u8 0, .int .u8 0, .int .u8 0, .int .u8 0, .int .u8 0, .int .u8 0, .int .u8 0, .int .u8 0, .int .u8 0, .int .u8 0, .int .u8 0, .int .u8 0, .int .u8 0, .int .u8 0, .int .u8 0, .int .u8 0, .int .u8 0, .int .u8 0, .int .u8 0, .int .u8 0] 119)).alloc (.cells #[.bool false, .bool false, .bool false, .bool false, .bool false, .bool false, .bool false, .bool false] 58)).alloc (.cells (zFil u r s0 s1 s2 s3) 169)) (w.heap.size + 1) 82 [.int .i8 0, .int .i8 0, .int .i8 0, .int .i8 0] ∧ SObj ((((((w.alloc (.cells #[.int .i8 s0, .int .i8 s1, .int .i8 s2, .int .i8 s3] 82)).alloc (.cells #[.int .i8 0, .int .i8 0, .int .i8 0, .int .i8 0] 82)).alloc (.cells #[.int .i8 0, .int .i8 0, .int .i8 0, .int .i8 0] 82)).alloc (.cells #[.int .u8 0, .int .u8 0, .int .u8 0, .int .u8 0, .int .u8 0, .int .u8 0, .int .u8 0, .int .u8 0, .int .u8 0, .int .u8 0, .int .u8 0, .int .u8 0, .int .u8 0, .int .u8 0, .int .u8 0, .int .u8 0, .int .u8 0, .int .u8 0, .int .u8 0, .int .u8 0, .int .u8 0, .int .u8 0, .int .u8 0, .int .u8 0] 119)).alloc (.cells #[.bool false, .bool false, .bool false, .bool false, .bool false, .bool false, .bool false, .bool false] 58)).alloc (.cells (zFil u r s0 s1 s2 s3) 169)) (w.heap.size + 1 + 1) 82 [.int .i8 0, .int .i8 0, .int .i8 0, .int .i8 0] ∧ SObj ((((((w.alloc (.cells #[.int .i8 s0, .int .i8 s1, .int .i8 s2, .int .i8 s3] 82)).alloc (.cells #[.int .i8 0, .int .i8 0, .int .i8 0, .int .i8 0] 82)).alloc (.cells #[.int .i8 0, .int .i8 0, .int .i8 0, .int .i8 0] 82)).alloc (.cells #[.int .u8 0, .int .u8 0, .int .u8 0, .int .u8 0, .int .u8 0, .int .u8 0, .int .u8 0, .int .u8 0, .int .u8 0, .int .u8 0, .int .u8 0, .int .u8 0, .int .u8 0, .int .u8 0, .int .u8 0, .int .u8 0, .int .u8 0, .int .u8 0, .int .u8 0, .int .u8 0, .int .u8 0, .int .u8 0, .int .u8 0, .int .u8 0] 119)).alloc (.cells #[.bool false, .bool false, .bool false, .bool false, .bool false, .bool false, .bool false, .bool false] 58)).alloc (.cells (zFil u r s0 s1 s2 s3) 169)) (w.heap.size + 1 + 1 + 1) 119 [.int .u8 0, .int .u8 0, .int .u8 0, .int .u8 0, .int .u8 0, .int .u8 0, .int .u8 0, .int .u8 0, .int .u8 0, .int .u8 0, .int .u8 0, .int .u8 0, .int .u8 0, .int .u8 0, .int .u8 0, .int .u8 0, .int .u8 0, .int .u8 0, .int .u8 0, .int .u8 0, .int .u8 0, .int .u8 0, .int .u8 0, .int .u8 0] ∧ SObj ((((((w.alloc (.cells #[.int .i8 s0, .int .i8 s1, .int .i8 s2, .int .i8 s3] 82)).alloc (.cells #[.int .i8 0, .int .i8 0, .int .i8 0, .int .i8 0] 82)).alloc (.cells #[.int .i8 0, .int .i8 0, .int .i8 0, .int .i8 0] 82)).alloc (.cells #[.int .u8 0, .int .u8 0, .int .u8 0, .int .u8 0, .int .u8 0, .int .u8 0, .int .u8 0, .int .u8 0, .int .u8 0, .int .u8 0, .int .u8 0, .int .u8 0, .int .u8 0, .int .u8 0, .int .u8 0, .int .u8 0, .int .u8 0, .int .u8 0, .int .u8 0, .int .u8 0, .int .u8 0, .int .u8 0, .int .u8 0, .int .u8 0] 119)).alloc (.cells #[.bool false, .bool false, .bool false, .bool false, .bool false, .bool false, .bool false, .bool false] 58)).alloc (.cells (zFil u r s0 s1 s2 s3) 169)) (w.heap.size + 1 + 1 + 1 + 1) 58 [.bool false, .bool false, .bool false, .bool false, .bool false, .bool false, .bool false, .bool false] ∧ At51.FO (fun i => (zFil u r s0 s1 s2 s3)[i]?) ((((((w.alloc (.cells #[.int .i8 s0, .int .i8 s1, .int .i8 s2, .int .i8 s3] 82)).alloc (.cells #[.int .i8 0, .int .i8 0, .int .i8 0, .int .i8 0] 82)).alloc (.cells #[.int .i8 0, .int .i8 0, .int .i8 0, .int .i8 0] 82)).alloc (.cells #[.int .u8 0, .int .u8 0, .int .u8 0, .int .u8 0, .int .u8 0, .int .u8 0, .int .u8 0, .int .u8 0, .int .u8 0, .int .u8 0, .int .u8 0, .int .u8 0, .int .u8 0, .int .u8 0, .int .u8 0, .int .u8 0, .int .u8 0, .int .u8 0, .int .u8 0, .int .u8 0, .int .u8 0, .int .u8 0, .int .u8 0, .int .u8 0] 119)).alloc (.cells #[.bool false, .bool false, .bool false, .bool false, .bool false, .bool false, .bool false, .bool false] 58)).alloc (.cells (zFil u r s0 s1 s2 s3) 169)) (w.heap.size + 1 + 1 + 1 + 1 + 1) [.slice none 0 0, .int .i64 0, .int .u32 0, .int .u32 0, .int .u8 0, .bool false] ∧ Below w.heap.size w ((((((w.alloc (.cells #[.int .i8 s0, .int .i8 s1, .int .i8 s2, .int .i8 s3] 82)).alloc (.cells #[.int .i8 0, .int .i8 0, .int .i8 0, .int .i8 0] 82)).alloc (.cells #[.int .i8 0, .int .i8 0, .int .i8 0, .int .i8 0] 82)).alloc (.cells #[.int .u8 0, .int .u8 0, .int .u8 0, .int .u8 0, .int .u8 0, .int .u8 0, .int .u8 0, .int .u8 0, .int .u8 0, .int .u8 0, .int .u8 0, .int .u8 0, .int .u8 0, .int .u8 0, .int .u8 0, .int .u8 0, .int .u8 0, .int .u8 0, .int .u8 0, .int .u8 0, .int .u8 0, .int .u8 0, .int .u8 0, .int .u8 0] 119)).alloc (.cells #[.bool false, .bool false, .bool false, .bool false, .bool false, .bool false, .bool false, .bool false] 58)).alloc (.cells (zFil u r s0 s1 s2 s3) 169))) := Lib.hid (by
    have a1 := obj_new (w.alloc (.cells #[.int .i8 s0, .int .i8 s1, .int .i8 s2, .int .i8 s3] 82)) 82 [.int .i8 0, .int .i8 0, .int .i8 0, .int .i8 0]
    have a2 := obj_new ((w.alloc (.cells #[.int .i8 s0, .int .i8 s1, .int .i8 s2, .int .i8 s3] 82)).alloc (.cells #[.int .i8 0, .int .i8 0, .int .i8 0, .int .i8 0] 82)) 82 [.int .i8 0, .int .i8 0, .int .i8 0, .int .i8 0]
    have a3 := obj_new (((w.alloc (.cells #[.int .i8 s0, .int .i8 s1, .int .i8 s2, .int .i8 s3] 82)).alloc (.cells #[.int .i8 0, .int .i8 0, .int .i8 0, .int .i8 0] 82)).alloc (.cells #[.int .i8 0, .int .i8 0, .int .i8 0, .int .i8 0] 82)) 119 [.int .u8 0, .int .u8 0, .int .u8 0, .int .u8 0, .int .u8 0, .int .u8 0, .int .u8 0, .int .u8 0, .int .u8 0, .int .u8 0, .int .u8 0, .int .u8 0, .int .u8 0, .int .u8 0, .int .u8 0, .int .u8 0, .int .u8 0, .int .u8 0, .int .u8 0, .int .u8 0, .int .u8 0, .int .u8 0, .int .u8 0, .int .u8 0]
    have a4 := obj_new ((((w.alloc (.cells #[.int .i8 s0, .int .i8 s1, .int .i8 s2, .int .i8 s3] 82)).alloc (.cells #[.int .i8 0, .int .i8 0, .int .i8 0, .int .i8 0] 82)).alloc (.cells #[.int .i8 0, .int .i8 0, .int .i8 0, .int .i8 0] 82)).alloc (.cells #[.int .u8 0, .int .u8 0, .int .u8 0, .int .u8 0, .int .u8 0, .int .u8 0, .int .u8 0, .int .u8 0, .int .u8 0, .int .u8 0, .int .u8 0, .int .u8 0, .int .u8 0, .int .u8 0, .int .u8 0, .int .u8 0, .int .u8 0, .int .u8 0, .int .u8 0, .int .u8 0, .int .u8 0, .int .u8 0, .int .u8 0, .int .u8 0] 119)) 58 [.bool false, .bool false, .bool false, .bool false, .bool false, .bool false, .bool false, .bool false]
    have a5 := dec_fil (((((w.alloc (.cells #[.int .i8 s0, .int .i8 s1, .int .i8 s2, .int .i8 s3] 82)).alloc (.cells #[.int .i8 0, .int .i8 0, .int .i8 0, .int .i8 0] 82)).alloc (.cells #[.int .i8 0, .int .i8 0, .int .i8 0, .int .i8 0] 82)).alloc (.cells #[.int .u8 0, .int .u8 0, .int .u8 0, .int .u8 0, .int .u8 0, .int .u8 0, .int .u8 0, .int .u8 0, .int .u8 0, .int .u8 0, .int .u8 0, .int .u8 0, .int .u8 0, .int .u8 0, .int .u8 0, .int .u8 0, .int .u8 0, .int .u8 0, .int .u8 0, .int .u8 0, .int .u8 0, .int .u8 0, .int .u8 0, .int .u8 0] 119)).alloc (.cells #[.bool false, .bool false, .bool false, .bool false, .bool false, .bool false, .bool false, .bool false] 58)) u r s0 s1 s2 s3
    have b1 := (((a1.alloc (.cells #[.int .i8 0, .int .i8 0, .int .i8 0, .int .i8 0] 82)).alloc (.cells #[.int .u8 0, .int .u8 0, .int .u8 0, .int .u8 0, .int .u8 0, .int .u8 0, .int .u8 0, .int .u8 0, .int .u8 0, .int .u8 0, .int .u8 0, .int .u8 0, .int .u8 0, .int .u8 0, .int .u8 0, .int .u8 0, .int .u8 0, .int .u8 0, .int .u8 0, .int .u8 0, .int .u8 0, .int .u8 0, .int .u8 0, .int .u8 0] 119)).alloc (.cells #[.bool false, .bool false, .bool false, .bool false, .bool false, .bool false, .bool false, .bool false] 58)).alloc (.cells (zFil u r s0 s1 s2 s3) 169)
    have b2 := ((a2.alloc (.cells #[.int .u8 0, .int .u8 0, .int .u8 0, .int .u8 0, .int .u8 0, .int .u8 0, .int .u8 0, .int .u8 0, .int .u8 0, .int .u8 0, .int .u8 0, .int .u8 0, .int .u8 0, .int .u8 0, .int .u8 0, .int .u8 0, .int .u8 0, .int .u8 0, .int .u8 0, .int .u8 0, .int .u8 0, .int .u8 0, .int .u8 0, .int .u8 0] 119)).alloc (.cells #[.bool false, .bool false, .bool false, .bool false, .bool false, .bool false, .bool false, .bool false] 58)).alloc (.cells (zFil u r s0 s1 s2 s3) 169)
    have b3 := (a3.alloc (.cells #[.bool false, .bool false, .bool false, .bool false, .bool false, .bool false, .bool false, .bool false] 58)).alloc (.cells (zFil u r s0 s1 s2 s3) 169)
    have b4 := a4.alloc (.cells (zFil u r s0 s1 s2 s3) 169)
    refine ⟨by simpa using b1, by simpa using b2, by simpa using b3, by simpa using b4, by simpa using a5, ?_⟩
    exact ((((((Below.refl _ _).alloc (Nat.le_refl _) _).alloc (by simp) _).alloc (by simp; omega) _).alloc (by simp; omega) _).alloc (by simp; omega) _).alloc (by simp; omega) _)
  unfold zFil at HW
  go_upto_region 2 with fail
  generalize World.alloc _ _ = w1 at HW ⊢
  have HW1 : Hid (SObj w1 (w.heap.size + 1) 82 [.int .i8 0, .int .i8 0, .int .i8 0, .int .i8 0] ∧ SObj w1 (w.heap.size + 1 + 1) 82 [.int .i8 0, .int .i8 0, .int .i8 0, .int .i8 0] ∧ SObj w1 (w.heap.size + 1 + 1 + 1) 119 [.int .u8 0, .int .u8 0, .int .u8 0, .int .u8 0, .int .u8 0, .int .u8 0, .int .u8 0, .int .u8 0, .int .u8 0, .int .u8 0, .int .u8 0, .int .u8 0, .int .u8 0, .int .u8 0, .int .u8 0, .int .u8 0, .int .u8 0, .int .u8 0, .int .u8 0, .int .u8 0, .int .u8 0, .int .u8 0, .int .u8 0, .int .u8 0] ∧ SObj w1 (w.heap.size + 1 + 1 + 1 + 1) 58 [.bool false, .bool false, .bool false, .bool false, .bool false, .bool false, .bool false, .bool false] ∧ At51.FO (fun i => (zFil u r s0 s1 s2 s3)[i]?) w1 (w.heap.size + 1 + 1 + 1 + 1 + 1) [.slice none 0 0, .int .i64 0, .int .u32 0, .int .u32 0, .int .u8 0, .bool false] ∧ Below w.heap.size w w1) := HW
  clear HW
  obtain ⟨B, hB⟩ : ∃ B, B = w.heap.size := ⟨_, rfl⟩
  rw [← hB] at HW1 ⊢
  obtain ⟨g, hg⟩ : ∃ g, g = B + 1 + 1 + 1 + 1 + 1 := ⟨_, rfl⟩
  rw [← hg] at HW1 ⊢
  have HB := Lib.hid (And.intro hB hg); clear hB hg
  generalize Array.setIfInBounds _ _ _ = zz
  have c13 : w1.cell? ⟨g, 13, none⟩ = some (.bool false) := At51.FO.cell HW1.out.2.2.2.2.1 13 (by omega) (by
    show (zFil u r s0 s1 s2 s3)[13]? = _
    rw [zFil_far _ _ _ _ _ _ _ (by omega), ← Array.getElem?_toList]
    exact at_drop _ 13 1 _ zF_13 0 (by omega))
  have z13 : w1.frozen? ⟨g, 13, none⟩ = false := At51.FO.free HW1.out.2.2.2.2.1 13
  have H2 : Hid (SObj (w1.setCell ⟨g, 13, none⟩ (.bool true)) (B + 1) 82 [.int .i8 0, .int .i8 0, .int .i8 0, .int .i8 0] ∧ SObj (w1.setCell ⟨g, 13, none⟩ (.bool true)) (B + 1 + 1) 82 [.int .i8 0, .int .i8 0, .int .i8 0, .int .i8 0] ∧ SObj (w1.setCell ⟨g, 13, none⟩ (.bool true)) (B + 1 + 1 + 1) 119 [.int .u8 0, .int .u8 0, .int .u8 0, .int .u8 0, .int .u8 0, .int .u8 0, .int .u8 0, .int .u8 0, .int .u8 0, .int .u8 0, .int .u8 0, .int .u8 0, .int .u8 0, .int .u8 0, .int .u8 0, .int .u8 0, .int .u8 0, .int .u8 0, .int .u8 0, .int .u8 0, .int .u8 0, .int .u8 0, .int .u8 0, .int .u8 0] ∧ SObj (w1.setCell ⟨g, 13, none⟩ (.bool true)) (B + 1 + 1 + 1 + 1) 58 [.bool false, .bool false, .bool false, .bool false, .bool false, .bool false, .bool false, .bool false] ∧ At51.FO (rFil u r s0 s1 s2 s3) (w1.setCell ⟨g, 13, none⟩ (.bool true)) g [.slice none 0 0, .int .i64 0, .int .u32 0, .int .u32 0, .int .u8 0, .bool false] ∧ Below B w (w1.setCell ⟨g, 13, none⟩ (.bool true))) := Lib.hid (by
    obtain ⟨h1, h2, h3, h4, h5, h6⟩ := HW1.out
    obtain ⟨hB, hg⟩ := HB.out
    refine ⟨h1.far ⟨g, 13, none⟩ (by simp only; omega) _, h2.far ⟨g, 13, none⟩ (by simp only; omega) _, h3.far ⟨g, 13, none⟩ (by simp only; omega) _, h4.far ⟨g, 13, none⟩ (by simp only; omega) _, ?_, ?_⟩
    · exact At51.FO.put h5 13 (.bool true) (by omega) (old := .bool false) (by
        show (zFil u r s0 s1 s2 s3)[13]? = _
        rw [zFil_far _ _ _ _ _ _ _ (by omega), ← Array.getElem?_toList]
        exact at_drop _ 13 1 _ zF_13 0 (by omega))
    · exact h6.setCell (p := ⟨g, 13, none⟩) (show B ≤ g by omega) _)
  go_wp2_with fail
  generalize World.setCell _ _ _ = w2 at H2 ⊢
  clear c13 z13 HW1
  refine (init_any g ao n c _ w2 H2.out.2.2.2.2.1).mono ?_
  rintro _ w3 ⟨rfl, ho, hg⟩
  have H3 : Hid (SObj w3 (B + 1) 82 [.int .i8 0, .int .i8 0, .int .i8 0, .int .i8 0] ∧ SObj w3 (B + 1 + 1) 82 [.int .i8 0, .int .i8 0, .int .i8 0, .int .i8 0] ∧ SObj w3 (B + 1 + 1 + 1) 119 [.int .u8 0, .int .u8 0, .int .u8 0, .int .u8 0, .int .u8 0, .int .u8 0, .int .u8 0, .int .u8 0, .int .u8 0, .int .u8 0, .int .u8 0, .int .u8 0, .int .u8 0, .int .u8 0, .int .u8 0, .int .u8 0, .int .u8 0, .int .u8 0, .int .u8 0, .int .u8 0, .int .u8 0, .int .u8 0, .int .u8 0, .int .u8 0] ∧ SObj w3 (B + 1 + 1 + 1 + 1) 58 [.bool false, .bool false, .bool false, .bool false, .bool false, .bool false, .bool false, .bool false] ∧ FilX w3 (rFil u r s0 s1 s2 s3) w3 g ao n c zs ds0 false 0 0 false (fun _ => 0) (fun _ => 0) ∧ Below B w w3) := Lib.hid (by
    obtain ⟨h1, h2', h3, h4, h5, h6⟩ := H2.out
    obtain ⟨eB, eg⟩ := HB.out
    have hb : Below B w w3 := h6.grown hg (by have := h6.size; omega) (fun r hr => by injection hr with hr; omega)
    refine ⟨h1.grown hg (by intro c; injection c; omega), h2'.grown hg (by intro c; injection c; omega), h3.grown hg (by intro c; injection c; omega), h4.grown hg (by intro c; injection c; omega), ⟨_, ⟨HA.out.1.below h2 (by rw [← eB]; exact hb), by omega, ho, HA.out.2.1, HA.out.2.2.1.below (by rw [← eB]; exact hb), fun hn a ha => ?_, ds0_ok zs, HA.out.2.2.2.1, HA.out.2.2.2.2.1, by omega⟩, fil_zero _ _ _ _ _ _, World.grownBy.refl _ _⟩, hb⟩
    obtain ⟨ga, oa, hao, hlt, _⟩ := HA.out.2.2.1 hn
    rw [ha] at hao
    injection hao with hao
    subst hao
    show ga ≠ g
    omega)
  clear ho hg H2
  go_wp2_with fail
  obtain ⟨P, hP⟩ : ∃ P, P = parM u r v.1 (fun i => ([s0, s1, s2, s3] : List Int).getD i 0) := ⟨_, rfl⟩
  have HP := Lib.hid hP
  refine (parseFil_any g ao n c zs ds0 (rFil u r s0 s1 s2 s3) w3 H3.out.2.2.2.2.1 u r (fun i => ([s0, s1, s2, s3] : List Int).getD i 0) (fil_facts _ _ _ _ _ _).1 (fil_facts _ _ _ _ _ _).2.1 (fil_facts _ _ _ _ _ _).2.2.1 (fil_facts _ _ _ _ _ _).2.2.2 HA.out.2.2.2.2.2.1 v HA.out.2.2.2.2.2.2 P hP (zFil_par _ _ _ _ _ _ P)).mono ?_
  clear hP
  rintro _ w4 ⟨rfl, R1, R, h1, h2', h3, h4, h5⟩
  have H4 : Hid (SObj w4 (B + 1) 82 [.int .i8 0, .int .i8 0, .int .i8 0, .int .i8 0] ∧ SObj w4 (B + 1 + 1) 82 [.int .i8 0, .int .i8 0, .int .i8 0, .int .i8 0] ∧ SObj w4 (B + 1 + 1 + 1) 119 [.int .u8 0, .int .u8 0, .int .u8 0, .int .u8 0, .int .u8 0, .int .u8 0, .int .u8 0, .int .u8 0, .int .u8 0, .int .u8 0, .int .u8 0, .int .u8 0, .int .u8 0, .int .u8 0, .int .u8 0, .int .u8 0, .int .u8 0, .int .u8 0, .int .u8 0, .int .u8 0, .int .u8 0, .int .u8 0, .int .u8 0, .int .u8 0] ∧ SObj w4 (B + 1 + 1 + 1 + 1) 58 [.bool false, .bool false, .bool false, .bool false, .bool false, .bool false, .bool false, .bool false] ∧ At51.Rd R w4 g ao n c zs v.2 ∧ FilS (rFil u r s0 s1 s2 s3) R1 v.1.simple v.1.level v.1.sharp v.1.deltas v.1.ref v.1.mode ∧ (∀ i, i < 1188 → R i = R1 i) ∧ Par P R (if v.1.level = 0 then 0 else 8) ∧ Below B w w4) := Lib.hid (by
    obtain ⟨a1, a2, a3, a4, a5, a6⟩ := H3.out
    obtain ⟨eB, eg⟩ := HB.out
    exact ⟨a1.grown h5 (by intro c; injection c; omega), a2.grown h5 (by intro c; injection c; omega), a3.grown h5 (by intro c; injection c; omega), a4.grown h5 (by intro c; injection c; omega), h1, h2', h3, h4, a6.grown h5 (by have := a6.size; omega) (fun r hr => by injection hr with hr; omega)⟩)
  clear h1 h2' h3 h4 h5 H3
  obtain ⟨Q, hQ⟩ : ∃ Q : Nat → Nat → Int, Q = fun m k => if v.1.level = 0 then 0 else P m k := ⟨_, rfl⟩
  obtain ⟨inn, hinn⟩ : ∃ inn : Nat → Bool, inn = fun m => !decide (v.1.level = 0) && decide (m % 2 = 1) := ⟨_, rfl⟩
  have HQ := Lib.hid (And.intro hQ hinn); clear hQ hinn
  have HR : Hid (w4.rangeAt g 1188 (parL Q inn)) := Lib.hid (fun j x hx => by
    obtain ⟨hj, rfl⟩ := parL_at Q inn j x hx
    obtain ⟨eQ, ei⟩ := HQ.out
    have par := H4.out.2.2.2.2.2.2.2.1
    refine At51.FO.cell H4.out.2.2.2.2.1.obj (1188 + j) (by omega) ?_
    by_cases h3 : j % 4 = 3
    · rw [if_pos h3, show 1188 + j = 1188 + 4 * (j / 4) + 3 by omega, par.2 (j / 4) (by omega), ei]
      by_cases hl : v.1.level = 0
      · rw [if_pos hl]; simp [hl]
      · rw [if_neg hl]; simp [hl]; omega
    · rw [if_neg h3, show 1188 + j = 1188 + 4 * (j / 4) + j % 4 by omega, par.1 (j / 4) (j % 4) (by omega) (by omega), eQ]
      by_cases hl : v.1.level = 0
      · rw [if_pos hl, if_neg (by omega)]; simp [hl]
      · rw [if_neg hl, if_pos (by omega)]; simp [hl])
  have HL : Hid (FilL B Q inn w4 (2 * 0) w4) := Lib.hid ⟨(fd_of_obj H4.out.2.2.1).congr (dP_zero Q), (fd_of_obj H4.out.2.2.2.1).congr (dI_zero inn), Only.refl _ _⟩
  have HX : Hid (∀ p : Nat, p < 4 → ∀ w : World, (Instr.index 158 (.agg (parL Q inn).toArray) (.int .i64 p)).run Tryd.prog w = .ok (.agg (par8 Q inn p).toArray) w) := Lib.hid (idx158 Q inn)
  have HI : Hid ((Tryd.prog.info? 158).map (·.size) = some (parL Q inn).length) := Lib.hid (by rw [info158]; rfl)
  generalize parL Q inn = cs at HR HX HI
  go_wp2_with (first | (refine wpList_load_mid rfl 158 (.tmp 42) rfl g 1188 rfl cs _ HR.out Tryd.underlying158 rfl HI.out ?_))
  go_loopw [44] (fun i wr => ∃ p : Nat, p ≤ 4 ∧ i = .int .i64 p ∧ Hid (FilL B Q inn w4 (2 * p) wr)) (fun i _ => 4 - (intOf i).toNat)
  case atStart => exact ⟨0, by omega, rfl, HL⟩
  case round =>
    obtain ⟨p, hp, rfl, hR⟩ := hrel
    by_cases hlt : p < 4
    · have hix := HX.out p hlt
      have HX7 : Hid (∀ q : Nat, q < 2 → ∀ w : World, (Instr.index 157 (.agg (par8 Q inn p).toArray) (.int .i64 q)).run Tryd.prog w = .ok (.agg #[.int .u8 (Q (2 * p + q) 0), .int .u8 (Q (2 * p + q) 1), .int .u8 (Q (2 * p + q) 2), .bool (inn (2 * p + q))]) w) := Lib.hid (idx157 Q inn p)
      obtain ⟨wo, hwo⟩ : ∃ wo : World, wo = wr := ⟨_, rfl⟩
      subst hwo
      unfold par8 at hix HX7
      have HA8 := Lib.hid (hR.out.alloc (.cells #[.int .u8 (Q (2 * p) 0), .int .u8 (Q (2 * p) 1), .int .u8 (Q (2 * p) 2), .bool (inn (2 * p)), .int .u8 (Q (2 * p + 1) 0), .int .u8 (Q (2 * p + 1) 1), .int .u8 (Q (2 * p + 1) 2), .bool (inn (2 * p + 1))] 157))
      have hd : decide ((p : Int) < 4) = true := decide_eq_true (by omega)
      go_wp2
      go_loopw [49] (fun i wr => ∃ q : Nat, q ≤ 2 ∧ i = .int .i64 q ∧ Hid (FilL B Q inn w4 (2 * p + q) wr)) (fun i _ => 2 - (intOf i).toNat)
      case atStart => exact ⟨0, by omega, rfl, HA8⟩
      case round =>
        obtain ⟨q, hq, rfl, hQR⟩ := hrel
        by_cases hq2 : q < 2
        · have hix7 := HX7.out q hq2
          clear hix
          go_upto_region 11 with fail
          clear hd hix7
          have ip0 : (0 : Int) ≤ (p : Int) := by omega
          have ip1 : (p : Int) < 4 := by omega
          have iq0 : (0 : Int) ≤ (q : Int) := by omega
          have iq1 : (q : Int) < 2 := by omega
          obtain ⟨m, hm⟩ : ∃ m, m = 2 * p + q := ⟨_, rfl⟩
          rw [← hm]
          have H6 : Hid (SObj (wr.alloc (.cells #[.int .u8 (Q m 0), .int .u8 (Q m 1), .int .u8 (Q m 2), .bool (inn m)] 156)) wr.heap.size 156 [.int .u8 (Q m 0), .int .u8 (Q m 1), .int .u8 (Q m 2), .bool (inn m)] ∧ FilL B Q inn w4 m (wr.alloc (.cells #[.int .u8 (Q m 0), .int .u8 (Q m 1), .int .u8 (Q m 2), .bool (inn m)] 156)) ∧ B + 1 + 1 + 1 + 1 < wr.heap.size) := Lib.hid ⟨obj_new _ _ _, by rw [hm]; exact hQR.out.alloc _, hQR.out.2.1.1⟩
          have HM := Lib.hid (And.intro hm (show m < 8 by omega)); clear hm
          generalize World.alloc _ _ = w6 at H6 ⊢
          obtain ⟨h, hh⟩ : ∃ h, h = wr.heap.size := ⟨_, rfl⟩
          rw [← hh] at H6 ⊢
          clear hh
          have c0 : w6.cell? ⟨h, 0, none⟩ = some (.int .u8 (Q m 0)) := H6.out.1.cell 0 rfl
          have c1 : w6.cell? ⟨h, 1, none⟩ = some (.int .u8 (Q m 1)) := H6.out.1.cell 1 rfl
          have c2 : w6.cell? ⟨h, 2, none⟩ = some (.int .u8 (Q m 2)) := H6.out.1.cell 2 rfl
          have c3 : w6.cell? ⟨h, 3, none⟩ = some (.bool (inn m)) := H6.out.1.cell 3 rfl
          have n0 : B + 1 + 1 + 1 ≠ h := by have := H6.out.2.2; omega
          have n1 : B + 1 + 1 + 1 + 1 ≠ h := by have := H6.out.2.2; omega
          have HD : Hid (∀ k, k < 3 → w6.cell? ⟨B + 1 + 1 + 1, p * 6 + q * 3 + k, none⟩ = some (.int .u8 0)) := Lib.hid (fun k hk => by
            have := HM.out
            rw [H6.out.2.1.1.2.1]
            unfold dP
            rw [if_pos (by omega), if_neg (by omega)])
          have d0 : w6.cell? ⟨B + 1 + 1 + 1, p * 6 + q * 3, none⟩ = some (.int .u8 0) := HD.out 0 (by omega)
          have d1 : w6.cell? ⟨B + 1 + 1 + 1, p * 6 + q * 3 + 1, none⟩ = some (.int .u8 0) := HD.out 1 (by omega)
          have d2 : w6.cell? ⟨B + 1 + 1 + 1, p * 6 + q * 3 + 2, none⟩ = some (.int .u8 0) := HD.out 2 (by omega)
          have d3 : w6.cell? ⟨B + 1 + 1 + 1 + 1, p * 2 + q, none⟩ = some (.bool false) := by
            have := HM.out
            rw [H6.out.2.1.2.1.2.1]
            unfold dI
            rw [if_pos (by omega), decide_eq_false (by omega)]; rfl
          have f0 : w6.frozen? ⟨B + 1 + 1 + 1, p * 6 + q * 3, none⟩ = false := H6.out.2.1.1.2.2 _
          have f1 : w6.frozen? ⟨B + 1 + 1 + 1, p * 6 + q * 3 + 1, none⟩ = false := H6.out.2.1.1.2.2 _
          have f2 : w6.frozen? ⟨B + 1 + 1 + 1, p * 6 + q * 3 + 2, none⟩ = false := H6.out.2.1.1.2.2 _
          have f3 : w6.frozen? ⟨B + 1 + 1 + 1 + 1, p * 2 + q, none⟩ = false := H6.out.2.1.2.1.2.2 _
          have HN : Hid (FilL B Q inn w4 (2 * p + (q + 1)) ((((w6.setCell ⟨B + 1 + 1 + 1, p * 6 + q * 3, none⟩ (.int .u8 (Q m 0))).setCell ⟨B + 1 + 1 + 1, p * 6 + q * 3 + 1, none⟩ (.int .u8 (Q m 1))).setCell ⟨B + 1 + 1 + 1, p * 6 + q * 3 + 2, none⟩ (.int .u8 (Q m 2))).setCell ⟨B + 1 + 1 + 1 + 1, p * 2 + q, none⟩ (.bool (inn m))).drew) := Lib.hid (by
            obtain ⟨em, e8⟩ := HM.out
            obtain ⟨x1, x2, x3⟩ := H6.out.2.1
            have y1 := dP_step x1 (o := p * 6 + q * 3) (by omega) e8
            have y2 := dI_step (((x2.grown (grownBy_setCell _ ⟨B + 1 + 1 + 1, p * 6 + q * 3, none⟩ (.int .u8 (Q m 0))) (by intro c; injection c with c; simp only at c; omega)).grown (grownBy_setCell _ ⟨B + 1 + 1 + 1, p * 6 + q * 3 + 1, none⟩ (.int .u8 (Q m 1))) (by intro c; injection c with c; simp only at c; omega)).grown (grownBy_setCell _ ⟨B + 1 + 1 + 1, p * 6 + q * 3 + 2, none⟩ (.int .u8 (Q m 2))) (by intro c; injection c with c; simp only at c; omega)) e8
            have e2 : p * 2 + q = m := by omega
            rw [e2, show 2 * p + (q + 1) = m + 1 by omega]
            refine ⟨(y1.grown (grownBy_setCell _ ⟨B + 1 + 1 + 1 + 1, m, none⟩ (.bool (inn m))) (by intro c; injection c with c; simp only at c; omega)).grown (grownBy_drewN _ 1 none) (by intro c; cases c), y2.grown (grownBy_drewN _ 1 none) (by intro c; cases c), Only.dr ?_⟩
            exact (((x3.tr (Only.setCell _ _ _ (.inl rfl))).tr (Only.setCell _ _ _ (.inl rfl))).tr (Only.setCell _ _ _ (.inl rfl))).tr (Only.setCell _ _ _ (.inr rfl)))
          go_region_held3 (fun w' => w'.cell? ⟨h, 0, none⟩ = some (.int .u8 (Q m 0)) ∧ w'.cell? ⟨h, 1, none⟩ = some (.int .u8 (Q m 1)) ∧ w'.cell? ⟨h, 2, none⟩ = some (.int .u8 (Q m 2)) ∧ w'.cell? ⟨h, 3, none⟩ = some (.bool (inn m))) (first | (simp only [drew_cell, far_cell n0, far_cell n1]; exact ⟨c0, c1, c2, c3⟩)) (first | fail)
          all_goals
            go_wp2
            go_roundw
            case rel => first | exact ⟨q + 1, by omega, by go_num, HN⟩ | ((repeat apply Exists.intro); refine ⟨?_, rfl⟩; exact ⟨q + 1, by omega, by go_num, HN⟩)
            case measure => simp [intOf]; omega
        · obtain rfl : q = 2 := by omega
          go_wp2
          go_roundw
          case rel => exact ⟨p + 1, by omega, by go_num, hQR⟩
          case measure => simp [intOf]; omega
    · obtain rfl : p = 4 := by omega
      have HF0 : Hid (At51.FO R wr g [.slice ao n c, .int .i64 v.2.r, .int .u32 v.2.m, .int .u32 v.2.b, .int .u8 v.2.nb, .bool v.2.eof] ∧ SObj wr (B + 1) 82 [.int .i8 0, .int .i8 0, .int .i8 0, .int .i8 0] ∧ SObj wr (B + 1 + 1) 82 [.int .i8 0, .int .i8 0, .int .i8 0, .int .i8 0]) := Lib.hid (by
        obtain ⟨a1, a2, _, _, a5, _⟩ := H4.out
        obtain ⟨_, _, ho⟩ := hR.out
        obtain ⟨eB, eg⟩ := HB.out
        have hbl := ho.block g (At51.FO.lt a5.obj) (by intro c; rcases c with c | c <;> omega)
        exact ⟨At51.FO.blk a5.obj ho.size hbl (fun i => World.frozen?_of_block hbl), a1.only ho (by intro c; rcases c with c | c <;> omega), a2.only ho (by intro c; rcases c with c | c <;> omega)⟩)
      have HS : Hid (∀ i, i < 1188 → ∀ x, i < 51 ∨ 57 ≤ i → R1 i = some x → wr.cell? ⟨g, i, none⟩ = some x) := Lib.hid (fun i hi x h5 hx => At51.FO.cell HF0.out.1 i h5 (by rw [H4.out.2.2.2.2.2.2.1 i hi]; exact hx))
      obtain ⟨x0, hx0⟩ := H4.out.2.2.2.2.2.1.per 0 (by omega)
      obtain ⟨x1, hx1⟩ := H4.out.2.2.2.2.2.1.per 1 (by omega)
      obtain ⟨x2, hx2⟩ := H4.out.2.2.2.2.2.1.per 2 (by omega)
      obtain ⟨x3, hx3⟩ := H4.out.2.2.2.2.2.1.per 3 (by omega)
      have HXS := Lib.hid (And.intro hx0 (And.intro hx1 (And.intro hx2 hx3))); clear hx0 hx1 hx2 hx3
      have HH := Lib.hid H4.out.2.2.2.2.2.1
      obtain ⟨sm, hsm⟩ : ∃ y, y = v.1.simple := ⟨_, rfl⟩
      obtain ⟨lv, hlv⟩ : ∃ y, y = v.1.level := ⟨_, rfl⟩
      obtain ⟨sh, hsh⟩ : ∃ y, y = v.1.sharp := ⟨_, rfl⟩
      obtain ⟨dl, hdl⟩ : ∃ y, y = v.1.deltas := ⟨_, rfl⟩
      obtain ⟨rf, hrf⟩ : ∃ y, y = v.1.ref := ⟨_, rfl⟩
      obtain ⟨md, hmd⟩ : ∃ y, y = v.1.mode := ⟨_, rfl⟩
      obtain ⟨eof, heof⟩ : ∃ y, y = v.2.eof := ⟨_, rfl⟩
      have HFL : Hid (FilS (rFil u r s0 s1 s2 s3) R1 sm lv sh dl rf md) := by rw [hsm, hlv, hsh, hdl, hrf, hmd]; exact HH
      have HV := Lib.hid (And.intro hsm (And.intro hlv (And.intro hsh (And.intro hdl (And.intro hrf (And.intro hmd heof)))))); clear hsm hlv hsh hdl hrf hmd heof
      have k0 : wr.cell? ⟨g, 35, none⟩ = some (.bool sm) := HS.out 35 (by omega) _ (by omega) HFL.out.sm
      have k1 : wr.cell? ⟨g, 36, none⟩ = some (.int .i8 lv) := HS.out 36 (by omega) _ (by omega) HFL.out.lv
      have k2 : wr.cell? ⟨g, 37, none⟩ = some (.int .u8 sh) := HS.out 37 (by omega) _ (by omega) HFL.out.sh
      have k3 : wr.cell? ⟨g, 38, none⟩ = some (.bool dl) := HS.out 38 (by omega) _ (by omega) HFL.out.dl
      have k4 : wr.cell? ⟨g, 39, none⟩ = some (.int .i8 (rf 0)) := HS.out 39 (by omega) _ (by omega) (HFL.out.rf 0 (by omega))
      have k5 : wr.cell? ⟨g, 40, none⟩ = some (.int .i8 (rf 1)) := HS.out 40 (by omega) _ (by omega) (HFL.out.rf 1 (by omega))
      have k6 : wr.cell? ⟨g, 41, none⟩ = some (.int .i8 (rf 2)) := HS.out 41 (by omega) _ (by omega) (HFL.out.rf 2 (by omega))
      have k7 : wr.cell? ⟨g, 42, none⟩ = some (.int .i8 (rf 3)) := HS.out 42 (by omega) _ (by omega) (HFL.out.rf 3 (by omega))
      have k8 : wr.cell? ⟨g, 43, none⟩ = some (.int .i8 (md 0)) := HS.out 43 (by omega) _ (by omega) (HFL.out.md 0 (by omega))
      have k9 : wr.cell? ⟨g, 44, none⟩ = some (.int .i8 (md 1)) := HS.out 44 (by omega) _ (by omega) (HFL.out.md 1 (by omega))
      have k10 : wr.cell? ⟨g, 45, none⟩ = some (.int .i8 (md 2)) := HS.out 45 (by omega) _ (by omega) (HFL.out.md 2 (by omega))
      have k11 : wr.cell? ⟨g, 46, none⟩ = some (.int .i8 (md 3)) := HS.out 46 (by omega) _ (by omega) (HFL.out.md 3 (by omega))
      have k12 : wr.cell? ⟨g, 47, none⟩ = some (.int .i8 x0) := HS.out 47 (by omega) _ (by omega) HXS.out.1
      have k13 : wr.cell? ⟨g, 48, none⟩ = some (.int .i8 x1) := HS.out 48 (by omega) _ (by omega) HXS.out.2.1
      have k14 : wr.cell? ⟨g, 49, none⟩ = some (.int .i8 x2) := HS.out 49 (by omega) _ (by omega) HXS.out.2.2.1
      have k15 : wr.cell? ⟨g, 50, none⟩ = some (.int .i8 x3) := HS.out 50 (by omega) _ (by omega) HXS.out.2.2.2
      have H5 : Hid (SObj (wr.alloc (.cells #[.bool sm, .int .i8 lv, .int .u8 sh, .bool dl, .int .i8 (rf 0), .int .i8 (rf 1), .int .i8 (rf 2), .int .i8 (rf 3), .int .i8 (md 0), .int .i8 (md 1), .int .i8 (md 2), .int .i8 (md 3), .int .i8 x0, .int .i8 x1, .int .i8 x2, .int .i8 x3] 144)) wr.heap.size 144 [.bool sm, .int .i8 lv, .int .u8 sh, .bool dl, .int .i8 (rf 0), .int .i8 (rf 1), .int .i8 (rf 2), .int .i8 (rf 3), .int .i8 (md 0), .int .i8 (md 1), .int .i8 (md 2), .int .i8 (md 3), .int .i8 x0, .int .i8 x1, .int .i8 x2, .int .i8 x3] ∧ Below wr.heap.size wr (wr.alloc (.cells #[.bool sm, .int .i8 lv, .int .u8 sh, .bool dl, .int .i8 (rf 0), .int .i8 (rf 1), .int .i8 (rf 2), .int .i8 (rf 3), .int .i8 (md 0), .int .i8 (md 1), .int .i8 (md 2), .int .i8 (md 3), .int .i8 x0, .int .i8 x1, .int .i8 x2, .int .i8 x3] 144))) := Lib.hid ⟨obj_new _ _ _, (Below.refl _ _).alloc (Nat.le_refl _) _⟩
      go_upto_region 15 with fail
      generalize World.alloc _ _ = w7 at H5 ⊢
      obtain ⟨h, hh⟩ : ∃ h, h = wr.heap.size := ⟨_, rfl⟩
      rw [← hh] at H5 ⊢
      have H7 : Hid (SObj w7 h 144 [.bool sm, .int .i8 lv, .int .u8 sh, .bool dl, .int .i8 (rf 0), .int .i8 (rf 1), .int .i8 (rf 2), .int .i8 (rf 3), .int .i8 (md 0), .int .i8 (md 1), .int .i8 (md 2), .int .i8 (md 3), .int .i8 x0, .int .i8 x1, .int .i8 x2, .int .i8 x3] ∧ FD (dP Q 8) w7 (B + 1 + 1 + 1) ∧ FD (dI inn 8) w7 (B + 1 + 1 + 1 + 1) ∧ SObj w7 (B + 1) 82 [.int .i8 0, .int .i8 0, .int .i8 0, .int .i8 0] ∧ SObj w7 (B + 1 + 1) 82 [.int .i8 0, .int .i8 0, .int .i8 0, .int .i8 0] ∧ Below B w w7 ∧ B + 1 + 1 + 1 + 1 < h ∧ g < h ∧ w7.cell? ⟨g, 56, none⟩ = some (.bool eof)) := Lib.hid (by
        obtain ⟨a1, a2⟩ := H5.out
        obtain ⟨b1, b2, b3⟩ := hR.out
        obtain ⟨c1, c2, c3⟩ := HF0.out
        obtain ⟨eB, eg⟩ := HB.out
        have hg0 : w7.grownBy wr none → True := fun _ => trivial
        have a3 : wr.grownBy w7 none := by rw [hh] at a2; exact grown_of_below a2 none
        have l1 := b2.1
        have l2 := At51.FO.lt c1
        have hW := H4.out.2.2.2.2.2.2.2.2
        have hsz := hW.size
        refine ⟨a1, b1.grown a3 (by intro c; cases c), b2.grown a3 (by intro c; cases c), c2.grown a3 (by intro c; cases c), c3.grown a3 (by intro c; cases c), ?_, by omega, by omega, ?_⟩
        · have y1 : Below B w4 wr := b3.below (by have := h2; omega) (by intro k hk; rcases hk with hk | hk <;> omega)
          exact (hW.trans y1).trans (a2.mono (by omega))
        · rw [a2.cell (p := ⟨g, 56, none⟩) (by show g < h; omega)]
          have := c1.2.1 5 _ (by decide) rfl
          rw [HV.out.2.2.2.2.2.2]; exact this)
      clear H5 hh HS HF0 k0 k1 k2 k3 k4 k5 k6 k7 k8 k9 k10 k11 k12 k13 k14 k15
      have n0 : B + 1 ≠ h := by have := H7.out.2.2.2.2.2.2.1; omega
      have n1 : B + 1 + 1 ≠ h := by have := H7.out.2.2.2.2.2.2.1; omega
      have n2 : B + 1 + 1 + 1 ≠ h := by have := H7.out.2.2.2.2.2.2.1; omega
      have n3 : B + 1 + 1 + 1 + 1 ≠ h := by have := H7.out.2.2.2.2.2.2.1; omega
      have m0 : B + 1 ≠ g := by have := HB.out; omega
      have m1 : B + 1 + 1 ≠ g := by have := HB.out; omega
      have m2 : B + 1 + 1 + 1 ≠ g := by have := HB.out; omega
      have m3 : B + 1 + 1 + 1 + 1 ≠ g := by have := HB.out; omega
      have l0 : B + 1 ≠ B + 1 + 1 + 1 := by omega
      have l1 : B + 1 ≠ B + 1 + 1 + 1 + 1 := by omega
      have l2 : B + 1 + 1 ≠ B + 1 + 1 + 1 := by omega
      have l3 : B + 1 + 1 ≠ B + 1 + 1 + 1 + 1 := by omega
      have l4 : B + 1 + 1 + 1 ≠ B + 1 + 1 + 1 + 1 := by omega
      have l5 : B + 1 + 1 + 1 + 1 ≠ B + 1 + 1 + 1 := by omega
      have ce : w7.cell? ⟨g, 56, none⟩ = some (.bool eof) := H7.out.2.2.2.2.2.2.2.2
      have c0 : w7.cell? ⟨h, 0, none⟩ = some (.bool sm) := H7.out.1.cell 0 rfl
      have c1 : w7.cell? ⟨h, 1, none⟩ = some (.int .i8 lv) := H7.out.1.cell 1 rfl
      have c2 : w7.cell? ⟨h, 2, none⟩ = some (.int .u8 sh) := H7.out.1.cell 2 rfl
      have c3 : w7.cell? ⟨h, 3, none⟩ = some (.bool dl) := H7.out.1.cell 3 rfl
      have c4 : w7.cell? ⟨h, 4, none⟩ = some (.int .i8 (rf 0)) := H7.out.1.cell 4 rfl
      have c5 : w7.cell? ⟨h, 5, none⟩ = some (.int .i8 (rf 1)) := H7.out.1.cell 5 rfl
      have c6 : w7.cell? ⟨h, 6, none⟩ = some (.int .i8 (rf 2)) := H7.out.1.cell 6 rfl
      have c7 : w7.cell? ⟨h, 7, none⟩ = some (.int .i8 (rf 3)) := H7.out.1.cell 7 rfl
      have c8 : w7.cell? ⟨h, 8, none⟩ = some (.int .i8 (md 0)) := H7.out.1.cell 8 rfl
      have c9 : w7.cell? ⟨h, 9, none⟩ = some (.int .i8 (md 1)) := H7.out.1.cell 9 rfl
      have c10 : w7.cell? ⟨h, 10, none⟩ = some (.int .i8 (md 2)) := H7.out.1.cell 10 rfl
      have c11 : w7.cell? ⟨h, 11, none⟩ = some (.int .i8 (md 3)) := H7.out.1.cell 11 rfl
      have a0 : w7.cell? ⟨B + 1, 0, none⟩ = some (.int .i8 0) := H7.out.2.2.2.1.cell 0 rfl
      have az0 : w7.frozen? ⟨B + 1, 0, none⟩ = false := H7.out.2.2.2.1.free 0
      have b0 : w7.cell? ⟨B + 1 + 1, 0, none⟩ = some (.int .i8 0) := H7.out.2.2.2.2.1.cell 0 rfl
      have bz0 : w7.frozen? ⟨B + 1 + 1, 0, none⟩ = false := H7.out.2.2.2.2.1.free 0
      have a1 : w7.cell? ⟨B + 1, 1, none⟩ = some (.int .i8 0) := H7.out.2.2.2.1.cell 1 rfl
      have az1 : w7.frozen? ⟨B + 1, 1, none⟩ = false := H7.out.2.2.2.1.free 1
      have b1 : w7.cell? ⟨B + 1 + 1, 1, none⟩ = some (.int .i8 0) := H7.out.2.2.2.2.1.cell 1 rfl
      have bz1 : w7.frozen? ⟨B + 1 + 1, 1, none⟩ = false := H7.out.2.2.2.2.1.free 1
      have a2 : w7.cell? ⟨B + 1, 2, none⟩ = some (.int .i8 0) := H7.out.2.2.2.1.cell 2 rfl
      have az2 : w7.frozen? ⟨B + 1, 2, none⟩ = false := H7.out.2.2.2.1.free 2
      have b2 : w7.cell? ⟨B + 1 + 1, 2, none⟩ = some (.int .i8 0) := H7.out.2.2.2.2.1.cell 2 rfl
      have bz2 : w7.frozen? ⟨B + 1 + 1, 2, none⟩ = false := H7.out.2.2.2.2.1.free 2
      have a3 : w7.cell? ⟨B + 1, 3, none⟩ = some (.int .i8 0) := H7.out.2.2.2.1.cell 3 rfl
      have az3 : w7.frozen? ⟨B + 1, 3, none⟩ = false := H7.out.2.2.2.1.free 3
      have b3 : w7.cell? ⟨B + 1 + 1, 3, none⟩ = some (.int .i8 0) := H7.out.2.2.2.2.1.cell 3 rfl
      have bz3 : w7.frozen? ⟨B + 1 + 1, 3, none⟩ = false := H7.out.2.2.2.2.1.free 3
      obtain ⟨cs4, hcs4⟩ : ∃ cs, cs = dPL Q := ⟨_, rfl⟩
      obtain ⟨cs5, hcs5⟩ : ∃ cs, cs = dIL inn := ⟨_, rfl⟩
      have F4 : Fix (B + 1 + 1 + 1) cs4 w7 := by rw [hcs4]; exact fix_of_fd H7.out.2.1 (dPL_at Q)
      have F5 : Fix (B + 1 + 1 + 1 + 1) cs5 w7 := by rw [hcs5]; exact fix_of_fd H7.out.2.2.1 (dIL_at inn)
      have HCS := Lib.hid (And.intro hcs4 hcs5); clear hcs4 hcs5
      have HI4 : (Tryd.prog.info? 119).map (·.size) = some cs4.length := by rw [info119, HCS.out.1]; rfl
      have HI5 : (Tryd.prog.info? 58).map (·.size) = some cs5.length := by rw [info58, HCS.out.2]; rfl
      have HO4 : cs4.toArray.all (·.oneCell') = true := by rw [HCS.out.1]; simp [dPL, Value.oneCell']
      have HO5 : cs5.toArray.all (·.oneCell') = true := by rw [HCS.out.2]; simp [dIL, Value.oneCell']
      have HI4 := Lib.hid HI4
      have HI5 := Lib.hid HI5
      have HO4 := Lib.hid HO4
      have HO5 := Lib.hid HO5
      refine wp_region_noPanic ?_
      refine wp_region_held_drew (S := fun w' => Held w' ∧ w'.cell? ⟨h, 0, none⟩ = some (.bool sm) ∧ w'.cell? ⟨h, 1, none⟩ = some (.int .i8 lv) ∧ w'.cell? ⟨h, 2, none⟩ = some (.int .u8 sh) ∧ w'.cell? ⟨h, 3, none⟩ = some (.bool dl) ∧ w'.cell? ⟨h, 4, none⟩ = some (.int .i8 (rf 0)) ∧ w'.cell? ⟨h, 5, none⟩ = some (.int .i8 (rf 1)) ∧ w'.cell? ⟨h, 6, none⟩ = some (.int .i8 (rf 2)) ∧ w'.cell? ⟨h, 7, none⟩ = some (.int .i8 (rf 3)) ∧ w'.cell? ⟨h, 8, none⟩ = some (.int .i8 (md 0)) ∧ w'.cell? ⟨h, 9, none⟩ = some (.int .i8 (md 1)) ∧ w'.cell? ⟨h, 10, none⟩ = some (.int .i8 (md 2)) ∧ w'.cell? ⟨h, 11, none⟩ = some (.int .i8 (md 3)) ∧ Fix (B + 1 + 1 + 1) cs4 w' ∧ Fix (B + 1 + 1 + 1 + 1) cs5 w' ∧ w'.cell? ⟨g, 56, none⟩ = some (.bool eof)) (by kernel_rfl) ?_ (fun hHeld => ?_)
      · (simp only [drew_cell, far_cell n0, far_cell n1, far_cell m0, far_cell m1, fix_drew, fix_far l0, fix_far l1, fix_far l2, fix_far l3, c0, c1, c2, c3, c4, c5, c6, c7, c8, c9, c10, c11, F4, F5, ce, held_true, and_self])
      refine wpAnyH_take (i := 0) (oi := ⟨some 76, _, _, _, _, _⟩) (v := ?_) rfl (by kernel_rfl) (by kernel_rfl) (by kernel_rfl) (fun _ _ _ h => h) (Or.inl ⟨by rfl, ?_⟩) (by assumption) ?_
      rotate_left
      · intro w hSw; (try dsimp only at hSw); go_simp; (try with_reducible rfl)
      (try simp only [Act.put, List.setIfInBounds_toArray, List.set_cons_zero, List.set_cons_succ])
      refine wpAnyH_take (i := 1) (oi := ⟨some 77, _, _, _, _, _⟩) (v := ?_) rfl (by kernel_rfl) (by kernel_rfl) (by kernel_rfl) (fun _ _ _ h => h) (Or.inl ⟨by rfl, ?_⟩) (by assumption) ?_
      rotate_left
      · intro w hSw; (try dsimp only at hSw); go_simp; (try with_reducible rfl)
      (try simp only [Act.put, List.setIfInBounds_toArray, List.set_cons_zero, List.set_cons_succ])
      refine wpAnyH_take (i := 2) (oi := ⟨some 78, _, _, _, _, _⟩) (v := ?_) rfl (by kernel_rfl) (by kernel_rfl) (by kernel_rfl) (fun _ _ _ h => h) (Or.inl ⟨by rfl, ?_⟩) (by assumption) ?_
      rotate_left
      · intro w hSw; (try dsimp only at hSw); go_simp; (try with_reducible rfl)
      (try simp only [Act.put, List.setIfInBounds_toArray, List.set_cons_zero, List.set_cons_succ])
      refine wpAnyH_take (i := 3) (oi := ⟨some 79, _, _, _, _, _⟩) (v := ?_) rfl (by kernel_rfl) (by kernel_rfl) (by kernel_rfl) (fun _ _ _ h => h) (Or.inl ⟨by rfl, ?_⟩) (by assumption) ?_
      rotate_left
      · intro w hSw; (try dsimp only at hSw); go_simp; (try with_reducible rfl)
      (try simp only [Act.put, List.setIfInBounds_toArray, List.set_cons_zero, List.set_cons_succ])
      refine wpAnyH_take (i := 4) (oi := ⟨some 80, _, _, _, _, _⟩) (v := ?_) rfl (by kernel_rfl) (by kernel_rfl) (by kernel_rfl) (fun _ _ _ h => h) (Or.inl ⟨by rfl, ?_⟩) (by assumption) ?_
      rotate_left
      · intro w hSw; (try dsimp only at hSw); go_simp; (try with_reducible rfl)
      (try simp only [Act.put, List.setIfInBounds_toArray, List.set_cons_zero, List.set_cons_succ])
      refine wpAnyH_take (i := 5) (oi := ⟨some 81, _, _, _, _, _⟩) (v := ?_) rfl (by kernel_rfl) (by kernel_rfl) (by kernel_rfl) (fun _ _ _ h => h) (Or.inl ⟨by rfl, ?_⟩) (by assumption) ?_
      rotate_left
      · intro w hSw; (try dsimp only at hSw); go_simp; (try with_reducible rfl)
      (try simp only [Act.put, List.setIfInBounds_toArray, List.set_cons_zero, List.set_cons_succ])
      refine wpAnyH_take (i := 6) (oi := ⟨some 82, _, _, _, _, _⟩) (v := ?_) rfl (by kernel_rfl) (by kernel_rfl) (by kernel_rfl) (fun _ _ _ h => h) (Or.inl ⟨by rfl, ?_⟩) (by assumption) ?_
      rotate_left
      · intro w hSw; (try dsimp only at hSw); go_simp; (try with_reducible rfl)
      (try simp only [Act.put, List.setIfInBounds_toArray, List.set_cons_zero, List.set_cons_succ])
      refine wpAnyH_take (i := 7) (oi := ⟨some 83, _, _, _, _, _⟩) (v := ?_) rfl (by kernel_rfl) (by kernel_rfl) (by kernel_rfl) (fun _ _ _ h => h) (Or.inl ⟨by rfl, ?_⟩) (by assumption) ?_
      rotate_left
      · intro w hSw; (try dsimp only at hSw); go_simp; (try with_reducible rfl)
      (try simp only [Act.put, List.setIfInBounds_toArray, List.set_cons_zero, List.set_cons_succ])
      refine wpAnyH_take (i := 8) (oi := ⟨some 84, _, _, _, _, _⟩) (v := ?_) rfl (by kernel_rfl) (by kernel_rfl) (by kernel_rfl) (fun _ _ _ h => h) (Or.inl ⟨by rfl, ?_⟩) (by assumption) ?_
      rotate_left
      · intro w hSw; (try dsimp only at hSw); go_simp; (try with_reducible rfl)
      (try simp only [Act.put, List.setIfInBounds_toArray, List.set_cons_zero, List.set_cons_succ])
      refine wpAnyH_take (i := 9) (oi := ⟨some 85, _, _, _, _, _⟩) (v := ?_) rfl (by kernel_rfl) (by kernel_rfl) (by kernel_rfl) (fun _ _ _ h => h) (Or.inl ⟨by rfl, ?_⟩) (by assumption) ?_
      rotate_left
      · intro w hSw; (try dsimp only at hSw); go_simp; (try with_reducible rfl)
      (try simp only [Act.put, List.setIfInBounds_toArray, List.set_cons_zero, List.set_cons_succ])
      refine wpAnyH_take (i := 10) (oi := ⟨some 86, _, _, _, _, _⟩) (v := ?_) rfl (by kernel_rfl) (by kernel_rfl) (by kernel_rfl) (fun _ _ _ h => h) (Or.inl ⟨by rfl, ?_⟩) (by assumption) ?_
      rotate_left
      · intro w hSw; (try dsimp only at hSw); go_simp; (try with_reducible rfl)
      (try simp only [Act.put, List.setIfInBounds_toArray, List.set_cons_zero, List.set_cons_succ])
      refine wpAnyH_take (i := 11) (oi := ⟨some 87, _, _, _, _, _⟩) (v := ?_) rfl (by kernel_rfl) (by kernel_rfl) (by kernel_rfl) (fun _ _ _ h => h) (Or.inl ⟨by rfl, ?_⟩) (by assumption) ?_
      rotate_left
      · intro w hSw; (try dsimp only at hSw); go_simp; (try with_reducible rfl)
      (try simp only [Act.put, List.setIfInBounds_toArray, List.set_cons_zero, List.set_cons_succ])
      refine' wpAnyH_take (i := 12) (oi := ⟨some 88, .load 119 (.tmp 14), _, _, _, none⟩) (v := _) rfl (by kernel_rfl) (by kernel_rfl) (by kernel_rfl) (fun _ _ _ h => h) (yieldsIf_load_mid ?hw 119 (.tmp 14) ?ho (B + 1 + 1 + 1) 0 ?hx cs4 _ ?hS ?hu ?hd ?hi) (by assumption) ?rest
      case hw => kernel_rfl
      case ho => rfl
      case hx => kernel_rfl
      case hS => (intro w hSw; (try dsimp only at hSw); exact (hSw.2.2.2.2.2.2.2.2.2.2.2.2.2.1).1)
      case hu => exact Tryd.underlying119
      case hd => rfl
      case hi => exact HI4.out
      (try simp only [Act.put, List.setIfInBounds_toArray, List.set_cons_zero, List.set_cons_succ])
      refine' wpAnyH_take (i := 13) (oi := ⟨some 89, .load 58 (.tmp 15), _, _, _, none⟩) (v := _) rfl (by kernel_rfl) (by kernel_rfl) (by kernel_rfl) (fun _ _ _ h => h) (yieldsIf_load_mid ?hw5 58 (.tmp 15) ?ho5 (B + 1 + 1 + 1 + 1) 0 ?hx5 cs5 _ ?hS5 ?hu5 ?hd5 ?hi5) (by assumption) ?rest5
      case hw5 => kernel_rfl
      case ho5 => rfl
      case hx5 => kernel_rfl
      case hS5 => (intro w hSw; (try dsimp only at hSw); exact (hSw.2.2.2.2.2.2.2.2.2.2.2.2.2.2.1).1)
      case hu5 => exact Tryd.underlying58
      case hd5 => rfl
      case hi5 => exact HI5.out
      (try simp only [Act.put, List.setIfInBounds_toArray, List.set_cons_zero, List.set_cons_succ])
      refine wpAnyH_take (i := 14) (oi := ⟨some 90, _, _, _, _, _⟩) (v := ?_) rfl (by kernel_rfl) (by kernel_rfl) (by kernel_rfl) (fun _ _ _ h => h) (Or.inl ⟨by rfl, ?_⟩) (by assumption) ?_
      rotate_left
      · intro w hSw; (try dsimp only at hSw); go_simp; (try with_reducible rfl)
      (try simp only [Act.put, List.setIfInBounds_toArray, List.set_cons_zero, List.set_cons_succ])
      refine wpAnyH_take (i := 15) (oi := ⟨some 91, _, _, _, _, _⟩) (v := ?_) rfl (by kernel_rfl) (by kernel_rfl) (by kernel_rfl) (fun _ _ _ h => h) (Or.inl ⟨by rfl, ?_⟩) (by assumption) ?_
      rotate_left
      · intro w hSw; (try dsimp only at hSw); go_simp; (try with_reducible rfl)
      (try simp only [Act.put, List.setIfInBounds_toArray, List.set_cons_zero, List.set_cons_succ])
      refine wpAnyH_take (i := 16) (oi := ⟨some 92, _, _, _, _, _⟩) (v := ?_) rfl (by kernel_rfl) (by kernel_rfl) (by kernel_rfl) (fun _ _ _ h => h) (Or.inl ⟨by rfl, ?_⟩) (by assumption) ?_
      rotate_left
      · intro w hSw; (try dsimp only at hSw); go_simp; (try with_reducible rfl)
      (try simp only [Act.put, List.setIfInBounds_toArray, List.set_cons_zero, List.set_cons_succ])
      refine wpAnyH_take (i := 17) (oi := ⟨some 93, _, _, _, _, _⟩) (v := ?_) rfl (by kernel_rfl) (by kernel_rfl) (by kernel_rfl) (fun _ _ _ h => h) (Or.inl ⟨by rfl, ?_⟩) (by assumption) ?_
      rotate_left
      · intro w hSw; (try dsimp only at hSw); go_simp; (try with_reducible rfl)
      (try simp only [Act.put, List.setIfInBounds_toArray, List.set_cons_zero, List.set_cons_succ])
      refine wpAnyH_take (i := 18) (oi := ⟨some 94, _, _, _, _, _⟩) (v := ?_) rfl (by kernel_rfl) (by kernel_rfl) (by kernel_rfl) (fun _ _ _ h => h) (Or.inl ⟨by rfl, ?_⟩) (by assumption) ?_
      rotate_left
      · intro w hSw; (try dsimp only at hSw); go_simp; (try with_reducible rfl)
      (try simp only [Act.put, List.setIfInBounds_toArray, List.set_cons_zero, List.set_cons_succ])
      refine wpAnyH_take (i := 19) (oi := ⟨some 8, _, _, _, _, _⟩) (v := ?_) rfl (by kernel_rfl) (by kernel_rfl) (by kernel_rfl) (fun _ _ _ h => h) (Or.inl ⟨by rfl, ?_⟩) (by assumption) ?_
      rotate_left
      · intro w hSw; (try dsimp only at hSw); go_simp; (try with_reducible rfl)
      (try simp only [Act.put, List.setIfInBounds_toArray, List.set_cons_zero, List.set_cons_succ])
      refine wpAnyH_take (i := 20) (oi := ⟨some 9, _, _, _, _, _⟩) (v := ?_) rfl (by kernel_rfl) (by kernel_rfl) (by kernel_rfl) (fun _ _ _ h => h) (Or.inl ⟨by rfl, ?_⟩) (by assumption) ?_
      rotate_left
      · intro w hSw; (try dsimp only at hSw); go_simp; (try with_reducible rfl)
      (try simp only [Act.put, List.setIfInBounds_toArray, List.set_cons_zero, List.set_cons_succ])
      refine wpAnyH_take (i := 21) (oi := ⟨some 10, _, _, _, _, _⟩) (v := ?_) rfl (by kernel_rfl) (by kernel_rfl) (by kernel_rfl) (fun _ _ _ h => h) (Or.inl ⟨by rfl, ?_⟩) (by assumption) ?_
      rotate_left
      · intro w hSw; (try dsimp only at hSw); go_simp; (try with_reducible rfl)
      (try simp only [Act.put, List.setIfInBounds_toArray, List.set_cons_zero, List.set_cons_succ])
      refine wpAnyH_take (i := 22) (oi := ⟨some 11, _, _, _, _, _⟩) (v := ?_) rfl (by kernel_rfl) (by kernel_rfl) (by kernel_rfl) (fun _ _ _ h => h) (Or.inl ⟨by rfl, ?_⟩) (by assumption) ?_
      rotate_left
      · intro w hSw; (try dsimp only at hSw); go_simp; (try with_reducible rfl)
      (try simp only [Act.put, List.setIfInBounds_toArray, List.set_cons_zero, List.set_cons_succ])
      refine wpAnyH_ready (rs := [23]) (by kernel_rfl) (by simp) ?_
      refine AllReadyH.cons (o := ⟨none, .store 82 (.tmp 12) (.tmp 85), _, _, _, none⟩) rfl (fun K hK => ?_) AllReadyH.nil
      go_simp
      refine hK.out _ _ (by (try dsimp only); (simp only [drew_cell, far_cell n0, far_cell n1, far_cell m0, far_cell m1, fix_drew, fix_far l0, fix_far l1, fix_far l2, fix_far l3, c0, c1, c2, c3, c4, c5, c6, c7, c8, c9, c10, c11, F4, F5, ce, held_true, and_self])) (fun hHeld23 => ?_)
      clear hK K hHeld
      (try simp only [Act.put, List.setIfInBounds_toArray, List.set_cons_zero, List.set_cons_succ])
      refine wpAnyH_ready (rs := [24]) (by kernel_rfl) (by simp) ?_
      refine AllReadyH.cons (o := ⟨none, .store 82 (.tmp 13) (.tmp 87), _, _, _, none⟩) rfl (fun K hK => ?_) AllReadyH.nil
      go_simp
      refine hK.out _ _ (by (try dsimp only); (simp only [drew_cell, far_cell n0, far_cell n1, far_cell m0, far_cell m1, fix_drew, fix_far l0, fix_far l1, fix_far l2, fix_far l3, c0, c1, c2, c3, c4, c5, c6, c7, c8, c9, c10, c11, F4, F5, ce, held_true, and_self])) (fun hHeld24 => ?_)
      clear hK K hHeld23
      (try simp only [Act.put, List.setIfInBounds_toArray, List.set_cons_zero, List.set_cons_succ])
      refine wpAnyH_ready (rs := [25]) (by kernel_rfl) (by simp) ?_
      refine AllReadyH.cons (o := ⟨none, .store 119 (.tmp 14) (.tmp 88), _, _, _, none⟩) rfl (fun K hK => ?_) AllReadyH.nil
      rw [if_pos (by kernel_rfl)]
      have hf25 := (hHeld24).2.2.2.2.2.2.2.2.2.2.2.2.2.1
      refine wp_store_mid 119 (.tmp 14) (.tmp 88) rfl (B + 1 + 1 + 1) 0 cs4.toArray (by kernel_rfl) (by kernel_rfl) (by simpa using hf25.2) (by simpa using HI4.out) HO4.out ?_
      rw [setCells_self cs4.toArray.toList 0 (by intro j u hu; exact hf25.1 j u (by simpa using hu))]
      refine hK.out _ _ hHeld24 (fun hHeld25 => ?_)
      clear hK K hHeld24 hf25
      (try simp only [Act.put, List.setIfInBounds_toArray, List.set_cons_zero, List.set_cons_succ])
      refine wpAnyH_ready (rs := [26]) (by kernel_rfl) (by simp) ?_
      refine AllReadyH.cons (o := ⟨none, .store 58 (.tmp 15) (.tmp 89), _, _, _, none⟩) rfl (fun K hK => ?_) AllReadyH.nil
      rw [if_pos (by kernel_rfl)]
      have hf26 := (hHeld25).2.2.2.2.2.2.2.2.2.2.2.2.2.2.1
      refine wp_store_mid 58 (.tmp 15) (.tmp 89) rfl (B + 1 + 1 + 1 + 1) 0 cs5.toArray (by kernel_rfl) (by kernel_rfl) (by simpa using hf26.2) (by simpa using HI5.out) HO5.out ?_
      rw [setCells_self cs5.toArray.toList 0 (by intro j u hu; exact hf26.1 j u (by simpa using hu))]
      refine hK.out _ _ hHeld25 (fun hHeld26 => ?_)
      clear hK K hHeld25 hf26
      (try simp only [Act.put, List.setIfInBounds_toArray, List.set_cons_zero, List.set_cons_succ])
      refine wpAnyH_take (i := 27) (oi := ⟨some 16, _, _, _, _, _⟩) (v := ?_) rfl (by kernel_rfl) (by kernel_rfl) (by kernel_rfl) (fun _ _ _ h => h) (Or.inl ⟨by rfl, ?_⟩) (by assumption) ?_
      rotate_left
      · intro w hSw; (try dsimp only at hSw); go_simp; (try with_reducible rfl)
      (try simp only [Act.put, List.setIfInBounds_toArray, List.set_cons_zero, List.set_cons_succ])
      refine wpAnyH_done (by kernel_rfl) ?_ _
      refine NoPanic.normal ?_
      have HFin : Hid (SObj ((((((((w7.setCell ⟨B + 1, 0, none⟩ (.int .i8 (rf 0))).setCell ⟨B + 1, 1, none⟩ (.int .i8 (rf 1))).setCell ⟨B + 1, 2, none⟩ (.int .i8 (rf 2))).setCell ⟨B + 1, 3, none⟩ (.int .i8 (rf 3))).setCell ⟨B + 1 + 1, 0, none⟩ (.int .i8 (md 0))).setCell ⟨B + 1 + 1, 1, none⟩ (.int .i8 (md 1))).setCell ⟨B + 1 + 1, 2, none⟩ (.int .i8 (md 2))).setCell ⟨B + 1 + 1, 3, none⟩ (.int .i8 (md 3))).drew (B + 1) 82 [.int .i8 (rf 0), .int .i8 (rf 1), .int .i8 (rf 2), .int .i8 (rf 3)] ∧ SObj ((((((((w7.setCell ⟨B + 1, 0, none⟩ (.int .i8 (rf 0))).setCell ⟨B + 1, 1, none⟩ (.int .i8 (rf 1))).setCell ⟨B + 1, 2, none⟩ (.int .i8 (rf 2))).setCell ⟨B + 1, 3, none⟩ (.int .i8 (rf 3))).setCell ⟨B + 1 + 1, 0, none⟩ (.int .i8 (md 0))).setCell ⟨B + 1 + 1, 1, none⟩ (.int .i8 (md 1))).setCell ⟨B + 1 + 1, 2, none⟩ (.int .i8 (md 2))).setCell ⟨B + 1 + 1, 3, none⟩ (.int .i8 (md 3))).drew (B + 1 + 1) 82 [.int .i8 (md 0), .int .i8 (md 1), .int .i8 (md 2), .int .i8 (md 3)] ∧ Fix (B + 1 + 1 + 1) cs4 ((((((((w7.setCell ⟨B + 1, 0, none⟩ (.int .i8 (rf 0))).setCell ⟨B + 1, 1, none⟩ (.int .i8 (rf 1))).setCell ⟨B + 1, 2, none⟩ (.int .i8 (rf 2))).setCell ⟨B + 1, 3, none⟩ (.int .i8 (rf 3))).setCell ⟨B + 1 + 1, 0, none⟩ (.int .i8 (md 0))).setCell ⟨B + 1 + 1, 1, none⟩ (.int .i8 (md 1))).setCell ⟨B + 1 + 1, 2, none⟩ (.int .i8 (md 2))).setCell ⟨B + 1 + 1, 3, none⟩ (.int .i8 (md 3))).drew ∧ Fix (B + 1 + 1 + 1 + 1) cs5 ((((((((w7.setCell ⟨B + 1, 0, none⟩ (.int .i8 (rf 0))).setCell ⟨B + 1, 1, none⟩ (.int .i8 (rf 1))).setCell ⟨B + 1, 2, none⟩ (.int .i8 (rf 2))).setCell ⟨B + 1, 3, none⟩ (.int .i8 (rf 3))).setCell ⟨B + 1 + 1, 0, none⟩ (.int .i8 (md 0))).setCell ⟨B + 1 + 1, 1, none⟩ (.int .i8 (md 1))).setCell ⟨B + 1 + 1, 2, none⟩ (.int .i8 (md 2))).setCell ⟨B + 1 + 1, 3, none⟩ (.int .i8 (md 3))).drew ∧ Below B w ((((((((w7.setCell ⟨B + 1, 0, none⟩ (.int .i8 (rf 0))).setCell ⟨B + 1, 1, none⟩ (.int .i8 (rf 1))).setCell ⟨B + 1, 2, none⟩ (.int .i8 (rf 2))).setCell ⟨B + 1, 3, none⟩ (.int .i8 (rf 3))).setCell ⟨B + 1 + 1, 0, none⟩ (.int .i8 (md 0))).setCell ⟨B + 1 + 1, 1, none⟩ (.int .i8 (md 1))).setCell ⟨B + 1 + 1, 2, none⟩ (.int .i8 (md 2))).setCell ⟨B + 1 + 1, 3, none⟩ (.int .i8 (md 3))).drew) := Lib.hid ⟨SObj.drew ((((((((H7.out.2.2.2.1.set 0 _).set 1 _).set 2 _).set 3 _).far ⟨B + 1 + 1, 0, none⟩ (by simp only; omega) _).far ⟨B + 1 + 1, 1, none⟩ (by simp only; omega) _).far ⟨B + 1 + 1, 2, none⟩ (by simp only; omega) _).far ⟨B + 1 + 1, 3, none⟩ (by simp only; omega) _), SObj.drew ((((((((H7.out.2.2.2.2.1.far ⟨B + 1, 0, none⟩ (by simp only; omega) _).far ⟨B + 1, 1, none⟩ (by simp only; omega) _).far ⟨B + 1, 2, none⟩ (by simp only; omega) _).far ⟨B + 1, 3, none⟩ (by simp only; omega) _).set 0 _).set 1 _).set 2 _).set 3 _), hHeld26.2.2.2.2.2.2.2.2.2.2.2.2.2.1, hHeld26.2.2.2.2.2.2.2.2.2.2.2.2.2.2.1, Below.drew (Below.setCell (Below.setCell (Below.setCell (Below.setCell (Below.setCell (Below.setCell (Below.setCell (Below.setCell H7.out.2.2.2.2.2.1 (p := ⟨B + 1, 0, none⟩) (show B ≤ B + 1 by omega) _) (p := ⟨B + 1, 1, none⟩) (show B ≤ B + 1 by omega) _) (p := ⟨B + 1, 2, none⟩) (show B ≤ B + 1 by omega) _) (p := ⟨B + 1, 3, none⟩) (show B ≤ B + 1 by omega) _) (p := ⟨B + 1 + 1, 0, none⟩) (show B ≤ B + 1 + 1 by omega) _) (p := ⟨B + 1 + 1, 1, none⟩) (show B ≤ B + 1 + 1 by omega) _) (p := ⟨B + 1 + 1, 2, none⟩) (show B ≤ B + 1 + 1 by omega) _) (p := ⟨B + 1 + 1, 3, none⟩) (show B ≤ B + 1 + 1 by omega) _)⟩
      clear hHeld26
      generalize World.drew _ = wf at HFin ⊢
      go_wp2
      refine bodyPost_ret (v := .tuple #[.bool sm, .int .i8 lv, .int .u8 sh, .bool dl, .agg [.int .i8 (rf 0), .int .i8 (rf 1), .int .i8 (rf 2), .int .i8 (rf 3)].toArray, .agg [.int .i8 (md 0), .int .i8 (md 1), .int .i8 (md 2), .int .i8 (md 3)].toArray, .agg cs4.toArray, .agg cs5.toArray, .bool eof]) ?_ rfl ⟨?_, ?_⟩
      · have r1 := run_loadVar_mid (P := Tryd.prog) wf (B + 1) 0 82 [.int .i8 (rf 0), .int .i8 (rf 1), .int .i8 (rf 2), .int .i8 (rf 3)] _ (fun j v hv => by rw [Nat.zero_add]; exact HFin.out.1.cell j hv) Tryd.underlying82 rfl (by kernel_rfl)
        have r2 := run_loadVar_mid (P := Tryd.prog) wf (B + 1 + 1) 0 82 [.int .i8 (md 0), .int .i8 (md 1), .int .i8 (md 2), .int .i8 (md 3)] _ (fun j v hv => by rw [Nat.zero_add]; exact HFin.out.2.1.cell j hv) Tryd.underlying82 rfl (by kernel_rfl)
        have r3 := run_loadVar_mid (P := Tryd.prog) wf (B + 1 + 1 + 1) 0 119 cs4 _ HFin.out.2.2.1.1 Tryd.underlying119 rfl HI4.out
        have r4 := run_loadVar_mid (P := Tryd.prog) wf (B + 1 + 1 + 1 + 1) 0 58 cs5 _ HFin.out.2.2.2.1.1 Tryd.underlying58 rfl HI5.out
        unfold results
        rw [Tryd.results49]
        simp [asAddr, r1, r2, r3, r4]
      · obtain ⟨e1, e2, e3, e4, e5, e6, e7⟩ := HV.out
        rw [HCS.out.1, HCS.out.2, HQ.out.1, HQ.out.2, HP.out, e1, e2, e3, e4, e5, e6, e7]
        rfl
      · rw [← HB.out.1]; exact HFin.out.2.2.2.2
end Go.Proofs.YthmkmemocjnleaaDoor
