/- The block of the reference's decoder, as far as segments are told. Printed by wip/gen_segd.py. -/
import Derived.Test.YthmkmemocjnleaaDoorSegS
namespace Go.Proofs.YthmkmemocjnleaaDoor
open Go.RowKit
set_option linter.unusedVariables false

/-- A block whose cells are D. -/
def FD (D : Nat → Option Value) (w : World) (gd : Nat) : Prop := gd < w.heap.size ∧ (∀ i, w.cell? ⟨gd, i, none⟩ = D i) ∧ ∀ i, w.frozen? ⟨gd, i, none⟩ = false
theorem FD.put {D D' : Nat → Option Value} {w : World} {gd : Nat} (h : FD D w gd) (i : Nat) (v : Value) {old : Value} (hs : D i = some old) (he : ∀ k, At51.updR D i v k = D' k) : FD D' (w.setCell ⟨gd, i, none⟩ v) gd := by
  refine ⟨by rw [size_setCell]; exact h.1, fun k => ?_, fun k => by rw [World.frozen?_setCell]; exact h.2.2 k⟩
  rw [← he k]
  unfold At51.updR
  by_cases e : k = i
  · subst e
    rw [if_pos rfl]
    exact World.cell?_setCell_same _ _ _ (by rw [h.2.1 k]; exact hs)
  · rw [if_neg e, World.cell?_setCell_other _ _ _ _ (by intro c; injection c; omega)]
    exact h.2.1 k
theorem FD.congr {D D' : Nat → Option Value} {w : World} {gd : Nat} (h : FD D w gd) (he : ∀ k, D k = D' k) : FD D' w gd := ⟨h.1, fun i => (h.2.1 i).trans (he i), h.2.2⟩
theorem FD.grown {D : Nat → Option Value} {w w' : World} {gd : Nat} {row : Option Nat} (h : FD D w gd) (hg : w.grownBy w' row) (hne : some gd ≠ row) : FD D w' gd :=
  ⟨Nat.lt_of_lt_of_le h.1 hg.size, fun i => by rw [World.cell?_of_block (w := w) (hg.block gd h.1 hne)]; exact h.2.1 i, fun i => (World.frozen?_of_block (w := w) (hg.block gd h.1 hne)).trans (h.2.2 i)⟩

def sgC (on mp ab : Bool) (q l p : Nat → Int) (k : Nat) : Value :=
  if k = 0 then .bool on else if k = 1 then .bool mp else if k = 2 then .bool ab else if k < 7 then .int .i64 (q (k - 3)) else if k < 11 then .int .i64 (l (k - 7)) else .int .i64 (p (k - 11))
def sgD (z : Nat → Option Value) (g : Nat) (on mp ab : Bool) (q l p : Nat → Int) (odd keeps told : Bool) (i : Nat) : Option Value :=
  if i = 256 then some (.pointer (some ⟨g, 0, none⟩)) else if 258 ≤ i ∧ i < 272 then some (sgC on mp ab q l p (i - 258)) else if i = 350 then some (.bool odd) else if i = 351 then some (.bool keeps) else if i = 352 then some (.bool told) else z i
set_option maxRecDepth 10000 in
theorem sgD_congr (z : Nat → Option Value) (g : Nat) (on mp ab : Bool) {q l p q' l' p' : Nat → Int} (odd keeps told : Bool) (h1 : ∀ i, i < 4 → q i = q' i) (h2 : ∀ i, i < 4 → l i = l' i) (h3 : ∀ i, i < 3 → p i = p' i) (i : Nat) : sgD z g on mp ab q l p odd keeps told i = sgD z g on mp ab q' l' p' odd keeps told i := by
  unfold sgD
  by_cases a : i = 256
  · rw [if_pos a, if_pos a]
  · rw [if_neg a, if_neg a]
    by_cases b : 258 ≤ i ∧ i < 272
    · rw [if_pos b, if_pos b]
      refine congrArg some ?_
      unfold sgC
      repeat' split
      · rfl
      · rfl
      · rfl
      · rw [h1 (i - 258 - 3) (by omega)]
      · rw [h2 (i - 258 - 7) (by omega)]
      · rw [h3 (i - 258 - 11) (by omega)]
    · rw [if_neg b, if_neg b]
theorem sat_q (z : Nat → Option Value) (g : Nat) (on mp ab : Bool) (q l p : Nat → Int) (odd keeps told : Bool) (i : Nat) (hi : i < 4) : sgD z g on mp ab q l p odd keeps told (261 + i) = some (.int .i64 (q i)) := by
  unfold sgD sgC
  rw [if_neg (by omega), if_pos (by omega), if_neg (by omega), if_neg (by omega), if_neg (by omega), if_pos (by omega), show 261 + i - 258 - 3 = i by omega]
theorem sput_q {z : Nat → Option Value} {g : Nat} {on mp ab : Bool} {E l p : Nat → Int} {odd keeps told : Bool} {x : Int} {w : World} {gd : Nat} (i : Nat) (hi : i < 4) (h : FD (sgD z g on mp ab (partZ x E i) l p odd keeps told) w gd) : FD (sgD z g on mp ab (partZ x E (i + 1)) l p odd keeps told) (w.setCell ⟨gd, 261 + i, none⟩ (.int .i64 (E i))) gd :=
  h.put (261 + i) _ (sat_q _ _ _ _ _ _ _ _ _ _ _ i hi) (fun k => by
    unfold At51.updR
    by_cases e : k = 261 + i
    · subst e; rw [if_pos rfl, sat_q _ _ _ _ _ _ _ _ _ _ _ i hi]; unfold partZ; rw [if_pos (by omega)]
    · rw [if_neg e]; unfold sgD
      by_cases a : k = 256
      · rw [if_pos a, if_pos a]
      · rw [if_neg a, if_neg a]
        by_cases b : 258 ≤ k ∧ k < 272
        · rw [if_pos b, if_pos b]
          have hq : 3 ≤ k - 258 → partZ x E i (k - 258 - 3) = partZ x E (i + 1) (k - 258 - 3) := fun h3 => by
            unfold partZ
            by_cases e2 : k - 258 - 3 < i
            · rw [if_pos e2, if_pos (by omega)]
            · rw [if_neg e2, if_neg (by omega)]
          unfold sgC
          repeat' split
          all_goals first | with_reducible rfl | rw [hq (by omega)]
        · rw [if_neg b, if_neg b])
theorem sat_l (z : Nat → Option Value) (g : Nat) (on mp ab : Bool) (q l p : Nat → Int) (odd keeps told : Bool) (i : Nat) (hi : i < 4) : sgD z g on mp ab q l p odd keeps told (265 + i) = some (.int .i64 (l i)) := by
  unfold sgD sgC
  rw [if_neg (by omega), if_pos (by omega), if_neg (by omega), if_neg (by omega), if_neg (by omega), if_neg (by omega), if_pos (by omega), show 265 + i - 258 - 7 = i by omega]
theorem sput_l {z : Nat → Option Value} {g : Nat} {on mp ab : Bool} {q E p : Nat → Int} {odd keeps told : Bool} {x : Int} {w : World} {gd : Nat} (i : Nat) (hi : i < 4) (h : FD (sgD z g on mp ab q (partZ x E i) p odd keeps told) w gd) : FD (sgD z g on mp ab q (partZ x E (i + 1)) p odd keeps told) (w.setCell ⟨gd, 265 + i, none⟩ (.int .i64 (E i))) gd :=
  h.put (265 + i) _ (sat_l _ _ _ _ _ _ _ _ _ _ _ i hi) (fun k => by
    unfold At51.updR
    by_cases e : k = 265 + i
    · subst e; rw [if_pos rfl, sat_l _ _ _ _ _ _ _ _ _ _ _ i hi]; unfold partZ; rw [if_pos (by omega)]
    · rw [if_neg e]; unfold sgD
      by_cases a : k = 256
      · rw [if_pos a, if_pos a]
      · rw [if_neg a, if_neg a]
        by_cases b : 258 ≤ k ∧ k < 272
        · rw [if_pos b, if_pos b]
          have hq : 7 ≤ k - 258 → partZ x E i (k - 258 - 7) = partZ x E (i + 1) (k - 258 - 7) := fun h3 => by
            unfold partZ
            by_cases e2 : k - 258 - 7 < i
            · rw [if_pos e2, if_pos (by omega)]
            · rw [if_neg e2, if_neg (by omega)]
          unfold sgC
          repeat' split
          all_goals first | with_reducible rfl | rw [hq (by omega)]
        · rw [if_neg b, if_neg b])
theorem sat_p (z : Nat → Option Value) (g : Nat) (on mp ab : Bool) (q l p : Nat → Int) (odd keeps told : Bool) (i : Nat) (hi : i < 3) : sgD z g on mp ab q l p odd keeps told (269 + i) = some (.int .i64 (p i)) := by
  unfold sgD sgC
  rw [if_neg (by omega), if_pos (by omega), if_neg (by omega), if_neg (by omega), if_neg (by omega), if_neg (by omega), if_neg (by omega), show 269 + i - 258 - 11 = i by omega]
theorem sput_p {z : Nat → Option Value} {g : Nat} {on mp ab : Bool} {q l E : Nat → Int} {odd keeps told : Bool} {x : Int} {w : World} {gd : Nat} (i : Nat) (hi : i < 3) (h : FD (sgD z g on mp ab q l (partZ x E i) odd keeps told) w gd) : FD (sgD z g on mp ab q l (partZ x E (i + 1)) odd keeps told) (w.setCell ⟨gd, 269 + i, none⟩ (.int .i64 (E i))) gd :=
  h.put (269 + i) _ (sat_p _ _ _ _ _ _ _ _ _ _ _ i hi) (fun k => by
    unfold At51.updR
    by_cases e : k = 269 + i
    · subst e; rw [if_pos rfl, sat_p _ _ _ _ _ _ _ _ _ _ _ i hi]; unfold partZ; rw [if_pos (by omega)]
    · rw [if_neg e]; unfold sgD
      by_cases a : k = 256
      · rw [if_pos a, if_pos a]
      · rw [if_neg a, if_neg a]
        by_cases b : 258 ≤ k ∧ k < 272
        · rw [if_pos b, if_pos b]
          have hq : 11 ≤ k - 258 → partZ x E i (k - 258 - 11) = partZ x E (i + 1) (k - 258 - 11) := fun h3 => by
            unfold partZ
            by_cases e2 : k - 258 - 11 < i
            · rw [if_pos e2, if_pos (by omega)]
            · rw [if_neg e2, if_neg (by omega)]
          unfold sgC
          repeat' split
          all_goals first | with_reducible rfl | rw [hq (by omega)]
        · rw [if_neg b, if_neg b])
theorem sput_on {z : Nat → Option Value} {g : Nat} {on mp ab : Bool} {q l p : Nat → Int} {odd keeps told : Bool} {w : World} {gd : Nat} (h : FD (sgD z g on mp ab q l p odd keeps told) w gd) (v : Bool) : FD (sgD z g v mp ab q l p odd keeps told) (w.setCell ⟨gd, 258, none⟩ (.bool v)) gd :=
  h.put 258 (.bool v) rfl (fun k => by
    unfold At51.updR
    by_cases e : k = 258
    · subst e; rfl
    · rw [if_neg e]; unfold sgD; split
      · rfl
      · split
        · have : ¬ k - 258 = 0 := by omega
          unfold sgC; rw [if_neg this, if_neg this]
        · rfl)
theorem sput_mp {z : Nat → Option Value} {g : Nat} {on mp ab : Bool} {q l p : Nat → Int} {odd keeps told : Bool} {w : World} {gd : Nat} (h : FD (sgD z g on mp ab q l p odd keeps told) w gd) (v : Bool) : FD (sgD z g on v ab q l p odd keeps told) (w.setCell ⟨gd, 259, none⟩ (.bool v)) gd :=
  h.put 259 (.bool v) rfl (fun k => by
    unfold At51.updR
    by_cases e : k = 259
    · subst e; rfl
    · rw [if_neg e]; unfold sgD; split
      · rfl
      · split
        · have : ¬ k - 258 = 1 := by omega
          unfold sgC; rw [if_neg this, if_neg this]
        · rfl)
theorem sput_ab {z : Nat → Option Value} {g : Nat} {on mp ab : Bool} {q l p : Nat → Int} {odd keeps told : Bool} {w : World} {gd : Nat} (h : FD (sgD z g on mp ab q l p odd keeps told) w gd) (v : Bool) : FD (sgD z g on mp v q l p odd keeps told) (w.setCell ⟨gd, 260, none⟩ (.bool v)) gd :=
  h.put 260 (.bool v) rfl (fun k => by
    unfold At51.updR
    by_cases e : k = 260
    · subst e; rfl
    · rw [if_neg e]; unfold sgD; split
      · rfl
      · split
        · have : ¬ k - 258 = 2 := by omega
          unfold sgC; rw [if_neg this, if_neg this]
        · rfl)
theorem sput_odd {z : Nat → Option Value} {g : Nat} {on mp ab : Bool} {q l p : Nat → Int} {odd keeps told : Bool} {w : World} {gd : Nat} (h : FD (sgD z g on mp ab q l p odd keeps told) w gd) (v : Bool) : FD (sgD z g on mp ab q l p v keeps told) (w.setCell ⟨gd, 350, none⟩ (.bool v)) gd :=
  h.put 350 (.bool v) rfl (fun k => by
    unfold At51.updR
    by_cases e : k = 350
    · subst e; rfl
    · rw [if_neg e]; unfold sgD; rw [if_neg e, if_neg e])
theorem sput_keeps {z : Nat → Option Value} {g : Nat} {on mp ab : Bool} {q l p : Nat → Int} {odd keeps told : Bool} {w : World} {gd : Nat} (h : FD (sgD z g on mp ab q l p odd keeps told) w gd) (v : Bool) : FD (sgD z g on mp ab q l p odd v told) (w.setCell ⟨gd, 351, none⟩ (.bool v)) gd :=
  h.put 351 (.bool v) rfl (fun k => by
    unfold At51.updR
    by_cases e : k = 351
    · subst e; rfl
    · rw [if_neg e]; unfold sgD; rw [if_neg e, if_neg e])
theorem sput_told {z : Nat → Option Value} {g : Nat} {on mp ab : Bool} {q l p : Nat → Int} {odd keeps told : Bool} {w : World} {gd : Nat} (h : FD (sgD z g on mp ab q l p odd keeps told) w gd) (v : Bool) : FD (sgD z g on mp ab q l p odd keeps v) (w.setCell ⟨gd, 352, none⟩ (.bool v)) gd :=
  h.put 352 (.bool v) rfl (fun k => by
    unfold At51.updR
    by_cases e : k = 352
    · subst e; rfl
    · rw [if_neg e]; unfold sgD; rw [if_neg e, if_neg e])

/-- What is carried through the reference's reading: the bits, the block, the frame. -/
def SW (w0 : World) (B : Nat) (D : Nat → Option Value) (w : World) (gd g : Nat) (ao : Option Addr) (n c : Nat) (zs : List Int) (s : SS) : Prop := SdX w g ao n c zs s ∧ FD D w gd ∧ Below B w0 w
/-- What does not change meanwhile. -/
def SK (w0 : World) (B gd g : Nat) (ao : Option Addr) (n : Nat) : Prop := B ≤ g ∧ B ≤ gd ∧ gd ≠ g ∧ (0 < n → ∀ a, ao = some a → a.block < B) ∧ B ≤ w0.heap.size
theorem SW.read {w0 w w' : World} {B gd g n c : Nat} {D : Nat → Option Value} {ao : Option Addr} {zs : List Int} {s s' : SS} (h : SW w0 B D w gd g ao n c zs s) (k : SK w0 B gd g ao n) (h1 : SdX w' g ao n c zs s') (hg : w.grownBy w' (some g)) : SW w0 B D w' gd g ao n c zs s' :=
  ⟨h1, h.2.1.grown hg (fun e => k.2.2.1 (by injection e)), h.2.2.grown hg (Nat.le_trans k.2.2.2.2 h.2.2.size) (fun r hr => by cases hr; exact k.1)⟩
theorem SW.drewN {w0 w : World} {B gd g n c : Nat} {D : Nat → Option Value} {ao : Option Addr} {zs : List Int} {s : SS} (h : SW w0 B D w gd g ao n c zs s) (k : SK w0 B gd g ao n) (j : Nat) : SW w0 B D (w.drewN j) gd g ao n c zs s := by
  obtain ⟨⟨ov, h1⟩, h2, h3⟩ := h
  exact h1 |> fun h1 => ⟨⟨ov, h1.grown (grownBy_drewN w j none) B (fun r hr => by cases hr) k.2.2.2.1⟩, h2.grown (grownBy_drewN w j none) (fun e => by cases e), h3.grown (grownBy_drewN w j none) (Nat.le_trans k.2.2.2.2 h3.size) (fun r hr => by cases hr)⟩
theorem SW.put {w0 w : World} {B gd g n c : Nat} {D D' : Nat → Option Value} {ao : Option Addr} {zs : List Int} {s : SS} {i : Nat} {v : Value} (h : SW w0 B D w gd g ao n c zs s) (k : SK w0 B gd g ao n) (hf : FD D' (w.setCell ⟨gd, i, none⟩ v) gd) : SW w0 B D' (w.setCell ⟨gd, i, none⟩ v) gd g ao n c zs s := by
  obtain ⟨⟨ov, h1⟩, h2, h3⟩ := h
  exact ⟨⟨ov, h1.grown (grownBy_setCell w ⟨gd, i, none⟩ v) B (fun r hr => by injection hr with hr; subst hr; exact ⟨k.2.1, k.2.2.1⟩) k.2.2.2.1⟩, hf, h3.setCell (show B ≤ gd from k.2.1) v⟩
theorem SW.congr {w0 w : World} {B gd g n c : Nat} {D D' : Nat → Option Value} {ao : Option Addr} {zs : List Int} {s : SS} (h : SW w0 B D w gd g ao n c zs s) (he : ∀ k, D k = D' k) : SW w0 B D' w gd g ao n c zs s := ⟨h.1, h.2.1.congr he, h.2.2⟩
theorem SW.cell {w0 w : World} {B gd g n c : Nat} {D : Nat → Option Value} {ao : Option Addr} {zs : List Int} {s : SS} (h : SW w0 B D w gd g ao n c zs s) (i : Nat) {v : Value} (hv : D i = some v) : w.cell? ⟨gd, i, none⟩ = some v := (h.2.1.2.1 i).trans hv
theorem SW.free {w0 w : World} {B gd g n c : Nat} {D : Nat → Option Value} {ao : Option Addr} {zs : List Int} {s : SS} (h : SW w0 B D w gd g ao n c zs s) (i : Nat) : w.frozen? ⟨gd, i, none⟩ = false := h.2.1.2.2 i
/-- The state and its bounds behind n numbers. -/
theorem it_okS (zs : List Int) {f : SS → Int × SS} {m : Nat} (hf : ∀ s, OKS zs s → OKS zs (f s).2 ∧ (f s).2.pos ≤ s.pos + m) (s : SS) (h : OKS zs s) : ∀ n, OKS zs (itS f n s) ∧ (itS f n s).pos ≤ s.pos + m * n
  | 0 => ⟨h, by simp [itS]⟩
  | n + 1 => by
    obtain ⟨a, b⟩ := it_okS zs hf s h n
    obtain ⟨c, d⟩ := hf _ a
    exact ⟨c, by show (f (itS f n s)).2.pos ≤ _; rw [Nat.mul_succ]; omega⟩
theorem pr_okS (zs : List Int) (s : SS) (h : OKS zs s) : OKS zs (prG (stepS zs) s).2 ∧ (prG (stepS zs) s).2.pos ≤ s.pos + 63 := by
  have h1 := stepS_ok' zs s h 128 (by decide) (by decide)
  have h2 := stepS_pos zs s h 128 (by decide) (by decide)
  have h3 := bitsS_ok zs 128 (by decide) (by decide) 8 0 _ h1
  unfold prG
  by_cases hc : (stepS zs s 128).1 = true
  · rw [if_pos hc]; exact ⟨h3.1, by have := h3.2; omega⟩
  · rw [if_neg hc]; exact ⟨h1, by show (stepS zs s 128).2.pos ≤ _; omega⟩
end Go.Proofs.YthmkmemocjnleaaDoor
