/- The package's tree of a prefix code, in memory. -/
import Derived.Test.YtdmefbpfpmkdcaaDoorCommon
import Derived.Test.YtdmefbpfpmkdcaaDoorOnly
namespace Go.Proofs.YtdmefbpfpmkdcaaDoor
open Go.RowKit

def lutCells (lut : Nat → Nat) : List Value := (List.range 128).map fun x => .int .u32 (lut x : Int)
/-- The cells of an hTree: its nodes and its look-up table. -/
def hCells (v : Value) (lut : Nat → Nat) : List Value := v :: lutCells lut
/-- The cells of m nodes: symbol, children. -/
def ndCells (nd : Nat → Nat × Int) (m : Nat) : List Value := (List.range (2 * m)).map fun i => if i % 2 = 0 then .int .u32 ((nd (i / 2)).1 : Int) else .int .i32 (nd (i / 2)).2

theorem lutCells_at (lut : Nat → Nat) (x : Nat) (hx : x < 128) : (lutCells lut)[x]? = some (.int .u32 (lut x : Int)) := by simp [lutCells, hx]
theorem hCells_at (v : Value) (lut : Nat → Nat) (x : Nat) (hx : x < 128) : (hCells v lut)[1 + x]? = some (.int .u32 (lut x : Int)) := by
  rw [Nat.add_comm]; exact lutCells_at lut x hx
theorem lutCells_congr {lut lut' : Nat → Nat} (h : ∀ x, x < 128 → lut x = lut' x) : lutCells lut = lutCells lut' := by
  simp only [lutCells]
  exact List.map_congr_left fun i hi => by rw [h i (List.mem_range.1 hi)]
theorem hCells_congr (v : Value) {lut lut' : Nat → Nat} (h : ∀ x, x < 128 → lut x = lut' x) : hCells v lut = hCells v lut' := by unfold hCells; rw [lutCells_congr h]
theorem hCells_set (v : Value) (lut : Nat → Nat) (x y : Nat) : (hCells v lut).set (1 + x) (.int .u32 (y : Int)) = hCells v (upL lut (fun z => z = x) y) := by
  rw [Nat.add_comm]
  show v :: (lutCells lut).set x _ = v :: _
  congr 1
  apply List.ext_getElem
  · simp [lutCells]
  · intro i h1 h2
    simp only [lutCells, List.getElem_set, List.getElem_map, List.getElem_range, upL]
    by_cases e : x = i
    · subst e; simp
    · simp [e, show ¬ i = x from fun h => e h.symm]
theorem hCells_nodes (v v' : Value) (lut : Nat → Nat) : (hCells v lut).set 0 v' = hCells v' lut := rfl
theorem ndCells_sym (nd : Nat → Nat × Int) (m n : Nat) (h : n < m) : (ndCells nd m)[n * 2]? = some (.int .u32 ((nd n).1 : Int)) := by
  have e : n * 2 < 2 * m := by omega
  have e2 : n * 2 / 2 = n := by omega
  simp [ndCells, e, e2]
theorem ndCells_kid (nd : Nat → Nat × Int) (m n : Nat) (h : n < m) : (ndCells nd m)[n * 2 + 1]? = some (.int .i32 (nd n).2) := by
  have e : n * 2 + 1 < 2 * m := by omega
  have e2 : (n * 2 + 1) / 2 = n := by omega
  have e3 : ¬ (n * 2 + 1) % 2 = 0 := by omega
  simp only [ndCells, List.getElem?_map, List.getElem?_range e, Option.map_some, e2, if_neg e3]
theorem ndCells_setSym (nd : Nat → Nat × Int) (m n s : Nat) : (ndCells nd m).set (n * 2) (.int .u32 (s : Int)) = ndCells (upN nd n (s, (nd n).2)) m := by
  apply List.ext_getElem
  · simp [ndCells]
  · intro i h1 h2
    simp only [ndCells, List.getElem_set, List.getElem_map, List.getElem_range, upN]
    by_cases e : n * 2 = i
    · subst e
      rw [if_pos rfl, if_pos (by omega), if_pos (by omega)]
    · rw [if_neg e]
      by_cases e2 : i / 2 = n
      · rw [if_neg (show ¬ i % 2 = 0 by omega), if_neg (show ¬ i % 2 = 0 by omega), if_pos e2, e2]
      · rw [if_neg e2]
theorem ndCells_setKid (nd : Nat → Nat × Int) (m n : Nat) (c : Int) : (ndCells nd m).set (n * 2 + 1) (.int .i32 c) = ndCells (upN nd n ((nd n).1, c)) m := by
  apply List.ext_getElem
  · simp [ndCells]
  · intro i h1 h2
    simp only [ndCells, List.getElem_set, List.getElem_map, List.getElem_range, upN]
    by_cases e : n * 2 + 1 = i
    · subst e
      rw [if_pos rfl, if_neg (by omega), if_pos (by omega)]
    · rw [if_neg e]
      by_cases e2 : i / 2 = n
      · rw [if_pos (show i % 2 = 0 by omega), if_pos (show i % 2 = 0 by omega), if_pos e2, e2]
      · rw [if_neg e2]
theorem upN_upN (nd : Nat → Nat × Int) (k : Nat) (x y : Nat × Int) : upN (upN nd k x) k y = upN nd k y := by
  funext i; unfold upN; split <;> rfl

/-- An hTree at gh: m nodes at gn, of which L are seen. -/
structure TreeM (w : World) (gh gn L m : Nat) (nd : Nat → Nat × Int) (lut : Nat → Nat) : Prop where
  obj : SObj w gh 74 (hCells (.slice (some ⟨gn, 0, none⟩) L m) lut)
  nds : SObj w gn 115 (ndCells nd m)
theorem TreeM.ne {w : World} {gh gn L m : Nat} {nd : Nat → Nat × Int} {lut : Nat → Nat} (h : TreeM w gh gn L m nd lut) : gh ≠ gn := by
  intro e
  subst e
  exact absurd (h.obj.ty.inj h.nds.ty) (by decide)
theorem TreeM.only {S : Nat → Prop} {w w' : World} {gh gn L m : Nat} {nd : Nat → Nat × Int} {lut : Nat → Nat} (h : TreeM w gh gn L m nd lut) (ho : Only S w w') (h1 : ¬ S gh) (h2 : ¬ S gn) : TreeM w' gh gn L m nd lut := ⟨h.obj.only ho h1, h.nds.only ho h2⟩
theorem TreeM.setLut {w : World} {gh gn L m : Nat} {nd : Nat → Nat × Int} {lut : Nat → Nat} (h : TreeM w gh gn L m nd lut) (x y : Nat) : TreeM (w.setCell ⟨gh, 1 + x, none⟩ (.int .u32 (y : Int))) gh gn L m nd (upL lut (fun z => z = x) y) := by
  refine ⟨?_, h.nds.far _ (fun e => h.ne e.symm) _⟩
  have := h.obj.set (1 + x) (.int .u32 (y : Int))
  rwa [hCells_set] at this
theorem TreeM.setLen {w : World} {gh gn L m : Nat} {nd : Nat → Nat × Int} {lut : Nat → Nat} (h : TreeM w gh gn L m nd lut) (L' : Nat) : TreeM (w.setCell ⟨gh, 0, none⟩ (.slice (some ⟨gn, 0, none⟩) L' m)) gh gn L' m nd lut :=
  ⟨h.obj.set 0 _, h.nds.far _ (fun e => h.ne e.symm) _⟩
theorem TreeM.setKid {w : World} {gh gn L m : Nat} {nd : Nat → Nat × Int} {lut : Nat → Nat} (h : TreeM w gh gn L m nd lut) (n : Nat) (c : Int) : TreeM (w.setCell ⟨gn, n * 2 + 1, none⟩ (.int .i32 c)) gh gn L m (upN nd n ((nd n).1, c)) lut := by
  refine ⟨h.obj.far _ (fun e => h.ne e) _, ?_⟩
  have := h.nds.set (n * 2 + 1) (.int .i32 c)
  rwa [ndCells_setKid] at this
theorem TreeM.setSym {w : World} {gh gn L m : Nat} {nd : Nat → Nat × Int} {lut : Nat → Nat} (h : TreeM w gh gn L m nd lut) (n s : Nat) : TreeM (w.setCell ⟨gn, n * 2, none⟩ (.int .u32 (s : Int))) gh gn L m (upN nd n (s, (nd n).2)) lut := by
  refine ⟨h.obj.far _ (fun e => h.ne e) _, ?_⟩
  have := h.nds.set (n * 2) (.int .u32 (s : Int))
  rwa [ndCells_setSym] at this
theorem TreeM.drewN {w : World} {gh gn L m : Nat} {nd : Nat → Nat × Int} {lut : Nat → Nat} (h : TreeM w gh gn L m nd lut) (d : Nat) : TreeM (w.drewN d) gh gn L m nd lut := ⟨h.obj, h.nds⟩
theorem TreeM.congr {w : World} {gh gn L m : Nat} {nd nd' : Nat → Nat × Int} {lut lut' : Nat → Nat} (h : TreeM w gh gn L m nd lut) (h1 : ∀ x, x < 128 → lut x = lut' x) (h2 : ∀ k, nd k = nd' k) : TreeM w gh gn L m nd' lut' := by
  obtain rfl : nd = nd' := funext h2
  refine ⟨?_, h.nds⟩
  rw [← hCells_congr _ h1]; exact h.obj
/-- The table of turned bytes. -/
def RevT (w : World) : Prop := ∀ i, i < 256 → w.cell? ⟨4, i, none⟩ = some (.int .u8 (trn i 8 : Int))
/-- Two blocks. -/
def TwoT (gh gn k : Nat) : Prop := k = gh ∨ k = gn

theorem trn_more (v n : Nat) : ∀ k, trn v (n + k) / 2 ^ k = trn v n
  | 0 => by simp
  | k + 1 => by
    rw [← Nat.add_assoc, trn, Nat.pow_succ, Nat.mul_comm (2 ^ k) 2, ← Nat.div_div_eq_div_mul, show (trn v (n + k) * 2 + v / 2 ^ (n + k) % 2) / 2 = trn v (n + k) by omega]
    exact trn_more v n k
theorem trn_mod (v m : Nat) : ∀ n, n ≤ m → trn (v % 2 ^ m) n = trn v n
  | 0, _ => rfl
  | n + 1, h => by rw [trn, trn, trn_mod v m n (by omega), bit_mod v m n (by omega)]
/-- The place in the table of a short code. -/
theorem base_short (v l : Nat) (hl : l ≤ 7) : trn (v % 256) 8 / 2 ^ (8 - l) = trn v l := by
  rw [show (256 : Nat) = 2 ^ 8 from rfl, trn_mod v 8 8 (Nat.le_refl _)]
  have := trn_more v l (8 - l)
  rwa [show l + (8 - l) = 8 by omega] at this
theorem base_long (v : Nat) : trn (v % 256) 8 / 2 = trn v 7 := by
  rw [show (256 : Nat) = 2 ^ 8 from rfl, trn_mod v 8 8 (Nat.le_refl _)]
  have := trn_more v 7 1
  simpa using this
end Go.Proofs.YtdmefbpfpmkdcaaDoor
