/- The law's walker: chunks that are written and not gone through. -/
import Derived.Test.YthipghkhdlnfiaaDoorTrC
import Derived.Test.YthipghkhdlnfiaaDoorSkipP
import Derived.Deep.AppendLies
namespace Go.Proofs.YthipghkhdlnfiaaDoor
open Go.RowKit
set_option linter.unusedVariables false

/-- How many bytes one item, so deep, has at most. -/
def qD : Nat → Nat
  | 0 => 20
  | d + 1 => 12 + 4 * qD d
theorem qD_le : ∀ d, d ≤ 6 → qD d ≤ 98300 ∧ 20 ≤ qD d
  | 0, _ => by decide
  | 1, _ => by decide
  | 2, _ => by decide
  | 3, _ => by decide
  | 4, _ => by decide
  | 5, _ => by decide
  | 6, _ => by decide
  | d + 7, h => by omega
/-- A tree that is written is no greater than so. -/
structure TOk (t : Tr) (n : Nat) : Prop where
  ok : t.Ok 12
  u8 : U8 t.bytes
  st : t.steps.length ≤ t.bytes.length
  wa : t.want.length ≤ t.bytes.length
  ft : Fit t.steps
  le : t.bytes.length ≤ n
theorem TOk.nil (n : Nat) : TOk .nil n := ⟨trivial, U8.nil, Nat.le_refl _, Nat.le_refl _, (fun p hp => by cases hp), Nat.zero_le _⟩
theorem TOk.app {t u : Tr} {n m : Nat} (h : TOk t n) (k : TOk u m) : TOk (t.app u) (n + m) := by
  refine ⟨Tr.app_ok 12 t u h.ok k.ok, by rw [Tr.app_bytes]; exact h.u8.app k.u8, ?_, ?_, by rw [Tr.app_steps]; exact h.ft.app k.ft, ?_⟩
  · rw [Tr.app_steps, Tr.app_bytes, List.length_append, List.length_append]; have := h.st; have := k.st; omega
  · rw [Tr.app_want, Tr.app_bytes, List.length_append, List.length_append]; have := h.wa; have := k.wa; omega
  · rw [Tr.app_bytes, List.length_append]; have := h.le; have := k.le; omega
theorem TOk.mono {t : Tr} {n m : Nat} (h : TOk t n) (hm : n ≤ m) : TOk t m := ⟨h.ok, h.u8, h.st, h.wa, h.ft, Nat.le_trans h.le hm⟩
theorem tok_leaf (id l : List Int) (n : Nat) (hid : id.length = 4) (hi : U8 id) (hl : U8 l) (h11 : l.length ≤ 11) (hn : n ≤ 12) : TOk (.leaf id l n .nil) 20 ∧ (Tr.leaf id l n .nil).bytes = chunkB id l := by
  have hb : (Tr.leaf id l n .nil).bytes = chunkB id l := List.append_nil _
  have h1 := chunkB_len hid l
  refine ⟨⟨⟨hid, by omega, by omega, trivial⟩, by rw [hb]; exact u8_chunk hi hl, ?_, ?_, ?_, by rw [hb]; omega⟩, hb⟩
  · rw [hb]
    show (((0, 0) :: (if 0 < n then [(1, (n : Int))] else [])) ++ [] : List (Int × Int)).length ≤ _
    split <;> simp <;> omega
  · rw [hb]; show 1 ≤ _; omega
  · intro p hp
    have hp : p ∈ (((0, 0) :: (if 0 < n then [(1, (n : Int))] else [])) ++ [] : List (Int × Int)) := hp
    simp at hp
    rcases hp with rfl | ⟨h, rfl⟩
    · decide
    · simp; omega
theorem tok_list (k : List Int) (g : Bool) (b : Tr) (n : Nat) (hk : k.length = 4) (hu : U8 k) (hb : TOk b n) (hn : n ≤ 1000000) : TOk (.list k g b .nil) (12 + n) ∧ (Tr.list k g b .nil).bytes = chunkB listId (k ++ b.bytes) := by
  have hB : (Tr.list k g b .nil).bytes = chunkB listId (k ++ b.bytes) := List.append_nil _
  have hkb : (k ++ b.bytes).length = 4 + b.bytes.length := by rw [List.length_append, hk]
  have hev := b.even 12 hb.ok
  have hl := hb.le
  have h1 : (chunkB listId (k ++ b.bytes)).length = 12 + b.bytes.length := by rw [chunkB_length rfl, hkb, if_neg (by omega)]; omega
  refine ⟨⟨⟨hk, by omega, hb.ok, trivial⟩, by rw [hB]; exact u8_chunk (fun p hp => by simp [listId] at hp; rcases hp with rfl | rfl | rfl | rfl <;> decide) (hu.app hb.u8), ?_, ?_, ?_, by rw [hB, h1]; omega⟩, hB⟩
  · rw [hB, h1]
    show (((0, 0) :: (if g then (2, 0) :: (b.steps ++ [(0, 0), (3, 0)]) else [])) ++ [] : List (Int × Int)).length ≤ _
    have := hb.st
    cases g <;> simp <;> omega
  · rw [hB, h1]
    show ((⟨listId, (k ++ b.bytes).length, [], 2⟩ :: (if g then b.want else [])) ++ [] : List Ck).length ≤ _
    have := hb.wa
    cases g <;> simp <;> omega
  · intro p hp
    have hp : p ∈ (((0, 0) :: (if g then (2, 0) :: (b.steps ++ [(0, 0), (3, 0)]) else [])) ++ [] : List (Int × Int)) := hp
    have hf := hb.ft
    cases g
    · simp at hp; subst hp; decide
    · simp at hp
      rcases hp with rfl | rfl | h | rfl | rfl
      · decide
      · decide
      · exact hf p h
      · decide
      · decide
/-- append of a row to the four bytes of a name: a new row, or, where there is nothing to append, the name's own cells. -/
theorem step_append_kind {ops : Array Oper} {o : Oper} {a : Act} {w : World} {K : Act → World → Prop} {Q : Exit → Act → World → Prop} {C : Prop}
    (hg : o.guard = none) (s x : Operand) (hop : o.op = Op.call { callee := Callee.builtin Builtin.append, args := #[s, x], argTypes := #[22, 22] })
    (nb : Nat) (hs : a.eval s = .slice (some ⟨nb, 0, none⟩) 4 4) (k : List Int) (hk4 : k.length = 4) (hk : ∀ j u, (u8s k)[j]? = some u → w.cell? ((⟨nb, 0, none⟩ : Addr).add j) = some u) (hT : OfTy w 26 nb)
    (base : Nat) (v : Value) (l : List Int) (m : Nat) (hm : m = l.length) (hm2 : m ≤ 1000000) (hx : a.eval x = v) (hown : w.ownsRow base 5 1 v m (u8s l)) (hnil : l = [] → v = .slice none 0 0)
    (hK : ∀ p cc w', (∀ j u, (u8s (k ++ l))[j]? = some u → w'.cell? ((p : Addr).add j) = some u) → Only (fun _ => False) w w' → (OfTy w' 26 p.block ∨ OfTy w' 5 p.block) → K (a.put o.dst (.slice (some p) (4 + m) cc)) w') :
    if Region.wanted o (yielded ops a.tmps) = true then Oper.wp Tryd.prog o a w K Q else C := by
  have hw : Region.wanted o (yielded ops a.tmps) = true := by simp [Region.wanted, hg]
  rw [if_pos hw]
  obtain ⟨i0, hi, hz0, hz1, hz2⟩ := info_parts (show (Tryd.prog.info? 5).map (fun i => (i.zero, i.size, i.bytes)) = some (some (.int .u8 0), 1, 1) by kernel_rfl)
  by_cases h0 : l = []
  · have hv := hnil h0
    subst h0
    have hm0 : m = 0 := hm
    subst hm0 hv
    have hrun : (Builtin.append_ #[22, 22] o.type #[.slice (some ⟨nb, 0, none⟩) 4 4, .slice none 0 0]).run Tryd.prog w = .ok (.slice (some ⟨nb, 0, none⟩) 4 4) w := by
      simp [Builtin.append_, run_underlying Tryd.underlying22, sizeOf, typeInfo, hi, Builtin.lenOf, Builtin.firstCells, loadCells, storeCells]
    unfold Oper.wp
    simp [execOp, hop, resolve, invoke, builtin, hs, hx, hrun, Result.andThen]
    exact hK ⟨nb, 0, none⟩ 4 w (by rw [List.append_nil]; exact hk) (Only.refl _ _) (.inl hT)
  · have hpos : 0 < m := by rw [hm]; exact List.length_pos_iff.2 h0
    obtain ⟨g, cap, cur, hv, _⟩ := own_block hown hpos
    subst hv
    have hrun := run_append_grow (P := Tryd.prog) w 22 o.type 5 i0 (.int .u8 0) Tryd.underlying22 hi hz0 ⟨nb, 0, none⟩ 4 4 (u8s k) (by rw [u8s_length, hz1, hk4]) hk ⟨g, 0, none⟩ m cap (u8s l) (by rw [u8s_length, hz1, hm, Nat.mul_one]) (World.ownsRow.cells hown rfl) (by omega) (by omega) (growslice_fits (by omega) (by rw [hz2]; omega))
    unfold Oper.wp
    simp [execOp, hop, resolve, invoke, builtin, hs, hx, hrun, Result.andThen]
    refine hK _ _ _ (fun j u hu => ?_) ((Only.drewN _ w 1).tr (Only.alloc _ _ _)) (.inr ⟨_, _, heap_alloc_new w.drew _⟩)
    have hc := obj_new w.drew 5 (u8s k ++ u8s l ++ (Builtin.zeroCells (Value.int .u8 0).cells (grownCap w (4 + m) 4 5 - (4 + m))).toList)
    have e : u8s (k ++ l) = u8s k ++ u8s l := by unfold u8s; rw [List.map_append]
    rw [e] at hu
    have h1 := hc.cell j (v := u) (by rw [List.getElem?_append_left (by exact (List.getElem?_eq_some_iff.1 hu).1)]; exact hu)
    rw [Addr.add_lit, Nat.zero_add]
    have e3 : (u8s k ++ u8s l ++ (Builtin.zeroCells (Value.int .u8 0).cells (grownCap w (4 + m) 4 5 - (4 + m))).toList).toArray = (u8s k ++ u8s l).toArray ++ Builtin.zeroCells (Value.int .u8 0).cells (grownCap w (4 + m) 4 5 - (4 + m)) := by simp
    rw [e3] at h1
    exact h1
end Go.Proofs.YthipghkhdlnfiaaDoor
