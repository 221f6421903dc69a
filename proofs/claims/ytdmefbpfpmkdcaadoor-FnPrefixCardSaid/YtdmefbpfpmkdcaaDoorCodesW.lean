/- The package's codes of lengths (codeLengthsToCodes), and impl.words. -/
import Derived.Test.YtdmefbpfpmkdcaaDoorWhole
import Derived.Test.YtdmefbpfpmkdcaaDoorOnly
import Derived.Laws.OwnMore
namespace Go.Proofs.YtdmefbpfpmkdcaaDoor
open Go.RowKit
set_option linter.unusedVariables false

theorem infoU32 : (Tryd.prog.info? 61).map (fun i => (i.zero, i.size, i.bytes)) = some (some (.int .u32 0), 1, 4) := by kernel_rfl

set_option maxRecDepth 100000 in
theorem words_any (a : Option Addr) (n c : Nat) (f : Nat → Int) (w : World) (ha : Arg .i64 w a n f) (hn : n ≤ 4096) (hf : ∀ i, i < n → 0 ≤ f i ∧ f i ≤ 4294967295) :
    Calls Tryd.prog 36 #[.slice a n c] w fun e w' => (∃ a' c', e = .returned (.slice a' n c') ∧ Own .u32 w.heap.size w' a' n f) ∧ Below w.heap.size w w' := by
  obtain ⟨i0, hi, hz0, hz1, hz2⟩ := info_parts infoU32
  have H := Lib.hid (And.intro ha hf); clear ha hf
  go_enter Tryd.func36, Tryd.ntmps36
  go_wp2
  go_loopw [3, 8] (fun v i wr => ∃ p : Nat, p ≤ n ∧ i = .int .i64 p ∧ wr.ownsRow w.heap.size 61 1 v p (cellsOf .u32 p f) ∧ Hid (Below w.heap.size w wr)) (fun _ i _ => n - (intOf i).toNat)
  case atStart => exact ⟨0, by omega, rfl, World.ownsRow_nil _ _ _ _, Below.refl _ _⟩
  case round =>
    obtain ⟨p, hp, rfl, hown, hb⟩ := hrel
    by_cases hlt : p < n
    · obtain ⟨ga, oa, rfl, hga, ra⟩ := H.out.1 (by omega)
      have hc : wr.cell? ⟨ga, oa + p, none⟩ = some (.int .i64 (f p)) := (hb.out.cell (p := ⟨ga, oa + p, none⟩) hga).trans (ra p hlt)
      obtain ⟨x0, x1⟩ := H.out.2 p hlt
      obtain ⟨x, hx⟩ : ∃ x, x = f p := ⟨_, rfl⟩
      rw [← hx] at hc x0 x1
      have HX := Lib.hid hx; clear hx ra
      go_wp2_with (at_builtin; refine wpList_append_own _ rfl _ _ 66 rfl w.heap.size 61 i0 (.int .u32 0) 1 4 Tryd.underlying66 hi hz0 hz1 hz2 rfl (by decide) _ _ _ rfl (hown.alloc _) ⟨wr.heap.size, 0, none⟩ 1 1 [.int .u32 x] rfl rfl (cell_one_new _ _ _) (by simp [Value.oneCell']) (by unfold maxLen; omega) (by omega) (by have := hb.out.size; simp; omega) ?_)
      intro v' w1 hown1 hgrow _
      have R1 : w1.ownsRow w.heap.size 61 1 v' (p + 1) (cellsOf .u32 (p + 1) f) := by rw [cellsOf_succ, ← HX.out]; exact hown1
      have R2 : Below w.heap.size w w1 := (hb.out.alloc hb.out.size _).grown hgrow (by have := hb.out.size; simp; omega) (fun k hk => (hown.lt k hk).1)
      clear hown1 hgrow hown hc
      go_wp2
      go_roundw
      case rel => exact ⟨p + 1, by omega, by go_num, R1, R2⟩
      case measure => simp [intOf]; omega
    · obtain rfl : p = n := by omega
      go_wp2
      go_ret
      obtain ⟨av, cv, rfl, hcv, ho⟩ := own_of_cells hown
      exact ⟨⟨_, _, rfl, ho⟩, hb.out⟩

def cells16 (h : Nat → Nat) : List Value := (List.range 16).map fun l => .int .u32 (h l : Int)
theorem cells16_at (h : Nat → Nat) (l : Nat) (hl : l < 16) : (cells16 h)[l]? = some (.int .u32 (h l : Int)) := by simp [cells16, hl]
theorem cells16_set (h : Nat → Nat) (l x : Nat) : (cells16 h).set l (.int .u32 (x : Int)) = cells16 (fun j => if j = l then x else h j) := by
  apply List.ext_getElem
  · simp [cells16]
  · intro i h1 h2
    simp only [cells16, List.getElem_set, List.getElem_map, List.getElem_range]
    by_cases e : l = i
    · subst e; simp
    · simp [e, show ¬ i = l from fun h => e h.symm]
theorem cells16_congr {h h' : Nat → Nat} (e : ∀ l, l < 16 → h l = h' l) : cells16 h = cells16 h' := by
  simp only [cells16]
  exact List.map_congr_left fun i hi => by rw [e i (List.mem_range.1 hi)]

theorem cur_le2 (h : Nat → Nat) (n : Nat) (hh : ∀ l, h l ≤ n) : ∀ l, cur h l + 2 * n ≤ n * 2 ^ (l + 1)
  | 0 => by simp [cur]; omega
  | l + 1 => by
    have ih := cur_le2 h n hh l
    have h1 := hh l
    have e : n * 2 ^ (l + 1 + 1) = 2 * (n * 2 ^ (l + 1)) := by rw [Nat.pow_succ, ← Nat.mul_assoc]; omega
    rw [e]
    simp only [cur]
    omega
theorem cur_le (h : Nat → Nat) (n l : Nat) (hh : ∀ l, h l ≤ n) (hn : n ≤ 4096) (hl : l ≤ 15) : cur h l ≤ 268435456 := by
  have h1 := cur_le2 h n hh l
  have h2 : n * 2 ^ (l + 1) ≤ 4096 * 2 ^ 16 := Nat.mul_le_mul hn (Nat.pow_le_pow_right (by decide) (by omega))
  omega
/-- The code of each symbol. -/
def codeF (c : Nat → Nat) (n : Nat) (i : Nat) : Nat := if 0 < c i then codeOf c n i else 0
def histF (c : Nat → Nat) (n : Nat) (l : Nat) : Nat := cnt c l n
def nextF (h : Nat → Nat) (q l : Nat) : Nat := if l ≤ q then cur h l else 0
def nextC (c : Nat → Nat) (n p l : Nat) : Nat := if l = 0 then 0 else cur (histF c n) l + cnt c l p
def codeTo (c : Nat → Nat) (n p i : Nat) : Int := if i < p then (codeF c n i : Int) else 0

theorem made_cells (n : Nat) : (madeCells #[.int .u32 0] n).toList = cellsOf .u32 n (fun _ => 0) := by
  apply List.ext_getElem
  · simp [madeCells, cellsOf]
  · intro i h1 h2
    simp [madeCells, cellsOf, Nat.mod_one]
theorem cells_set32 (n : Nat) (f : Nat → Int) (j : Nat) (x : Int) : (cellsOf .u32 n f).set j (.int .u32 x) = cellsOf .u32 n (upd f j x) := by
  apply List.ext_getElem
  · simp [cellsOf]
  · intro i h1 h2
    simp only [cellsOf, List.length_set, List.length_map, List.length_range] at h1
    simp only [cellsOf, List.getElem_set, List.getElem_map, List.getElem_range, upd]
    by_cases e : j = i
    · subst e; simp
    · simp [e, show ¬ i = j from fun h => e h.symm]
theorem cells32_congr {n : Nat} {f f' : Nat → Int} (h : ∀ i, i < n → f i = f' i) : cellsOf .u32 n f = cellsOf .u32 n f' := by
  simp only [cellsOf]
  exact List.map_congr_left fun i hi => by rw [h i (List.mem_range.1 hi)]
theorem codeTo_step (c : Nat → Nat) (n p : Nat) (x : Int) (hx : x = (codeF c n p : Int)) : ∀ i, i < n → upd (codeTo c n p) p x i = codeTo c n (p + 1) i := by
  intro i _
  unfold upd codeTo
  by_cases e : i = p
  · subst e; rw [if_pos rfl, if_pos (by omega), hx]
  · rw [if_neg e]
    by_cases e2 : i < p
    · rw [if_pos e2, if_pos (by omega)]
    · rw [if_neg e2, if_neg (by omega)]
theorem codeTo_zero (c : Nat → Nat) (n p : Nat) (hx : c p = 0) : ∀ i, codeTo c n p i = codeTo c n (p + 1) i := by
  intro i
  unfold codeTo
  by_cases e : i = p
  · subst e; rw [if_neg (by omega), if_pos (by omega)]; unfold codeF; rw [if_neg (by omega)]; rfl
  · by_cases e2 : i < p
    · rw [if_pos e2, if_pos (by omega)]
    · rw [if_neg e2, if_neg (by omega)]
theorem nextC_step (c : Nat → Nat) (n p : Nat) (h0 : 0 < c p) : ∀ l, (if l = c p then nextC c n p l + 1 else nextC c n p l) = nextC c n (p + 1) l := by
  intro l
  unfold nextC
  simp only [cnt]
  by_cases e : l = c p
  · subst e
    rw [if_pos rfl, if_neg (by omega), if_neg (by omega), if_pos rfl, Nat.add_assoc]
  · rw [if_neg e, if_neg (show ¬ c p = l from fun h => e h.symm)]; rfl
theorem nextC_zero (c : Nat → Nat) (n p : Nat) (h0 : c p = 0) : ∀ l, nextC c n p l = nextC c n (p + 1) l := by
  intro l
  unfold nextC
  simp only [cnt]
  by_cases e : l = 0
  · rw [if_pos e, if_pos e]
  · rw [if_neg e, if_neg e, if_neg (by omega)]; rfl
theorem nextC_code (c : Nat → Nat) (n p : Nat) (h0 : 0 < c p) : nextC c n p (c p) = codeF c n p := by
  unfold nextC codeF
  rw [if_neg (by omega), if_pos h0]; rfl

set_option maxRecDepth 100000 in
set_option maxHeartbeats 1000000 in
theorem codes_any (a : Option Addr) (n cp : Nat) (c : Nat → Nat) (w : World) (ha : Arg .u32 w a n (fun i => (c i : Int))) (hn : n ≤ 4096) (hn0 : 0 < n) (hc : ∀ i, i < n → c i ≤ 15) :
    Calls Tryd.prog 50 #[.slice a n cp] w fun e w' => (∃ a' c', e = .returned (.tuple #[.slice a' n c', .nilIface]) ∧ Own .u32 w.heap.size w' a' n (fun i => (codeF c n i : Int))) ∧ Below w.heap.size w w' := by
  obtain ⟨i0, hi, hz0, hz1, hz2⟩ := info_parts infoU32
  obtain ⟨ga, oa, rfl, hga, hra⟩ := ha hn0
  have H := Lib.hid (And.intro hra hc); clear ha hra hc
  go_enter Tryd.func50, Tryd.ntmps50
  go_wp2
  go_loop [4, 18] (fun m i => ∃ p M : Nat, p ≤ n ∧ i = .int .i64 p ∧ m = .int .u32 M ∧ M ≤ 15) (fun _ i => n - (intOf i).toNat)
  case atStart => exact ⟨0, 0, by omega, rfl, rfl, by omega⟩
  case round =>
    obtain ⟨p, M, hp, rfl, rfl, hM⟩ := hrel
    by_cases hlt : p < n
    · have c0 : w.cell? ⟨ga, oa + p, none⟩ = some (.int .u32 (c p : Int)) := H.out.1 p hlt
      have x1 := H.out.2 p hlt
      generalize c p = x at c0 x1
      by_cases hz : M < x
      · go_wp2
        go_round
        case rel => exact ⟨p + 1, x, by omega, by go_num, rfl, x1⟩
        case measure => simp [intOf]; omega
      · go_wp2
        go_round
        case rel => exact ⟨p + 1, M, by omega, by go_num, rfl, hM⟩
        case measure => simp [intOf]; omega
    · obtain rfl : p = n := by omega
      have q0 : ((p : Int) == 0) = false := by simp; omega
      go_wp2
      obtain ⟨g1, hg1⟩ : ∃ g1, g1 = w.heap.size := ⟨_, rfl⟩
      obtain ⟨w1, hw1⟩ : ∃ w1, w1 = w.alloc (.cells #[.int .u32 0, .int .u32 0, .int .u32 0, .int .u32 0, .int .u32 0, .int .u32 0, .int .u32 0, .int .u32 0, .int .u32 0, .int .u32 0, .int .u32 0, .int .u32 0, .int .u32 0, .int .u32 0, .int .u32 0, .int .u32 0] 105) := ⟨_, rfl⟩
      have H1 : Hid (SObj w1 g1 105 (cells16 (fun l => cnt c l 0)) ∧ Below w.heap.size w w1) := by
        rw [hw1, hg1]
        exact Lib.hid ⟨obj_new w 105 (cells16 (fun _ => 0)), (Below.refl _ _).alloc (Nat.le_refl _) _⟩
      rw [← hw1, ← hg1]
      have HG := Lib.hid hg1; clear hw1 hg1
      go_loopw [9, 38] (fun _ i wr => ∃ q : Nat, q ≤ p ∧ i = .int .i64 q ∧ Hid (SObj wr g1 105 (cells16 (fun l => cnt c l q)) ∧ Below w.heap.size w wr)) (fun _ i _ => p - (intOf i).toNat)
      case atStart => exact ⟨0, by omega, rfl, H1.out⟩
      case round =>
        obtain ⟨q, hq, rfl, hR⟩ := hrel
        by_cases hlt2 : q < p
        · have c0 : wr.cell? ⟨ga, oa + q, none⟩ = some (.int .u32 (c q : Int)) := (hR.out.2.cell (p := ⟨ga, oa + q, none⟩) hga).trans (H.out.1 q hlt2)
          have x1 := H.out.2 q hlt2
          obtain ⟨x, hx⟩ : ∃ x, x = c q := ⟨_, rfl⟩
          rw [← hx] at c0 x1
          have k0 : wr.cell? ⟨g1, x, none⟩ = some (.int .u32 (cnt c x q : Int)) := hR.out.1.cell x (cells16_at _ x (by omega))
          have z0 : wr.frozen? ⟨g1, x, none⟩ = false := hR.out.1.free x
          have b0 := cnt_n c x q
          obtain ⟨y, hy⟩ : ∃ y, y = cnt c x q := ⟨_, rfl⟩
          rw [← hy] at k0 b0
          have HX := Lib.hid (And.intro hx hy); clear hx hy
          go_wp2
          go_roundw
          case rel => exact ⟨q + 1, by omega, by go_num, by
            have := hR.out.1.set x (.int .u32 ((y + 1 : Nat) : Int))
            rw [cells16_set, cells16_congr (h' := fun l => cnt c l (q + 1)) (fun l _ => by
              simp only [cnt]
              by_cases e : l = x
              · subst e; rw [if_pos rfl, if_pos HX.out.1.symm, HX.out.2]
              · rw [if_neg e, if_neg (fun h => e (by rw [HX.out.1, h]))]; rfl)] at this
            exact this, hR.out.2.setCell (show w.heap.size ≤ g1 by rw [HG.out]; exact Nat.le_refl _) _⟩
          case measure => simp [intOf]; omega
        · obtain rfl : q = p := by omega
          have hh : ∀ l, histF c q l ≤ q := fun l => cnt_n c l q
          have HH := Lib.hid hh; clear hh
          go_wp2
          obtain ⟨g2, hg2⟩ : ∃ g2, g2 = wr.heap.size := ⟨_, rfl⟩
          obtain ⟨w2, hw2⟩ : ∃ w2, w2 = wr.alloc (.cells #[.int .u32 0, .int .u32 0, .int .u32 0, .int .u32 0, .int .u32 0, .int .u32 0, .int .u32 0, .int .u32 0, .int .u32 0, .int .u32 0, .int .u32 0, .int .u32 0, .int .u32 0, .int .u32 0, .int .u32 0, .int .u32 0] 105) := ⟨_, rfl⟩
          have hlt12 : g1 < g2 := by rw [hg2]; exact hR.out.1.lt
          have H2 : Hid (SObj w2 g1 105 (cells16 (histF c q)) ∧ SObj w2 g2 105 (cells16 (nextF (histF c q) 0)) ∧ Below w.heap.size w w2) := by
            rw [hw2, hg2]
            exact Lib.hid ⟨hR.out.1.alloc _, (by rw [cells16_congr (h' := fun _ => 0) (fun l _ => by unfold nextF; split <;> simp_all [cur])]; exact obj_new wr 105 (cells16 (fun _ => 0))), hR.out.2.alloc hR.out.2.size _⟩
          rw [← hw2, ← hg2]
          clear hw2 hg2 hR H1
          go_loopw [10, 12] (fun t i wr => ∃ k : Nat, k ≤ 15 ∧ i = .int .i64 ((k : Int) + 1) ∧ t = .int .u32 (cur (histF c q) k : Int) ∧ Hid (SObj wr g1 105 (cells16 (histF c q)) ∧ SObj wr g2 105 (cells16 (nextF (histF c q) k)) ∧ Below w.heap.size w wr)) (fun _ i _ => 16 - (intOf i).toNat)
          case atStart => exact ⟨0, by omega, rfl, rfl, H2.out⟩
          case round =>
            obtain ⟨k, hk, rfl, rfl, hR⟩ := hrel
            by_cases hlt3 : k < 15
            · have k1 : wr.cell? ⟨g1, k, none⟩ = some (.int .u32 (histF c q k : Int)) := hR.out.1.cell k (cells16_at _ k (by omega))
              have k2 : wr.cell? ⟨g2, k + 1, none⟩ = some (.int .u32 (nextF (histF c q) k (k + 1) : Int)) := hR.out.2.1.cell (k + 1) (cells16_at _ (k + 1) (by omega))
              have z2 : wr.frozen? ⟨g2, k + 1, none⟩ = false := hR.out.2.1.free (k + 1)
              have b1 := HH.out k
              have b2 := cur_le (histF c q) q k HH.out hn (by omega)
              obtain ⟨x, hx⟩ : ∃ x, x = histF c q k := ⟨_, rfl⟩
              obtain ⟨y, hy⟩ : ∃ y, y = cur (histF c q) k := ⟨_, rfl⟩
              rw [← hx] at k1 b1
              rw [← hy] at b2 ⊢
              have HX := Lib.hid (And.intro hx hy); clear hx hy
              go_wp2
              go_roundw
              case rel => exact ⟨k + 1, by omega, by go_num, by
                have e : ((cur (histF c q) (k + 1) : Nat) : Int) = ((y : Int) + x) * 2 := by
                  simp only [cur]
                  rw [← HX.out.1, ← HX.out.2]
                  omega
                rw [e], by
                have hne : g1 ≠ g2 := Nat.ne_of_lt hlt12
                have h2 := hR.out.2.1.set (k + 1) (.int .u32 ((cur (histF c q) (k + 1) : Nat) : Int))
                rw [cells16_set, cells16_congr (h' := nextF (histF c q) (k + 1)) (fun l _ => by
                  unfold nextF
                  by_cases e : l = k + 1
                  · subst e; simp
                  · rw [if_neg e]
                    by_cases e2 : l ≤ k
                    · rw [if_pos e2, if_pos (by omega)]
                    · rw [if_neg e2, if_neg (by omega)])] at h2
                have e : ((cur (histF c q) (k + 1) : Nat) : Int) = ((y : Int) + x) * 2 := by
                  simp only [cur]
                  rw [← HX.out.1, ← HX.out.2]
                  omega
                rw [e] at h2
                exact Lib.hid ⟨hR.out.1.far _ hne _, h2, hR.out.2.2.setCell (show w.heap.size ≤ g2 by have := HG.out; omega) _⟩⟩
              case measure => simp [intOf]; omega
            · obtain rfl : k = 15 := by omega
              have HR2 : Hid (SObj wr g2 105 (cells16 (nextC c q 0)) ∧ Below w.heap.size w wr) := Lib.hid ⟨by
                have := hR.out.2.1
                rwa [cells16_congr (h' := nextC c q 0) (fun l hl => by
                  unfold nextF nextC
                  rw [if_pos (by omega)]
                  by_cases e : l = 0
                  · subst e; rfl
                  · rw [if_neg e]; rfl)] at this, hR.out.2.2⟩
              have hBw : w.heap.size ≤ wr.heap.size := hR.out.2.2.size
              clear hR H2
              go_wp2_with (refine wpList_make_full _ rfl _ _ 66 rfl w.heap.size 61 i0 (.int .u32 0) 1 Tryd.underlying66 hi hz0 hz1 .i64 .i64 q q q rfl rfl rfl rfl (by rw [hz2]; omega) (by unfold maxLen; omega) hBw ?_)
              intro w3 hmade hgrow
              obtain ⟨g3, hg3⟩ : ∃ g3, g3 = wr.heap.size := ⟨_, rfl⟩
              have H3 : Hid (SObj w3 g2 105 (cells16 (nextC c q 0)) ∧ w3.ownsRow w.heap.size 61 1 (.slice (some ⟨g3, 0, none⟩) q q) q (cellsOf .u32 q (codeTo c q 0)) ∧ Below w.heap.size w w3) := Lib.hid ⟨HR2.out.1.grown hgrow (by simp), by
                rw [hg3, cells32_congr (f' := fun _ => 0) (fun i _ => by unfold codeTo; rw [if_neg (by omega)]), ← made_cells]
                exact hmade, HR2.out.2.grown hgrow hBw (fun k hk => by cases hk)⟩
              rw [← hg3]
              clear hmade hgrow hg3 HR2 hBw
              go_wp2
              go_loopw [14, 15, 68] (fun _ _ i wr => ∃ r : Nat, r ≤ q ∧ i = .int .i64 r ∧ Hid (SObj wr g2 105 (cells16 (nextC c q r)) ∧ wr.ownsRow w.heap.size 61 1 (.slice (some ⟨g3, 0, none⟩) q q) q (cellsOf .u32 q (codeTo c q r)) ∧ Below w.heap.size w wr)) (fun _ _ i _ => q - (intOf i).toNat)
              case atStart => exact ⟨0, by omega, rfl, H3.out⟩
              case round =>
                obtain ⟨r, hr, rfl, hR⟩ := hrel
                by_cases hlt4 : r < q
                · have c0 : wr.cell? ⟨ga, oa + r, none⟩ = some (.int .u32 (c r : Int)) := (hR.out.2.2.cell (p := ⟨ga, oa + r, none⟩) hga).trans (H.out.1 r hlt4)
                  have x1 := H.out.2 r hlt4
                  obtain ⟨x, hx⟩ : ∃ x, x = c r := ⟨_, rfl⟩
                  rw [← hx] at c0 x1
                  have HX := Lib.hid hx; clear hx
                  by_cases hz : 0 < x
                  · have hz' : 0 < (x : Int) := by omega
                    have k1 : wr.cell? ⟨g2, x, none⟩ = some (.int .u32 (nextC c q r x : Int)) := hR.out.1.cell x (cells16_at _ x (by omega))
                    have z1 : wr.frozen? ⟨g2, x, none⟩ = false := hR.out.1.free x
                    have k2 : wr.cell? ⟨g3, r, none⟩ = some (.int .u32 (codeTo c q r r)) := by
                      have := hR.out.2.1.cellAt r (by simpa using hlt4)
                      simpa [cellsOf, hlt4] using this
                    have z2 : wr.frozen? ⟨g3, r, none⟩ = false := hR.out.2.1.frozenAt _
                    have hne : g2 ≠ g3 := fun e => by
                      have h1 := (ownsRow_ty hR.out.2.1 (k := g3) rfl).1
                      rw [← e] at h1
                      exact absurd (h1.inj hR.out.1.ty) (by decide)
                    have b1 : nextC c q r x ≤ 300000000 := by
                      unfold nextC
                      rw [if_neg (by omega)]
                      have h1 := cur_le (histF c q) q x HH.out hn x1
                      have h2 := cnt_n c x r
                      omega
                    obtain ⟨y, hy⟩ : ∃ y, y = nextC c q r x := ⟨_, rfl⟩
                    rw [← hy] at k1 b1
                    have HY : Hid ((y : Int) = (codeF c q r : Int)) := Lib.hid (by rw [hy, HX.out, nextC_code c q r (by rw [← HX.out]; exact hz)])
                    have HY2 := Lib.hid hy; clear hy
                    go_wp2
                    go_roundw
                    case rel => exact ⟨r + 1, by omega, by go_num, by
                      have s1 := (hR.out.2.1.stored r (.int .u32 (y : Int))).1
                      rw [cells_set32, cells32_congr (codeTo_step c q r _ HY.out)] at s1
                      have s2 := (hR.out.1.far ⟨g3, r, none⟩ hne (.int .u32 (y : Int))).set x (.int .u32 ((y + 1 : Nat) : Int))
                      rw [cells16_set, cells16_congr (h' := nextC c q (r + 1)) (fun l _ => by
                        rw [← nextC_step c q r (by rw [← HX.out]; exact hz), ← HX.out]
                        by_cases e : l = x
                        · subst e; rw [if_pos rfl, if_pos rfl, HY2.out]
                        · rw [if_neg e, if_neg e])] at s2
                      refine Lib.hid ⟨s2, ?_, ?_⟩
                      · exact ownsRow_only s1 (Only.setCell (S := fun k => k = g2) _ _ _ rfl) (fun k hk e => by
                          injection hk with hk
                          exact hne (e.symm.trans hk.symm))
                      · have h3 := (ownsRow_ty hR.out.2.1 (k := g3) rfl).2.1
                        exact (hR.out.2.2.setCell (show w.heap.size ≤ g3 from h3) _).setCell (show w.heap.size ≤ g2 by have := HG.out; omega) _⟩
                    case measure => simp [intOf]; omega
                  · obtain rfl : x = 0 := by omega
                    go_wp2
                    go_roundw
                    case rel => exact ⟨r + 1, by omega, by go_num, by
                      have s1 := hR.out.2.1
                      have s2 := hR.out.1
                      rw [cells32_congr (fun i _ => codeTo_zero c q r HX.out.symm i)] at s1
                      rw [cells16_congr (fun l _ => nextC_zero c q r HX.out.symm l)] at s2
                      exact Lib.hid ⟨s2, s1, hR.out.2.2⟩⟩
                    case measure => simp [intOf]; omega
                · obtain rfl : r = q := by omega
                  go_wp2
                  go_ret2
                  obtain ⟨av, cv, e, hcv, ho⟩ := own_of_cells hR.out.2.1
                  injection e with e1 e2 e3
                  subst e1
                  exact ⟨⟨_, _, rfl, ho.congr (fun i hi => by unfold codeTo; rw [if_pos hi])⟩, hR.out.2.2⟩
end Go.Proofs.YtdmefbpfpmkdcaaDoor
