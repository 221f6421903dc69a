/- The package's hTree.buildSimple. -/
import Derived.Test.YtdmefbpfpmkdcaaDoorSyms
import Derived.Laws.MakeOwn
namespace Go.Proofs.YtdmefbpfpmkdcaaDoor
open Go.RowKit
set_option linter.unusedVariables false

/-- A simple code: one symbol, or two. -/
def simC (a b cnt : Nat) : List (Nat × Nat) := if cnt = 1 then [(1, a)] else [(2, a), (3, b)]
def simI (cnt : Nat) : List Nat := if cnt = 1 then [] else [1]
theorem simC_one (a b : Nat) : simC a b 1 = [(1, a)] := rfl
theorem simC_two (a b : Nat) : simC a b 2 = [(2, a), (3, b)] := rfl
theorem simC_code (a b cnt : Nat) (h : cnt = 1 ∨ cnt = 2) (ha : a ≤ 65535) (hb : cnt = 2 → b ≤ 65535) : Code (simC a b cnt) (simI cnt) := by
  rcases h with rfl | rfl
  · rw [simC_one]
    refine ⟨fun u s hu k hk h1 => ?_, fun v hv => by simp [simI] at hv, fun v hv => by simp [simI] at hv, .inr ⟨a, by simp⟩, fun u s _ hu => by simp [simI] at hu, by simp, rfl, fun v hv => by simp [simI] at hv, fun u s hu => ?_⟩
    · rw [List.mem_singleton] at hu
      injection hu with e1 e2
      subst e1
      have : (2 : Nat) ^ 1 ≤ 2 ^ k := Nat.pow_le_pow_right (by decide) hk
      rw [Nat.div_eq_of_lt (by omega)] at h1; omega
    · rw [List.mem_singleton] at hu
      injection hu with e1 e2
      omega
  · rw [simC_two]
    have hI : simI 2 = [1] := rfl
    rw [hI]
    have hmem : ∀ u s, (u, s) ∈ [(2, a), (3, b)] → u = 2 ∧ s = a ∨ u = 3 ∧ s = b := fun u s h => by
      rcases List.mem_cons.1 h with h | h
      · injection h with e1 e2; exact .inl ⟨e1, e2⟩
      · rw [List.mem_singleton] at h; injection h with e1 e2; exact .inr ⟨e1, e2⟩
    refine ⟨fun u s hu k hk h1 => ?_, fun v hv => ?_, fun v hv c hc => ?_, .inl (by simp), fun u s hu hI => ?_, by simp, rfl, fun v hv => ?_, fun u s hu => ?_⟩
    · have hu3 : u = 2 ∨ u = 3 := by rcases hmem u s hu with h | h; exact .inl h.1; exact .inr h.1
      by_cases hk1 : k = 1
      · subst hk1
        have : u / 2 ^ 1 = 1 := by omega
        rw [this]; simp
      · have : (2 : Nat) ^ 2 ≤ 2 ^ k := Nat.pow_le_pow_right (by decide) (by omega)
        rw [Nat.div_eq_of_lt (by omega)] at h1; omega
    · rw [List.mem_singleton] at hv; subst hv
      exact ⟨2, a, 1, by simp, by decide, by decide⟩
    · rw [List.mem_singleton] at hv; subst hv
      right
      rcases (show c = 0 ∨ c = 1 by omega) with rfl | rfl
      · exact ⟨a, by simp⟩
      · exact ⟨b, by simp⟩
    · rw [List.mem_singleton] at hI
      rcases hmem u s hu with h | h <;> omega
    · rw [List.mem_singleton] at hv; omega
    · have := hb rfl
      rcases hmem u s hu with h | h <;> omega

theorem infoNode : (Tryd.prog.info? 115).map (fun i => (i.zero, i.size, i.bytes)) = some (some (.agg #[.int .u32 0, .int .i32 0]), 2, 8) := by kernel_rfl
theorem nodes_made (m : Nat) : madeCells #[.int .u32 0, .int .i32 0] (m * 2) = (ndCells (fun _ => (0, 0)) m).toArray := by
  apply Array.ext
  · simp [madeCells, ndCells]; omega
  · intro i h1 h2
    have h3 : i < 2 * m := by simpa [ndCells] using h2
    simp only [madeCells, ndCells, Array.getElem_map, Array.getElem_range, List.getElem_toArray, List.getElem_map, List.getElem_range]
    rcases Nat.mod_two_eq_zero_or_one i with e | e <;> simp [e]
/-- make([]hNode, 1, m). -/
theorem wpList_make_nodes (w : World) {ops : Array Oper} {rest : List Oper} {o : Oper} {a : Act} {Q : Exit → Act → World → Prop}
    (hg : o.guard = none) (l c : Operand) (hop : o.op = Op.makeSlice 71 l c)
    (kl kc : IntKind) (m : Nat) (hl : a.eval l = .int kl 1) (hc : a.eval c = .int kc (m : Int)) (h1 : 1 ≤ m) (h2 : m ≤ 1000000)
    (hK : wpList Tryd.prog ops Q rest (a.put o.dst (.slice (some ⟨w.heap.size, 0, none⟩) 1 m)) (w.alloc (.cells (ndCells (fun _ => (0, 0)) m).toArray 115))) :
    wpList Tryd.prog ops Q (o :: rest) a w := by
  refine wpList_plain hg fun K hK' => ?_
  obtain ⟨i, hi, hz⟩ := Option.map_eq_some_iff.1 infoNode
  simp only [Prod.mk.injEq] at hz
  obtain ⟨hz, hs, hb⟩ := hz
  have hrun := run_make (P := Tryd.prog) w 71 115 i _ Tryd.underlying71 hi hz kl kc 1 m (by omega) (by omega) (by rw [hb]; omega) (by omega)
  have e1 : (1 : Int).toNat = 1 := rfl
  simp only [Int.toNat_natCast, e1, hs] at hrun
  have e2 : (Value.agg #[.int .u32 0, .int .i32 0]).cells = #[.int .u32 0, .int .i32 0] := rfl
  rw [e2, nodes_made] at hrun
  unfold Oper.wp
  simp [execOp, hop, hl, hc, hrun, Result.andThen]
  exact hK' _ _ hK

set_option maxRecDepth 100000 in
set_option maxHeartbeats 400000 in
theorem bldS_any (gh cnt sz : Nat) (a b : Nat) (w : World) (h : SObj w gh 74 (hCells (.slice none 0 0) (fun _ => 0))) (hr : RevT w) (hg : 4 ≠ gh)
    (hc : cnt = 1 ∨ cnt = 2) (ha : a < sz) (hb : cnt = 2 → b < sz) (hb2 : b ≤ 4294967295) (hsz : sz ≤ 4096) :
    Calls Tryd.prog 51 #[.pointer (some ⟨gh, 0, none⟩), .int .u32 cnt, .agg #[.int .u32 a, .int .u32 b], .int .u32 sz] w fun e w' => e = .returned .nilIface ∧ (∃ gn, TreeS (simC a b cnt) (simC a b cnt) w' gh gn ∧ w.heap.size ≤ gn) ∧ Only (fun k => k = gh) w w' := by
  have H := Lib.hid (And.intro h (And.intro hr hg))
  have f0 := h.free 0
  have n0 := h.cell 0 rfl
  have hgl := h.lt
  clear h hr hg
  have hm : 2 * (cnt : Int) - 1 = ((2 * cnt - 1 : Nat) : Int) := by omega
  go_enter Tryd.func51, Tryd.ntmps51
  go_upto_region 2 with (refine wpList_make_nodes _ rfl _ _ rfl .i64 .u32 (2 * cnt - 1) rfl rfl (by omega) (by omega) ?_)
  obtain ⟨gb, hgb⟩ : ∃ x, x = w.heap.size := ⟨_, rfl⟩
  generalize hw1 : World.alloc _ _ = w1
  have hlen : (simC a b cnt).length = cnt := by rcases hc with rfl | rfl <;> rfl
  have H1 : Hid (TreeS (simC a b cnt) [] w1 gh (gb + 1) ∧ SObj w1 gb 76 [.int .u32 a, .int .u32 b] ∧ Only (fun k => k = gh) w w1) := Lib.hid (by
    rw [← hw1, hgb]
    refine ⟨⟨[], _, _, Built.start _, Lut.start, ?_, ?_⟩, ?_, ?_⟩
    · rw [hlen]
      exact ((H.out.1.set 0 _).alloc _).alloc _
    · rw [hlen]
      have h5 := obj_new ((w.setCell ⟨gh, 0, none⟩ (.slice (some ⟨w.heap.size + 1, 0, none⟩) 1 (2 * cnt - 1))).alloc (.cells #[.int .u32 a, .int .u32 b] 76)) 115 (ndCells (fun _ => (0, 0)) (2 * cnt - 1))
      have e2 : ((w.setCell ⟨gh, 0, none⟩ (.slice (some ⟨w.heap.size + 1, 0, none⟩) 1 (2 * cnt - 1))).alloc (.cells #[.int .u32 a, .int .u32 b] 76)).heap.size = w.heap.size + 1 := by simp
      rw [e2] at h5
      exact h5
    · have h5 := obj_new (w.setCell ⟨gh, 0, none⟩ (.slice (some ⟨w.heap.size + 1, 0, none⟩) 1 (2 * cnt - 1))) 76 [.int .u32 a, .int .u32 b]
      have e2 : (w.setCell ⟨gh, 0, none⟩ (.slice (some ⟨w.heap.size + 1, 0, none⟩) 1 (2 * cnt - 1))).heap.size = w.heap.size := by simp
      rw [e2] at h5
      exact h5.alloc _
    · exact ((Only.setCell (S := fun k => k = gh) w _ _ rfl).tr (Only.alloc _ _ _)).tr (Only.alloc _ _ _))
  have HGB := Lib.hid hgb
  rw [← hgb]
  have hgl2 : gh < gb := by omega
  clear hw1 f0 n0 hm hgb
  go_wp2_with fail
  go_loopg [9] (cnt + 1) (fun j s9 wr => ∃ i : Nat, s9 = .int .u32 i ∧ i ≤ cnt ∧ cnt < j + i ∧ Hid (TreeS (simC a b cnt) ((simC a b cnt).take i) wr gh (gb + 1) ∧ Only (TwoT gh (gb + 1)) w1 wr))
  case atStart => exact ⟨0, rfl, Nat.zero_le _, by omega, H1.out.1, Only.refl _ _⟩
  case round =>
    obtain ⟨i, rfl, hi, hj, hR⟩ := hrel
    by_cases hlt : i < cnt
    · obtain ⟨y, hy⟩ : ∃ y, y = (if i = 0 then a else b) := ⟨_, rfl⟩
      have hysz : y < sz := by rw [hy]; split; exact ha; exact hb (by omega)
      have cy : wr.cell? ⟨gb, i, none⟩ = some (.int .u32 y) := by
        have ho := H1.out.2.1.only hR.out.2 (fun e => by rcases e with e | e <;> omega)
        refine ho.cell i ?_
        rw [hy]
        rcases (show i = 0 ∨ i = 1 by omega) with rfl | rfl <;> rfl
      have hfact : (cod (cnt - 1) i, y) ∈ simC a b cnt ∧ (∀ t, (cod (cnt - 1) i, t) ∉ (simC a b cnt).take i) ∧ (simC a b cnt).take i ++ [(cod (cnt - 1) i, y)] = (simC a b cnt).take (i + 1) := by
        rw [hy]
        rcases hc with rfl | rfl
        · obtain rfl : i = 0 := by omega
          rw [simC_one]
          exact ⟨by simp [cod], by simp, by simp [cod]⟩
        · rw [simC_two]
          rcases (show i = 0 ∨ i = 1 by omega) with rfl | rfl
          · exact ⟨by simp [cod], by simp, by simp [cod]⟩
          · exact ⟨by simp [cod], by simp [cod], by simp [cod]⟩
      have hrv : RevT wr := fun k hk => by
        have h5 := H.out.2.1 k hk
        have h6 := World.block_lt_of_cell? w _ h5
        have h7 := HGB.out
        have h8 := H.out.2.2
        have h9 : Only (TwoT gh (gb + 1)) w w1 := H1.out.2.2.mono (fun _ e => .inl e)
        exact (World.cell?_of_block ((h9.tr hR.out.2).block _ h6 (fun e => by rcases e with e | e <;> simp only at * <;> omega))).trans h5
      have hI : Hid (Calls Tryd.prog 63 #[.pointer (some ⟨gh, 0, none⟩), .int .u32 y, .int .u32 i, .int .u32 ((cnt - 1 : Nat) : Int)] wr fun e w' => e = .returned .nilIface ∧ TreeS (simC a b cnt) ((simC a b cnt).take i ++ [(cod (cnt - 1) i, y)]) w' gh (gb + 1) ∧ Only (TwoT gh (gb + 1)) wr w') := Lib.hid (by
        have h6 := World.block_lt_of_cell? w _ (H.out.2.1 0 (by decide))
        have h7 := HGB.out
        simp only at h6
        exact ins_any _ (simI cnt) _ gh (gb + 1) y (cnt - 1) i wr (simC_code a b cnt hc (by omega) (fun h2 => by have := hb h2; omega)) hR.out.1 hrv ⟨H.out.2.2, by omega⟩ hfact.1 hfact.2.1 (by omega) (by omega) (by omega) (by rw [hlen]; omega))
      have HY := Lib.hid hfact
      have e1 : (cnt : Int) - 1 = ((cnt - 1 : Nat) : Int) := by omega
      clear hy hfact hrv
      go_wp2_with fail
      refine hI.out.mono ?_
      rintro _ w2 ⟨rfl, ht, ho⟩
      have H2 := Lib.hid (And.intro ht (hR.out.2.tr ho))
      clear ht ho cy
      go_wp2
      go_roundg (gk - 1)
      case measure => omega
      case rel => exact ⟨i + 1, by go_num, by omega, by omega, by rw [← HY.out.2.2]; exact H2.out.1, H2.out.2⟩
    · go_wp2
      go_ret
      obtain rfl : i = cnt := by omega
      have h5 := hR.out.1
      rw [List.take_of_length_le (by rw [hlen]; exact Nat.le_refl _)] at h5
      exact ⟨rfl, ⟨gb + 1, h5, by have := HGB.out; omega⟩, H1.out.2.2.trans hR.out.2 (fun k hk hn e => by have := HGB.out; rcases e with e | e; exact hn e; omega)⟩
end Go.Proofs.YtdmefbpfpmkdcaaDoor
