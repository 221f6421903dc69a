/- The reference's Simple: symbols by a simple code. -/
import Derived.Test.YtdmefbpfpmkdcaaDoorSSyms
import Derived.Test.YtdmefbpfpmkdcaaDoorBldS
import Derived.Deep.OwnRows
namespace Go.Proofs.YtdmefbpfpmkdcaaDoor
open Go.RowKit
set_option linter.unusedVariables false

/-- The lengths of a simple code: the first i of its symbols laid. -/
def simL (a b i : Nat) (k : Nat) : Nat := if 0 < i ∧ k = a ∨ 1 < i ∧ k = b then 1 else 0
theorem simL_cnt (a b : Nat) (hab : a < b) (l : Nat) : ∀ m, cnt (simL a b 2) (l + 1) m = if l = 0 then (if a < m then 1 else 0) + (if b < m then 1 else 0) else 0
  | 0 => by simp [cnt]
  | m + 1 => by
    rw [cnt, simL_cnt a b hab l m]
    have hs : simL a b 2 m = 1 ∧ (m = a ∨ m = b) ∨ simL a b 2 m = 0 ∧ ¬ (m = a ∨ m = b) := by
      unfold simL
      by_cases h : m = a ∨ m = b
      · left; rw [if_pos (by omega)]; exact ⟨rfl, h⟩
      · right; rw [if_neg (by omega)]; exact ⟨rfl, h⟩
    generalize simL a b 2 m = y at hs
    repeat' split
    all_goals omega
theorem simL_le (a b i k : Nat) : simL a b i k ≤ 1 := by unfold simL; split <;> omega
theorem simL_whole (a b n : Nat) (hab : a < b) (hb : b < n) (hn : n ≤ 65536) : Whole (simL a b 2) n := by
  refine ⟨fun i _ => by have := simL_le a b 2 i; omega, ?_, hn⟩
  rw [krf_cnt _ n (fun i _ => by have := simL_le a b 2 i; omega)]
  rw [simL_cnt a b hab 0, simL_cnt a b hab 1, simL_cnt a b hab 2, simL_cnt a b hab 3, simL_cnt a b hab 4, simL_cnt a b hab 5, simL_cnt a b hab 6, simL_cnt a b hab 7, simL_cnt a b hab 8, simL_cnt a b hab 9, simL_cnt a b hab 10, simL_cnt a b hab 11, simL_cnt a b hab 12, simL_cnt a b hab 13, simL_cnt a b hab 14]
  rw [if_pos rfl, if_pos (by omega), if_pos hb]
  rfl
theorem simL_codes (a b n : Nat) (hab : a < b) (hb : b < n) (hn : n ≤ 65536) : codesL (simL a b 2) n n = simC a b 2 := by
  have hw := simL_whole a b n hab hb hn
  have va : cod 1 (codeOf (simL a b 2) n a) = 2 := by
    have h1 : simL a b 2 a = 1 := by unfold simL; rw [if_pos (.inl ⟨by omega, rfl⟩)]
    have h2 := (vOf_code hw (show a < n by omega) (by omega)).1
    unfold vOf at h2
    rw [h1] at h2
    have h3 := simL_cnt a b hab 0 a
    rw [if_pos rfl, if_neg (by omega), if_neg (by omega)] at h3
    have h4 : cur (hh (simL a b 2) n) 1 = 0 := rfl
    rw [show (0 : Nat) + 1 = 1 from rfl] at h3
    rw [h4, h3] at h2
    unfold cod; rw [h2]
  have vb : cod 1 (codeOf (simL a b 2) n b) = 3 := by
    have h1 : simL a b 2 b = 1 := by unfold simL; rw [if_pos (.inr ⟨by omega, rfl⟩)]
    have h2 := (vOf_code hw hb (by omega)).1
    unfold vOf at h2
    rw [h1] at h2
    have h3 := simL_cnt a b hab 0 b
    rw [if_pos rfl, if_pos (by omega), if_neg (by omega)] at h3
    have h4 : cur (hh (simL a b 2) n) 1 = 0 := rfl
    rw [show (0 : Nat) + 1 = 1 from rfl] at h3
    rw [h4, h3] at h2
    unfold cod; rw [h2]
  have key : ∀ m, codesL (simL a b 2) n m = (if a < m then [(2, a)] else []) ++ (if b < m then [(3, b)] else []) := fun m => by
    induction m with
    | zero => rw [if_neg (by omega), if_neg (by omega)]; rfl
    | succ m ih =>
      rw [codesL, ih]
      by_cases e1 : m = a
      · subst e1
        have h1 : simL m b 2 m = 1 := by unfold simL; rw [if_pos (.inl ⟨by omega, rfl⟩)]
        rw [h1, va, if_neg (by omega), if_neg (by omega), if_pos (by omega), if_pos (by omega), if_neg (by omega)]; rfl
      · by_cases e2 : m = b
        · subst e2
          have h1 : simL a m 2 m = 1 := by unfold simL; rw [if_pos (.inr ⟨by omega, rfl⟩)]
          rw [h1, vb, if_pos (by omega), if_neg (by omega), if_pos (by omega), if_pos (by omega), if_pos (by omega)]; rfl
        · have h1 : simL a b 2 m = 0 := by unfold simL; rw [if_neg (by omega)]
          rw [h1, if_neg (show ¬ 0 < 0 by omega), List.append_nil]
          by_cases h2 : a < m
          · rw [if_pos h2, if_pos (show a < m + 1 by omega)]
            by_cases h3 : b < m
            · rw [if_pos h3, if_pos (show b < m + 1 by omega)]
            · rw [if_neg h3, if_neg (show ¬ b < m + 1 by omega)]
          · rw [if_neg h2, if_neg (show ¬ a < m + 1 by omega), if_neg (by omega), if_neg (by omega)]
  rw [key n, if_pos (by omega), if_pos hb]
  rfl
theorem sys_simL1 (a b n : Nat) (ha : a < n) : sys (simL a b 1) n 15 = [a] := by
  have h1 : ∀ m, syl (simL a b 1) 1 m = if a < m then [a] else [] := fun m => by
    induction m with
    | zero => rw [if_neg (by omega)]; rfl
    | succ m ih =>
      rw [syl, ih]
      by_cases e : m = a
      · subst e
        have e1 : simL m b 1 m = 1 := by unfold simL; rw [if_pos (.inl ⟨by omega, rfl⟩)]
        rw [e1, if_neg (by omega), if_pos rfl, if_pos (by omega)]; rfl
      · have e1 : simL a b 1 m = 0 := by unfold simL; rw [if_neg (by omega)]
        rw [e1, if_neg (show ¬ (0 : Nat) = 1 by omega), List.append_nil]
        by_cases h2 : a < m
        · rw [if_pos h2, if_pos (by omega)]
        · rw [if_neg h2, if_neg (by omega)]
  have h2 : ∀ l, 2 ≤ l → ∀ m, syl (simL a b 1) l m = [] := fun l hl m => by
    induction m with
    | zero => rfl
    | succ m ih => rw [syl, ih, if_neg (by have := simL_le a b 1 m; omega)]; rfl
  simp only [sys, h2 (1 + 1) (by omega) n, h2 (2 + 1) (by omega) n, h2 (3 + 1) (by omega) n, h2 (4 + 1) (by omega) n, h2 (5 + 1) (by omega) n, h2 (6 + 1) (by omega) n, h2 (7 + 1) (by omega) n, h2 (8 + 1) (by omega) n, h2 (9 + 1) (by omega) n, h2 (10 + 1) (by omega) n, h2 (11 + 1) (by omega) n, h2 (12 + 1) (by omega) n, h2 (13 + 1) (by omega) n, h2 (14 + 1) (by omega) n, List.append_nil, List.nil_append]
  rw [show 0 + 1 = 1 from rfl, h1 n, if_pos ha]
theorem sys_simL2 (a b n : Nat) (hab : a < b) (hb : b < n) : (sys (simL a b 2) n 15).length = 2 := by
  rw [sys_len]
  simp only [bef, simL_cnt a b hab]
  simp [show a < n by omega, hb]
theorem sim_made (a b n cnt : Nat) (hc : cnt = 1 ∨ cnt = 2) (ha : a < n) (hb : cnt = 2 → a < b ∧ b < n) (hn : n ≤ 65536) : madeB (simL a b cnt) n = true ∧
    ∀ w cs sa sc, CodeR w (hh (simL a b cnt) n) (sys (simL a b cnt) n 15) cs sa sc → CodeOK (simC a b cnt) w cs sa sc (sys (simL a b cnt) n 15).length := by
  rcases hc with rfl | rfl
  · have e := sys_simL1 a b n ha
    refine ⟨by unfold madeB; rw [e]; rfl, fun w cs sa sc h => .inr ⟨a, _, simC_one a b, by rw [e]; rfl, by rw [e] at h; exact h⟩⟩
  · obtain ⟨h1, h2⟩ := hb rfl
    have e := sys_simL2 a b n h1 h2
    have hw := simL_whole a b n h1 h2 hn
    refine ⟨by unfold madeB; rw [e, if_neg (by decide), if_neg (by decide)]; exact decide_eq_true hw.krf, fun w cs sa sc h => .inl ⟨simL a b 2, n, (simL_codes a b n h1 h2 hn).symm, hw, rfl, by rw [e]; decide, h⟩⟩

theorem icells_set (n : Nat) (f : Nat → Int) (j : Nat) (x : Int) : (cellsOf .i64 n f).set j (.int .i64 x) = cellsOf .i64 n (fun i => if i = j then x else f i) := by
  apply List.ext_getElem
  · simp [cellsOf]
  · intro i h1 h2
    simp only [cellsOf, List.length_set, List.length_map, List.length_range] at h1
    simp only [cellsOf, List.getElem_set, List.getElem_map, List.getElem_range]
    by_cases e : j = i
    · subst e; simp
    · simp [e, show ¬ i = j from fun h => e h.symm]
theorem icells_congr {n : Nat} {f f' : Nat → Int} (h : ∀ i, i < n → f i = f' i) : cellsOf .i64 n f = cellsOf .i64 n f' := by
  simp only [cellsOf]
  exact List.map_congr_left fun i hi => by rw [h i (List.mem_range.1 hi)]
theorem arg_of_obj {w : World} {g n : Nat} {f : Nat → Int} (h : SObj w g 3 (cellsOf .i64 n f)) : Arg .i64 w (some ⟨g, 0, none⟩) n f := fun h0 => ⟨g, 0, rfl, h.lt, fun i hi => by
  rw [Nat.zero_add]
  exact h.cell i (by simp [cellsOf, hi])⟩
theorem ints_made (n : Nat) : (madeCells #[.int .i64 0] n) = (cellsOf .i64 n (fun _ => 0)).toArray := by
  apply Array.ext
  · simp [madeCells, cellsOf]
  · intro i h1 h2
    simp [madeCells, cellsOf, Nat.mod_one]

set_option maxRecDepth 100000 in
set_option maxHeartbeats 400000 in
theorem ssim_any (cnt t0 sz m : Nat) (t1 : Int) (b : Nat) (a : Option Addr) (n c : Nat) (f : Nat → Int) (S : Nat) (w : World) (ha : Arg .u8 w a n f) (hs : Strm f S n) (hmax : n ≤ 1048576)
    (hc : cnt = 1 ∨ cnt = 2) (h0 : t0 < sz) (hb : cnt = 2 → t1 = (b : Int) ∧ t0 < b ∧ b < sz) (hsz : sz ≤ 4096) (hm : m ≤ 4096) :
    Calls Tryd.prog 21 #[.int .i64 cnt, .agg #[.int .i64 t0, .int .i64 t1], .int .i64 sz, .slice a n c, .int .i64 m] w fun e w' =>
      (∃ l kind a' c', e = .returned (.tuple #[.slice a' l.length c', .int .i64 (kind : Nat)]) ∧ Told (simC t0 b cnt) S n 0 m l kind ∧ Own .i64 w.heap.size w' a' l.length (listF l)) ∧ Below w.heap.size w w' := by
  obtain ⟨i0, hi, hz0, hz1, hz2⟩ := info_parts infoInt
  have H := Lib.hid (And.intro ha (And.intro hs hb))
  clear ha hs hb
  go_enter Tryd.func21, Tryd.ntmps21
  go_upto_region 2 with (refine wpList_make_row _ rfl _ _ 22 rfl 3 i0 (.int .i64 0) Tryd.underlying22 hi hz0 hz1 rfl .i64 .i64 sz rfl rfl (by rw [hz2]; omega) (by omega) ?_)
  rw [ints_made]
  clear hi hz0 hz1 hz2
  obtain ⟨gb, hgb⟩ : ∃ x, x = w.heap.size := ⟨_, rfl⟩
  generalize hw1 : World.alloc _ _ = w1
  have H1 : Hid (SObj w1 (gb + 1) 3 (cellsOf .i64 sz (fun _ => 0)) ∧ SObj w1 gb 42 [.int .i64 t0, .int .i64 t1] ∧ Only (fun _ => False) w w1) := Lib.hid (by
    rw [← hw1, hgb]
    have e2 : (w.alloc (.cells #[.int .i64 t0, .int .i64 t1] 42)).heap.size = w.heap.size + 1 := by simp
    refine ⟨?_, (obj_new w 42 [.int .i64 t0, .int .i64 t1]).alloc _, (Only.alloc _ _ _).tr (Only.alloc _ _ _)⟩
    rw [← e2]; exact obj_new _ _ _)
  have HGB := Lib.hid hgb
  rw [← hgb]
  clear hw1 hgb
  go_wp2_with fail
  go_loopg [13] (cnt + 1) (fun j s13 wr => ∃ i : Nat, s13 = .int .i64 i ∧ i ≤ cnt ∧ cnt < j + i ∧ Hid (SObj wr (gb + 1) 3 (cellsOf .i64 sz (fun k => (simL t0 b i k : Int))) ∧ Only (fun k => k = gb + 1) w1 wr))
  case atStart =>
    refine ⟨0, rfl, Nat.zero_le _, by omega, ?_, Only.refl _ _⟩
    have h5 := H1.out.1
    rw [icells_congr (f' := fun k => (simL t0 b 0 k : Int)) (fun k _ => by unfold simL; rw [if_neg (by omega)]; rfl)] at h5
    exact h5
  case round =>
    obtain ⟨i, rfl, hi, hj, hR⟩ := hrel
    by_cases hlt : i < cnt
    · obtain ⟨y, hy⟩ : ∃ y, y = (if i = 0 then t0 else b) := ⟨_, rfl⟩
      have hysz : y < sz := by
        rw [hy]; split
        · exact h0
        · exact (H.out.2.2 (by omega)).2.2
      have cy : wr.cell? ⟨gb, i, none⟩ = some (.int .i64 y) := by
        have ho := H1.out.2.1.only hR.out.2 (by omega)
        refine ho.cell i ?_
        rw [hy]
        by_cases hi0 : i = 0
        · subst hi0; rfl
        · obtain rfl : i = 1 := by omega
          have h5 := (H.out.2.2 (by omega)).1
          rw [h5]; rfl
      have cl : wr.cell? ⟨gb + 1, y, none⟩ = some (.int .i64 (simL t0 b i y : Int)) := hR.out.1.cell y (by simp [cellsOf, hysz])
      have fl := hR.out.1.free y
      have HY := Lib.hid hy
      clear hy
      go_wp2
      go_roundg (gk - 1)
      case measure => omega
      case rel =>
        refine ⟨i + 1, by go_num, by omega, by omega, ?_, hR.out.2.tr (Only.setCell _ _ _ rfl)⟩
        have h5 := hR.out.1.set y (.int .i64 1)
        rw [icells_set, icells_congr (f' := fun k => (simL t0 b (i + 1) k : Int)) (fun k _ => ?_)] at h5
        · exact h5
        · have hy := HY.out
          unfold simL
          by_cases hk : k = y
          · rw [if_pos hk, if_pos (by split at hy <;> omega)]; rfl
          · rw [if_neg hk]
            by_cases hq : 0 < i ∧ k = t0 ∨ 1 < i ∧ k = b
            · rw [if_pos hq, if_pos (by omega)]
            · rw [if_neg hq, if_neg (by split at hy <;> omega)]
    · obtain rfl : i = cnt := by omega
      obtain ⟨hmd, hck⟩ := sim_made t0 b sz i hc h0 (fun h2 => (H.out.2.2 h2).2) (by omega)
      have e : natF (fun k => (simL t0 b i k : Int)) = simL t0 b i := by funext k; unfold natF; simp
      have how : Only (fun k => k = gb + 1) w wr := (H1.out.2.2.mono (fun _ h => h.elim)).tr hR.out.2
      have har : Arg .u8 wr a n f := H.out.1.only' how (fun k hk e => by have := HGB.out; omega)
      have hcd : Code (simC t0 b i) (simI i) := simC_code t0 b i hc (by omega) (fun h2 => by have := (H.out.2.2 h2).2; omega)
      have HN := Lib.hid (ssyms_any (simC t0 b i) (simI i) (some ⟨gb + 1, 0, none⟩) sz sz (fun k => (simL t0 b i k : Int)) a n c f S m wr (arg_of_obj hR.out.1) hsz (fun k _ => by have := simL_le t0 b i k; omega) har H.out.2.1 hmax hm hcd (by rw [e]; exact hmd) (by rw [e]; exact hck))
      have HO := Lib.hid how
      clear hmd hck e how har hcd
      go_wp2_with fail
      refine HN.out.mono ?_
      rintro _ w4 ⟨⟨l, kind, a', c', rfl, htold, hown⟩, hb4⟩
      have H4 := Lib.hid (And.intro htold (And.intro hown hb4))
      clear htold hown hb4
      go_wp2
      go_ret2
      exact ⟨⟨l, kind, a', c', rfl, H4.out.1, H4.out.2.1.mono HO.out.size⟩, (HO.out.below (Nat.le_refl _) (fun k hk => by have := HGB.out; omega)).trans (H4.out.2.2.mono HO.out.size)⟩
end Go.Proofs.YtdmefbpfpmkdcaaDoor
