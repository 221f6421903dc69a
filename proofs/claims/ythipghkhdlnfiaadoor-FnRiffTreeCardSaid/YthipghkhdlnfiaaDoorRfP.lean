/- The law's writers of files: low, chunk, file. -/
import Derived.Test.YthipghkhdlnfiaaDoorRfL
import Derived.Deep.LoopGhost
import Derived.Laws.AppendOwnNone
namespace Go.Proofs.YthipghkhdlnfiaaDoor
open Go.RowKit
set_option linter.unusedVariables false

/-- The four bytes of a number, the lowest first. -/
def le4 (n : Nat) : List Int := [((n % 256 : Nat) : Int), ((n / 256 % 256 : Nat) : Int), ((n / 65536 % 256 : Nat) : Int), ((n / 16777216 % 256 : Nat) : Int)]

theorem cells_new (w : World) (T : TypeId) (vs : List Value) : ∀ j u, vs[j]? = some u → (w.alloc (.cells vs.toArray T)).cell? ((⟨w.heap.size, 0, none⟩ : Addr).add j) = some u := fun j u h => by
  rw [Addr.add_lit, Nat.zero_add]; exact (obj_new w T vs).cell j h
/-- An append to a row of the call's own leaves what is older alone. -/
theorem below_app {B n : Nat} {w wr w3 : World} {e : TypeId} {size : Nat} {v : Value} {xs : List Value} {o : Go.Obj} (h : Below B w wr) (hB : B ≤ w.heap.size) (hr : wr.ownsRow B e size v n xs) (hg : (wr.alloc o).grownBy w3 v.ownBlock) : Below B w w3 := by
  have h1 : Only (fun k => v.ownBlock = some k) wr w3 := (Only.alloc _ wr o).tr (Only.of_grown hg (fun k hk => hk))
  have h2 : Below B wr w3 := h1.below (Nat.le_trans hB h.size) (fun k hk => (ownsRow_ty hr hk).2.1)
  exact h.trans h2
set_option maxRecDepth 100000 in
set_option maxHeartbeats 4000000 in
theorem low_any (n : Nat) (hn : n < 4294967296) (w : World) : Calls Tryd.prog 29 #[.int .i64 n, .int .i64 4] w fun e w' => ∃ v, e = .returned v ∧ w'.ownsRow w.heap.size 5 1 v 4 (u8s (le4 n)) ∧ Below w.heap.size w w' := by
  have hn0 : (0 : Int) ≤ (n : Int) := by omega
  have hn1 : (n : Int) ≤ 4294967295 := by omega
  obtain ⟨B, hB⟩ : ∃ B, B = w.heap.size := ⟨_, rfl⟩
  rw [← hB]
  have HB := Lib.hid hB
  obtain ⟨i0, hi, hz0, hz1, hz2⟩ := info_parts (show (Tryd.prog.info? 5).map (fun i => (i.zero, i.size, i.bytes)) = some (some (.int .u8 0), 1, 1) by kernel_rfl)
  have HI := Lib.hid (And.intro hi (And.intro hz0 (And.intro hz1 hz2)))
  clear hi hz0 hz1 hz2 hB hn
  go_enter Tryd.func29, Tryd.ntmps29
  go_wp2
  go_loopg [5, 6] 5 (fun g s5 s6 wr => ∃ i : Nat, i ≤ 4 ∧ 4 - i + 1 ≤ g ∧ s6 = .int .i64 i ∧ Hid (wr.ownsRow B 5 1 s5 i (u8s ((le4 n).take i)) ∧ Below B w wr))
  case atStart => exact ⟨0, by omega, by omega, rfl, World.ownsRow_nil _ _ _ _, Below.refl _ _⟩
  case round =>
    obtain ⟨i, hi4, hg, rfl, hR⟩ := hrel
    obtain ⟨sa, sc, hs⟩ := row_shape hR.out.1
    subst hs
    have HG := Lib.hid hg; clear hg
    have hbw : Hid (B ≤ wr.heap.size) := Lib.hid (by have := hR.out.2.size; have := HB.out; omega)
    by_cases hlt : i < 4
    · obtain ⟨hi, hz0, hz1, hz2⟩ := HI.out
      rcases (by omega : i = 0 ∨ i = 1 ∨ i = 2 ∨ i = 3) with rfl | rfl | rfl | rfl
      · have e : (((n % 256 : Nat)) : Int) = ((n : Int) % 256) := by omega
        have HE : Hid (u8s ((le4 n).take 1) = u8s ((le4 n).take 0) ++ [.int .u8 ((n : Int) % 256)]) := Lib.hid (by rw [← e]; rfl)
        clear e
        go_wp2_with (at_builtin; refine wpList_append_own _ rfl _ _ 22 rfl B 5 i0 (.int .u8 0) 1 1 Tryd.underlying22 hi hz0 hz1 hz2 rfl (by decide) _ _ _ rfl (hR.out.1.alloc _) ⟨wr.heap.size, 0, none⟩ 1 1 [.int .u8 ((n : Int) % 256)] rfl rfl (cells_new wr 5 [.int .u8 ((n : Int) % 256)]) (by simp [Value.oneCell']) (by unfold maxLen; omega) (by omega) (by simp; have := hbw.out; omega) ?_; intro v' w3 hown3 hgr3 _; have H3 := Lib.hid (And.intro hown3 hgr3); clear hown3 hgr3)
        go_roundg (gk - 1)
        case measure => have := HG.out; omega
        case rel =>
          refine ⟨1, by omega, by have := HG.out; omega, by go_num, ?_, ?_⟩
          · rw [HE.out]; exact H3.out.1
          · exact below_app hR.out.2 (by have := HB.out; omega) hR.out.1 H3.out.2
      · have e : (((n / 256 % 256 : Nat)) : Int) = ((n : Int) / 256 % 256) := by omega
        have HE : Hid (u8s ((le4 n).take 2) = u8s ((le4 n).take 1) ++ [.int .u8 ((n : Int) / 256 % 256)]) := Lib.hid (by rw [← e]; rfl)
        clear e
        go_wp2_with (at_builtin; refine wpList_append_own _ rfl _ _ 22 rfl B 5 i0 (.int .u8 0) 1 1 Tryd.underlying22 hi hz0 hz1 hz2 rfl (by decide) _ _ _ rfl (hR.out.1.alloc _) ⟨wr.heap.size, 0, none⟩ 1 1 [.int .u8 ((n : Int) / 256 % 256)] rfl rfl (cells_new wr 5 [.int .u8 ((n : Int) / 256 % 256)]) (by simp [Value.oneCell']) (by unfold maxLen; omega) (by omega) (by simp; have := hbw.out; omega) ?_; intro v' w3 hown3 hgr3 _; have H3 := Lib.hid (And.intro hown3 hgr3); clear hown3 hgr3)
        go_roundg (gk - 1)
        case measure => have := HG.out; omega
        case rel =>
          refine ⟨2, by omega, by have := HG.out; omega, by go_num, ?_, ?_⟩
          · rw [HE.out]; exact H3.out.1
          · exact below_app hR.out.2 (by have := HB.out; omega) hR.out.1 H3.out.2
      · have e : (((n / 65536 % 256 : Nat)) : Int) = ((n : Int) / 65536 % 256) := by omega
        have HE : Hid (u8s ((le4 n).take 3) = u8s ((le4 n).take 2) ++ [.int .u8 ((n : Int) / 65536 % 256)]) := Lib.hid (by rw [← e]; rfl)
        clear e
        go_wp2_with (at_builtin; refine wpList_append_own _ rfl _ _ 22 rfl B 5 i0 (.int .u8 0) 1 1 Tryd.underlying22 hi hz0 hz1 hz2 rfl (by decide) _ _ _ rfl (hR.out.1.alloc _) ⟨wr.heap.size, 0, none⟩ 1 1 [.int .u8 ((n : Int) / 65536 % 256)] rfl rfl (cells_new wr 5 [.int .u8 ((n : Int) / 65536 % 256)]) (by simp [Value.oneCell']) (by unfold maxLen; omega) (by omega) (by simp; have := hbw.out; omega) ?_; intro v' w3 hown3 hgr3 _; have H3 := Lib.hid (And.intro hown3 hgr3); clear hown3 hgr3)
        go_roundg (gk - 1)
        case measure => have := HG.out; omega
        case rel =>
          refine ⟨3, by omega, by have := HG.out; omega, by go_num, ?_, ?_⟩
          · rw [HE.out]; exact H3.out.1
          · exact below_app hR.out.2 (by have := HB.out; omega) hR.out.1 H3.out.2
      · have e : (((n / 16777216 % 256 : Nat)) : Int) = ((n : Int) / 16777216) := by omega
        have HE : Hid (u8s ((le4 n).take 4) = u8s ((le4 n).take 3) ++ [.int .u8 ((n : Int) / 16777216)]) := Lib.hid (by rw [← e]; rfl)
        clear e
        go_wp2_with (at_builtin; refine wpList_append_own _ rfl _ _ 22 rfl B 5 i0 (.int .u8 0) 1 1 Tryd.underlying22 hi hz0 hz1 hz2 rfl (by decide) _ _ _ rfl (hR.out.1.alloc _) ⟨wr.heap.size, 0, none⟩ 1 1 [.int .u8 ((n : Int) / 16777216)] rfl rfl (cells_new wr 5 [.int .u8 ((n : Int) / 16777216)]) (by simp [Value.oneCell']) (by unfold maxLen; omega) (by omega) (by simp; have := hbw.out; omega) ?_; intro v' w3 hown3 hgr3 _; have H3 := Lib.hid (And.intro hown3 hgr3); clear hown3 hgr3)
        go_roundg (gk - 1)
        case measure => have := HG.out; omega
        case rel =>
          refine ⟨4, by omega, by have := HG.out; omega, by go_num, ?_, ?_⟩
          · rw [HE.out]; exact H3.out.1
          · exact below_app hR.out.2 (by have := HB.out; omega) hR.out.1 H3.out.2
    · obtain rfl : i = 4 := by omega
      go_wp2
      go_ret
      refine ⟨_, rfl, ?_, hR.out.2⟩
      exact hR.out.1
theorem below_own {B n : Nat} {w wr w3 : World} {e : TypeId} {size : Nat} {v : Value} {xs : List Value} (h : Below B w wr) (hB : B ≤ w.heap.size) (hr : wr.ownsRow B e size v n xs) (hg : wr.grownBy w3 v.ownBlock) : Below B w w3 := by
  have h1 : Only (fun k => v.ownBlock = some k) wr w3 := Only.of_grown hg (fun k hk => hk)
  exact h.trans (h1.below (Nat.le_trans hB h.size) (fun k hk => (ownsRow_ty hr hk).2.1))
/-- A slice of bytes that is read: nil, or a row of cells. -/
def Src (w : World) (a : Option Addr) (c : Nat) (l : List Int) : Prop := (a = none ∧ c = 0 ∧ l = []) ∨ ∃ ad : Addr, a = some ad ∧ ∀ j u, (u8s l)[j]? = some u → w.cell? (ad.add j) = some u
theorem cell_later {B : Nat} {w w' : World} (hb : Below B w w') (hB : B = w.heap.size) {p : Addr} {v : Value} (h : w.cell? p = some v) : w'.cell? p = some v := by
  rw [World.cell?_of_block (w := w) (hb.block p.block (by rw [hB]; exact World.block_lt_of_cell? w p h))]; exact h
theorem Src.below {w w' : World} {a : Option Addr} {c : Nat} {l : List Int} (h : Src w a c l) (hb : Below w.heap.size w w') : Src w' a c l := by
  rcases h with h | ⟨ad, h1, h3⟩
  · exact .inl h
  · exact .inr ⟨ad, h1, fun j u hu => cell_later hb rfl (h3 j u hu)⟩
/-- A chunk as it is written. -/
def chunkB (id l : List Int) : List Int := id ++ le4 l.length ++ l ++ if l.length % 2 = 1 then [0] else []

set_option maxRecDepth 100000 in
set_option maxHeartbeats 4000000 in
theorem chunk_any (x0 x1 x2 x3 : Int) (a : Option Addr) (c : Nat) (l : List Int) (w : World) (hs : Src w a c l) (hl : l.length < 4294967296) :
    Calls Tryd.prog 19 #[.agg #[.int .u8 x0, .int .u8 x1, .int .u8 x2, .int .u8 x3], .slice a l.length c] w fun e w' => ∃ v, e = .returned v ∧ w'.ownsRow w.heap.size 5 1 v (chunkB [x0, x1, x2, x3] l).length (u8s (chunkB [x0, x1, x2, x3] l)) ∧ Below w.heap.size w w' := by
  obtain ⟨B, hB⟩ : ∃ B, B = w.heap.size := ⟨_, rfl⟩
  rw [← hB]
  obtain ⟨n, hn⟩ : ∃ n, n = l.length := ⟨_, rfl⟩
  rw [← hn]
  have HX := Lib.hid (And.intro hB (And.intro hs (And.intro hl hn)))
  obtain ⟨i0, hi, hz0, hz1, hz2⟩ := info_parts (show (Tryd.prog.info? 5).map (fun i => (i.zero, i.size, i.bytes)) = some (some (.int .u8 0), 1, 1) by kernel_rfl)
  have in1 : (n : Int) ≤ 4294967295 := by omega
  have in2 : (0 : Int) ≤ (n : Int) := by omega
  have H0 : Hid (Below B w (w.alloc (.cells #[.int .u8 x0, .int .u8 x1, .int .u8 x2, .int .u8 x3] 26)) ∧ B ≤ (w.alloc (.cells #[.int .u8 x0, .int .u8 x1, .int .u8 x2, .int .u8 x3] 26)).heap.size) := Lib.hid ⟨(Below.refl B w).alloc (by omega) _, by simp; omega⟩
  clear hB hs hl hn
  go_enter Tryd.func19, Tryd.ntmps19
  go_wp2_with (at_builtin; refine wpList_append_own _ rfl _ _ 22 rfl B 5 i0 (.int .u8 0) 1 1 Tryd.underlying22 hi hz0 hz1 hz2 rfl (by decide) _ _ _ rfl (World.ownsRow_nil _ _ _ _) ⟨w.heap.size, 0, none⟩ 4 4 [.int .u8 x0, .int .u8 x1, .int .u8 x2, .int .u8 x3] rfl rfl (cells_new w 26 [.int .u8 x0, .int .u8 x1, .int .u8 x2, .int .u8 x3]) (by simp [Value.oneCell']) (by unfold maxLen; omega) (by omega) H0.out.2 ?_; intro v1 w1 hown1 hgr1 _; have H1 := Lib.hid (And.intro hown1 hgr1); clear hown1 hgr1)
  refine (low_any n (by have := HX.out; omega) w1).mono ?_
  rintro _ w2 ⟨vl, rfl, hol, hb2⟩
  obtain ⟨gl, cl, curl, hvl, _, _, _⟩ := own_block hol (by omega)
  subst hvl
  have H2 : Hid (w2.ownsRow B 5 1 v1 4 (u8s [x0, x1, x2, x3]) ∧ (∀ j u, (u8s (le4 n))[j]? = some u → w2.cell? ((⟨gl, 0, none⟩ : Addr).add j) = some u) ∧ Below B w w2 ∧ B ≤ w2.heap.size) := Lib.hid (by
    have hb1 : Below B w w1 := below_app (B := B) (n := 0) (e := 5) (size := 1) (xs := []) (Below.refl B w) (by have := HX.out; omega) (World.ownsRow_nil _ _ _ _) H1.out.2
    have hbw : B ≤ w1.heap.size := Nat.le_trans (by have := HX.out; omega) hb1.size
    exact ⟨ownsRow_only H1.out.1 (Only.of_below (S := fun _ => False) hb2) (fun _ _ h => h), World.ownsRow.cells hol rfl, hb1.trans (hb2.mono hbw), Nat.le_trans hbw hb2.size⟩)
  clear hol hb2 H1 H0
  have hin : Hid (n ≤ 4294967295 ∧ l.length = n) := Lib.hid (by have := HX.out; omega)
  obtain ⟨hin1, hin2⟩ := hin.out
  have hul : (u8s (le4 n)).length = 4 * 1 := rfl
  have hul2 : (u8s l).length = n * 1 := by rw [u8s_length]; omega
  have HU := Lib.hid (And.intro hul hul2)
  clear hul hul2 hin1 hin2
  rcases HX.out.2.1 with ⟨ha, hc, hl0⟩ | ⟨ad, ha, hadc⟩
  · have HN0 : Hid (n = 0) := Lib.hid (by have := HX.out; rw [hl0] at this; simp at this; omega)
    subst ha hc
    have HL0 := Lib.hid hl0
    clear hl0
    have hn0 := HN0.out
    subst hn0
    obtain rfl := HL0.out
    go_wp2_with (first | (at_builtin; refine wpList_append_own _ rfl (.tmp 8) (.tmp 11) 22 rfl B 5 i0 (.int .u8 0) 1 1 Tryd.underlying22 hi hz0 hz1 hz2 rfl (by decide) _ _ _ rfl H2.out.1 ⟨gl, 0, none⟩ 4 cl (u8s (le4 0)) rfl HU.out.1 H2.out.2.1 (u8s_one _) (by unfold maxLen; omega) (by omega) H2.out.2.2.2 ?_; intro v3 w3 hown3 hgr3 _; have H3 : Hid (w3.ownsRow B 5 1 v3 (4 + 4) (u8s [x0, x1, x2, x3] ++ u8s (le4 0)) ∧ Below B w w3 ∧ B ≤ w3.heap.size) := Lib.hid (by have hb := below_own H2.out.2.2.1 (by have := HX.out; omega) H2.out.1 hgr3; exact ⟨hown3, hb, Nat.le_trans (by have := HX.out; omega) hb.size⟩); clear hown3 hgr3) | (at_builtin; refine wpList_append_own_none rfl (.tmp 12) (.tmp 13) 22 rfl B 5 i0 1 Tryd.underlying22 hi _ _ _ rfl H3.out.1 rfl ?_; have H4 := H3))
    go_ret
    refine ⟨_, rfl, ?_, ?_⟩
    · have h := H4.out.1
      have hf : chunkB [x0, x1, x2, x3] [] = [x0, x1, x2, x3] ++ le4 0 := by simp [chunkB]
      rw [hf]
      have e1 : ([x0, x1, x2, x3] ++ le4 0 : List Int).length = 4 + 4 := rfl
      rw [e1]
      unfold u8s at h ⊢
      rw [List.map_append]
      exact h
    · exact H4.out.2.1
  · have HAD := Lib.hid hadc
    clear hadc
    subst ha
    by_cases hodd : l.length % 2 = 1
    · have hm : ((n : Int) % 2 == 1) = true := by rw [beq_iff_eq]; have := HX.out; omega
      have HO := Lib.hid hodd
      clear hodd
      go_wp2_with (first | (at_builtin; refine wpList_append_own _ rfl (.tmp 8) (.tmp 11) 22 rfl B 5 i0 (.int .u8 0) 1 1 Tryd.underlying22 hi hz0 hz1 hz2 rfl (by decide) _ _ _ rfl H2.out.1 ⟨gl, 0, none⟩ 4 cl (u8s (le4 n)) rfl HU.out.1 H2.out.2.1 (u8s_one _) (by unfold maxLen; omega) (by omega) H2.out.2.2.2 ?_; intro v3 w3 hown3 hgr3 _; have H3 : Hid (w3.ownsRow B 5 1 v3 (4 + 4) (u8s [x0, x1, x2, x3] ++ u8s (le4 n)) ∧ Below B w w3 ∧ B ≤ w3.heap.size) := Lib.hid (by have hb := below_own H2.out.2.2.1 (by have := HX.out; omega) H2.out.1 hgr3; exact ⟨hown3, hb, Nat.le_trans (by have := HX.out; omega) hb.size⟩); have HCL : Hid (∀ j u, (u8s l)[j]? = some u → w3.cell? (ad.add j) = some u) := Lib.hid (fun j u hu => cell_later H3.out.2.1 HX.out.1 (HAD.out j u hu)); clear hown3 hgr3) | (at_builtin; refine wpList_append_own _ rfl (.tmp 12) (.tmp 13) 22 rfl B 5 i0 (.int .u8 0) 1 1 Tryd.underlying22 hi hz0 hz1 hz2 rfl (by decide) _ _ _ rfl H3.out.1 ad n c (u8s l) rfl HU.out.2 HCL.out (u8s_one _) (by have := hin.out; unfold maxLen; omega) (by have := hin.out; omega) H3.out.2.2 ?_; intro v4 w4 hown4 hgr4 _; have H4 : Hid (w4.ownsRow B 5 1 v4 (4 + 4 + n) (u8s [x0, x1, x2, x3] ++ u8s (le4 n) ++ u8s l) ∧ Below B w w4 ∧ B ≤ w4.heap.size) := Lib.hid (by have hb := below_own H3.out.2.1 (by have := HX.out; omega) H3.out.1 hgr4; exact ⟨hown4, hb, Nat.le_trans (by have := HX.out; omega) hb.size⟩); clear hown4 hgr4) | (at_builtin; refine wpList_append_own _ rfl (.tmp 19) (.tmp 20) 22 rfl B 5 i0 (.int .u8 0) 1 1 Tryd.underlying22 hi hz0 hz1 hz2 rfl (by decide) _ _ _ rfl (H4.out.1.alloc _) ⟨w4.heap.size, 0, none⟩ 1 1 [.int .u8 0] rfl rfl (cells_new w4 5 [.int .u8 0]) (by simp [Value.oneCell']) (by have := hin.out; unfold maxLen; omega) (by have := hin.out; omega) (by simp; have := H4.out.2.2; omega) ?_; intro v5 w5 hown5 hgr5 _; have H5 := Lib.hid (And.intro hown5 hgr5); clear hown5 hgr5))
      go_ret
      have hf : chunkB [x0, x1, x2, x3] l = [x0, x1, x2, x3] ++ le4 n ++ l ++ [0] := by
        unfold chunkB
        rw [if_pos HO.out, hin.out.2]
      refine ⟨_, rfl, ?_, ?_⟩
      · have h := H5.out.1
        rw [hf]
        have e1 : ([x0, x1, x2, x3] ++ le4 n ++ l ++ [0] : List Int).length = 4 + 4 + n + 1 := by simp [le4, hin.out.2]; omega
        rw [e1]
        unfold u8s at h ⊢
        simp only [List.map_append] at h ⊢
        exact h
      · exact below_app H4.out.2.1 (by have := HX.out; omega) H4.out.1 H5.out.2
    · have hm : ((n : Int) % 2 == 1) = false := by rw [beq_eq_false_iff_ne]; have := HX.out; omega
      have HO := Lib.hid hodd
      clear hodd
      go_wp2_with (first | (at_builtin; (refine wpList_append_own _ rfl (.tmp 8) (.tmp 11) 22 rfl B 5 i0 (.int .u8 0) 1 1 Tryd.underlying22 hi hz0 hz1 hz2 rfl (by decide) _ _ _ rfl H2.out.1 ⟨gl, 0, none⟩ 4 cl (u8s (le4 n)) rfl HU.out.1 H2.out.2.1 (u8s_one _) (by unfold maxLen; omega) (by omega) H2.out.2.2.2 ?_); intro v3 w3 hown3 hgr3 _; have H3 : Hid (w3.ownsRow B 5 1 v3 (4 + 4) (u8s [x0, x1, x2, x3] ++ u8s (le4 n)) ∧ Below B w w3 ∧ B ≤ w3.heap.size) := Lib.hid (by have hb := below_own H2.out.2.2.1 (by have := HX.out; omega) H2.out.1 hgr3; exact ⟨hown3, hb, Nat.le_trans (by have := HX.out; omega) hb.size⟩); have HCL : Hid (∀ j u, (u8s l)[j]? = some u → w3.cell? (ad.add j) = some u) := Lib.hid (fun j u hu => cell_later H3.out.2.1 HX.out.1 (HAD.out j u hu)); clear hown3 hgr3) | (at_builtin; refine wpList_append_own _ rfl (.tmp 12) (.tmp 13) 22 rfl B 5 i0 (.int .u8 0) 1 1 Tryd.underlying22 hi hz0 hz1 hz2 rfl (by decide) _ _ _ rfl H3.out.1 ad n c (u8s l) rfl HU.out.2 HCL.out (u8s_one _) (by have := hin.out; unfold maxLen; omega) (by have := hin.out; omega) H3.out.2.2 ?_; intro v4 w4 hown4 hgr4 _; have H4 : Hid (w4.ownsRow B 5 1 v4 (4 + 4 + n) (u8s [x0, x1, x2, x3] ++ u8s (le4 n) ++ u8s l) ∧ Below B w w4 ∧ B ≤ w4.heap.size) := Lib.hid (by have hb := below_own H3.out.2.1 (by have := HX.out; omega) H3.out.1 hgr4; exact ⟨hown4, hb, Nat.le_trans (by have := HX.out; omega) hb.size⟩); clear hown4 hgr4))
      go_ret
      have hf : chunkB [x0, x1, x2, x3] l = [x0, x1, x2, x3] ++ le4 n ++ l := by
        unfold chunkB
        rw [if_neg HO.out, hin.out.2]; simp
      refine ⟨_, rfl, ?_, ?_⟩
      · have h := H4.out.1
        rw [hf]
        have e1 : ([x0, x1, x2, x3] ++ le4 n ++ l : List Int).length = 4 + 4 + n := by simp [le4, hin.out.2]; omega
        rw [e1]
        unfold u8s at h ⊢
        simp only [List.map_append] at h ⊢
        exact h
      · exact H4.out.2.1
end Go.Proofs.YthipghkhdlnfiaaDoor
