/- The law's writer of files: file. -/
import Derived.Test.YthipghkhdlnfiaaDoorRfP
namespace Go.Proofs.YthipghkhdlnfiaaDoor
open Go.RowKit
set_option linter.unusedVariables false

theorem own_mono {w : World} {B B' : Nat} {e : TypeId} {size : Nat} {v : Value} {n : Nat} {xs : List Value} (h : w.ownsRow B e size v n xs) (hb : B' ≤ B) : w.ownsRow B' e size v n xs := by
  refine ⟨h.1, ?_⟩
  rcases h.2 with h0 | ⟨g, cap, cur, h1, h2, h3⟩
  · exact .inl h0
  · exact .inr ⟨g, cap, cur, h1, by omega, h3⟩
/-- A row of the call's own as a slice of bytes that is read. -/
theorem src_own {w : World} {B : Nat} {v : Value} {l : List Int} {n : Nat} (h : w.ownsRow B 5 1 v n (u8s l)) : ∃ a c, v = .slice a n c ∧ n = l.length ∧ Src w a c l := by
  have hn : n = l.length := by have := h.1; rw [u8s_length] at this; omega
  rcases h.2 with ⟨hv, h0⟩ | ⟨g, cap, cur, hv, h2, h3, h4⟩
  · exact ⟨none, 0, by rw [hv, h0], hn, .inl ⟨rfl, rfl, List.eq_nil_of_length_eq_zero (by omega)⟩⟩
  · refine ⟨some ⟨g, 0, none⟩, cap, hv, hn, .inr ⟨⟨g, 0, none⟩, rfl, ?_⟩⟩
    exact World.ownsRow.cells h (by rw [hv]; rfl)
/-- A file as it is written. -/
def fileB (form l : List Int) : List Int := chunkB [82, 73, 70, 70] (form ++ l)

set_option maxRecDepth 100000 in
set_option maxHeartbeats 4000000 in
theorem file_any (x0 x1 x2 x3 : Int) (a : Option Addr) (c : Nat) (l : List Int) (w : World) (hs : Src w a c l) (hl : l.length + 4 < 4294967296) :
    Calls Tryd.prog 14 #[.agg #[.int .u8 x0, .int .u8 x1, .int .u8 x2, .int .u8 x3], .slice a l.length c] w fun e w' => ∃ v, e = .returned v ∧ w'.ownsRow w.heap.size 5 1 v (fileB [x0, x1, x2, x3] l).length (u8s (fileB [x0, x1, x2, x3] l)) ∧ Below w.heap.size w w' := by
  obtain ⟨B, hB⟩ : ∃ B, B = w.heap.size := ⟨_, rfl⟩
  rw [← hB]
  obtain ⟨n, hn⟩ : ∃ n, n = l.length := ⟨_, rfl⟩
  rw [← hn]
  have HX := Lib.hid (And.intro hB (And.intro hs (And.intro hl hn)))
  have hin : Hid (n + 4 < 4294967296 ∧ l.length = n) := Lib.hid (by omega)
  obtain ⟨i0, hi, hz0, hz1, hz2⟩ := info_parts (show (Tryd.prog.info? 5).map (fun i => (i.zero, i.size, i.bytes)) = some (some (.int .u8 0), 1, 1) by kernel_rfl)
  have in2 : (0 : Int) ≤ (n : Int) := by omega
  have H0 : Hid (Below B w (w.alloc (.cells #[.int .u8 x0, .int .u8 x1, .int .u8 x2, .int .u8 x3] 26)) ∧ B ≤ (w.alloc (.cells #[.int .u8 x0, .int .u8 x1, .int .u8 x2, .int .u8 x3] 26)).heap.size) := Lib.hid ⟨(Below.refl B w).alloc (by omega) _, by simp; omega⟩
  have hul2 : Hid ((u8s l).length = n * 1) := Lib.hid (by rw [u8s_length]; omega)
  have HK : Hid (∀ (v3 : Value) (w3 : World), w3.ownsRow B 5 1 v3 (4 + n) (u8s ([x0, x1, x2, x3] ++ l)) → Below B w w3 → Calls Tryd.prog 19 #[.agg #[.int .u8 82, .int .u8 73, .int .u8 70, .int .u8 70], v3] w3 fun e w' => ∃ v, e = .returned v ∧ w'.ownsRow B 5 1 v (fileB [x0, x1, x2, x3] l).length (u8s (fileB [x0, x1, x2, x3] l)) ∧ Below B w w') := Lib.hid (fun v3 w3 ho hb => by
    obtain ⟨a3, c3, hv, hlen, hsrc⟩ := src_own ho
    subst hv
    rw [hlen]
    refine (chunk_any 82 73 70 70 a3 c3 ([x0, x1, x2, x3] ++ l) w3 hsrc (by have := hin.out; omega)).mono ?_
    rintro e w' ⟨v, he, h1, h2⟩
    have hBw : B ≤ w3.heap.size := Nat.le_trans (by have := HX.out; omega) hb.size
    exact ⟨v, he, own_mono h1 hBw, hb.trans (h2.mono hBw)⟩)
  clear hB hs hl hn
  rcases HX.out.2.1 with ⟨ha, hc, hl0⟩ | ⟨ad, ha, hadc⟩
  · have hn0 : n = 0 := by have := HX.out; rw [hl0] at this; simp at this; omega
    subst hn0 ha hc
    have HL0 := Lib.hid hl0
    clear hl0
    go_enter Tryd.func14, Tryd.ntmps14
    go_wp2_with (first | (at_builtin; refine wpList_append_own _ rfl _ (.tmp 6) 22 rfl B 5 i0 (.int .u8 0) 1 1 Tryd.underlying22 hi hz0 hz1 hz2 rfl (by decide) _ _ _ rfl (World.ownsRow_nil _ _ _ _) ⟨w.heap.size, 0, none⟩ 4 4 [.int .u8 x0, .int .u8 x1, .int .u8 x2, .int .u8 x3] rfl rfl (cells_new w 26 [.int .u8 x0, .int .u8 x1, .int .u8 x2, .int .u8 x3]) (by simp [Value.oneCell']) (by unfold maxLen; omega) (by omega) H0.out.2 ?_; intro v1 w1 hown1 hgr1 _; have H1 := Lib.hid (And.intro hown1 hgr1); clear hown1 hgr1) | (at_builtin; refine wpList_append_own_none rfl (.tmp 7) (.tmp 8) 22 rfl B 5 i0 1 Tryd.underlying22 hi _ _ _ rfl H1.out.1 rfl ?_))
    refine (HK.out v1 w1 (by rw [HL0.out]; exact H1.out.1) (below_app (B := B) (n := 0) (e := 5) (size := 1) (xs := []) (Below.refl B w) (by have := HX.out; omega) (World.ownsRow_nil _ _ _ _) H1.out.2)).mono ?_
    rintro _ w' ⟨v, rfl, h1, h2⟩
    have HF := Lib.hid (And.intro h1 h2)
    clear h1 h2
    go_wp2
    go_ret
    exact ⟨_, rfl, HF.out.1, HF.out.2⟩
  · have HAD := Lib.hid hadc
    clear hadc
    subst ha
    go_enter Tryd.func14, Tryd.ntmps14
    go_wp2_with (first | (at_builtin; refine wpList_append_own _ rfl _ (.tmp 6) 22 rfl B 5 i0 (.int .u8 0) 1 1 Tryd.underlying22 hi hz0 hz1 hz2 rfl (by decide) _ _ _ rfl (World.ownsRow_nil _ _ _ _) ⟨w.heap.size, 0, none⟩ 4 4 [.int .u8 x0, .int .u8 x1, .int .u8 x2, .int .u8 x3] rfl rfl (cells_new w 26 [.int .u8 x0, .int .u8 x1, .int .u8 x2, .int .u8 x3]) (by simp [Value.oneCell']) (by unfold maxLen; omega) (by omega) H0.out.2 ?_; intro v1 w1 hown1 hgr1 _; have H1 : Hid (w1.ownsRow B 5 1 v1 4 (u8s [x0, x1, x2, x3]) ∧ Below B w w1 ∧ B ≤ w1.heap.size) := Lib.hid (by have hb := below_app (B := B) (n := 0) (e := 5) (size := 1) (xs := []) (Below.refl B w) (by have := HX.out; omega) (World.ownsRow_nil _ _ _ _) hgr1; exact ⟨hown1, hb, Nat.le_trans (by have := HX.out; omega) hb.size⟩); have HCL : Hid (∀ j u, (u8s l)[j]? = some u → w1.cell? (ad.add j) = some u) := Lib.hid (fun j u hu => cell_later H1.out.2.1 HX.out.1 (HAD.out j u hu)); clear hown1 hgr1) | (at_builtin; refine wpList_append_own _ rfl (.tmp 7) (.tmp 8) 22 rfl B 5 i0 (.int .u8 0) 1 1 Tryd.underlying22 hi hz0 hz1 hz2 rfl (by decide) _ _ _ rfl H1.out.1 ad n c (u8s l) rfl hul2.out HCL.out (u8s_one _) (by have := hin.out; unfold maxLen; omega) (by have := hin.out; omega) H1.out.2.2 ?_; intro v2 w2 hown2 hgr2 _; have H2 : Hid (w2.ownsRow B 5 1 v2 (4 + n) (u8s ([x0, x1, x2, x3] ++ l)) ∧ Below B w w2) := Lib.hid (by have hb := below_own H1.out.2.1 (by have := HX.out; omega) H1.out.1 hgr2; exact ⟨by unfold u8s at hown2 ⊢; rw [List.map_append]; exact hown2, hb⟩); clear hown2 hgr2))
    refine (HK.out v2 w2 H2.out.1 H2.out.2).mono ?_
    rintro _ w' ⟨v, rfl, h1, h2⟩
    have HF := Lib.hid (And.intro h1 h2)
    clear h1 h2
    go_wp2
    go_ret
    exact ⟨_, rfl, HF.out.1, HF.out.2⟩
end Go.Proofs.YthipghkhdlnfiaaDoor
