/- The law's readFile. -/
import Derived.Test.YthipghkhdlnfiaaDoorRfT
import Derived.Test.YthipghkhdlnfiaaDoorRfO
import Derived.Test.YthipghkhdlnfiaaDoorIntsEq
import Derived.Test.YthipghkhdlnfiaaDoorBytesEq
namespace Go.Proofs.YthipghkhdlnfiaaDoor
open Go.RowKit
set_option linter.unusedVariables false

theorem arg_own {k : IntKind} {w : World} {B : Nat} {e : TypeId} {v : Value} {n : Nat} {l : List Int} (h : w.ownsRow B e 1 v n (l.map (Value.int k))) : ∃ a c, v = .slice a n c ∧ n = l.length ∧ Arg k w a n (fun i => l.getD i 0) := by
  have hn : n = l.length := by have := h.1; rw [List.length_map] at this; omega
  rcases h.2 with ⟨hv, h0⟩ | ⟨g, cap, cur, hv, h2, h3, h4⟩
  · exact ⟨none, 0, by rw [hv, h0], hn, fun h => by omega⟩
  · refine ⟨some ⟨g, 0, none⟩, cap, hv, hn, fun _ => ⟨g, 0, rfl, (Array.getElem?_eq_some_iff.1 h3).1, fun i hi => ?_⟩⟩
    have := World.ownsRow.cells h (g := g) (by rw [hv]; rfl) i (.int k (l.getD i 0)) (by
      rw [List.getElem?_map, List.getElem?_eq_getElem (show i < l.length by omega)]
      simp [List.getD, List.getElem?_eq_getElem (show i < l.length by omega)])
    rw [Addr.add_lit] at this
    exact this
theorem below_drewN {B : Nat} {w w' : World} (h : Below B w w') (d : Nat) : Below B w (w'.drewN d) := ⟨h.os, h.tape, h.output, h.size, h.block⟩
theorem eq_form (w : World) : (binOp .eql 26 (.agg #[.int .u8 97, .int .u8 98, .int .u8 99, .int .u8 100]) (.agg #[.int .u8 97, .int .u8 98, .int .u8 99, .int .u8 100])).run Tryd.prog w = .ok (.bool true) w := by kernel_rfl

set_option maxRecDepth 100000 in
set_option maxHeartbeats 8000000 in
theorem readFile_any (w : World) (E U M S L P H : Addr) (hs : Sn w E U M S L P H) : Calls Tryd.prog 7 #[] w fun e w' => e = .returned (.bool true) ∧ Below w.heap.size w w' := by
  have HS := Lib.hid hs
  clear hs
  obtain ⟨B, hB⟩ : ∃ B, B = w.heap.size := ⟨_, rfl⟩
  have HB := Lib.hid hB
  rw [← hB]
  clear hB
  go_enter Tryd.func7, Tryd.ntmps7
  go_wp2_with fail
  have H1 : Hid (Src (w.alloc (.cells #[.int .u8 7, .int .u8 8, .int .u8 9] 5)) (some ⟨w.heap.size, 0, none⟩) 3 [7, 8, 9] ∧ Below B w (w.alloc (.cells #[.int .u8 7, .int .u8 8, .int .u8 9] 5)) ∧ B ≤ (w.alloc (.cells #[.int .u8 7, .int .u8 8, .int .u8 9] 5)).heap.size) := Lib.hid ⟨.inr ⟨⟨w.heap.size, 0, none⟩, rfl, cells_new w 5 [.int .u8 7, .int .u8 8, .int .u8 9]⟩, (Below.refl B w).alloc (by have := HB.out; omega) _, by simp; have := HB.out; omega⟩
  obtain ⟨wb, hwb⟩ : ∃ x, x = w.heap.size := ⟨_, rfl⟩
  rw [← hwb] at H1 ⊢
  clear hwb
  generalize World.alloc _ _ = w1 at H1 ⊢
  refine (chunk_any 120 121 122 32 (some ⟨wb, 0, none⟩) 3 [7, 8, 9] w1 H1.out.1 (by decide)).mono ?_
  rintro _ w2 ⟨v2, rfl, ho2, hb2⟩
  obtain ⟨a2, c2, hv2, hn2, hs2⟩ := src_own ho2
  subst hv2
  have H2 : Hid (Src w2 a2 c2 (chunkB [120, 121, 122, 32] [7, 8, 9]) ∧ Below B w w2 ∧ B ≤ w2.heap.size) := Lib.hid (by
    have hb := H1.out.2.1.trans (hb2.mono H1.out.2.2)
    exact ⟨hs2, hb, Nat.le_trans H1.out.2.2 hb2.size⟩)
  clear ho2 hb2 hn2 hs2
  go_wp2_with fail
  refine (file_any 97 98 99 100 a2 c2 (chunkB [120, 121, 122, 32] [7, 8, 9]) w2 H2.out.1 (by decide)).mono ?_
  rintro _ w3 ⟨v3, rfl, ho3, hb3⟩
  obtain ⟨a3, c3, hv3, hn3, hs3⟩ := src_own ho3
  obtain ⟨a3', c3', hv3', _, harg3⟩ := arg_own ho3
  subst hv3
  have hcap3 : tryB.length ≤ c3 ∧ c3 ≤ 9223372036854775807 := by
    obtain ⟨g, cap, cur, hv, _, _, h1, h2, _⟩ := own_block ho3 (by decide)
    injection hv with _ _ hv
    subst hv
    exact ⟨h1, by unfold maxLen at h2; exact h2⟩
  injection hv3' with e1 e2 e3
  subst e1 e3
  have H3 : Hid (Arg .u8 w3 a3 tryB.length (fun i => tryB.getD i 0) ∧ Below B w w3 ∧ B ≤ w3.heap.size) := Lib.hid (by
    have hb := H2.out.2.1.trans (hb3.mono H2.out.2.2)
    exact ⟨harg3, hb, Nat.le_trans H2.out.2.2 hb3.size⟩)
  have HC3 := Lib.hid hcap3
  clear ho3 hb3 hn3 hs3 harg3 hcap3 e2
  go_wp2_with fail
  have H4 : Hid (Below B w (w3.alloc (.cells #[.int .i64 0, .int .i64 0, .int .i64 1, .int .i64 3, .int .i64 0, .int .i64 0] 34)) ∧ B ≤ (w3.alloc (.cells #[.int .i64 0, .int .i64 0, .int .i64 1, .int .i64 3, .int .i64 0, .int .i64 0] 34)).heap.size ∧ Arg .u8 (w3.alloc (.cells #[.int .i64 0, .int .i64 0, .int .i64 1, .int .i64 3, .int .i64 0, .int .i64 0] 34)) a3 tryB.length (fun i => tryB.getD i 0) ∧ SObj (w3.alloc (.cells #[.int .i64 0, .int .i64 0, .int .i64 1, .int .i64 3, .int .i64 0, .int .i64 0] 34)) w3.heap.size 34 [.int .i64 0, .int .i64 0, .int .i64 1, .int .i64 3, .int .i64 0, .int .i64 0]) := Lib.hid ⟨H3.out.2.1.alloc H3.out.2.2 _, by simp; have := H3.out.2.2; omega, H3.out.1.only (Only.alloc (fun _ => False) w3 _) (fun _ _ _ h => h), obj_new w3 34 [.int .i64 0, .int .i64 0, .int .i64 1, .int .i64 3, .int .i64 0, .int .i64 0]⟩
  obtain ⟨sb, hsb⟩ : ∃ x, x = w3.heap.size := ⟨_, rfl⟩
  rw [← hsb] at H4 ⊢
  clear hsb
  generalize World.alloc _ _ = w4 at H4 ⊢
  have HR : Hid (Calls Tryd.prog 8 #[.slice a3 tryB.length c3, .slice none 0 0, .slice (some ⟨sb, 0, none⟩) 3 3] w4 (RiffP w4.heap.size w4 tryB [(0, 0), (1, 3), (0, 0)])) := Lib.hid (by
    have hsn : Sn w4 E U M S L P H := HS.out.later (by have := HB.out; rw [← this]; exact H4.out.1)
    have hst : Steps w4 (some ⟨sb, 0, none⟩) [(0, 0), (1, 3), (0, 0)] := fun _ => ⟨sb, 0, rfl, H4.out.2.2.2.lt, fun i hi => by
      have hi : i < 3 := hi
      rcases (by omega : i = 0 ∨ i = 1 ∨ i = 2) with rfl | rfl | rfl
      · exact ⟨H4.out.2.2.2.cell 0 rfl, H4.out.2.2.2.cell 1 rfl⟩
      · exact ⟨H4.out.2.2.2.cell 2 rfl, H4.out.2.2.2.cell 3 rfl⟩
      · exact ⟨H4.out.2.2.2.cell 4 rfl, H4.out.2.2.2.cell 5 rfl⟩⟩
    refine riff_any w4 a3 c3 tryB none 0 0 (fun _ => 0) (some ⟨sb, 0, none⟩) 3 [(0, 0), (1, 3), (0, 0)] E U M S L P H (hsn.env (fun h => absurd h (Nat.lt_irrefl 0)) (fun i => ⟨by omega, by omega⟩) (by omega) (by rw [tryB_eq]; decide)) H4.out.2.2.1 tryB_by (by rw [tryB_eq]; decide) HC3.out.1 HC3.out.2 hst (by decide) (fun i => ?_)
    match i with
    | 0 => exact ⟨by decide, by decide, by decide, by decide⟩
    | 1 => exact ⟨by decide, by decide, by decide, by decide⟩
    | 2 => exact ⟨by decide, by decide, by decide, by decide⟩
    | k + 3 => exact ⟨by simp, by simp, by simp, by simp⟩)
  refine HR.out.mono ?_
  rintro _ w5 ⟨ov, kv, rfl, hou, hki, hb5⟩
  rw [tryB_model] at hou hki
  obtain ⟨ds, hou, hda⟩ := hou
  rw [if_pos (show okHead tryB = true by rw [tryB_eq]; rfl), show four4 tryB 8 = .agg #[.int .u8 97, .int .u8 98, .int .u8 99, .int .u8 100] by rw [tryB_eq]; rfl]
  obtain ⟨g, oc, cur, hov, hgB, hgo, ho1, ho2, ho3, ho4⟩ := own_block hou (by decide)
  subst hov
  obtain ⟨d, rfl⟩ : ∃ d, ds = [d] := by
    have := hda.len
    match ds, this with
    | [d], _ => exact ⟨d, rfl⟩
  obtain ⟨hd, _⟩ := hda
  obtain ⟨da, dc, hdv, _, hdarg⟩ := arg_own hd
  subst hdv
  have hki' : w5.ownsRow w4.heap.size 3 1 kv 4 (([0, 0, 0, 1] : List Int).map (Value.int .i64)) := hki
  obtain ⟨ka, kc, hkv, _, hkarg⟩ := arg_own hki'
  subst hkv
  have hat : ∀ i, i < 7 → cur[i]? = ((cur.take (1 * 7))[i]? : Option Value) := fun i hi => by rw [List.getElem?_take, if_pos (by omega)]
  have hc4 : cur[4]? = some (.int .i64 3) := by rw [hat 4 (by omega)]; rw [show cur.take (1 * 7) = _ from ho4]; rfl
  have hc5 : cur[5]? = some (.slice da 3 dc) := by rw [hat 5 (by omega)]; rw [show cur.take (1 * 7) = _ from ho4]; rfl
  have H5 : Hid (Below B w (w5.alloc (.cells #[.int .u8 97, .int .u8 98, .int .u8 99, .int .u8 100] 26)) ∧ B ≤ (w5.alloc (.cells #[.int .u8 97, .int .u8 98, .int .u8 99, .int .u8 100] 26)).heap.size ∧ SObj (w5.alloc (.cells #[.int .u8 97, .int .u8 98, .int .u8 99, .int .u8 100] 26)) w5.heap.size 26 [.int .u8 97, .int .u8 98, .int .u8 99, .int .u8 100] ∧ SObj (w5.alloc (.cells #[.int .u8 97, .int .u8 98, .int .u8 99, .int .u8 100] 26)) g 43 cur ∧ Arg .u8 (w5.alloc (.cells #[.int .u8 97, .int .u8 98, .int .u8 99, .int .u8 100] 26)) da 3 (fun i => ([7, 8, 9] : List Int).getD i 0) ∧ Arg .i64 (w5.alloc (.cells #[.int .u8 97, .int .u8 98, .int .u8 99, .int .u8 100] 26)) ka 4 (fun i => ([0, 0, 0, 1] : List Int).getD i 0)) := Lib.hid (by
    have hb := H4.out.1.trans (hb5.mono H4.out.2.1)
    have hs5 : B ≤ w5.heap.size := Nat.le_trans H4.out.2.1 hb5.size
    exact ⟨hb.alloc hs5 _, by simp; omega, obj_new w5 26 [.int .u8 97, .int .u8 98, .int .u8 99, .int .u8 100], hgo.alloc _, hdarg.only (Only.alloc (fun _ => False) w5 _) (fun _ _ _ h => h), hkarg.only (Only.alloc (fun _ => False) w5 _) (fun _ _ _ h => h)⟩)
  have HCC := Lib.hid (And.intro hc4 hc5)
  clear hou hki hki' hb5 hd hdarg hkarg hat hc4 hc5 hgB hgo ho1 ho2 ho3 ho4
  have ef := eq_form
  go_upto_region 2 with fail
  obtain ⟨fb, hfb⟩ : ∃ x, x = w5.heap.size := ⟨_, rfl⟩
  rw [← hfb] at H5 ⊢
  clear hfb
  generalize World.alloc _ _ = w6 at H5 ⊢
  have q0 : w6.cell? ⟨fb, 0, none⟩ = some (.int .u8 97) := H5.out.2.2.1.cell 0 rfl
  have q1 : w6.cell? ⟨fb, 1, none⟩ = some (.int .u8 98) := H5.out.2.2.1.cell 1 rfl
  have q2 : w6.cell? ⟨fb, 2, none⟩ = some (.int .u8 99) := H5.out.2.2.1.cell 2 rfl
  have q3 : w6.cell? ⟨fb, 3, none⟩ = some (.int .u8 100) := H5.out.2.2.1.cell 3 rfl
  have c4 : w6.cell? ⟨g, 4, none⟩ = some (.int .i64 3) := H5.out.2.2.2.1.cell 4 HCC.out.1
  have c5 : w6.cell? ⟨g, 5, none⟩ = some (.slice da 3 dc) := H5.out.2.2.2.1.cell 5 HCC.out.2
  go_wp2_with fail
  have H7 : Hid (Below B w (w6.alloc (.cells #[.int .u8 7, .int .u8 8, .int .u8 9] 5)) ∧ B ≤ (w6.alloc (.cells #[.int .u8 7, .int .u8 8, .int .u8 9] 5)).heap.size ∧ Arg .u8 (w6.alloc (.cells #[.int .u8 7, .int .u8 8, .int .u8 9] 5)) da 3 (fun i => ([7, 8, 9] : List Int).getD i 0) ∧ Arg .u8 (w6.alloc (.cells #[.int .u8 7, .int .u8 8, .int .u8 9] 5)) (some ⟨w6.heap.size, 0, none⟩) 3 (fun i => ([7, 8, 9] : List Int).getD i 0) ∧ Arg .i64 (w6.alloc (.cells #[.int .u8 7, .int .u8 8, .int .u8 9] 5)) ka 4 (fun i => ([0, 0, 0, 1] : List Int).getD i 0)) := Lib.hid (by
    have ho : Only (fun _ => False) w6 (w6.alloc (.cells #[.int .u8 7, .int .u8 8, .int .u8 9] 5)) := Only.alloc _ _ _
    refine ⟨H5.out.1.alloc H5.out.2.1 _, by simp; have := H5.out.2.1; omega, H5.out.2.2.2.2.1.only ho (fun _ _ _ h => h), fun _ => ⟨w6.heap.size, 0, rfl, by simp, fun i hi => ?_⟩, H5.out.2.2.2.2.2.only ho (fun _ _ _ h => h)⟩
    have hn := obj_new w6 5 [.int .u8 7, .int .u8 8, .int .u8 9]
    rcases (by omega : i = 0 ∨ i = 1 ∨ i = 2) with rfl | rfl | rfl
    · exact hn.cell 0 rfl
    · exact hn.cell 1 rfl
    · exact hn.cell 2 rfl)
  obtain ⟨nb, hnb⟩ : ∃ x, x = w6.heap.size := ⟨_, rfl⟩
  rw [← hnb] at H7 ⊢
  clear hnb q0 q1 q2 q3 c4 c5
  generalize World.alloc _ _ = w7 at H7 ⊢
  refine (bytes_eq da (some ⟨nb, 0, none⟩) 3 dc 3 _ _ w7 (by unfold maxLen; omega) H7.out.2.2.1 H7.out.2.2.2.1 (fun _ _ => rfl)).mono ?_
  rintro _ w8 ⟨rfl, d8, rfl⟩
  have H8 : Hid (Below B w (w7.drewN d8) ∧ B ≤ (w7.drewN d8).heap.size ∧ Arg .i64 (w7.drewN d8) ka 4 (fun i => ([0, 0, 0, 1] : List Int).getD i 0)) := Lib.hid ⟨below_drewN H7.out.1 d8, H7.out.2.1, H7.out.2.2.2.2.only (Only.drewN (fun _ => False) w7 d8) (fun _ _ _ h => h)⟩
  generalize World.drewN _ _ = w8 at H8 ⊢
  go_wp2_with fail
  have H9 : Hid (Below B w (w8.alloc (.cells #[.int .i64 0, .int .i64 0, .int .i64 0, .int .i64 1] 3)) ∧ Arg .i64 (w8.alloc (.cells #[.int .i64 0, .int .i64 0, .int .i64 0, .int .i64 1] 3)) ka 4 (fun i => ([0, 0, 0, 1] : List Int).getD i 0) ∧ Arg .i64 (w8.alloc (.cells #[.int .i64 0, .int .i64 0, .int .i64 0, .int .i64 1] 3)) (some ⟨w8.heap.size, 0, none⟩) 4 (fun i => ([0, 0, 0, 1] : List Int).getD i 0)) := Lib.hid (by
    have ho : Only (fun _ => False) w8 (w8.alloc (.cells #[.int .i64 0, .int .i64 0, .int .i64 0, .int .i64 1] 3)) := Only.alloc _ _ _
    refine ⟨H8.out.1.alloc H8.out.2.1 _, H8.out.2.2.only ho (fun _ _ _ h => h), fun _ => ⟨w8.heap.size, 0, rfl, by simp, fun i hi => ?_⟩⟩
    have hn := obj_new w8 3 [.int .i64 0, .int .i64 0, .int .i64 0, .int .i64 1]
    rcases (by omega : i = 0 ∨ i = 1 ∨ i = 2 ∨ i = 3) with rfl | rfl | rfl | rfl
    · exact hn.cell 0 rfl
    · exact hn.cell 1 rfl
    · exact hn.cell 2 rfl
    · exact hn.cell 3 rfl)
  obtain ⟨mb, hmb⟩ : ∃ x, x = w8.heap.size := ⟨_, rfl⟩
  rw [← hmb] at H9 ⊢
  clear hmb
  generalize World.alloc _ _ = w9 at H9 ⊢
  refine (ints_eq ka (some ⟨mb, 0, none⟩) 4 kc 4 _ _ w9 (by unfold maxLen; omega) H9.out.2.1 H9.out.2.2 (fun _ _ => rfl)).mono ?_
  rintro _ w10 ⟨rfl, d10, rfl⟩
  have H10 : Hid (Below B w (w9.drewN d10)) := Lib.hid (below_drewN H9.out.1 d10)
  generalize World.drewN _ _ = w10 at H10 ⊢
  go_wp2
  go_ret
  exact ⟨rfl, H10.out⟩
end Go.Proofs.YthipghkhdlnfiaaDoor
