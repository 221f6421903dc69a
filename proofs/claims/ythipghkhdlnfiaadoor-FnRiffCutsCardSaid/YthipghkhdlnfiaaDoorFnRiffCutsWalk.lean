/- FnRiffCuts: the walk. -/
import Derived.Test.YthipghkhdlnfiaaDoorRiffQ
import Derived.Test.YthipghkhdlnfiaaDoorOpenS
namespace Go.Proofs.YthipghkhdlnfiaaDoor
open Go.RowKit
set_option linter.unusedVariables false

set_option maxRecDepth 100000 in
set_option maxHeartbeats 4000000 in
theorem fnRiffCuts_walk (w : World) (ht : Laid w) (a0 : Option Addr) (len0 cap0 : Nat) (z0 : List Int) (w0 : IsRow .u8 w a0 len0 cap0 z0) (a1 : Option Addr) (len1 cap1 : Nat) (z1 : List Int) (w1 : IsRow .i64 w a1 len1 cap1 z1)
    (a2 : Option Addr) (len2 cap2 : Nat) (l2 : len2 ≤ cap2) (m2 : cap2 ≤ maxLen) (f2 : Nat → Int) (w2 : Arg .i64 w a2 (len2 * 2) f2) (v2 : ∀ i, (Lit.int .i64 (f2 i)).wf = true) :
    Calls Tryd.prog 3 #[.slice a0 len0 cap0, .slice a1 len1 cap1, .slice a2 len2 cap2] w fun e w' => e = .returned (.bool true) ∧ Below w.heap.size w w' := by
  obtain ⟨E, U, M, S, L, P, H, hs⟩ := ht
  have HF := Lib.hid (readFile_any w E U M S L P H hs)
  have HS := Lib.hid hs
  clear hs
  obtain ⟨l, hl, harg, hlc, hcm, hwf⟩ := isRow_arg w0
  obtain ⟨cz, hcl, hcarg, hcc, hccm, hcwf⟩ := isRow_arg w1
  have HB := Lib.hid (And.intro harg (And.intro hlc (And.intro hcm (And.intro (by_wf hwf) hl))))
  have HC := Lib.hid (And.intro hcarg (And.intro hcc (And.intro hccm (And.intro (i64_wf hcwf) hcl))))
  have HT := Lib.hid (And.intro w2 (And.intro l2 (And.intro m2 (fun i => i64_one (v2 i)))))
  clear w0 w1 harg hlc hcm hwf hcarg hcc hccm hcwf hl hcl w2 l2 m2 v2
  by_cases b1 : 2147483647 < len0
  · go_enter Tryd.func3, Tryd.ntmps3
    go_wp2
    go_ret
    exact ⟨rfl, Below.refl _ _⟩
  by_cases b2 : 2147483647 < len1
  · go_enter Tryd.func3, Tryd.ntmps3
    go_wp2
    go_ret
    exact ⟨rfl, Below.refl _ _⟩
  by_cases b3 : 2147483647 < len2
  · go_enter Tryd.func3, Tryd.ntmps3
    go_wp2
    go_ret
    exact ⟨rfl, Below.refl _ _⟩
  by_cases b4 : 1048576 < len0
  · go_enter Tryd.func3, Tryd.ntmps3
    go_wp2_with fail
    refine HF.out.mono ?_
    rintro _ w4 ⟨rfl, h4⟩
    have H4 := Lib.hid h4; clear h4
    go_wp2
    go_ret
    exact ⟨rfl, H4.out⟩
  by_cases b5 : 1048576 < len1
  · go_enter Tryd.func3, Tryd.ntmps3
    go_wp2_with fail
    refine HF.out.mono ?_
    rintro _ w4 ⟨rfl, h4⟩
    have H4 := Lib.hid h4; clear h4
    go_wp2
    go_ret
    exact ⟨rfl, H4.out⟩
  by_cases b6 : 4096 < len2
  · go_enter Tryd.func3, Tryd.ntmps3
    go_wp2_with fail
    refine HF.out.mono ?_
    rintro _ w4 ⟨rfl, h4⟩
    have H4 := Lib.hid h4; clear h4
    go_wp2
    go_ret
    exact ⟨rfl, H4.out⟩
  obtain ⟨ps, hps⟩ : ∃ ps, ps = stepsOf f2 len2 := ⟨_, rfl⟩
  have hpl : ps.length = len2 := by rw [hps]; simp [stepsOf]
  have HPS : Hid (Steps w a2 ps ∧ ps.length = len2 ∧ ∀ i, -9223372036854775808 ≤ (ps.getD i (0, 0)).1 ∧ (ps.getD i (0, 0)).1 ≤ 9223372036854775807 ∧ -9223372036854775808 ≤ (ps.getD i (0, 0)).2 ∧ (ps.getD i (0, 0)).2 ≤ 9223372036854775807) := Lib.hid ⟨by rw [hps]; exact steps_of HT.out.1, hpl, fun i => by rw [hps]; exact steps_wf HT.out.2.2.2 i⟩
  clear hps hpl
  have HR1 := riff_q w a0 len0 cap0 l a1 len1 cap1 (fun i => cz.getD i 0) a2 len2 cap2 ps E U M S L P H HS.out HB.out.1 HB.out.2.2.2.1 HB.out.2.2.2.2 (by omega) HB.out.2.1 HB.out.2.2.1 HC.out.1 HC.out.2.2.2.1 (by omega) HPS.out.1 HPS.out.2.1 (by omega) HPS.out.2.2
  have keq := eql_id
  go_enter Tryd.func3, Tryd.ntmps3
  go_wp2_with fail
  refine HR1.out.mono ?_
  rintro _ w3 ⟨oa, oc, ka, kc, rfl, h3⟩
  obtain ⟨kinds, hkinds⟩ : ∃ x, x = (riffM l ps).2 := ⟨_, rfl⟩
  obtain ⟨cks, hcks⟩ : ∃ x, x = (riffM l ps).1 := ⟨_, rfl⟩
  rw [← hkinds, ← hcks] at h3 ⊢
  obtain ⟨F0, hF0⟩ : ∃ x, x = fq l 0 := ⟨_, rfl⟩
  obtain ⟨F1, hF1⟩ : ∃ x, x = fq l 1 := ⟨_, rfl⟩
  obtain ⟨F2, hF2⟩ : ∃ x, x = fq l 2 := ⟨_, rfl⟩
  obtain ⟨F3, hF3⟩ : ∃ x, x = fq l 3 := ⟨_, rfl⟩
  rw [← hF0, ← hF1, ← hF2, ← hF3]
  have HN := Lib.hid (And.intro hkinds (And.intro hcks (And.intro hF0 (And.intro hF1 (And.intro hF2 hF3)))))
  clear hkinds hcks hF0 hF1 hF2 hF3
  have H4 : Hid (∃ w4, w4 = w3.alloc (.cells #[.int .u8 F0, .int .u8 F1, .int .u8 F2, .int .u8 F3] 26) ∧ Below w.heap.size w w4 ∧ Sn w4 E U M S L P H ∧ Cks w4 oa cks ∧ Arg .i64 w4 ka kinds.length (fun i => ((kinds.getD i 0 : Nat) : Int)) ∧ SObj w4 w3.heap.size 26 [.int .u8 F0, .int .u8 F1, .int .u8 F2, .int .u8 F3] ∧ cks.length ≤ 9223372036854775807 ∧ (∀ k ∈ cks, k.data.length ≤ 9223372036854775807) ∧ kinds.length ≤ 9223372036854775807) := Lib.hid (by
    have hb : Below w3.heap.size w3 (w3.alloc (.cells #[.int .u8 F0, .int .u8 F1, .int .u8 F2, .int .u8 F3] 26)) := (Below.refl _ _).alloc (Nat.le_refl _) _
    exact ⟨_, rfl, h3.2.2.2.2.2.1.alloc h3.2.2.2.2.2.1.size _, h3.2.2.2.2.2.2.later hb, h3.1.below hb, h3.2.2.2.1.below hb, obj_new w3 26 [.int .u8 F0, .int .u8 F1, .int .u8 F2, .int .u8 F3], h3.2.1, h3.2.2.1, h3.2.2.2.2.1⟩)
  clear h3
  go_upto_region 6 with fail
  obtain ⟨w4, hw4, H4⟩ := H4.out
  rw [← hw4]
  clear hw4
  have H4 := Lib.hid H4
  generalize w3.heap.size = fb at H4 ⊢
  have HR2 := riff_q w4 a0 len0 cap0 l none 0 0 (fun i => 0) a2 len2 cap2 ps E U M S L P H H4.out.2.1 (HB.out.1.below H4.out.1) HB.out.2.2.2.1 HB.out.2.2.2.2 (by omega) HB.out.2.1 HB.out.2.2.1 (fun h => absurd h (by omega)) (fun i => by omega) (by omega) (HPS.out.1.below H4.out.1) HPS.out.2.1 (by omega) HPS.out.2.2
  go_wp2_with fail
  refine HR2.out.mono ?_
  rintro _ w5 ⟨oa2, oc2, ka2, kc2, rfl, h5⟩
  rw [← HN.out.1, ← HN.out.2.1] at h5 ⊢
  rw [← HN.out.2.2.1, ← HN.out.2.2.2.1, ← HN.out.2.2.2.2.1, ← HN.out.2.2.2.2.2]
  have H6 : Hid (∃ w6, w6 = w5.alloc (.cells #[.int .u8 F0, .int .u8 F1, .int .u8 F2, .int .u8 F3] 26) ∧ Below w.heap.size w w6 ∧ Sn w6 E U M S L P H ∧ Cks w6 oa cks ∧ Arg .i64 w6 ka kinds.length (fun i => ((kinds.getD i 0 : Nat) : Int)) ∧ SObj w6 fb 26 [.int .u8 F0, .int .u8 F1, .int .u8 F2, .int .u8 F3] ∧ Cks w6 oa2 cks ∧ Arg .i64 w6 ka2 kinds.length (fun i => ((kinds.getD i 0 : Nat) : Int)) ∧ SObj w6 w5.heap.size 26 [.int .u8 F0, .int .u8 F1, .int .u8 F2, .int .u8 F3]) := Lib.hid (by
    have hb0 : Below w4.heap.size w4 w5 := h5.2.2.2.2.2.1
    have hb : Below w5.heap.size w5 (w5.alloc (.cells #[.int .u8 F0, .int .u8 F1, .int .u8 F2, .int .u8 F3] 26)) := (Below.refl _ _).alloc (Nat.le_refl _) _
    have hb1 : Below w4.heap.size w4 (w5.alloc (.cells #[.int .u8 F0, .int .u8 F1, .int .u8 F2, .int .u8 F3] 26)) := hb0.trans (hb.mono hb0.size)
    exact ⟨_, rfl, H4.out.1.trans (hb1.mono H4.out.1.size), h5.2.2.2.2.2.2.later hb, H4.out.2.2.1.below hb1, H4.out.2.2.2.1.below hb1, H4.out.2.2.2.2.1.below hb1 H4.out.2.2.2.2.1.lt, h5.1.below hb, h5.2.2.2.1.below hb, obj_new w5 26 [.int .u8 F0, .int .u8 F1, .int .u8 F2, .int .u8 F3]⟩)
  have HZ := Lib.hid H4.out.2.2.2.2.2
  clear h5 H4
  go_upto_region 7 with fail
  obtain ⟨w6, hw6, H6⟩ := H6.out
  rw [← hw6]
  clear hw6
  have H6 := Lib.hid H6
  generalize w5.heap.size = fb2 at H6 ⊢
  have q0 : w6.cell? ⟨fb, 0, none⟩ = some (.int .u8 F0) := H6.out.2.2.2.2.1.cell 0 rfl
  have q1 : w6.cell? ⟨fb, 1, none⟩ = some (.int .u8 F1) := H6.out.2.2.2.2.1.cell 1 rfl
  have q2 : w6.cell? ⟨fb, 2, none⟩ = some (.int .u8 F2) := H6.out.2.2.2.2.1.cell 2 rfl
  have q3 : w6.cell? ⟨fb, 3, none⟩ = some (.int .u8 F3) := H6.out.2.2.2.2.1.cell 3 rfl
  have r0 : w6.cell? ⟨fb2, 0, none⟩ = some (.int .u8 F0) := H6.out.2.2.2.2.2.2.2.cell 0 rfl
  have r1 : w6.cell? ⟨fb2, 1, none⟩ = some (.int .u8 F1) := H6.out.2.2.2.2.2.2.2.cell 1 rfl
  have r2 : w6.cell? ⟨fb2, 2, none⟩ = some (.int .u8 F2) := H6.out.2.2.2.2.2.2.2.cell 2 rfl
  have r3 : w6.cell? ⟨fb2, 3, none⟩ = some (.int .u8 F3) := H6.out.2.2.2.2.2.2.2.cell 3 rfl
  go_wp2_with fail
  refine (chunks_eq oa oa2 oc oc2 cks w6 HZ.out.1 HZ.out.2.1 H6.out.2.2.1 H6.out.2.2.2.2.2.1).mono ?_
  rintro _ w7 ⟨rfl, d7, rfl⟩
  have H7 : Hid (Below w.heap.size w (w6.drewN d7) ∧ Sn (w6.drewN d7) E U M S L P H ∧ Arg .i64 (w6.drewN d7) ka kinds.length (fun i => ((kinds.getD i 0 : Nat) : Int)) ∧ Arg .i64 (w6.drewN d7) ka2 kinds.length (fun i => ((kinds.getD i 0 : Nat) : Int))) := Lib.hid ⟨below_dn H6.out.1 d7, H6.out.2.1.later (below_dn (Below.refl _ _) d7), H6.out.2.2.2.1.dn d7, H6.out.2.2.2.2.2.2.1.dn d7⟩
  clear q0 q1 q2 q3 r0 r1 r2 r3
  generalize World.drewN _ _ = w7 at H7 ⊢
  go_wp2_with fail
  refine (ints_eq ka ka2 kinds.length kc kc2 _ _ w7 (by have := HZ.out.2.2; unfold maxLen; omega) H7.out.2.2.1 H7.out.2.2.2 (fun _ _ => rfl)).mono ?_
  rintro _ w8 ⟨rfl, d8, rfl⟩
  have H8 : Hid (Below w.heap.size w (w7.drewN d8) ∧ Sn (w7.drewN d8) E U M S L P H) := Lib.hid ⟨below_dn H7.out.1 d8, H7.out.2.1.later (below_dn (Below.refl _ _) d8)⟩
  generalize World.drewN _ _ = w8 at H8 ⊢
  have HF8 := Lib.hid (readFile_any w8 E U M S L P H H8.out.2)
  go_wp2_with fail
  refine HF8.out.mono ?_
  rintro _ w9 ⟨rfl, h9⟩
  have H9 := Lib.hid h9; clear h9
  go_wp2
  go_ret
  exact ⟨rfl, H8.out.1.trans (H9.out.mono H8.out.1.size)⟩
end Go.Proofs.YthipghkhdlnfiaaDoor
