/- FnRiffHeads: the walk. -/
import Derived.Test.YthipghkhdlnfiaaDoorRiffArg
import Derived.Test.YthipghkhdlnfiaaDoorRfV
import Derived.Laws.BytesArg
namespace Go.Proofs.YthipghkhdlnfiaaDoor
open Go.RowKit
set_option linter.unusedVariables false

theorem str_head {l : List Int} (h : By l) (h4 : 4 ≤ l.length) : ((strOfNums (l.take 4)).toList == ([82, 73, 70, 70] : List UInt8)) = decide (l.getD 0 0 = 82 ∧ l.getD 1 0 = 73 ∧ l.getD 2 0 = 70 ∧ l.getD 3 0 = 70) := by
  match l, h4 with
  | a :: b :: c :: d :: r, _ =>
    have ha := h 0; have hb := h 1; have hc := h 2; have hd := h 3
    simp [List.getD] at ha hb hc hd
    have k : ∀ x y : Int, 0 ≤ x → x ≤ 255 → 0 ≤ y → y ≤ 255 → (UInt8.ofNat x.toNat = UInt8.ofNat y.toNat ↔ x = y) := fun x y h1 h2 h3 h4 => by
      refine ⟨fun e => ?_, fun e => by rw [e]⟩
      have := congrArg UInt8.toNat e
      simp at this
      omega
    by_cases e : a = 82 ∧ b = 73 ∧ c = 70 ∧ d = 70
    · obtain ⟨rfl, rfl, rfl, rfl⟩ := e
      rw [ByteArray.toList_eq, strOfNums_data]; rfl
    · have e2 : ¬ ((strOfNums ((a :: b :: c :: d :: r).take 4)).toList = ([82, 73, 70, 70] : List UInt8)) := fun e4 => e (by
        rw [ByteArray.toList_eq, strOfNums_data] at e4
        have e5 : ([82, 73, 70, 70] : List UInt8) = [(82 : Int), 73, 70, 70].map fun n => UInt8.ofNat n.toNat := rfl
        rw [e5] at e4
        simp only [List.take, List.map_cons, List.map_nil, List.cons.injEq, and_true] at e4
        rw [k _ _ (by omega) (by omega) (by omega) (by omega), k _ _ (by omega) (by omega) (by omega) (by omega), k _ _ (by omega) (by omega) (by omega) (by omega), k _ _ (by omega) (by omega) (by omega) (by omega)] at e4
        exact e4)
      rw [decide_eq_false (by simpa [List.getD] using e)]
      exact beq_false_of_ne e2

theorem riff_none (w : World) (a0 : Option Addr) (len0 cap0 : Nat) (l : List Int) (a1 : Option Addr) (len1 cap1 : Nat) (cz : List Int) (E U M S L P H : Addr) (hs : Sn w E U M S L P H) (harg : Arg .u8 w a0 len0 (fun i => l.getD i 0)) (hby : By l) (hl : l.length = len0) (hlm : len0 ≤ 1048576) (hlc : len0 ≤ cap0) (hcm : cap0 ≤ maxLen)
    (hcarg : Arg .i64 w a1 len1 (fun i => cz.getD i 0)) (hcw : ∀ i, -9223372036854775808 ≤ cz.getD i 0 ∧ cz.getD i 0 ≤ 9223372036854775807) (hcm1 : len1 ≤ 1048576) (hok : okHead l = false) :
    Hid (Calls Tryd.prog 8 #[.slice a0 len0 cap0, .slice a1 len1 cap1, .slice (some ⟨w.heap.size, 0, none⟩) 1 1] (w.alloc (.cells #[.int .i64 0, .int .i64 0] 34)) fun e w' => ∃ fa fb fc fd oc c k kc, e = .returned (.tuple #[.agg #[.int .u8 fa, .int .u8 fb, .int .u8 fc, .int .u8 fd], .slice oc 0 c, .slice (some ⟨k, 0, none⟩) 1 kc]) ∧ w'.cell? ⟨k, 0, none⟩ = some (.int .i64 2) ∧ Below w.heap.size w w' ∧ Sn w' E U M S L P H) := Lib.hid (by
  subst hl
  have hb0 : Below w.heap.size w (w.alloc (.cells #[.int .i64 0, .int .i64 0] 34)) := (Below.refl _ w).alloc (Nat.le_refl _) _
  have hsn := hs.later hb0
  have hst : Steps (w.alloc (.cells #[.int .i64 0, .int .i64 0] 34)) (some ⟨w.heap.size, 0, none⟩) [(0, 0)] := fun _ => ⟨w.heap.size, 0, rfl, by simp, fun i hi => by
    have hi : i < 1 := hi
    obtain rfl : i = 0 := by omega
    have hn := obj_new w 34 [.int .i64 0, .int .i64 0]
    exact ⟨hn.cell 0 rfl, hn.cell 1 rfl⟩⟩
  refine (riff_any _ a0 cap0 l a1 len1 cap1 (fun i => cz.getD i 0) (some ⟨w.heap.size, 0, none⟩) 1 [(0, 0)] E U M S L P H (hsn.env (hcarg.below hb0) hcw (by omega) (by omega)) (harg.below hb0) hby (by omega) hlc (by unfold maxLen at hcm; omega) hst (by decide) (fun i => ?_)).mono ?_
  · match i with
    | 0 => exact ⟨by decide, by decide, by decide, by decide⟩
    | k + 1 => exact ⟨by simp, by simp, by simp, by simp⟩
  rintro _ w5 ⟨ov, kv, rfl, hou, hki, hb5⟩
  have hm : riffM l [(0, 0)] = ([], [2]) := by unfold riffM; rw [hok]; rfl
  rw [hm] at hou hki
  obtain ⟨ds, hou, hda⟩ := hou
  obtain ⟨oc, c, hv⟩ := row_shape hou
  subst hv
  obtain ⟨k, kc, cur, hkv, _, hko, hk1, hk2, hk3, hk4⟩ := own_block hki (by decide)
  subst hkv
  have e0 : cur[0]? = some (.int .i64 2) := by
    have : (cur.take (1 * 1))[0]? = cur[0]? := by rw [List.getElem?_take, if_pos (by decide)]
    rw [← this]
    exact congrArg (fun x => x[0]?) hk4
  rw [if_neg (by rw [hok]; decide)]
  have hb6 := hb0.trans (hb5.mono hb0.size)
  exact ⟨0, 0, 0, 0, oc, c, k, kc, rfl, hko.cell 0 e0, hb6, hs.later hb6⟩)

set_option maxRecDepth 100000 in
set_option maxHeartbeats 4000000 in
theorem fnRiffHeads_walk (w : World) (ht : Laid w) (a0 : Option Addr) (len0 cap0 : Nat) (z0 : List Int) (w0 : IsRow .u8 w a0 len0 cap0 z0) (a1 : Option Addr) (len1 cap1 : Nat) (z1 : List Int) (w1 : IsRow .i64 w a1 len1 cap1 z1) :
    Calls Tryd.prog 4 #[.slice a0 len0 cap0, .slice a1 len1 cap1] w fun e w' => e = .returned (.bool true) ∧ Below w.heap.size w w' := by
  obtain ⟨E, U, M, S, L, P, H, hs⟩ := ht
  have HF := Lib.hid (readFile_any w E U M S L P H hs)
  have HS := Lib.hid hs
  clear hs
  obtain ⟨l, hl, harg, hlc, hcm, hwf⟩ := isRow_arg w0
  obtain ⟨cz, hcl, hcarg, hcc, hccm, hcwf⟩ := isRow_arg w1
  have HB := Lib.hid (And.intro harg (And.intro hlc (And.intro hcm (And.intro (by_wf hwf) hl))))
  have HC := Lib.hid (And.intro hcarg (And.intro hcc (And.intro hccm (And.intro (i64_wf hcwf) hcl))))
  clear w0 w1 harg hlc hcm hwf hcarg hcc hccm hcwf hl hcl
  by_cases b1 : 2147483647 < len0
  · go_enter Tryd.func4, Tryd.ntmps4
    go_wp2
    go_ret
    exact ⟨rfl, Below.refl _ _⟩
  by_cases b2 : 2147483647 < len1
  · go_enter Tryd.func4, Tryd.ntmps4
    go_wp2
    go_ret
    exact ⟨rfl, Below.refl _ _⟩
  by_cases b3 : 1048576 < len0
  · go_enter Tryd.func4, Tryd.ntmps4
    go_wp2_with fail
    refine HF.out.mono ?_
    rintro _ w4 ⟨rfl, h4⟩
    have H4 := Lib.hid h4; clear h4
    go_wp2
    go_ret
    exact ⟨rfl, H4.out⟩
  by_cases b4 : 1048576 < len1
  · go_enter Tryd.func4, Tryd.ntmps4
    go_wp2_with fail
    refine HF.out.mono ?_
    rintro _ w4 ⟨rfl, h4⟩
    have H4 := Lib.hid h4; clear h4
    go_wp2
    go_ret
    exact ⟨rfl, H4.out⟩
  by_cases b5 : 12 ≤ len0
  · obtain ⟨g, o, ha, hg, hrow⟩ := HB.out.1 (by omega)
    subst ha
    have hll := HB.out.2.2.2.2
    have hconv : (convert 22 9 (.slice (some ⟨g, o, none⟩) 4 cap0)).run Tryd.prog w = .ok (.string (strOfNums (l.take 4))) w :=
      run_convert_bytes_arg w 22 5 Tryd.underlying22 Tryd.underlying5 g o 4 cap0 (l.take 4) (by rw [List.length_take]; omega) (fun i hi => by
        rw [hrow i (by omega)]
        simp [List.getD, hi]) 9 Tryd.underlying9
    have hstr := str_head HB.out.2.2.2.1 (by omega : 4 ≤ l.length)
    have HR := Lib.hid hrow
    clear hrow hll
    obtain ⟨s, hs⟩ : ∃ s, s = strOfNums (l.take 4) := ⟨_, rfl⟩
    rw [← hs] at hconv hstr
    clear hs
    have cap4 : 4 ≤ cap0 := by have := HB.out.2.1; omega
    have capm : cap0 ≤ 9223372036854775807 := by have := HB.out.2.2.1; unfold maxLen at this; omega
    by_cases b6 : l.getD 0 0 = 82 ∧ l.getD 1 0 = 73 ∧ l.getD 2 0 = 70 ∧ l.getD 3 0 = 70
    · rw [decide_eq_true b6] at hstr
      clear b6
      go_enter Tryd.func4, Tryd.ntmps4
      go_wp2_with fail
      refine HF.out.mono ?_
      rintro _ w4 ⟨rfl, h4⟩
      have H4 := Lib.hid h4; clear h4
      go_wp2
      go_ret
      exact ⟨rfl, H4.out⟩
    · rw [decide_eq_false b6] at hstr
      have hok : okHead l = false := decide_eq_false (fun h => b6 ⟨h.2.1, h.2.2.1, h.2.2.2.1, h.2.2.2.2.1⟩)
      have HK := riff_none w (some ⟨g, o, none⟩) len0 cap0 l a1 len1 cap1 cz E U M S L P H HS.out HB.out.1 HB.out.2.2.2.1 HB.out.2.2.2.2 (by omega) HB.out.2.1 HB.out.2.2.1 HC.out.1 HC.out.2.2.2.1 (by omega) hok
      clear b6 hok
      go_enter Tryd.func4, Tryd.ntmps4
      go_wp2_with fail
      refine HK.out.mono ?_
      rintro _ w5 ⟨fa, fb, fc, fd, oc, c, k, kc, rfl, h5⟩
      have H5 : Hid ((w5.alloc (.cells #[.int .u8 fa, .int .u8 fb, .int .u8 fc, .int .u8 fd] 26)).cell? ⟨k, 0, none⟩ = some (.int .i64 2) ∧ Below w.heap.size w (w5.alloc (.cells #[.int .u8 fa, .int .u8 fb, .int .u8 fc, .int .u8 fd] 26)) ∧ Sn (w5.alloc (.cells #[.int .u8 fa, .int .u8 fb, .int .u8 fc, .int .u8 fd] 26)) E U M S L P H) := Lib.hid (by
        have hb : Below w5.heap.size w5 (w5.alloc (.cells #[.int .u8 fa, .int .u8 fb, .int .u8 fc, .int .u8 fd] 26)) := (Below.refl _ _).alloc (Nat.le_refl _) _
        refine ⟨?_, h5.2.1.alloc h5.2.1.size _, h5.2.2.later hb⟩
        rw [World.cell?_of_block (w := w5) (hb.block k (World.block_lt_of_cell? w5 _ h5.1))]
        exact h5.1)
      clear h5
      go_upto_region 8 with fail
      generalize w5.heap.size = fb5 at H5 ⊢
      generalize World.alloc _ _ = w6 at H5 ⊢
      have ck := H5.out.1
      have HF6 := Lib.hid (readFile_any w6 E U M S L P H H5.out.2.2)
      go_wp2_with fail
      refine HF6.out.mono ?_
      rintro _ w7 ⟨rfl, h7⟩
      have H7 := Lib.hid h7; clear h7
      go_wp2
      go_ret
      exact ⟨rfl, H5.out.2.1.trans (H7.out.mono H5.out.2.1.size)⟩
  · have hok : okHead l = false := decide_eq_false (fun h => by have := HB.out.2.2.2.2; omega)
    have HK := riff_none w a0 len0 cap0 l a1 len1 cap1 cz E U M S L P H HS.out HB.out.1 HB.out.2.2.2.1 HB.out.2.2.2.2 (by omega) HB.out.2.1 HB.out.2.2.1 HC.out.1 HC.out.2.2.2.1 (by omega) hok
    clear hok
    go_enter Tryd.func4, Tryd.ntmps4
    go_wp2_with fail
    refine HK.out.mono ?_
    rintro _ w5 ⟨fa, fb, fc, fd, oc, c, k, kc, rfl, h5⟩
    have H5 : Hid ((w5.alloc (.cells #[.int .u8 fa, .int .u8 fb, .int .u8 fc, .int .u8 fd] 26)).cell? ⟨k, 0, none⟩ = some (.int .i64 2) ∧ Below w.heap.size w (w5.alloc (.cells #[.int .u8 fa, .int .u8 fb, .int .u8 fc, .int .u8 fd] 26)) ∧ Sn (w5.alloc (.cells #[.int .u8 fa, .int .u8 fb, .int .u8 fc, .int .u8 fd] 26)) E U M S L P H) := Lib.hid (by
      have hb : Below w5.heap.size w5 (w5.alloc (.cells #[.int .u8 fa, .int .u8 fb, .int .u8 fc, .int .u8 fd] 26)) := (Below.refl _ _).alloc (Nat.le_refl _) _
      refine ⟨?_, h5.2.1.alloc h5.2.1.size _, h5.2.2.later hb⟩
      rw [World.cell?_of_block (w := w5) (hb.block k (World.block_lt_of_cell? w5 _ h5.1))]
      exact h5.1)
    clear h5
    go_upto_region 8 with fail
    generalize w5.heap.size = fb5 at H5 ⊢
    generalize World.alloc _ _ = w6 at H5 ⊢
    have ck := H5.out.1
    have HF6 := Lib.hid (readFile_any w6 E U M S L P H H5.out.2.2)
    go_wp2_with fail
    refine HF6.out.mono ?_
    rintro _ w7 ⟨rfl, h7⟩
    have H7 := Lib.hid h7; clear h7
    go_wp2
    go_ret
    exact ⟨rfl, H5.out.2.1.trans (H7.out.mono H5.out.2.1.size)⟩
end Go.Proofs.YthipghkhdlnfiaaDoor
