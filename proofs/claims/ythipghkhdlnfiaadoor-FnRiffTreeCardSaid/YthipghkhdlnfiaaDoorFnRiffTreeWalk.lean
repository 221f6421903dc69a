/- FnRiffTree: the walk (draft). -/
import Derived.Test.YthipghkhdlnfiaaDoorTrK
namespace Go.Proofs.YthipghkhdlnfiaaDoor
open Go.RowKit
set_option linter.unusedVariables false

theorem deep_ok (a : Int) : ∃ d : Nat, (a.tmod 7 + 7).tmod 7 = (d : Int) ∧ d ≤ 6 ∧ 0 ≤ a.tmod 7 + 7 ∧ a.tmod 7 + 7 ≤ 14 := by
  have h1 : a.tmod 7 < 7 := Int.tmod_lt_of_pos a (by decide)
  have h2 : -7 < a.tmod 7 := Int.lt_tmod_of_pos a (by decide)
  have h3 : (a.tmod 7 + 7).tmod 7 = (a.tmod 7 + 7) % 7 := Int.tmod_eq_emod_of_nonneg (by omega)
  refine ⟨((a.tmod 7 + 7) % 7).toNat, ?_, ?_, by omega, by omega⟩
  · rw [h3]; omega
  · omega
theorem choose_any (a : Option Addr) (n k : Nat) (w : World) : Calls Tryd.prog 16 #[.slice a n k] w fun e w' => e = .returned (.pointer (some ⟨w.heap.size, 0, none⟩)) ∧ w' = w.alloc (.cells #[.slice a n k, .int .i64 0, .bool false] 77) := by
  go_enter Tryd.func16, Tryd.ntmps16
  go_wp2
  go_ret
  exact ⟨rfl, rfl⟩

/-- The walker at the beginning. -/
def wcI (w : World) (a : Option Addr) (n k : Nat) (f : Nat → Int) : WC := ⟨w.heap.size, w.heap.size + 1 + 1, w.heap.size, a, n, k, f⟩
def wI (w : World) (a : Option Addr) (n k : Nat) : World := ((w.alloc (.cells #[.slice a n k, .int .i64 0, .bool false] 77)).alloc (.cells #[.int .i64 0] 3)).alloc (.cells #[.pointer (some ⟨w.heap.size, 0, none⟩), .slice none 0 0, .slice none 0 0, .slice (some ⟨w.heap.size + 1, 0, none⟩) 1 1] 51)
theorem wk_init (w : World) (a : Option Addr) (n k : Nat) (f : Nat → Int) (ha : Arg .u8 w a n f) (hu : ∀ i, 0 ≤ f i ∧ f i ≤ 255) (hn : n ≤ 65536) :
    WK (wcI w a n k f) (wI w a n k) (.slice none 0 0) (.slice none 0 0) (.slice (some ⟨w.heap.size + 1, 0, none⟩) 1 1) [] [] [0] [] ∧ Below w.heap.size w (wI w a n k) := by
  have e1 : (w.alloc (.cells #[.slice a n k, .int .i64 0, .bool false] 77)).heap.size = w.heap.size + 1 := by simp
  have e2 : ((w.alloc (.cells #[.slice a n k, .int .i64 0, .bool false] 77)).alloc (.cells #[.int .i64 0] 3)).heap.size = w.heap.size + 1 + 1 := by simp
  have o0 := ((obj_new w 77 [.slice a n k, .int .i64 0, .bool false]).alloc (.cells #[.int .i64 0] 3)).alloc (.cells #[.pointer (some ⟨w.heap.size, 0, none⟩), .slice none 0 0, .slice none 0 0, .slice (some ⟨w.heap.size + 1, 0, none⟩) 1 1] 51)
  have o1 := (obj_new (w.alloc (.cells #[.slice a n k, .int .i64 0, .bool false] 77)) 3 [.int .i64 0]).alloc (.cells #[.pointer (some ⟨w.heap.size, 0, none⟩), .slice none 0 0, .slice none 0 0, .slice (some ⟨w.heap.size + 1, 0, none⟩) 1 1] 51)
  have o2 := obj_new ((w.alloc (.cells #[.slice a n k, .int .i64 0, .bool false] 77)).alloc (.cells #[.int .i64 0] 3)) 51 [.pointer (some ⟨w.heap.size, 0, none⟩), .slice none 0 0, .slice none 0 0, .slice (some ⟨w.heap.size + 1, 0, none⟩) 1 1]
  rw [e1] at o1
  rw [e2] at o2
  have hb : Below w.heap.size w (wI w a n k) := (((Below.refl _ w).alloc (Nat.le_refl _) _).alloc (by simp) _).alloc (by simp; omega) _
  have hlt : 0 < n → ∀ p, a = some p → p.block < w.heap.size := fun h0 p hp => by
    obtain ⟨g, o, e, hg, _⟩ := ha h0
    rw [e] at hp; injection hp with hp; rw [← hp]; exact hg
  refine ⟨⟨⟨o2, ⟨⟨0, Nat.zero_le _, o0⟩, ha.below hb, fun h0 p hp e => ?_, hu, hn⟩⟩, World.ownsRow_nil _ _ _ _, World.ownsRow_nil _ _ _ _, ?_, ⟨rfl, fun i k hk => by simp at hk⟩, hb.size, hlt, by show w.heap.size ≤ w.heap.size + 1 + 1; omega⟩, hb⟩
  · have := hlt h0 p hp
    have e : p.block = w.heap.size := e
    omega
  · exact own_of_block (by show w.heap.size ≤ w.heap.size + 1; omega) o1 (Nat.le_refl _) (by unfold maxLen; omega) rfl rfl rfl

theorem cks_ds {B : Nat} {w : World} {v : Value} {l : List Ck} {ds : List Value} (h : w.ownsRow B 43 7 v l.length (ckCells l ds)) (hd : DS w l ds) : ∃ a c, v = .slice a l.length c ∧ Cks w a l := by
  obtain ⟨a, c, hv⟩ := row_shape h
  refine ⟨a, c, hv, fun h0 => ?_⟩
  obtain ⟨g, cap, cur, hv2, _, ho, _, _, _, h6⟩ := own_block h h0
  rw [hv] at hv2
  injection hv2 with e1 e2 e3
  refine ⟨g, 0, e1, fun i k hk => ?_⟩
  have hi : i < l.length := (List.getElem?_eq_some_iff.1 hk).1
  obtain ⟨da, dc, hd1, hd2, _⟩ := hd.2 i k hk
  have hc : ∀ j v, (ckCell k (.slice da k.data.length dc))[j]? = some v → w.cell? ⟨g, i * 7 + j, none⟩ = some v := fun j v hj => by
    have hj7 : j < 7 := by
      have := (List.getElem?_eq_some_iff.1 hj).1
      simpa [ckCell] using this
    refine ho.cell (i * 7 + j) ?_
    have e : (cur.take (l.length * 7))[i * 7 + j]? = cur[i * 7 + j]? := by
      rw [List.getElem?_take, if_pos (by have : (i + 1) * 7 ≤ l.length * 7 := Nat.mul_le_mul_right 7 hi; omega)]
    rw [← e, h6, ckCells_get l ds i j k _ hk hd1 hj7]
    exact hj
  refine ⟨da, dc, ?_, ?_, ?_, ?_, ?_, ?_, ?_, hd2⟩
  · have := hc 0 _ rfl; simpa using this
  · have := hc 1 _ rfl; simpa using this
  · have := hc 2 _ rfl; simpa using this
  · have := hc 3 _ rfl; simpa using this
  · have := hc 4 _ rfl; simpa using this
  · have := hc 5 _ rfl; simpa using this
  · have := hc 6 _ rfl; simpa using this
theorem ki_own {B : Nat} {w : World} {v : Value} {ks : List Nat} (h : w.ownsRow B 3 1 v ks.length (kC ks)) : ∃ a c, v = .slice a ks.length c ∧ Arg .i64 w a ks.length (fun i => ((ks.getD i 0 : Nat) : Int)) := by
  have e : kC ks = (ks.map (fun k : Nat => (k : Int))).map (Value.int .i64) := by
    unfold kC; rw [List.map_map]; rfl
  rw [e] at h
  obtain ⟨a, c, hv, _, ha⟩ := arg_own h
  refine ⟨a, c, hv, fun h0 => ?_⟩
  obtain ⟨g, o, h1, h2, h3⟩ := ha h0
  refine ⟨g, o, h1, h2, fun i hi => ?_⟩
  rw [h3 i hi]
  simp [List.getD, List.getElem?_map, List.getElem?_eq_getElem hi]
theorem fq_tree (b : List Int) (h : okHead (fileB [116, 114, 101, 101] b) = true) : fq (fileB [116, 114, 101, 101] b) 0 = 116 ∧ fq (fileB [116, 114, 101, 101] b) 1 = 114 ∧ fq (fileB [116, 114, 101, 101] b) 2 = 101 ∧ fq (fileB [116, 114, 101, 101] b) 3 = 101 := by
  unfold fq
  rw [h]
  unfold fileB chunkB
  refine ⟨?_, ?_, ?_, ?_⟩ <;> simp [List.getD, le4]

set_option maxRecDepth 100000 in
set_option maxHeartbeats 4000000 in
theorem fnRiffTree_walk (w : World) (ht : Laid w) (a0 : Option Addr) (len0 cap0 : Nat) (z0 : List Int) (w0 : IsRow .u8 w a0 len0 cap0 z0) (a1 : Int) (w1 : (Lit.int .i64 a1).wf = true) (a2 : Option Addr) (len2 cap2 : Nat) (z2 : List Int) (w2 : IsRow .i64 w a2 len2 cap2 z2) :
    Calls Tryd.prog 6 #[.slice a0 len0 cap0, .int .i64 a1, .slice a2 len2 cap2] w fun e w' => e = .returned (.bool true) ∧ Below w.heap.size w w' := by
  obtain ⟨E, U, M, S, L, P, H, hs⟩ := ht
  have HF := Lib.hid (readFile_any w E U M S L P H hs)
  have HS := Lib.hid hs
  clear hs
  obtain ⟨l, hl, harg, hlc, hcm, hwf⟩ := isRow_arg w0
  obtain ⟨cz, hcl, hcarg, hcc, hccm, hcwf⟩ := isRow_arg w2
  have HB := Lib.hid (And.intro harg (And.intro hlc (And.intro hcm (And.intro (by_wf hwf) hl))))
  have HC := Lib.hid (And.intro hcarg (And.intro hcc (And.intro hccm (And.intro (i64_wf hcwf) hcl))))
  have h1 := i64_one w1
  clear w0 w1 w2 harg hlc hcm hwf hcarg hcc hccm hcwf hl hcl
  by_cases b1 : 2147483647 < len0
  · go_enter Tryd.func6, Tryd.ntmps6
    go_wp2
    go_ret
    exact ⟨rfl, Below.refl _ _⟩
  by_cases b2 : 2147483647 < len2
  · go_enter Tryd.func6, Tryd.ntmps6
    go_wp2
    go_ret
    exact ⟨rfl, Below.refl _ _⟩
  by_cases b3 : 65536 < len0
  · go_enter Tryd.func6, Tryd.ntmps6
    go_wp2_with fail
    refine HF.out.mono ?_
    rintro _ w4 ⟨rfl, h4⟩
    have H4 := Lib.hid h4; clear h4
    go_wp2
    go_ret
    exact ⟨rfl, H4.out⟩
  by_cases b4 : 1048576 < len2
  · go_enter Tryd.func6, Tryd.ntmps6
    go_wp2_with fail
    refine HF.out.mono ?_
    rintro _ w4 ⟨rfl, h4⟩
    have H4 := Lib.hid h4; clear h4
    go_wp2
    go_ret
    exact ⟨rfl, H4.out⟩
  have HCH := Lib.hid (choose_any a0 len0 cap0 w)
  obtain ⟨d, hd, hd6, hr0, hr1⟩ := deep_ok a1
  have hw : wrap64 (a1.tmod 7 + 7) = a1.tmod 7 + 7 := by unfold wrap64; omega
  have hqd := (qD_le d hd6).1
  have HK := Lib.hid (wk_init w a0 len0 cap0 (fun i => l.getD i 0) HB.out.1 HB.out.2.2.2.1 (by omega))
  have HT := Lib.hid (chunksT_all (wcI w a0 len0 cap0 (fun i => l.getD i 0)) d hd6 (wI w a0 len0 cap0) _ _ _ [] [] [0] [] HK.out.1 (by simp; omega) (by simp; omega) (by simp; omega))
  obtain ⟨q, hq⟩ : ∃ x, x = qD d := ⟨_, rfl⟩
  rw [← hq] at HT hqd
  have HD := Lib.hid (And.intro hd hd6)
  clear hr0 hr1 hq
  go_enter Tryd.func6, Tryd.ntmps6
  go_wp2_with fail
  refine HCH.out.mono ?_
  rintro _ w3 ⟨rfl, rfl⟩
  go_wp2_with fail
  refine HT.out.mono ?_
  rintro _ w4 ⟨bv, t, sv, wv, kv, dn, rfl, hob, _, htok, hwk, _, hon⟩
  have hb4 : Below w.heap.size w w4 := by
    refine HK.out.2.trans (hon.below HK.out.2.size (fun k hk => ?_))
    rcases hk with e | e | ⟨e, _⟩
    · have e : k = w.heap.size + 1 + 1 := e
      omega
    · have e : k = w.heap.size := e
      omega
    · exact e
  obtain ⟨ba, bc, rfl, _, hsrc⟩ := src_own hob
  obtain ⟨BL, hBL⟩ : ∃ x, x = t.bytes.length := ⟨_, rfl⟩
  have hbl : BL ≤ 393200 := by have := htok.le; omega
  obtain ⟨bs, hbs⟩ : ∃ x, x = fileB [116, 114, 101, 101] t.bytes := ⟨_, rfl⟩
  have hbsl : bs.length ≤ 400000 ∧ 12 ≤ bs.length := by
    rw [hbs]; unfold fileB
    have h1 := chunkB_len (id := [82, 73, 70, 70]) rfl ([116, 114, 101, 101] ++ t.bytes)
    have h3 : (chunkB [82, 73, 70, 70] ([116, 114, 101, 101] ++ t.bytes)).length ≥ 8 + ([116, 114, 101, 101] ++ t.bytes : List Int).length := by
      rw [chunkB_length rfl]; omega
    rw [List.length_append] at h1 h3
    simp only [List.length_cons, List.length_nil] at h1 h3
    omega
  have hrt := riff_tree [116, 114, 101, 101] rfl t (by rw [← hBL]; omega) (by rw [← hbs]; exact htok.ok.mono hbsl.2)
  rw [← hbs] at hrt
  have hfit : Fit (t.steps ++ [(0, 0)]) := Fit.app htok.ft (fun p hp => by simp at hp; subst hp; decide)
  have hu8 : U8 bs := by
    rw [hbs]
    exact u8_chunk (fun p hp => by simp at hp; rcases hp with rfl | rfl | rfl | rfl <;> decide) (U8.app (fun p hp => by simp at hp; rcases hp with rfl | rfl | rfl | rfl <;> decide) htok.u8)
  obtain ⟨m, hm⟩ : ∃ x, x = t.steps.length := ⟨_, rfl⟩
  have hml : m ≤ 393200 := by have := htok.st; omega
  have hkl : t.kinds.length = m := by rw [Tr.kinds_length, ← hm]
  have HF3 := file_any 116 114 101 101 ba bc t.bytes w4 hsrc (by rw [← hBL]; omega)
  rw [← hBL, ← hbs] at HF3
  rw [← hBL]
  have HF3 := Lib.hid HF3
  have H4 : Hid (Below w.heap.size w w4 ∧ WK (wcI w a0 len0 cap0 (fun i => l.getD i 0)) w4 sv wv kv t.steps t.want (0 :: t.kinds) dn) := Lib.hid ⟨hb4, hwk⟩
  have hfq := fq_tree t.bytes (by rw [← hbs]; exact hrt.1)
  rw [← hbs] at hfq
  have HFQ := Lib.hid hfq
  clear hfq
  have HM := Lib.hid (And.intro hrt (And.intro hfit (And.intro hu8 (And.intro hm (And.intro hkl htok)))))
  clear hob hsrc htok hwk hon hb4 hBL hbs hrt hfit hu8 hm hkl
  go_wp2_with fail
  refine HF3.out.mono ?_
  rintro _ w5 ⟨fv, rfl, hof, hb5⟩
  obtain ⟨fa, fc, hfv, _, hfarg⟩ := arg_own hof
  have hfcap : bs.length ≤ fc ∧ fc ≤ maxLen := by
    obtain ⟨g, cap, cur, hv, _, _, h1, h2, _⟩ := own_block hof (by omega)
    rw [hfv] at hv
    injection hv with _ _ hv
    subst hv
    exact ⟨h1, h2⟩
  have HTY : Hid (∀ w', w' = w5 → ∀ k, (Value.slice fa bs.length fc).ownBlock = some k → OfTy w' 5 k) := Lib.hid (fun w' hw k hk => by subst hw; exact (ownsRow_ty hof (by rw [hfv]; exact hk)).1)
  subst hfv
  have hwk5 := H4.out.2.nop (Only.of_below hb5)
  have H5 : Hid (Below w.heap.size w w5 ∧ WK (wcI w a0 len0 cap0 (fun i => l.getD i 0)) w5 sv wv kv t.steps t.want (0 :: t.kinds) dn ∧ Arg .u8 w5 fa bs.length (fun i => bs.getD i 0) ∧ bs.length ≤ fc ∧ fc ≤ maxLen) := Lib.hid ⟨H4.out.1.trans (hb5.mono H4.out.1.size), hwk5, hfarg, hfcap.1, hfcap.2⟩
  have HS1 := Lib.hid (wkStep H5.out.2.1 0 0 1 1 rfl (by have := HM.out.2.2.2.1; omega) (by rw [List.length_cons]; have := HM.out.2.2.2.2.1; omega))
  clear hof hb5 hfarg hfcap HF3 hwk5 H4
  go_wp2_with fail
  refine HS1.out.mono ?_
  rintro _ w6 ⟨rfl, sv6, kv6, hwk6, hon6⟩
  have hb6 : Below w.heap.size w w6 := H5.out.1.trans (hon6.below H5.out.1.size (fun k hk => by
    rcases hk with e | ⟨e, _⟩
    · have e : k = w.heap.size + 1 + 1 := e
      omega
    · exact e))
  have hfa6 : Arg .u8 w6 fa bs.length (fun i => bs.getD i 0) := by
    refine H5.out.2.2.1.only hon6 (fun h0 p hp hs => ?_)
    have h2 := HTY.out w5 rfl p.block (by rw [hp]; rfl)
    rcases hs with e | ⟨_, e | e⟩
    · rw [e] at h2; exact absurd (h2.inj H5.out.2.1.wq.1.ty) (by decide)
    · exact absurd (h2.inj e) (by decide)
    · exact absurd (h2.inj e) (by decide)
  have hc6 : w6.cell? ⟨w.heap.size + 1 + 1, 1, none⟩ = some sv6 := hwk6.wq.1.cell 1 rfl
  obtain ⟨sa, sc, hsv, hst6⟩ := steps_own hwk6.st rfl
  rw [List.length_append, ← HM.out.2.2.2.1] at hsv
  subst hsv
  have HQ := riff_q w6 fa bs.length fc bs a2 len2 cap2 (fun i => cz.getD i 0) sa (m + 1) sc (t.steps ++ [(0, 0)]) E U M S L P H (HS.out.later hb6) hfa6 (by_of HM.out.2.2.1) rfl (by omega) H5.out.2.2.2.1 H5.out.2.2.2.2 (HC.out.1.below hb6) HC.out.2.2.2.1 (by omega) hst6 (by rw [List.length_append, ← HM.out.2.2.2.1]; rfl) (by omega) (HM.out.2.1.get)
  have HQ := Lib.hid HQ.out
  have H6 := Lib.hid (And.intro hb6 (And.intro hwk6 hfa6))
  clear hb6 hwk6 hon6 hfa6 hst6
  go_wp2_with fail
  refine HQ.out.mono ?_
  rintro _ w7 ⟨oa, oc, ka, kc, rfl, h7⟩
  rw [HM.out.1.2] at h7 ⊢
  rw [HFQ.out.1, HFQ.out.2.1, HFQ.out.2.2.1, HFQ.out.2.2.2]
  have hb7 : Below w6.heap.size w6 w7 := h7.2.2.2.2.2.1
  have hwk7 := H6.out.2.1.nop (Only.of_below hb7)
  obtain ⟨wa, wc, hwv, hcks⟩ := cks_ds hwk7.wa hwk7.da
  subst hwv
  obtain ⟨xa, xc, hkv, hkarg⟩ := ki_own hwk7.ki
  subst hkv
  obtain ⟨kinds, hkinds⟩ : ∃ x, x = 0 :: (t.kinds ++ [1]) := ⟨_, rfl⟩
  have hks : (0 :: t.kinds) ++ [1] = kinds := by rw [hkinds]; rfl
  rw [hks] at hkarg hwk7
  rw [← hkinds] at h7 ⊢
  have hb : Below w7.heap.size w7 (w7.alloc (.cells #[.int .u8 116, .int .u8 114, .int .u8 101, .int .u8 101] 26)) := (Below.refl _ _).alloc (Nat.le_refl _) _
  have hwk8 := hwk7.nop (Only.of_below hb)
  have H8 : Hid (∃ w8, w8 = w7.alloc (.cells #[.int .u8 116, .int .u8 114, .int .u8 101, .int .u8 101] 26) ∧ Below w.heap.size w w8 ∧ Sn w8 E U M S L P H ∧ Cks w8 oa t.want ∧ Cks w8 wa t.want ∧ Arg .i64 w8 ka kinds.length (fun i => ((kinds.getD i 0 : Nat) : Int)) ∧ Arg .i64 w8 xa kinds.length (fun i => ((kinds.getD i 0 : Nat) : Int)) ∧ SObj w8 w7.heap.size 26 [.int .u8 116, .int .u8 114, .int .u8 101, .int .u8 101] ∧ w8.cell? ⟨w.heap.size + 1 + 1, 2, none⟩ = some (.slice wa t.want.length wc) ∧ w8.cell? ⟨w.heap.size + 1 + 1, 3, none⟩ = some (.slice xa kinds.length xc)) := Lib.hid (by
    have hb2 := H6.out.1.trans (hb7.mono H6.out.1.size)
    exact ⟨_, rfl, hb2.trans (hb.mono hb2.size), h7.2.2.2.2.2.2.later hb, h7.1.below hb, hcks.below hb, h7.2.2.2.1.below hb, hkarg.below hb, obj_new w7 26 [.int .u8 116, .int .u8 114, .int .u8 101, .int .u8 101], hwk8.wq.1.cell 2 rfl, hwk8.wq.1.cell 3 (by rw [← hks]; rfl)⟩)
  have HZ := Lib.hid (And.intro h7.2.1 (And.intro h7.2.2.1 h7.2.2.2.2.1))
  clear h7 hb7 hwk7 hwk8 hcks hkarg hkinds hks hb hc6
  go_upto_region 9 with fail
  obtain ⟨w8, hw8, H8⟩ := H8.out
  rw [← hw8]
  clear hw8
  have H8 := Lib.hid H8
  generalize w7.heap.size = fb at H8 ⊢
  have q0 : w8.cell? ⟨fb, 0, none⟩ = some (.int .u8 116) := H8.out.2.2.2.2.2.2.1.cell 0 rfl
  have q1 : w8.cell? ⟨fb, 1, none⟩ = some (.int .u8 114) := H8.out.2.2.2.2.2.2.1.cell 1 rfl
  have q2 : w8.cell? ⟨fb, 2, none⟩ = some (.int .u8 101) := H8.out.2.2.2.2.2.2.1.cell 2 rfl
  have q3 : w8.cell? ⟨fb, 3, none⟩ = some (.int .u8 101) := H8.out.2.2.2.2.2.2.1.cell 3 rfl
  have x2 : w8.cell? ⟨w.heap.size + 1 + 1, 2, none⟩ = some (.slice wa t.want.length wc) := H8.out.2.2.2.2.2.2.2.1
  have x3 : w8.cell? ⟨w.heap.size + 1 + 1, 3, none⟩ = some (.slice xa kinds.length xc) := H8.out.2.2.2.2.2.2.2.2
  have keq := eql_id
  go_wp2_with fail
  refine (chunks_eq oa wa oc wc t.want w8 HZ.out.1 HZ.out.2.1 H8.out.2.2.1 H8.out.2.2.2.1).mono ?_
  rintro _ w9 ⟨rfl, d9, rfl⟩
  have H9 : Hid (Below w.heap.size w (w8.drewN d9) ∧ Sn (w8.drewN d9) E U M S L P H ∧ Arg .i64 (w8.drewN d9) ka kinds.length (fun i => ((kinds.getD i 0 : Nat) : Int)) ∧ Arg .i64 (w8.drewN d9) xa kinds.length (fun i => ((kinds.getD i 0 : Nat) : Int))) := Lib.hid ⟨below_dn H8.out.1 d9, H8.out.2.1.later (below_dn (Below.refl _ _) d9), H8.out.2.2.2.2.1.dn d9, H8.out.2.2.2.2.2.1.dn d9⟩
  have y3 : (w8.drewN d9).cell? ⟨w.heap.size + 1 + 1, 3, none⟩ = some (.slice xa kinds.length xc) := x3
  clear q0 q1 q2 q3 x2 x3
  generalize World.drewN _ _ = w9 at H9 y3 ⊢
  go_wp2_with fail
  refine (ints_eq ka xa kinds.length kc xc _ _ w9 (by have := HZ.out.2.2; unfold maxLen; omega) H9.out.2.2.1 H9.out.2.2.2 (fun _ _ => rfl)).mono ?_
  rintro _ wB ⟨rfl, dB, rfl⟩
  have HB1 : Hid (Below w.heap.size w (w9.drewN dB) ∧ Sn (w9.drewN dB) E U M S L P H) := Lib.hid ⟨below_dn H9.out.1 dB, H9.out.2.1.later (below_dn (Below.refl _ _) dB)⟩
  clear y3
  generalize World.drewN _ _ = wB at HB1 ⊢
  have HFB := Lib.hid (readFile_any wB E U M S L P H HB1.out.2)
  go_wp2_with fail
  refine HFB.out.mono ?_
  rintro _ wC ⟨rfl, hC⟩
  have HC1 := Lib.hid hC; clear hC
  go_wp2
  go_ret
  exact ⟨rfl, HB1.out.1.trans (HC1.out.mono HB1.out.1.size)⟩
end Go.Proofs.YthipghkhdlnfiaaDoor
