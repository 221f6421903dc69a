/- The law's walker: chunks that are gone through. (Printed by wip/gen_trg.py.) -/
import Derived.Test.YthipghkhdlnfiaaDoorTrH
namespace Go.Proofs.YthipghkhdlnfiaaDoor
open Go.RowKit
set_option linter.unusedVariables false

set_option maxRecDepth 100000 in
set_option maxHeartbeats 8000000 in
theorem chunksT1 (c : WC) (d : Nat) (hd : d ≤ 6) (hd0 : 0 < d)
    (ih : ∀ d' w sv wv kv ps cks ks ds, d' + 1 = d → WK c w sv wv kv ps cks ks ds → ps.length + 4 * qD d' ≤ 5000000 → cks.length + 4 * qD d' ≤ 5000000 → ks.length + 4 * qD d' ≤ 5000000 → Calls Tryd.prog 17 #[.pointer (some ⟨c.gw, 0, none⟩), .int .i64 d', .bool true] w (TP c (4 * qD d') w ps cks ks ds))
    (w : World) (sv wv kv : Value) (ps : List (Int × Int)) (cks : List Ck) (ks : List Nat) (ds : List Value) (h : WK c w sv wv kv ps cks ks ds) (bp : ps.length + 4 * qD d ≤ 5000000) (bk : cks.length + 4 * qD d ≤ 5000000) (bs : ks.length + 4 * qD d ≤ 5000000) :
    Calls Tryd.prog 17 #[.pointer (some ⟨c.gw, 0, none⟩), .int .i64 d, .bool true] w (TP c (4 * qD d) w ps cks ks ds) := by
  have HD0 := Lib.hid hd0
  clear hd0
  obtain ⟨B, hB⟩ : ∃ B, B = w.heap.size := ⟨_, rfl⟩
  have hq := qD_le d hd
  obtain ⟨q, hqq⟩ : ∃ q, q = qD d := ⟨_, rfl⟩
  rw [← hqq] at hq bp bk bs
  have HQ := Lib.hid (And.intro hqq (And.intro hB ih))
  have HBD := Lib.hid (And.intro bp (And.intro bk bs))
  have HW := Lib.hid h
  obtain ⟨gw, hgw⟩ : ∃ g, g = c.gw := ⟨_, rfl⟩
  have HGW := Lib.hid hgw
  rw [← hgw]
  have HC1 : Hid (Calls Tryd.prog 25 #[.pointer (some ⟨c.gc, 0, none⟩), .int .i64 5] w fun e w' => ∃ v : Nat, e = .returned (.int .i64 v) ∧ v < 5 ∧ CH w' c.gc c.ba c.bn c.bc c.f ∧ Only (fun k => k = c.gc) w w') := Lib.hid (chNext_any 5 c.gc c.ba c.bn c.bc c.f w h.wq.2 (by decide) (by decide))
  have q0 : w.cell? ⟨gw, 0, none⟩ = some (.pointer (some ⟨c.gc, 0, none⟩)) := by rw [hgw]; exact h.wq.1.cell 0 rfl
  obtain ⟨i0, hi, hz0, hz1, hz2⟩ := info_parts (show (Tryd.prog.info? 5).map (fun i => (i.zero, i.size, i.bytes)) = some (some (.int .u8 0), 1, 1) by kernel_rfl)
  have HI := Lib.hid (And.intro hi (And.intro hz0 (And.intro hz1 hz2)))
  obtain ⟨j0, hj, hy0, hy1, hy2⟩ := info_parts (show (Tryd.prog.info? 43).map (fun i => (i.zero, i.size, i.bytes)) = some (some (.agg #[.int .u8 0, .int .u8 0, .int .u8 0, .int .u8 0, .int .i64 0, .slice none 0 0, .int .i64 0]), 7, 48) by kernel_rfl)
  have HJ := Lib.hid (And.intro hj (And.intro hy0 (And.intro hy1 hy2)))
  clear hi hz0 hz1 hz2 hj hy0 hy1 hy2 h hqq hB ih hgw bp bk bs
  go_enter Tryd.func17, Tryd.ntmps17
  go_wp2_with fail
  refine HC1.out.mono ?_
  rintro _ w2 ⟨v5, rfl, hv5, hc2, ho2⟩
  have H2 : Hid (IN c w B ds (.slice none 0 0) 0 [] w2 sv wv kv ps cks ks []) := Lib.hid (by
    refine ⟨by rw [List.append_nil]; exact HW.out.ch hc2 ho2, ho2.mono (fun k e => .inr (.inl e)), World.ownsRow_nil _ _ _ _, New.nil _, (fun p n cc hm h0 e => by cases e), HQ.out.2.1, HW.out.bs⟩)
  clear hc2 ho2 q0
  go_wp2_with fail
  go_loopg [7, 8] 6 (fun g s7 s8 wr => ∃ (i : Nat) (t : Tr), s8 = .int .i64 i ∧ i ≤ 4 ∧ i + 1 ≤ g ∧ Hid (∃ sv wv kv dn, t.bytes.length + i * q ≤ 4 * q ∧ (t.bytes = [] → s7 = .slice none 0 0) ∧ TOk t (4 * q) ∧ IN c w B ds s7 t.bytes.length t.bytes wr sv wv kv (ps ++ t.steps) (cks ++ t.want) (ks ++ t.kinds) dn))
  case atStart => exact ⟨v5, .nil, rfl, by omega, by omega, sv, wv, kv, [], by have := Nat.mul_le_mul_right q (show v5 ≤ 4 by omega); simpa [Tr.bytes] using this, fun _ => rfl, TOk.nil _, by simpa [Tr.steps, Tr.want, Tr.kinds, Tr.bytes] using H2.out⟩
  case round =>
    obtain ⟨i, t, rfl, hi4, hg, hR⟩ := hrel
    have HG := Lib.hid hg; clear hg
    obtain ⟨sv1, wv1, kv1, dn, hR⟩ := hR.out
    obtain ⟨sa, sc, hs⟩ := row_shape hR.2.2.2.row
    subst hs
    by_cases hlt : 0 < i
    · obtain ⟨l, hl⟩ : ∃ l, l = t.bytes := ⟨_, rfl⟩
      have hll : l.length ≤ 400000 := by rw [hl]; have := hR.2.2.1.le; omega
      rw [← hl] at hR ⊢
      obtain ⟨ln, hln⟩ : ∃ x, x = l.length := ⟨_, rfl⟩
      rw [← hln] at hR hll ⊢
      have HL := Lib.hid (And.intro hl hln)
      have HR := Lib.hid hR.2.2.2
      have HT := Lib.hid (And.intro hR.1 hR.2.2.1)
      clear hR hl hln
      have HFIN : Hid (∀ (w' : World) (v' sv2 wv2 kv2 : Value) (u : Tr) (dn2 : List Value) (l2 : List Int) (ln2 : Nat), TOk u q → u.bytes ≠ [] → l2 = l ++ u.bytes → ln2 = ln + u.bytes.length → IN c w B ds v' ln2 l2 w' sv2 wv2 kv2 ((ps ++ t.steps) ++ u.steps) ((cks ++ t.want) ++ u.want) ((ks ++ t.kinds) ++ u.kinds) dn2 → ∃ sv wv kv dn, (t.app u).bytes.length + (i - 1) * q ≤ 4 * q ∧ ((t.app u).bytes = [] → v' = .slice none 0 0) ∧ TOk (t.app u) (4 * q) ∧ IN c w B ds v' (t.app u).bytes.length (t.app u).bytes w' sv wv kv (ps ++ (t.app u).steps) (cks ++ (t.app u).want) (ks ++ (t.app u).kinds) dn) := Lib.hid (fun w' v' sv2 wv2 kv2 u dn2 l2 ln2 hu hne hl2 hn2 hin => by
        have e1 : (t.app u).bytes = l2 := by rw [Tr.app_bytes, hl2, HL.out.1]
        have e2 : (t.app u).bytes.length = ln2 := by rw [e1, hl2, List.length_append, hn2, HL.out.2]
        have hle := hu.le
        have hm : i * q = (i - 1) * q + q := by
          obtain ⟨j, rfl⟩ : ∃ j, i = j + 1 := ⟨i - 1, by omega⟩
          rw [Nat.add_sub_cancel, Nat.add_mul, Nat.one_mul]
        have hsum := HT.out.1
        refine ⟨sv2, wv2, kv2, dn2, by rw [e2]; omega, fun h0 => ?_, ?_, ?_⟩
        · rw [e1, hl2] at h0; exact absurd (List.append_eq_nil_iff.1 h0).2 hne
        · have h1 := (HT.out.2.app hu)
          exact ⟨h1.ok, h1.u8, h1.st, h1.wa, h1.ft, by rw [e2]; omega⟩
        · rw [e2, e1, Tr.app_steps, Tr.app_want, Tr.app_kinds, ← List.append_assoc, ← List.append_assoc, ← List.append_assoc]
          exact hin)
      have HBN : Hid ((ps ++ t.steps).length + q ≤ 5000000 ∧ (cks ++ t.want).length + q ≤ 5000000 ∧ (ks ++ t.kinds).length + q ≤ 5000000) := Lib.hid (by
        have h1 := HBD.out
        have h2 := HT.out.1
        have h3 := HT.out.2.st
        have h4 := HT.out.2.wa
        have h5 := t.kinds_length
        have h6 := HL.out
        have hm : i * q = (i - 1) * q + q := by
          obtain ⟨j, rfl⟩ : ∃ j, i = j + 1 := ⟨i - 1, by omega⟩
          rw [Nat.add_sub_cancel, Nat.add_mul, Nat.one_mul]
        rw [List.length_append, List.length_append, List.length_append]
        have h7 : t.bytes.length = ln := by rw [h6.2, h6.1]
        omega)
      obtain ⟨ps1, hps1⟩ : ∃ x, x = ps ++ t.steps := ⟨_, rfl⟩
      obtain ⟨cks1, hcks1⟩ : ∃ x, x = cks ++ t.want := ⟨_, rfl⟩
      obtain ⟨ks1, hks1⟩ : ∃ x, x = ks ++ t.kinds := ⟨_, rfl⟩
      rw [← hps1, ← hcks1, ← hks1] at HFIN HBN
      rw [← hps1, ← hcks1, ← hks1] at HR
      clear hps1 hcks1 hks1
      have q0 : wr.cell? ⟨gw, 0, none⟩ = some (.pointer (some ⟨c.gc, 0, none⟩)) := by rw [HGW.out]; exact HR.out.wk.wq.1.cell 0 rfl
      obtain ⟨xa, xc, hxv⟩ := row_shape HR.out.wk.wa
      subst hxv
      obtain ⟨xn, hxn⟩ : ∃ x, x = cks1.length := ⟨_, rfl⟩
      rw [← hxn] at HR
      have HXN := Lib.hid hxn
      clear hxn
      have hd0 := HD0.out
      · have HC4 : Hid (Calls Tryd.prog 26 #[.pointer (some ⟨c.gc, 0, none⟩), .int .i64 2] wr fun e w' => (e = .returned (.bool true) ∨ e = .returned (.bool false)) ∧ CH w' c.gc c.ba c.bn c.bc c.f ∧ Only (fun k => k = c.gc) wr w') := Lib.hid (chIs_any 2 c.gc c.ba c.bn c.bc c.f wr HR.out.wk.wq.2 (by decide) (by decide))
        go_wp2_with fail
        refine HC4.out.mono ?_
        rintro _ w3 ⟨rfl | rfl, hc3, ho3⟩
        · obtain ⟨d', rfl⟩ : ∃ d', d = d' + 1 := ⟨d - 1, by omega⟩
          have H3 := Lib.hid (HR.out.ch hc3 ho3)
          clear hc3 ho3 q0
          have q2 : w3.cell? ⟨gw, 2, none⟩ = some (.slice xa xn xc) := by rw [HGW.out]; exact H3.out.wk.wq.1.cell 2 rfl
          have f2 : w3.frozen? ⟨gw, 2, none⟩ = false := by rw [HGW.out]; exact H3.out.wk.wq.1.free 2
          obtain ⟨hj, hy0, hy1, hy2⟩ := HJ.out
          have hxb : xn ≤ 5000000 := by rw [HXN.out]; have := HBN.out.2.1; omega
          have HNUM : Hid (w3.ownsRow c.B 43 7 (.slice xa xn xc) xn (ckCells cks1 (ds ++ dn)) ∧ xn + 1 ≤ maxLen ∧ (xn + 1) * 48 ≤ 140737488355328 ∧ c.B ≤ (w3.alloc (.cells #[.int .u8 76, .int .u8 73, .int .u8 83, .int .u8 84, .int .i64 0, .slice none 0 0, .int .i64 2] 43)).heap.size) := Lib.hid ⟨by have h := H3.out.wk.wa; rw [← HXN.out] at h; exact h, by unfold maxLen; omega, by omega, by simp; have := H3.out.wk.bs; omega⟩
          go_upto_region 9 with (at_builtin; refine wpList_append_own _ rfl _ _ 27 rfl c.B 43 j0 _ 7 48 Tryd.underlying27 hj hy0 hy1 hy2 (by simp [Value.cells]) (by decide) _ _ _ rfl (HNUM.out.1.alloc _) ⟨w3.heap.size, 0, none⟩ 1 1 (ckCell ⟨listId, 0, [], 2⟩ (.slice none 0 0)) rfl rfl (World.news_of_block (heap_alloc_new w3 _)) (ckCell_one _ _ _ _) HNUM.out.2.1 HNUM.out.2.2.1 HNUM.out.2.2.2 ?_; intro v4 w4 hown4 hgr4 _; obtain ⟨xa4, xc4, hv4⟩ := row_shape hown4; subst hv4; obtain ⟨q4, f4⟩ := wk_cells H3.out.wk hgr4; rw [← HGW.out] at q4 f4; have H4 := Lib.hid (And.intro hown4 hgr4); clear hown4 hgr4)
          have H5 : Hid (∃ w5, w5 = w4.setCell ⟨gw, 2, none⟩ (.slice xa4 (xn + 1) xc4) ∧ IN c w B ds (.slice sa ln sc) ln l w5 sv1 (.slice xa4 (xn + 1) xc4) kv1 ps1 (cks1 ++ [⟨listId, 0, [], 2⟩]) ks1 (dn ++ [.slice none 0 0])) := Lib.hid (by
            have hp := H3.out.wk.push _ ⟨listId, 0, [], 2⟩ none 0 (fun h0 => absurd h0 (Nat.lt_irrefl 0)) (fun h0 => absurd h0 (Nat.lt_irrefl 0)) (by rw [← HXN.out]; exact H4.out.1) H4.out.2
            rw [HGW.out]
            refine ⟨_, rfl, H3.out.go (by have h := hp.1; rw [List.append_assoc] at h; exact h) hp.2 (H3.out.nw.app (fun p n cc hm h0 => by simp at hm)) (fun p n cc hm h0 => ?_)⟩
            refine H3.out.ap p n cc ?_ h0
            rw [← List.append_assoc] at hm
            rcases List.mem_append.1 hm with h1 | h1
            · exact h1
            · simp at h1)
          clear q2 f2 q4 f4 H4
          obtain ⟨w5, hw5, H5⟩ := H5.out
          rw [← hw5]
          clear hw5
          have H5 := Lib.hid H5
          have HST : Hid (Calls Tryd.prog 18 #[.pointer (some ⟨gw, 0, none⟩), .int .i64 0, .int .i64 0, .int .i64 0] w5 fun e w' => e = .returned (.tuple #[]) ∧ ∃ sv' kv', WK c w' sv' (.slice xa4 (xn + 1) xc4) kv' (ps1 ++ [(0, 0)]) (cks1 ++ [⟨listId, 0, [], 2⟩]) (ks1 ++ [0]) (ds ++ (dn ++ [.slice none 0 0])) ∧ Only (WS c w5) w5 w') := Lib.hid (by rw [HGW.out]; exact wkStep H5.out.wk 0 0 0 0 rfl (by have := HBN.out.1; omega) (by have := HBN.out.2.2; omega))
          go_wp2_with fail
          refine HST.out.mono ?_
          rintro _ w6 ⟨rfl, sv6, kv6, hk6, ho6⟩
          have H6 := Lib.hid (H5.out.step hk6 ho6)
          clear hk6 ho6
          have q6 : w6.cell? ⟨gw, 0, none⟩ = some (.pointer (some ⟨c.gc, 0, none⟩)) := by rw [HGW.out]; exact H6.out.wk.wq.1.cell 0 rfl
          have HC7 : Hid (Calls Tryd.prog 26 #[.pointer (some ⟨c.gc, 0, none⟩), .int .i64 4] w6 fun e w' => (e = .returned (.bool true) ∨ e = .returned (.bool false)) ∧ CH w' c.gc c.ba c.bn c.bc c.f ∧ Only (fun k => k = c.gc) w6 w') := Lib.hid (chIs_any 4 c.gc c.ba c.bn c.bc c.f w6 H6.out.wk.wq.2 (by decide) (by decide))
          go_wp2_with fail
          refine HC7.out.mono ?_
          rintro _ w7 ⟨rfl | rfl, hc7, ho7⟩
          · have H7 := Lib.hid (H6.out.ch hc7 ho7)
            clear hc7 ho7 q6
            have HNM : Hid (Calls Tryd.prog 27 #[.pointer (some ⟨gw, 0, none⟩)] w7 fun e w' => ∃ a b : Nat, e = .returned (.agg #[.int .u8 a, .int .u8 120, .int .u8 121, .int .u8 b]) ∧ a ≤ 255 ∧ b ≤ 255 ∧ CH w' c.gc c.ba c.bn c.bc c.f ∧ Only (fun k => k = c.gc) w7 w') := Lib.hid (by rw [HGW.out]; exact wkName_any c.gw c.gc c.ba c.bn c.bc c.f w7 _ _ _ H7.out.wk.wq.1 H7.out.wk.wq.2)
            go_wp2_with fail
            refine HNM.out.mono ?_
            rintro _ wa ⟨na, nb, rfl, hna, hnb, hca, hoa⟩
            have HB2 : Hid (IN c w B ds (.slice sa ln sc) ln l (wa.alloc (.cells #[.int .u8 na, .int .u8 120, .int .u8 121, .int .u8 nb] 26)) sv6 (.slice xa4 (xn + 1) xc4) kv6 (ps1 ++ [(0, 0)]) (cks1 ++ [⟨listId, 0, [], 2⟩]) (ks1 ++ [0]) (dn ++ [.slice none 0 0]) ∧ SObj (wa.alloc (.cells #[.int .u8 na, .int .u8 120, .int .u8 121, .int .u8 nb] 26)) wa.heap.size 26 [.int .u8 na, .int .u8 120, .int .u8 121, .int .u8 nb] ∧ na ≤ 255 ∧ nb ≤ 255) := Lib.hid ⟨(H7.out.ch hca hoa).nop (Only.alloc _ _ _), obj_new wa 26 [.int .u8 na, .int .u8 120, .int .u8 121, .int .u8 nb], hna, hnb⟩
            clear hna hnb hca hoa
            go_upto_region 14 with fail
            obtain ⟨nx, hnx⟩ : ∃ x, x = wa.heap.size := ⟨_, rfl⟩
            rw [← hnx] at HB2 ⊢
            clear hnx
            generalize World.alloc _ _ = wc at HB2 ⊢
            have HDW : Hid (IntKind.i64.wrap (((d' + 1 : Nat) : Int) - 1) = (d' : Int) ∧ IntKind.i64.wrap ((d' : Int) + 1 - 1) = (d' : Int) ∧ IntKind.i64.wrap (d' : Int) = (d' : Int)) := Lib.hid ⟨by rw [IntWalk.i64_in _ (by omega)]; omega, by rw [IntWalk.i64_in _ (by omega)]; omega, IntWalk.i64_in _ (by omega)⟩
            have HIH : Hid (Calls Tryd.prog 17 #[.pointer (some ⟨gw, 0, none⟩), .int .i64 d', .bool false] wc.drew (FP c.gc c.ba c.bn c.bc c.f (4 * qD d') wc.drew)) := Lib.hid (by rw [HGW.out]; exact chunksF_all c.gw c.gc c.ba c.bn c.bc c.f d' (by omega) wc.drew sv6 xa4 (xn + 1) xc4 kv6 (HB2.out.1.wk.wq.none (Only.drewN _ wc 1)))
            have HM4 : Hid (4 * qD d' ≤ 400000 ∧ 12 + 4 * qD d' = q) := Lib.hid (by have h1 := HQ.out.1; have h2 : qD (d' + 1) = 12 + 4 * qD d' := rfl; omega)
            go_region_held3 (fun w' => True) (first | trivial)
              (first
                | (go_at_call 17; (first | rw [HDW.out.2.2] | rw [HDW.out.1] | rw [HDW.out.2.1] | skip); (with_reducible refine HIH.out.mono ?_); rintro _ w8 ⟨v5, t5, rfl, ho5, hn5, ht5, hc5, hb5⟩; obtain ⟨l5, hl5⟩ : ∃ x, x = t5.bytes := ⟨_, rfl⟩; rw [← hl5] at ho5 hn5; have H8 := Lib.hid (in5_mk HB2.out.1 HB2.out.2.1 ho5 hn5 ht5 hc5 hb5 hl5 HM4.out.1); clear hl5 ho5 hn5 ht5 hc5 hb5)
                | (refine step_append_kind rfl (.tmp 68) (.tmp 73) rfl nx rfl [(na : Int), 120, 121, (nb : Int)] rfl (name_cells H8.out.2.1) H8.out.2.1.ty _ v5 l5 l5.length rfl H8.out.2.2.2.2.2.2.2 rfl H8.out.2.2.2.1 H8.out.2.2.2.2.1 ?_; intro p6 cc6 w9 hc6 ho6 hty6; have H9 := Lib.hid (And.intro (H8.out.1.nop ho6) (And.intro hc6 hty6)); clear hc6 ho6 hty6))
            obtain ⟨bn2, hbn2⟩ : ∃ x, x = l5.length := ⟨_, rfl⟩
            have hb400 : bn2 ≤ 400000 := by rw [hbn2]; exact H8.out.2.2.2.2.2.2.1
            rw [← hbn2]
            have HBN2 := Lib.hid hbn2
            clear hbn2
            obtain ⟨gl, gcap, hgv, hcl, hfl, hwkl, hol⟩ := H9.out.1.wk.setLen xn ⟨listId, 0, [], 2⟩ (by rw [HXN.out]; simp) (4 + bn2)
            injection hgv with hgv1 hgv2 hgv3
            subst hgv1
            clear hgv2 hgv3
            have q2 : w9.cell? ⟨gw, 2, none⟩ = some (.slice (some ⟨gl, 0, none⟩) (xn + 1) xc4) := by rw [HGW.out]; exact H9.out.1.wk.wq.1.cell 2 rfl
            have H10 : Hid (∃ wX, wX = w9.setCell ⟨gl, xn * 7 + 4, none⟩ (.int .i64 ((4 + bn2 : Nat) : Int)) ∧ IN c w B ds (.slice sa ln sc) ln l wX sv6 (.slice (some ⟨gl, 0, none⟩) (xn + 1) xc4) kv6 (ps1 ++ [(0, 0)]) (cks1 ++ [⟨listId, 4 + bn2, [], 2⟩]) (ks1 ++ [0]) (dn ++ [.slice none 0 0]) ∧ Src wX (some p6) cc6 ([(na : Int), 120, 121, (nb : Int)] ++ l5)) := Lib.hid (by
              have e : (cks1 ++ [(⟨listId, 0, [], 2⟩ : Ck)]).set xn ⟨listId, 4 + bn2, [], 2⟩ = cks1 ++ [⟨listId, 4 + bn2, [], 2⟩] := by rw [HXN.out]; exact set_mid cks1 _ _ []
              have hwkl : WK c (w9.setCell ⟨gl, xn * 7 + 4, none⟩ (.int .i64 ((4 + bn2 : Nat) : Int))) sv6 (.slice (some ⟨gl, 0, none⟩) (xn + 1) xc4) kv6 (ps1 ++ [(0, 0)]) ((cks1 ++ [(⟨listId, 0, [], 2⟩ : Ck)]).set xn ⟨listId, 4 + bn2, [], 2⟩) (ks1 ++ [0]) (ds ++ (dn ++ [.slice none 0 0])) := hwkl
              rw [e] at hwkl
              refine ⟨_, rfl, H9.out.1.go hwkl hol H9.out.1.nw H9.out.1.ap, ?_⟩
              refine .inr ⟨p6, rfl, fun j u hu => ?_⟩
              have h1 := H9.out.2.1 j u hu
              have hcT : OfTy w9 43 gl := (ownsRow_ty H9.out.1.wk.wa rfl).1
              have hb : (p6.add j).block = p6.block := by unfold Addr.add; split <;> rfl
              rw [World.cell?_setCell_far _ _ _ _ (fun e => by
                have e : gl = (p6.add j).block := e
                rw [hb] at e
                rw [e] at hcT
                rcases H9.out.2.2 with h2 | h2
                · exact absurd (hcT.inj h2) (by decide)
                · exact absurd (hcT.inj h2) (by decide))]
              exact h1)
            clear hwkl hol
            have e4 : (4 : Int) + (bn2 : Int) = ((4 + bn2 : Nat) : Int) := by omega
            have HE4 := Lib.hid e4
            clear e4
            go_upto_region 17 with fail
            rw [HE4.out]
            obtain ⟨wX, hwX, H10⟩ := H10.out
            rw [← hwX]
            have H10 := Lib.hid H10
            clear hwX q2 hcl hfl
            have HCK := chunk_any 76 73 83 84 (some p6) cc6 ([(na : Int), 120, 121, (nb : Int)] ++ l5) wX H10.out.2 (by rw [List.length_append, ← HBN2.out]; simp; omega)
            rw [show ([(na : Int), 120, 121, (nb : Int)] ++ l5).length = 4 + bn2 by rw [List.length_append, HBN2.out]; rfl] at HCK
            have HCK := Lib.hid HCK
            go_wp2_with fail
            refine HCK.out.mono ?_
            rintro _ wd ⟨cv, rfl, hco, hcb⟩
            obtain ⟨ckl, hckl⟩ : ∃ x, x = chunkB listId ([(na : Int), 120, 121, (nb : Int)] ++ l5) := ⟨_, rfl⟩
            have hckn : ckl.length ≤ 500000 ∧ 0 < ckl.length := by
              rw [hckl]
              have h1 := len_list na nb l5 bn2 HBN2.out hb400
              omega
            have hco : wd.ownsRow wX.heap.size 5 1 cv (chunkB listId ([(na : Int), 120, 121, (nb : Int)] ++ l5)).length (u8s (chunkB listId ([(na : Int), 120, 121, (nb : Int)] ++ l5))) := hco
            rw [← hckl] at hco
            obtain ⟨cg, cc, ccur, hcv, _⟩ := own_block hco hckn.2
            subst hcv
            have HD := Lib.hid (And.intro (H10.out.1.nop (Only.of_below hcb)) (And.intro (World.ownsRow.cells hco (g := cg) rfl) hckl))
            have HCG : Hid (OfTy wd 5 cg) := Lib.hid (ownsRow_ty hco rfl).1
            have HCB := Lib.hid (Only.of_below (S := fun _ => False) hcb)
            clear hco hcb hckl
            obtain ⟨cn, hcn⟩ : ∃ x, x = ckl.length := ⟨_, rfl⟩
            rw [← hcn] at hckn ⊢
            have HNUM : Hid ((u8s ckl).length = cn * 1 ∧ ln + cn ≤ maxLen ∧ (ln + cn) * 1 ≤ 140737488355328 ∧ 0 < cn ∧ B ≤ wd.heap.size) := Lib.hid ⟨by rw [u8s_length, hcn, Nat.mul_one], by unfold maxLen; omega, by omega, hckn.2, by have h1 := HD.out.1.on.size; have h2 := HD.out.1.bs; omega⟩
            have HCN := Lib.hid hcn
            clear hcn
            obtain ⟨hi, hz0, hz1, hz2⟩ := HI.out
            go_wp2_with (at_builtin; refine wpList_append_lies _ rfl _ _ 22 rfl B 5 i0 (.int .u8 0) 1 1 Tryd.underlying22 hi hz0 hz1 hz2 rfl (by decide) _ _ _ rfl HD.out.1.row ⟨cg, 0, none⟩ cn cc (u8s ckl) rfl HNUM.out.1 HD.out.2.1 (u8s_one _) HNUM.out.2.2.2.1 HNUM.out.2.1 HNUM.out.2.2.1 HNUM.out.2.2.2.2 _ rfl ?_; intro ge capE we hown hgr hat _; have HE := Lib.hid (HD.out.1.out (l2 := l ++ ckl) (u8s_app_own hown) hgr hat); have HGR := Lib.hid (And.intro hgr hat); clear hown hgr hat)
            go_wp2_with fail
            go_roundg (gk - 1)
            case measure => have := HG.out; omega
            case rel =>
              have hlf := tok_list [(na : Int), 120, 121, (nb : Int)] false t5 (4 * qD d') rfl (u8_name HB2.out.2.2.1 HB2.out.2.2.2) H8.out.2.2.2.2.2.1 (by have := HM4.out.1; omega)
              have hby : (Tr.list [(na : Int), 120, 121, (nb : Int)] false t5 .nil).bytes = ckl := by rw [hlf.2, ← H8.out.2.2.1, HD.out.2.2]
              have hw : (Tr.list [(na : Int), 120, 121, (nb : Int)] false t5 .nil).want = [⟨listId, 4 + bn2, [], 2⟩] := by
                show [(⟨listId, ([(na : Int), 120, 121, (nb : Int)] ++ t5.bytes).length, [], 2⟩ : Ck)] = _
                rw [← H8.out.2.2.1, List.length_append, ← HBN2.out]; rfl
              have hz := HFIN.out we _ _ _ _ (.list [(na : Int), 120, 121, (nb : Int)] false t5 .nil) _ (l ++ ckl) (ln + cn) (by rw [← HM4.out.2]; exact hlf.1) (by rw [hby]; intro h0; have := HNUM.out.2.2.2.1; rw [HCN.out, h0] at this; exact absurd this (by decide)) (by rw [hby]) (by rw [hby, ← HCN.out]) (by rw [hw]; exact HE.out)
              exact ⟨i - 1, _, by go_num, by omega, by have := HG.out; omega, hz⟩
          · have H7 := Lib.hid (H6.out.ch hc7 ho7)
            clear hc7 ho7 q6
            have HSTa : Hid (Calls Tryd.prog 18 #[.pointer (some ⟨gw, 0, none⟩), .int .i64 2, .int .i64 0, .int .i64 0] w7 fun e w' => e = .returned (.tuple #[]) ∧ ∃ sv' kv', WK c w' sv' (.slice xa4 (xn + 1) xc4) kv' ((ps1 ++ [(0, 0)]) ++ [(2, 0)]) (cks1 ++ [⟨listId, 0, [], 2⟩]) ((ks1 ++ [0]) ++ [0]) (ds ++ (dn ++ [.slice none 0 0])) ∧ Only (WS c w7) w7 w') := Lib.hid (by rw [HGW.out]; exact wkStep H7.out.wk 2 0 0 0 rfl (by rw [List.length_append]; have := HBN.out.1; simp; omega) (by rw [List.length_append]; have := HBN.out.2.2; simp; omega))
            go_wp2_with fail
            refine HSTa.out.mono ?_
            rintro _ w7a ⟨rfl, svsa, kvsa, hka, hoa⟩
            have H7a := Lib.hid (H7.out.step hka hoa)
            clear hka hoa
            have HNM : Hid (Calls Tryd.prog 27 #[.pointer (some ⟨gw, 0, none⟩)] w7a fun e w' => ∃ a b : Nat, e = .returned (.agg #[.int .u8 a, .int .u8 120, .int .u8 121, .int .u8 b]) ∧ a ≤ 255 ∧ b ≤ 255 ∧ CH w' c.gc c.ba c.bn c.bc c.f ∧ Only (fun k => k = c.gc) w7a w') := Lib.hid (by rw [HGW.out]; exact wkName_any c.gw c.gc c.ba c.bn c.bc c.f w7a _ _ _ H7a.out.wk.wq.1 H7a.out.wk.wq.2)
            go_wp2_with fail
            refine HNM.out.mono ?_
            rintro _ wa ⟨na, nb, rfl, hna, hnb, hca, hoa⟩
            have HB2 : Hid (IN c w B ds (.slice sa ln sc) ln l (wa.alloc (.cells #[.int .u8 na, .int .u8 120, .int .u8 121, .int .u8 nb] 26)) svsa (.slice xa4 (xn + 1) xc4) kvsa ((ps1 ++ [(0, 0)]) ++ [(2, 0)]) (cks1 ++ [⟨listId, 0, [], 2⟩]) ((ks1 ++ [0]) ++ [0]) (dn ++ [.slice none 0 0]) ∧ SObj (wa.alloc (.cells #[.int .u8 na, .int .u8 120, .int .u8 121, .int .u8 nb] 26)) wa.heap.size 26 [.int .u8 na, .int .u8 120, .int .u8 121, .int .u8 nb] ∧ na ≤ 255 ∧ nb ≤ 255) := Lib.hid ⟨(H7a.out.ch hca hoa).nop (Only.alloc _ _ _), obj_new wa 26 [.int .u8 na, .int .u8 120, .int .u8 121, .int .u8 nb], hna, hnb⟩
            clear hna hnb hca hoa
            go_upto_region 14 with fail
            obtain ⟨nx, hnx⟩ : ∃ x, x = wa.heap.size := ⟨_, rfl⟩
            rw [← hnx] at HB2 ⊢
            clear hnx
            generalize World.alloc _ _ = wc at HB2 ⊢
            have HDW : Hid (IntKind.i64.wrap (((d' + 1 : Nat) : Int) - 1) = (d' : Int) ∧ IntKind.i64.wrap ((d' : Int) + 1 - 1) = (d' : Int) ∧ IntKind.i64.wrap (d' : Int) = (d' : Int)) := Lib.hid ⟨by rw [IntWalk.i64_in _ (by omega)]; omega, by rw [IntWalk.i64_in _ (by omega)]; omega, IntWalk.i64_in _ (by omega)⟩
            have HM4 : Hid (4 * qD d' ≤ 400000 ∧ 12 + 4 * qD d' = q) := Lib.hid (by have h1 := HQ.out.1; have h2 : qD (d' + 1) = 12 + 4 * qD d' := rfl; omega)
            have HIH : Hid (Calls Tryd.prog 17 #[.pointer (some ⟨gw, 0, none⟩), .int .i64 d', .bool true] wc.drew (TP c (4 * qD d') wc.drew ((ps1 ++ [(0, 0)]) ++ [(2, 0)]) (cks1 ++ [⟨listId, 0, [], 2⟩]) ((ks1 ++ [0]) ++ [0]) (ds ++ (dn ++ [.slice none 0 0])))) := Lib.hid (by
              rw [HGW.out]
              refine HQ.out.2.2 d' wc.drew _ _ _ _ _ _ _ rfl (HB2.out.1.wk.nop (Only.drewN _ wc 1)) ?_ ?_ ?_
              · have := HBN.out.1; have := HM4.out.2; simp only [List.length_append, List.length_cons, List.length_nil] at *; omega
              · have := HBN.out.2.1; have := HM4.out.2; simp only [List.length_append, List.length_cons, List.length_nil] at *; omega
              · have := HBN.out.2.2; have := HM4.out.2; simp only [List.length_append, List.length_cons, List.length_nil] at *; omega)
            go_region_held3 (fun w' => True) (first | trivial)
              (first
                | (go_at_call 17; (first | rw [HDW.out.2.2] | rw [HDW.out.1] | rw [HDW.out.2.1] | skip); (with_reducible refine HIH.out.mono ?_); rintro _ w8 ⟨v5, t5, sv8, wv8, kv8, dn8, rfl, ho5, hn5, ht5, hk5, hw5, hb5⟩; obtain ⟨l5, hl5⟩ : ∃ x, x = t5.bytes := ⟨_, rfl⟩; rw [← hl5] at ho5 hn5; have H8 := Lib.hid (in6_mk HB2.out.1 HB2.out.2.1 ho5 hn5 ht5 hk5 hw5 hb5 hl5 HM4.out.1); clear hl5 ho5 hn5 ht5 hk5 hw5 hb5)
                | (refine step_append_kind rfl (.tmp 68) (.tmp 73) rfl nx rfl [(na : Int), 120, 121, (nb : Int)] rfl (name_cells H8.out.2.1) H8.out.2.1.ty _ v5 l5 l5.length rfl H8.out.2.2.2.2.2.2.2 rfl H8.out.2.2.2.1 H8.out.2.2.2.2.1 ?_; intro p6 cc6 w9 hc6 ho6 hty6; have H9 := Lib.hid (And.intro (H8.out.1.nop ho6) (And.intro hc6 hty6)); clear hc6 ho6 hty6))
            obtain ⟨bn2, hbn2⟩ : ∃ x, x = l5.length := ⟨_, rfl⟩
            have hb400 : bn2 ≤ 400000 := by rw [hbn2]; exact H8.out.2.2.2.2.2.2.1
            rw [← hbn2]
            have HBN2 := Lib.hid hbn2
            clear hbn2
            obtain ⟨gl, gcap, hgv, hcl, hfl, hwkl, hol⟩ := H9.out.1.wk.setLen xn ⟨listId, 0, [], 2⟩ (by rw [HXN.out, List.append_assoc, List.getElem?_append_right (Nat.le_refl _), Nat.sub_self]; rfl) (4 + bn2)
            obtain ⟨xm, hxm⟩ : ∃ x, x = ((cks1 ++ [(⟨listId, 0, [], 2⟩ : Ck)]) ++ t5.want).length := ⟨_, rfl⟩
            rw [← hxm] at hgv
            have hxm2 : xn < xm ∧ xm ≤ 6000000 := by
              have h1 := HXN.out
              have h2 := HBN.out.2.1
              have h3 := H8.out.2.2.2.2.2.1.wa
              have h4 := H8.out.2.2.2.2.2.1.le
              have h5 := HM4.out.1
              rw [hxm]
              simp only [List.length_append, List.length_cons, List.length_nil]
              omega
            have HXM := Lib.hid hxm
            clear hxm
            subst hgv
            have q2 : w9.cell? ⟨gw, 2, none⟩ = some (.slice (some ⟨gl, 0, none⟩) xm gcap) := by rw [HGW.out]; exact H9.out.1.wk.wq.1.cell 2 rfl
            have H10 : Hid (∃ wX, wX = w9.setCell ⟨gl, xn * 7 + 4, none⟩ (.int .i64 ((4 + bn2 : Nat) : Int)) ∧ IN c w B ds (.slice sa ln sc) ln l wX sv8 (.slice (some ⟨gl, 0, none⟩) xm gcap) kv8 (((ps1 ++ [(0, 0)]) ++ [(2, 0)]) ++ t5.steps) ((cks1 ++ [⟨listId, 4 + bn2, [], 2⟩]) ++ t5.want) (((ks1 ++ [0]) ++ [0]) ++ t5.kinds) ((dn ++ [.slice none 0 0]) ++ dn8) ∧ (∀ j u, (u8s ([(na : Int), 120, 121, (nb : Int)] ++ l5))[j]? = some u → wX.cell? (p6.add j) = some u) ∧ (OfTy wX 26 p6.block ∨ OfTy wX 5 p6.block)) := Lib.hid (by
              have e : ((cks1 ++ [(⟨listId, 0, [], 2⟩ : Ck)]) ++ t5.want).set xn ⟨listId, 4 + bn2, [], 2⟩ = (cks1 ++ [⟨listId, 4 + bn2, [], 2⟩]) ++ t5.want := by
                rw [HXN.out, List.append_assoc, List.append_assoc]; exact set_mid cks1 _ _ t5.want
              have hwkl : WK c (w9.setCell ⟨gl, xn * 7 + 4, none⟩ (.int .i64 ((4 + bn2 : Nat) : Int))) sv8 (.slice (some ⟨gl, 0, none⟩) xm gcap) kv8 (((ps1 ++ [(0, 0)]) ++ [(2, 0)]) ++ t5.steps) (((cks1 ++ [(⟨listId, 0, [], 2⟩ : Ck)]) ++ t5.want).set xn ⟨listId, 4 + bn2, [], 2⟩) (((ks1 ++ [0]) ++ [0]) ++ t5.kinds) (ds ++ ((dn ++ [.slice none 0 0]) ++ dn8)) := hwkl
              rw [e] at hwkl
              have hcT : OfTy w9 43 gl := (ownsRow_ty H9.out.1.wk.wa rfl).1
              have hne : p6.block ≠ gl := fun e => by
                rw [← e] at hcT
                rcases H9.out.2.2 with h2 | h2
                · exact absurd (hcT.inj h2) (by decide)
                · exact absurd (hcT.inj h2) (by decide)
              have hb : ∀ j, (p6.add j).block = p6.block := fun j => by unfold Addr.add; split <;> rfl
              have hO : Only (fun j => j = gl) w9 (w9.setCell ⟨gl, xn * 7 + 4, none⟩ (.int .i64 ((4 + bn2 : Nat) : Int))) := Only.setCell w9 _ _ rfl
              refine ⟨_, rfl, H9.out.1.go hwkl hol H9.out.1.nw H9.out.1.ap, fun j u hu => ?_, ?_⟩
              · have h1 := H9.out.2.1 j u hu
                rw [World.cell?_setCell_far _ _ _ _ (fun e => by have e : gl = (p6.add j).block := e; rw [hb] at e; exact hne e.symm)]
                exact h1
              · rcases H9.out.2.2 with h2 | h2
                · exact .inl (ty_only h2 hO hne)
                · exact .inr (ty_only h2 hO hne))
            clear hwkl hol
            have e4 : (4 : Int) + (bn2 : Int) = ((4 + bn2 : Nat) : Int) := by omega
            have HE4 := Lib.hid e4
            clear e4
            go_upto_region 17 with fail
            rw [HE4.out]
            obtain ⟨wX, hwX, H10⟩ := H10.out
            rw [← hwX]
            have H10 := Lib.hid H10
            clear hwX q2 hcl hfl
            have HBB : Hid ((((ps1 ++ [(0, 0)]) ++ [(2, 0)]) ++ t5.steps).length + 2 ≤ 6000000 ∧ (((ks1 ++ [0]) ++ [0]) ++ t5.kinds).length + 2 ≤ 6000000) := Lib.hid (by
              have h1 := HBN.out
              have h3 := H8.out.2.2.2.2.2.1.st
              have h4 := H8.out.2.2.2.2.2.1.le
              have h5 := HM4.out.1
              have h6 := t5.kinds_length
              simp only [List.length_append, List.length_cons, List.length_nil]
              omega)
            have HSTb : Hid (Calls Tryd.prog 18 #[.pointer (some ⟨gw, 0, none⟩), .int .i64 0, .int .i64 0, .int .i64 1] wX fun e w' => e = .returned (.tuple #[]) ∧ ∃ sv' kv', WK c w' sv' (.slice (some ⟨gl, 0, none⟩) xm gcap) kv' ((((ps1 ++ [(0, 0)]) ++ [(2, 0)]) ++ t5.steps) ++ [(0, 0)]) ((cks1 ++ [⟨listId, 4 + bn2, [], 2⟩]) ++ t5.want) ((((ks1 ++ [0]) ++ [0]) ++ t5.kinds) ++ [1]) (ds ++ ((dn ++ [.slice none 0 0]) ++ dn8)) ∧ Only (WS c wX) wX w') := Lib.hid (by rw [HGW.out]; exact wkStep H10.out.1.wk 0 0 1 1 rfl (by have := HBB.out.1; omega) (by have := HBB.out.2; omega))
            go_wp2_with fail
            refine HSTb.out.mono ?_
            rintro _ wY ⟨rfl, svsb, kvsb, hkb, hob⟩
            have hoc1 := Lib.hid hob
            have HY := Lib.hid (H10.out.1.step hkb hob)
            clear hkb hob
            have HSTc : Hid (Calls Tryd.prog 18 #[.pointer (some ⟨gw, 0, none⟩), .int .i64 3, .int .i64 0, .int .i64 0] wY fun e w' => e = .returned (.tuple #[]) ∧ ∃ sv' kv', WK c w' sv' (.slice (some ⟨gl, 0, none⟩) xm gcap) kv' (((((ps1 ++ [(0, 0)]) ++ [(2, 0)]) ++ t5.steps) ++ [(0, 0)]) ++ [(3, 0)]) ((cks1 ++ [⟨listId, 4 + bn2, [], 2⟩]) ++ t5.want) (((((ks1 ++ [0]) ++ [0]) ++ t5.kinds) ++ [1]) ++ [0]) (ds ++ ((dn ++ [.slice none 0 0]) ++ dn8)) ∧ Only (WS c wY) wY w') := Lib.hid (by rw [HGW.out]; exact wkStep HY.out.wk 3 0 0 0 rfl (by rw [List.length_append]; have := HBB.out.1; simp only [List.length_cons, List.length_nil]; omega) (by rw [List.length_append]; have := HBB.out.2; simp only [List.length_cons, List.length_nil]; omega))
            go_wp2_with fail
            refine HSTc.out.mono ?_
            rintro _ wZ ⟨rfl, svsc, kvsc, hkc, hoc⟩
            have hoc2 := Lib.hid hoc
            have HZ := Lib.hid (HY.out.step hkc hoc)
            clear hkc hoc
            have hcZ : ∀ j u, (u8s ([(na : Int), 120, 121, (nb : Int)] ++ l5))[j]? = some u → wZ.cell? (p6.add j) = some u := by
              have n1 := ws_not H10.out.1.wk H10.out.2.2
              have c1 := cells_on H10.out.2.1 hoc1.out n1
              have t1 : OfTy wY 26 p6.block ∨ OfTy wY 5 p6.block := by
                rcases H10.out.2.2 with h2 | h2
                · exact .inl (ty_only h2 hoc1.out n1)
                · exact .inr (ty_only h2 hoc1.out n1)
              exact cells_on c1 hoc2.out (ws_not HY.out.wk t1)
            have HCK := chunk_any 76 73 83 84 (some p6) cc6 ([(na : Int), 120, 121, (nb : Int)] ++ l5) wZ (src_mk p6 cc6 hcZ) (by rw [List.length_append, ← HBN2.out]; simp; omega)
            rw [show ([(na : Int), 120, 121, (nb : Int)] ++ l5).length = 4 + bn2 by rw [List.length_append, HBN2.out]; rfl] at HCK
            have HCK := Lib.hid HCK
            clear hcZ
            go_wp2_with fail
            refine HCK.out.mono ?_
            rintro _ wd ⟨cv, rfl, hco, hcb⟩
            obtain ⟨ckl, hckl⟩ : ∃ x, x = chunkB listId ([(na : Int), 120, 121, (nb : Int)] ++ l5) := ⟨_, rfl⟩
            have hckn : ckl.length ≤ 500000 ∧ 0 < ckl.length := by
              rw [hckl]
              have h1 := len_list na nb l5 bn2 HBN2.out hb400
              omega
            have hco : wd.ownsRow wZ.heap.size 5 1 cv (chunkB listId ([(na : Int), 120, 121, (nb : Int)] ++ l5)).length (u8s (chunkB listId ([(na : Int), 120, 121, (nb : Int)] ++ l5))) := hco
            rw [← hckl] at hco
            obtain ⟨cg, cc, ccur, hcv, _⟩ := own_block hco hckn.2
            subst hcv
            have HD := Lib.hid (And.intro (HZ.out.nop (Only.of_below hcb)) (And.intro (World.ownsRow.cells hco (g := cg) rfl) hckl))
            have HCG : Hid (OfTy wd 5 cg) := Lib.hid (ownsRow_ty hco rfl).1
            have HCB := Lib.hid (Only.of_below (S := fun _ => False) hcb)
            clear hco hcb hckl
            obtain ⟨cn, hcn⟩ : ∃ x, x = ckl.length := ⟨_, rfl⟩
            rw [← hcn] at hckn ⊢
            have HNUM : Hid ((u8s ckl).length = cn * 1 ∧ ln + cn ≤ maxLen ∧ (ln + cn) * 1 ≤ 140737488355328 ∧ 0 < cn ∧ B ≤ wd.heap.size) := Lib.hid ⟨by rw [u8s_length, hcn, Nat.mul_one], by unfold maxLen; omega, by omega, hckn.2, by have h1 := HD.out.1.on.size; have h2 := HD.out.1.bs; omega⟩
            have HCN := Lib.hid hcn
            clear hcn
            obtain ⟨hi, hz0, hz1, hz2⟩ := HI.out
            go_wp2_with (at_builtin; refine wpList_append_lies _ rfl _ _ 22 rfl B 5 i0 (.int .u8 0) 1 1 Tryd.underlying22 hi hz0 hz1 hz2 rfl (by decide) _ _ _ rfl HD.out.1.row ⟨cg, 0, none⟩ cn cc (u8s ckl) rfl HNUM.out.1 HD.out.2.1 (u8s_one _) HNUM.out.2.2.2.1 HNUM.out.2.1 HNUM.out.2.2.1 HNUM.out.2.2.2.2 _ rfl ?_; intro ge capE we hown hgr hat _; have HE := Lib.hid (HD.out.1.out (l2 := l ++ ckl) (u8s_app_own hown) hgr hat); have HGR := Lib.hid (And.intro hgr hat); clear hown hgr hat)
            go_wp2_with fail
            go_roundg (gk - 1)
            case measure => have := HG.out; omega
            case rel =>
              have hlf := tok_list [(na : Int), 120, 121, (nb : Int)] true t5 (4 * qD d') rfl (u8_name HB2.out.2.2.1 HB2.out.2.2.2) H8.out.2.2.2.2.2.1 (by have := HM4.out.1; omega)
              have hby : (Tr.list [(na : Int), 120, 121, (nb : Int)] true t5 .nil).bytes = ckl := by rw [hlf.2, ← H8.out.2.2.1, HD.out.2.2]
              have hw : (Tr.list [(na : Int), 120, 121, (nb : Int)] true t5 .nil).want = ⟨listId, 4 + bn2, [], 2⟩ :: t5.want := by
                show (⟨listId, ([(na : Int), 120, 121, (nb : Int)] ++ t5.bytes).length, [], 2⟩ : Ck) :: (t5.want) ++ [] = _
                rw [← H8.out.2.2.1, List.length_append, ← HBN2.out, List.append_nil]; rfl
              have hst : (Tr.list [(na : Int), 120, 121, (nb : Int)] true t5 .nil).steps = (0, 0) :: (2, 0) :: (t5.steps ++ [(0, 0), (3, 0)]) := List.append_nil _
              have hkd : (Tr.list [(na : Int), 120, 121, (nb : Int)] true t5 .nil).kinds = 0 :: 0 :: (t5.kinds ++ [1, 0]) := List.append_nil _
              have hin := HE.out
              have e1 : (((((ps1 ++ [(0, 0)]) ++ [(2, 0)]) ++ t5.steps) ++ [(0, 0)]) ++ [(3, 0)] : List (Int × Int)) = ps1 ++ ((0, 0) :: (2, 0) :: (t5.steps ++ [(0, 0), (3, 0)])) := by simp
              have e2 : ((cks1 ++ [(⟨listId, 4 + bn2, [], 2⟩ : Ck)]) ++ t5.want) = cks1 ++ (⟨listId, 4 + bn2, [], 2⟩ :: t5.want) := by simp
              have e3 : (((((ks1 ++ [0]) ++ [0]) ++ t5.kinds) ++ [1]) ++ [0] : List Nat) = ks1 ++ (0 :: 0 :: (t5.kinds ++ [1, 0])) := by simp
              rw [e1, e2, e3] at hin
              have hz := HFIN.out we _ _ _ _ (.list [(na : Int), 120, 121, (nb : Int)] true t5 .nil) _ (l ++ ckl) (ln + cn) (by rw [← HM4.out.2]; exact hlf.1) (by rw [hby]; intro h0; have := HNUM.out.2.2.2.1; rw [HCN.out, h0] at this; exact absurd this (by decide)) (by rw [hby]) (by rw [hby, ← HCN.out]) (by rw [hw, hst, hkd]; exact hin)
              exact ⟨i - 1, _, by go_num, by omega, by have := HG.out; omega, hz⟩
        · have H3 := Lib.hid (HR.out.ch hc3 ho3)
          clear hc3 ho3 q0
          have HNM : Hid (Calls Tryd.prog 27 #[.pointer (some ⟨gw, 0, none⟩)] w3 fun e w' => ∃ a b : Nat, e = .returned (.agg #[.int .u8 a, .int .u8 120, .int .u8 121, .int .u8 b]) ∧ a ≤ 255 ∧ b ≤ 255 ∧ CH w' c.gc c.ba c.bn c.bc c.f ∧ Only (fun k => k = c.gc) w3 w') := Lib.hid (by rw [HGW.out]; exact wkName_any c.gw c.gc c.ba c.bn c.bc c.f w3 _ _ _ H3.out.wk.wq.1 H3.out.wk.wq.2)
          go_wp2_with fail
          refine HNM.out.mono ?_
          rintro _ wa ⟨na, nb, rfl, hna, hnb, hca, hoa⟩
          have HA := Lib.hid (And.intro (H3.out.ch hca hoa) (And.intro hna hnb))
          clear hca hoa hna hnb
          have HBY : Hid (Calls Tryd.prog 28 #[.pointer (some ⟨gw, 0, none⟩)] wa fun e w' => ∃ (v : Value) (l : List Int), e = .returned v ∧ w'.ownsRow wa.heap.size 5 1 v l.length (u8s l) ∧ l.length ≤ 11 ∧ (∀ x ∈ l, 0 ≤ x ∧ x ≤ 255) ∧ CH w' c.gc c.ba c.bn c.bc c.f ∧ Only (fun k => k = c.gc) wa w') := Lib.hid (by rw [HGW.out]; exact wkBytes_any c.gw c.gc c.ba c.bn c.bc c.f wa _ _ _ HA.out.1.wk.wq.1 HA.out.1.wk.wq.2)
          go_wp2_with fail
          refine HBY.out.mono ?_
          rintro _ wb ⟨bv, bl, rfl, hbo, hb11, hbu, hcb, hob⟩
          obtain ⟨bba, bbc, hbv, hbx⟩ := bytes_box (AGO := (.cells #[.int .u8 na, .int .u8 120, .int .u8 121, .int .u8 nb] 26)) hbo
          subst hbv
          have HB2 : Hid (IN c w B ds (.slice sa ln sc) ln l (wb.alloc (.cells #[.int .u8 na, .int .u8 120, .int .u8 121, .int .u8 nb] 26)) sv1 (.slice xa xn xc) kv1 ps1 cks1 ks1 dn ∧ SObj (wb.alloc (.cells #[.int .u8 na, .int .u8 120, .int .u8 121, .int .u8 nb] 26)) wb.heap.size 26 [.int .u8 na, .int .u8 120, .int .u8 121, .int .u8 nb] ∧ BX wa.heap.size (wb.alloc (.cells #[.int .u8 na, .int .u8 120, .int .u8 121, .int .u8 nb] 26)) bba bbc bl ∧ bl.length ≤ 11 ∧ U8 bl) := Lib.hid ⟨(HA.out.1.ch hcb hob).nop (Only.alloc _ _ _), obj_new wb 26 [.int .u8 na, .int .u8 120, .int .u8 121, .int .u8 nb], hbx, hb11, hbu⟩
          clear hbo hb11 hbu hcb hob hbx
          go_upto_region 22 with fail
          obtain ⟨nx, hnx⟩ : ∃ x, x = wb.heap.size := ⟨_, rfl⟩
          rw [← hnx] at HB2 ⊢
          clear hnx
          generalize World.alloc _ _ = wc at HB2 ⊢
          obtain ⟨bn2, hbn2⟩ : ∃ x, x = bl.length := ⟨_, rfl⟩
          have hb11 : bn2 ≤ 11 := by rw [hbn2]; exact HB2.out.2.2.2.1
          have HCK := chunk_any na 120 121 nb bba bbc bl wc HB2.out.2.2.1.src (by omega)
          rw [← hbn2] at HCK ⊢
          have HCK := Lib.hid HCK
          have HBN2 := Lib.hid hbn2
          clear hbn2
          have n0 := HB2.out.2.1.cell 0 rfl
          have n1 := HB2.out.2.1.cell 1 rfl
          have n2 := HB2.out.2.1.cell 2 rfl
          have n3 := HB2.out.2.1.cell 3 rfl
          go_wp2_with fail
          refine HCK.out.mono ?_
          rintro _ wd ⟨cv, rfl, hco, hcb⟩
          obtain ⟨ckl, hckl⟩ : ∃ x, x = chunkB [(na : Int), 120, 121, (nb : Int)] bl := ⟨_, rfl⟩
          have hckn : ckl.length ≤ 30 ∧ 0 < ckl.length := by
            rw [hckl]
            have h1 := len_leaf na nb bl bn2 HBN2.out hb11
            omega
          have hco : wd.ownsRow wc.heap.size 5 1 cv (chunkB [(na : Int), 120, 121, (nb : Int)] bl).length (u8s (chunkB [(na : Int), 120, 121, (nb : Int)] bl)) := hco
          rw [← hckl] at hco
          obtain ⟨cg, cc, ccur, hcv, _⟩ := own_block hco hckn.2
          subst hcv
          have HD := Lib.hid (And.intro (HB2.out.1.nop (Only.of_below hcb)) (And.intro (World.ownsRow.cells hco (g := cg) rfl) hckl))
          have HCG : Hid (OfTy wd 5 cg) := Lib.hid (ownsRow_ty hco rfl).1
          have HCB := Lib.hid (Only.of_below (S := fun _ => False) hcb)
          clear hco hcb hckl
          obtain ⟨cn, hcn⟩ : ∃ x, x = ckl.length := ⟨_, rfl⟩
          rw [← hcn] at hckn ⊢
          have HNUM : Hid ((u8s ckl).length = cn * 1 ∧ ln + cn ≤ maxLen ∧ (ln + cn) * 1 ≤ 140737488355328 ∧ 0 < cn ∧ B ≤ wd.heap.size) := Lib.hid ⟨by rw [u8s_length, hcn, Nat.mul_one], by unfold maxLen; omega, by omega, hckn.2, by have h1 := HD.out.1.on.size; have h2 := HD.out.1.bs; omega⟩
          have HCN := Lib.hid hcn
          clear hcn
          obtain ⟨hi, hz0, hz1, hz2⟩ := HI.out
          go_upto_region 23 with (at_builtin; refine wpList_append_lies _ rfl _ _ 22 rfl B 5 i0 (.int .u8 0) 1 1 Tryd.underlying22 hi hz0 hz1 hz2 rfl (by decide) _ _ _ rfl HD.out.1.row ⟨cg, 0, none⟩ cn cc (u8s ckl) rfl HNUM.out.1 HD.out.2.1 (u8s_one _) HNUM.out.2.2.2.1 HNUM.out.2.1 HNUM.out.2.2.1 HNUM.out.2.2.2.2 _ rfl ?_; intro ge capE we hown hgr hat _; have HE := Lib.hid (HD.out.1.out (l2 := l ++ ckl) (u8s_app_own hown) hgr hat); have HGR := Lib.hid (And.intro hgr hat); clear hown hgr hat)
          clear n0 n1 n2 n3
          have HF : Hid (SObj we nx 26 [.int .u8 na, .int .u8 120, .int .u8 121, .int .u8 nb] ∧ BX wa.heap.size we bba bbc bl ∧ ApartW (ds ++ (dn ++ [.slice bba bn2 bbc])) (.slice (some ⟨ge, 0, none⟩) (ln + cn) capE)) := Lib.hid (leaf_far HB2.out.1 HB2.out.2.1 HB2.out.2.2.1 HA.out.1.row HCB.out HD.out.1.row HGR.out.1 HGR.out.2 HE.out.ap HBN2.out)
          have HCN2 : Hid (Calls Tryd.prog 25 #[.pointer (some ⟨c.gc, 0, none⟩), .int .i64 ((bn2 : Int) + 2)] we fun e w' => ∃ v : Nat, e = .returned (.int .i64 v) ∧ v < bn2 + 2 ∧ CH w' c.gc c.ba c.bn c.bc c.f ∧ Only (fun k => k = c.gc) we w') := Lib.hid (chNext_any (bn2 + 2) c.gc c.ba c.bn c.bc c.f we HE.out.wk.wq.2 (by omega) (by omega))
          have q0 : we.cell? ⟨gw, 0, none⟩ = some (.pointer (some ⟨c.gc, 0, none⟩)) := by rw [HGW.out]; exact HE.out.wk.wq.1.cell 0 rfl
          go_wp2_with fail
          refine HCN2.out.mono ?_
          rintro _ wf ⟨n, rfl, hn, hcf, hof⟩
          have H11 := Lib.hid (And.intro (HE.out.ch hcf hof) (And.intro (HF.out.1.only hof (nx_gc HE.out.wk HF.out.1)) (HF.out.2.1.only hof (bx_gc HE.out.wk HF.out.2.1))))
          clear hcf hof q0
          have n0 := H11.out.2.1.cell 0 rfl
          have n1 := H11.out.2.1.cell 1 rfl
          have n2 := H11.out.2.1.cell 2 rfl
          have n3 := H11.out.2.1.cell 3 rfl
          go_upto_region 25 with fail
          have hle := H11.out.2.2.le
          rw [← HBN2.out] at hle
          obtain ⟨hle1, hle2⟩ := hle
          have hb0 : (0 : Int) ≤ (bn2 : Int) := by omega
          have hb1 : (bn2 : Int) ≤ (bbc : Int) := by omega
          have hb2 : (bbc : Int) ≤ 9223372036854775807 := by omega
          by_cases hnb : n ≤ bn2
          · have k1 : ¬ bn2 < n := by omega
            have k2 : n ≤ bbc := by omega
            have m0 : (0 : Int) ≤ (n : Int) := by omega
            have m1 : (n : Int) ≤ (bn2 : Int) := by omega
            have m2 : (n : Int) ≤ (bbc : Int) := by omega
            have hmn1 : (if (n : Int) ≤ (bn2 : Int) then (n : Int) else (bn2 : Int)) = (n : Int) := if_pos m1
            have hmn2 : min (n : Int) (bn2 : Int) = (n : Int) := by omega
            have hmn3 : (if (bn2 : Int) < (n : Int) then (bn2 : Int) else (n : Int)) = (n : Int) := if_neg (by omega)
            go_region_held3 (fun w' => w'.cell? ⟨nx, 0, none⟩ = some (.int .u8 na) ∧ w'.cell? ⟨nx, 1, none⟩ = some (.int .u8 120) ∧ w'.cell? ⟨nx, 2, none⟩ = some (.int .u8 121) ∧ w'.cell? ⟨nx, 3, none⟩ = some (.int .u8 nb))
              (first | with_reducible exact ⟨n0, n1, n2, n3⟩ | (simp only [drew_cell]; with_reducible exact ⟨n0, n1, n2, n3⟩) | go_keep)
              (first | fail)
            clear n0 n1 n2 n3 hmn1 hmn2 hmn3
            all_goals
              have H12 : Hid (∃ wg, wg = (wf.alloc (.cells #[.int .u8 na, .int .u8 120, .int .u8 121, .int .u8 nb, .int .i64 bn2, .slice bba n bbc, .int .i64 2] 43)).drew ∧ IN c w B ds (.slice (some ⟨ge, 0, none⟩) (ln + cn) capE) (ln + cn) (l ++ ckl) wg sv1 (.slice xa xn xc) kv1 ps1 cks1 ks1 dn ∧ SObj wg wf.heap.size 43 [.int .u8 na, .int .u8 120, .int .u8 121, .int .u8 nb, .int .i64 bn2, .slice bba n bbc, .int .i64 2] ∧ BX wa.heap.size wg bba bbc bl) := Lib.hid (by
                have ho : Only (fun _ => False) wf (wf.alloc (.cells #[.int .u8 na, .int .u8 120, .int .u8 121, .int .u8 nb, .int .i64 bn2, .slice bba n bbc, .int .i64 2] 43)).drew := (Only.alloc _ wf _).dr
                exact ⟨_, rfl, H11.out.1.nop ho, (obj_new wf 43 [.int .u8 na, .int .u8 120, .int .u8 121, .int .u8 nb, .int .i64 bn2, .slice bba n bbc, .int .i64 2]).drew, H11.out.2.2.only ho (fun _ _ _ h => h)⟩)
              go_upto_region 26 with fail
              obtain ⟨wg, hwg, H12⟩ := H12.out
              rw [← hwg]
              clear hwg
              have H12 := Lib.hid H12
              obtain ⟨nz, hnz⟩ : ∃ x, x = wf.heap.size := ⟨_, rfl⟩
              rw [← hnz] at H12 ⊢
              clear hnz
              have HXB : Hid (xn ≤ 5000000) := Lib.hid (by rw [HXN.out]; have := HBN.out.2.1; omega)
              have HSTd : Hid (Calls Tryd.prog 18 #[.pointer (some ⟨gw, 0, none⟩), .int .i64 0, .int .i64 0, .int .i64 0] wg fun e w' => e = .returned (.tuple #[]) ∧ ∃ sv' kv', WK c w' sv' (.slice xa xn xc) kv' ((ps1) ++ [(0, 0)]) cks1 ((ks1) ++ [0]) (ds ++ dn) ∧ Only (WS c wg) wg w') := Lib.hid (by rw [HGW.out]; exact wkStep H12.out.1.wk 0 0 0 0 rfl (by have := HBN.out.1; omega) (by have := HBN.out.2.2; omega))
              go_wp2_with fail
              refine HSTd.out.mono ?_
              rintro _ wh ⟨rfl, svsd, kvsd, hkd, hod⟩
              have H13 := Lib.hid (And.intro (H12.out.1.step hkd hod) (And.intro (H12.out.2.1.only hod (ws_ck H12.out.1.wk H12.out.2.1)) (H12.out.2.2.only hod (fun h0 p hp => ws_not H12.out.1.wk (.inr (H12.out.2.2.ty h0 p hp).1)))))
              clear hkd hod
              have HNB : Hid (B ≤ wa.heap.size) := Lib.hid (by have h1 := HA.out.1.on.size; have h2 := HA.out.1.bs; omega)
              by_cases hnz : 0 < n
              · have HSTe : Hid (Calls Tryd.prog 18 #[.pointer (some ⟨gw, 0, none⟩), .int .i64 1, .int .i64 (n : Int), .int .i64 0] wh fun e w' => e = .returned (.tuple #[]) ∧ ∃ sv' kv', WK c w' sv' (.slice xa xn xc) kv' ((ps1 ++ [(0, 0)]) ++ [(1, (n : Int))]) cks1 ((ks1 ++ [0]) ++ [0]) (ds ++ dn) ∧ Only (WS c wh) wh w') := Lib.hid (by rw [HGW.out]; exact wkStep H13.out.1.wk 1 (n : Int) 0 0 rfl (by rw [List.length_append]; have := HBN.out.1; simp only [List.length_cons, List.length_nil]; omega) (by rw [List.length_append]; have := HBN.out.2.2; simp only [List.length_cons, List.length_nil]; omega))
                go_wp2_with fail
                refine HSTe.out.mono ?_
                rintro _ wi ⟨rfl, svse, kvse, hke, hoe⟩
                have H14 := Lib.hid (And.intro (H13.out.1.step hke hoe) (And.intro (H13.out.2.1.only hoe (ws_ck H13.out.1.wk H13.out.2.1)) (H13.out.2.2.only hoe (fun h0 p hp => ws_not H13.out.1.wk (.inr (H13.out.2.2.ty h0 p hp).1)))))
                clear hke hoe
                go_wp2_with fail
                have HNX : Hid (wi.ownsRow c.B 43 7 (.slice xa xn xc) xn (ckCells cks1 (ds ++ dn)) ∧ xn + 1 ≤ maxLen ∧ (xn + 1) * 48 ≤ 140737488355328 ∧ c.B ≤ ((wi.alloc (.cells #[.int .u8 na, .int .u8 120, .int .u8 121, .int .u8 nb, .int .i64 bn2, .slice bba n bbc, .int .i64 2] 43)).drew).heap.size) := Lib.hid ⟨by have h := H14.out.1.wk.wa; rw [← HXN.out] at h; exact h, by unfold maxLen; have := HXB.out; omega, by have := HXB.out; omega, by show c.B ≤ (wi.alloc (.cells #[.int .u8 na, .int .u8 120, .int .u8 121, .int .u8 nb, .int .i64 bn2, .slice bba n bbc, .int .i64 2] 43)).heap.size; simp; have := H14.out.1.wk.bs; omega⟩
                have q2 : wi.cell? ⟨gw, 2, none⟩ = some (.slice xa xn xc) := by rw [HGW.out]; exact H14.out.1.wk.wq.1.cell 2 rfl
                have q3 : (wi.alloc (.cells #[.int .u8 na, .int .u8 120, .int .u8 121, .int .u8 nb, .int .i64 bn2, .slice bba n bbc, .int .i64 2] 43)).cell? ⟨gw, 2, none⟩ = some (.slice xa xn xc) := by rw [HGW.out]; exact (H14.out.1.wk.wq.1.alloc _).cell 2 rfl
                have c0 := H14.out.2.1.cell 0 rfl
                have c1 := H14.out.2.1.cell 1 rfl
                have c2 := H14.out.2.1.cell 2 rfl
                have c3 := H14.out.2.1.cell 3 rfl
                have c4 := H14.out.2.1.cell 4 rfl
                have c5 := H14.out.2.1.cell 5 rfl
                have c6 := H14.out.2.1.cell 6 rfl
                obtain ⟨hj, hy0, hy1, hy2⟩ := HJ.out
                go_region_law (first
                  | (refine step_append_own rfl (.tmp 139) (.tmp 141) 27 rfl c.B 43 j0 _ 7 48 Tryd.underlying27 hj hy0 hy1 hy2 (by simp [Value.cells]) (by decide) _ _ _ rfl (HNX.out.1.alloc _).drew ⟨wi.heap.size, 0, none⟩ 1 1 [.int .u8 na, .int .u8 120, .int .u8 121, .int .u8 nb, .int .i64 bn2, .slice bba n bbc, .int .i64 2] rfl rfl (news_a wi _ _) (by simp [Value.oneCell']) HNX.out.2.1 HNX.out.2.2.1 HNX.out.2.2.2 ?_; intro v4 w4 hown4 hgr4; obtain ⟨xa4, xc4, hv4⟩ := row_shape hown4; subst hv4; have hgr4 := grown_drew hgr4; obtain ⟨q4, f4⟩ := wk_cells (o := (.cells #[.int .u8 na, .int .u8 120, .int .u8 121, .int .u8 nb, .int .i64 bn2, .slice bba n bbc, .int .i64 2] 43)) H14.out.1.wk hgr4; rw [← HGW.out] at q4 f4; have H4 := Lib.hid (And.intro hown4 hgr4); clear hown4 hgr4))
                all_goals
                  have HP := Lib.hid (leaf_push (o := (.cells #[.int .u8 na, .int .u8 120, .int .u8 121, .int .u8 nb, .int .i64 bn2, .slice bba n bbc, .int .i64 2] 43)) H14.out.1 H14.out.2.2 HNB.out n 2 (by rw [← HBN2.out]; exact hnb) na 120 121 nb (by have h := HF.out.2.2; rw [HBN2.out] at h; exact h) (by have h := H4.out.1; rw [HBN2.out] at h; exact h) H4.out.2 HXN.out)
                  rw [← HGW.out] at HP
                  go_wp2_with fail
                  go_roundg (gk - 1)
                  case measure => have := HG.out; omega
                  case rel =>
                    have hlf := tok_leaf [(na : Int), 120, 121, (nb : Int)] bl n rfl (u8_name HA.out.2.1 HA.out.2.2) HB2.out.2.2.2.2 HB2.out.2.2.2.1 (by omega)
                    have hby : (Tr.leaf [(na : Int), 120, 121, (nb : Int)] bl n .nil).bytes = ckl := by rw [hlf.2, HD.out.2.2]
                    have hw : (Tr.leaf [(na : Int), 120, 121, (nb : Int)] bl n .nil).want = [⟨[(na : Int), 120, 121, (nb : Int)], bl.length, bl.take n, 2⟩] := by
                      show [(⟨[(na : Int), 120, 121, (nb : Int)], bl.length, bl.take n, if bl.length < n then 0 else 2⟩ : Ck)] = _
                      rw [if_neg (by rw [← HBN2.out]; omega)]
                    have hst : (Tr.leaf [(na : Int), 120, 121, (nb : Int)] bl n .nil).steps = [(0, 0), (1, (n : Int))] := by
                      show ((0, 0) :: (if 0 < n then [(1, (n : Int))] else [])) ++ [] = _
                      rw [if_pos hnz]; rfl
                    have hkd : (Tr.leaf [(na : Int), 120, 121, (nb : Int)] bl n .nil).kinds = [0, 0] := by
                      show (0 :: (if 0 < n then [0] else [])) ++ [] = _
                      rw [if_pos hnz]; rfl
                    have hin := HP.out
                    have hz := HFIN.out (w4.setCell ⟨gw, 2, none⟩ (.slice xa4 (xn + 1) xc4)) _ _ _ _ (.leaf [(na : Int), 120, 121, (nb : Int)] bl n .nil) _ (l ++ ckl) (ln + cn) (hlf.1.mono hq.2) (by rw [hby]; intro h0; have := HNUM.out.2.2.2.1; rw [HCN.out, h0] at this; exact absurd this (by decide)) (by rw [hby]) (by rw [hby, ← HCN.out]) (by rw [hw, hst, hkd]; rw [List.append_assoc, List.append_assoc] at hin; exact hin)
                    exact ⟨i - 1, _, by go_num, by omega, by have := HG.out; omega, hz⟩
              · obtain rfl : n = 0 := by omega
                go_wp2_with fail
                have HNX : Hid (wh.ownsRow c.B 43 7 (.slice xa xn xc) xn (ckCells cks1 (ds ++ dn)) ∧ xn + 1 ≤ maxLen ∧ (xn + 1) * 48 ≤ 140737488355328 ∧ c.B ≤ ((wh.alloc (.cells #[.int .u8 na, .int .u8 120, .int .u8 121, .int .u8 nb, .int .i64 bn2, .slice bba 0 bbc, .int .i64 2] 43)).drew).heap.size) := Lib.hid ⟨by have h := H13.out.1.wk.wa; rw [← HXN.out] at h; exact h, by unfold maxLen; have := HXB.out; omega, by have := HXB.out; omega, by show c.B ≤ (wh.alloc (.cells #[.int .u8 na, .int .u8 120, .int .u8 121, .int .u8 nb, .int .i64 bn2, .slice bba 0 bbc, .int .i64 2] 43)).heap.size; simp; have := H13.out.1.wk.bs; omega⟩
                have q2 : wh.cell? ⟨gw, 2, none⟩ = some (.slice xa xn xc) := by rw [HGW.out]; exact H13.out.1.wk.wq.1.cell 2 rfl
                have q3 : (wh.alloc (.cells #[.int .u8 na, .int .u8 120, .int .u8 121, .int .u8 nb, .int .i64 bn2, .slice bba 0 bbc, .int .i64 2] 43)).cell? ⟨gw, 2, none⟩ = some (.slice xa xn xc) := by rw [HGW.out]; exact (H13.out.1.wk.wq.1.alloc _).cell 2 rfl
                have c0 := H13.out.2.1.cell 0 rfl
                have c1 := H13.out.2.1.cell 1 rfl
                have c2 := H13.out.2.1.cell 2 rfl
                have c3 := H13.out.2.1.cell 3 rfl
                have c4 := H13.out.2.1.cell 4 rfl
                have c5 := H13.out.2.1.cell 5 rfl
                have c6 := H13.out.2.1.cell 6 rfl
                obtain ⟨hj, hy0, hy1, hy2⟩ := HJ.out
                go_region_law (first
                  | (refine step_append_own rfl (.tmp 139) (.tmp 141) 27 rfl c.B 43 j0 _ 7 48 Tryd.underlying27 hj hy0 hy1 hy2 (by simp [Value.cells]) (by decide) _ _ _ rfl (HNX.out.1.alloc _).drew ⟨wh.heap.size, 0, none⟩ 1 1 [.int .u8 na, .int .u8 120, .int .u8 121, .int .u8 nb, .int .i64 bn2, .slice bba 0 bbc, .int .i64 2] rfl rfl (news_a wh _ _) (by simp [Value.oneCell']) HNX.out.2.1 HNX.out.2.2.1 HNX.out.2.2.2 ?_; intro v4 w4 hown4 hgr4; obtain ⟨xa4, xc4, hv4⟩ := row_shape hown4; subst hv4; have hgr4 := grown_drew hgr4; obtain ⟨q4, f4⟩ := wk_cells (o := (.cells #[.int .u8 na, .int .u8 120, .int .u8 121, .int .u8 nb, .int .i64 bn2, .slice bba 0 bbc, .int .i64 2] 43)) H13.out.1.wk hgr4; rw [← HGW.out] at q4 f4; have H4 := Lib.hid (And.intro hown4 hgr4); clear hown4 hgr4))
                all_goals
                  have HP := Lib.hid (leaf_push (o := (.cells #[.int .u8 na, .int .u8 120, .int .u8 121, .int .u8 nb, .int .i64 bn2, .slice bba 0 bbc, .int .i64 2] 43)) H13.out.1 H13.out.2.2 HNB.out 0 2 (by rw [← HBN2.out]; exact hnb) na 120 121 nb (by have h := HF.out.2.2; rw [HBN2.out] at h; exact h) (by have h := H4.out.1; rw [HBN2.out] at h; exact h) H4.out.2 HXN.out)
                  rw [← HGW.out] at HP
                  go_wp2_with fail
                  go_roundg (gk - 1)
                  case measure => have := HG.out; omega
                  case rel =>
                    have hlf := tok_leaf [(na : Int), 120, 121, (nb : Int)] bl 0 rfl (u8_name HA.out.2.1 HA.out.2.2) HB2.out.2.2.2.2 HB2.out.2.2.2.1 (by omega)
                    have hby : (Tr.leaf [(na : Int), 120, 121, (nb : Int)] bl 0 .nil).bytes = ckl := by rw [hlf.2, HD.out.2.2]
                    have hw : (Tr.leaf [(na : Int), 120, 121, (nb : Int)] bl 0 .nil).want = [⟨[(na : Int), 120, 121, (nb : Int)], bl.length, bl.take 0, 2⟩] := by
                      show [(⟨[(na : Int), 120, 121, (nb : Int)], bl.length, bl.take 0, if bl.length < 0 then 0 else 2⟩ : Ck)] = _
                      rw [if_neg (by rw [← HBN2.out]; omega)]
                    have hst : (Tr.leaf [(na : Int), 120, 121, (nb : Int)] bl 0 .nil).steps = [(0, 0)] := by
                      show ((0, 0) :: (if 0 < 0 then [(1, ((0 : Nat) : Int))] else [])) ++ [] = _
                      rw [if_neg hnz]; rfl
                    have hkd : (Tr.leaf [(na : Int), 120, 121, (nb : Int)] bl 0 .nil).kinds = [0] := by
                      show (0 :: (if 0 < 0 then [0] else [])) ++ [] = _
                      rw [if_neg hnz]; rfl
                    have hin := HP.out
                    have hz := HFIN.out (w4.setCell ⟨gw, 2, none⟩ (.slice xa4 (xn + 1) xc4)) _ _ _ _ (.leaf [(na : Int), 120, 121, (nb : Int)] bl 0 .nil) _ (l ++ ckl) (ln + cn) (hlf.1.mono hq.2) (by rw [hby]; intro h0; have := HNUM.out.2.2.2.1; rw [HCN.out, h0] at this; exact absurd this (by decide)) (by rw [hby]) (by rw [hby, ← HCN.out]) (by rw [hw, hst, hkd]; exact hin)
                    exact ⟨i - 1, _, by go_num, by omega, by have := HG.out; omega, hz⟩
          · have k1 : bn2 < n := by omega
            have k2 : bn2 ≤ bbc := by omega
            have m0 : (0 : Int) ≤ (n : Int) := by omega
            have m1 : ¬ (n : Int) ≤ (bn2 : Int) := by omega
            have m3 : (bn2 : Int) < (n : Int) := by omega
            have hmn1 : (if (n : Int) ≤ (bn2 : Int) then (n : Int) else (bn2 : Int)) = (bn2 : Int) := if_neg m1
            have hmn2 : min (n : Int) (bn2 : Int) = (bn2 : Int) := by omega
            have hmn3 : (if (bn2 : Int) < (n : Int) then (bn2 : Int) else (n : Int)) = (bn2 : Int) := if_pos m3
            go_region_held3 (fun w' => w'.cell? ⟨nx, 0, none⟩ = some (.int .u8 na) ∧ w'.cell? ⟨nx, 1, none⟩ = some (.int .u8 120) ∧ w'.cell? ⟨nx, 2, none⟩ = some (.int .u8 121) ∧ w'.cell? ⟨nx, 3, none⟩ = some (.int .u8 nb))
              (first | with_reducible exact ⟨n0, n1, n2, n3⟩ | (simp only [drew_cell]; with_reducible exact ⟨n0, n1, n2, n3⟩) | go_keep)
              (first | fail)
            clear n0 n1 n2 n3 hmn1 hmn2 hmn3
            all_goals
              have H12 : Hid (∃ wg, wg = (wf.alloc (.cells #[.int .u8 na, .int .u8 120, .int .u8 121, .int .u8 nb, .int .i64 bn2, .slice bba bn2 bbc, .int .i64 2] 43)).drew ∧ IN c w B ds (.slice (some ⟨ge, 0, none⟩) (ln + cn) capE) (ln + cn) (l ++ ckl) wg sv1 (.slice xa xn xc) kv1 ps1 cks1 ks1 dn ∧ SObj wg wf.heap.size 43 [.int .u8 na, .int .u8 120, .int .u8 121, .int .u8 nb, .int .i64 bn2, .slice bba bn2 bbc, .int .i64 2] ∧ BX wa.heap.size wg bba bbc bl) := Lib.hid (by
                have ho : Only (fun _ => False) wf (wf.alloc (.cells #[.int .u8 na, .int .u8 120, .int .u8 121, .int .u8 nb, .int .i64 bn2, .slice bba bn2 bbc, .int .i64 2] 43)).drew := (Only.alloc _ wf _).dr
                exact ⟨_, rfl, H11.out.1.nop ho, (obj_new wf 43 [.int .u8 na, .int .u8 120, .int .u8 121, .int .u8 nb, .int .i64 bn2, .slice bba bn2 bbc, .int .i64 2]).drew, H11.out.2.2.only ho (fun _ _ _ h => h)⟩)
              go_upto_region 26 with fail
              obtain ⟨wg, hwg, H12⟩ := H12.out
              rw [← hwg]
              clear hwg
              have H12 := Lib.hid H12
              have HNZ : Hid ((Value.slice xa xn xc).ownBlock ≠ some wf.heap.size ∧ c.B ≤ wf.heap.size) := Lib.hid ⟨fun e => by have := (ownsRow_ty H11.out.1.wk.wa e).2.2; omega, H11.out.1.wk.bs⟩
              obtain ⟨nz, hnz⟩ : ∃ x, x = wf.heap.size := ⟨_, rfl⟩
              rw [← hnz] at H12 HNZ ⊢
              clear hnz
              have HXB : Hid (xn ≤ 5000000) := Lib.hid (by rw [HXN.out]; have := HBN.out.2.1; omega)
              have HSTd : Hid (Calls Tryd.prog 18 #[.pointer (some ⟨gw, 0, none⟩), .int .i64 0, .int .i64 0, .int .i64 0] wg fun e w' => e = .returned (.tuple #[]) ∧ ∃ sv' kv', WK c w' sv' (.slice xa xn xc) kv' ((ps1) ++ [(0, 0)]) cks1 ((ks1) ++ [0]) (ds ++ dn) ∧ Only (WS c wg) wg w') := Lib.hid (by rw [HGW.out]; exact wkStep H12.out.1.wk 0 0 0 0 rfl (by have := HBN.out.1; omega) (by have := HBN.out.2.2; omega))
              go_wp2_with fail
              refine HSTd.out.mono ?_
              rintro _ wh ⟨rfl, svsd, kvsd, hkd, hod⟩
              have H13 := Lib.hid (And.intro (H12.out.1.step hkd hod) (And.intro (H12.out.2.1.only hod (ws_ck H12.out.1.wk H12.out.2.1)) (H12.out.2.2.only hod (fun h0 p hp => ws_not H12.out.1.wk (.inr (H12.out.2.2.ty h0 p hp).1)))))
              clear hkd hod
              have HNB : Hid (B ≤ wa.heap.size) := Lib.hid (by have h1 := HA.out.1.on.size; have h2 := HA.out.1.bs; omega)
              have hnz : 0 < n := by omega
              have HSTe : Hid (Calls Tryd.prog 18 #[.pointer (some ⟨gw, 0, none⟩), .int .i64 1, .int .i64 (n : Int), .int .i64 0] wh fun e w' => e = .returned (.tuple #[]) ∧ ∃ sv' kv', WK c w' sv' (.slice xa xn xc) kv' ((ps1 ++ [(0, 0)]) ++ [(1, (n : Int))]) cks1 ((ks1 ++ [0]) ++ [0]) (ds ++ dn) ∧ Only (WS c wh) wh w') := Lib.hid (by rw [HGW.out]; exact wkStep H13.out.1.wk 1 (n : Int) 0 0 rfl (by rw [List.length_append]; have := HBN.out.1; simp only [List.length_cons, List.length_nil]; omega) (by rw [List.length_append]; have := HBN.out.2.2; simp only [List.length_cons, List.length_nil]; omega))
              go_wp2_with fail
              refine HSTe.out.mono ?_
              rintro _ wi ⟨rfl, svse, kvse, hke, hoe⟩
              have H14 := Lib.hid (And.intro (H13.out.1.step hke hoe) (And.intro (H13.out.2.1.only hoe (ws_ck H13.out.1.wk H13.out.2.1)) (H13.out.2.2.only hoe (fun h0 p hp => ws_not H13.out.1.wk (.inr (H13.out.2.2.ty h0 p hp).1)))))
              clear hke hoe
              have c6 := H14.out.2.1.cell 6 rfl
              have f6 := H14.out.2.1.free 6
              have H15 : Hid (∃ wj, wj = wi.setCell ⟨nz, 6, none⟩ (.int .i64 0) ∧ IN c w B ds (.slice (some ⟨ge, 0, none⟩) (ln + cn) capE) (ln + cn) (l ++ ckl) wj svse (.slice xa xn xc) kvse ((ps1 ++ [(0, 0)]) ++ [(1, (n : Int))]) cks1 ((ks1 ++ [0]) ++ [0]) dn ∧ SObj wj nz 43 [.int .u8 na, .int .u8 120, .int .u8 121, .int .u8 nb, .int .i64 bn2, .slice bba bn2 bbc, .int .i64 0] ∧ BX wa.heap.size wj bba bbc bl) := Lib.hid (by
                have ho : Only (fun k => k = nz) wi (wi.setCell ⟨nz, 6, none⟩ (.int .i64 0)) := Only.setCell wi _ _ rfl
                have hT := H14.out.2.1.ty
                refine ⟨_, rfl, H14.out.1.go (H14.out.1.wk.xobj hT HNZ.out.1 HNZ.out.2 ho) (ho.mono (fun k e => ?_)) H14.out.1.nw H14.out.1.ap, H14.out.2.1.set 6 (.int .i64 0), H14.out.2.2.only ho (fun h0 p hp e => ?_)⟩
                · rw [e]; exact .inr (.inr ⟨HNZ.out.2, .inr (.inl hT)⟩)
                · have ht := (H14.out.2.2.ty h0 p hp).1
                  have e : p.block = nz := e
                  rw [e] at ht; exact absurd (ht.inj hT) (by decide))
              go_upto_region 31 with fail
              obtain ⟨wj, hwj, H15⟩ := H15.out
              rw [← hwj]
              have H15 := Lib.hid H15
              clear hwj c6 f6
              have HNX : Hid (wj.ownsRow c.B 43 7 (.slice xa xn xc) xn (ckCells cks1 (ds ++ dn)) ∧ xn + 1 ≤ maxLen ∧ (xn + 1) * 48 ≤ 140737488355328 ∧ c.B ≤ ((wj.alloc (.cells #[.int .u8 na, .int .u8 120, .int .u8 121, .int .u8 nb, .int .i64 bn2, .slice bba bn2 bbc, .int .i64 0] 43)).drew).heap.size) := Lib.hid ⟨by have h := H15.out.1.wk.wa; rw [← HXN.out] at h; exact h, by unfold maxLen; have := HXB.out; omega, by have := HXB.out; omega, by show c.B ≤ (wj.alloc (.cells #[.int .u8 na, .int .u8 120, .int .u8 121, .int .u8 nb, .int .i64 bn2, .slice bba bn2 bbc, .int .i64 0] 43)).heap.size; simp; have := H15.out.1.wk.bs; omega⟩
              have q2 : wj.cell? ⟨gw, 2, none⟩ = some (.slice xa xn xc) := by rw [HGW.out]; exact H15.out.1.wk.wq.1.cell 2 rfl
              have q3 : (wj.alloc (.cells #[.int .u8 na, .int .u8 120, .int .u8 121, .int .u8 nb, .int .i64 bn2, .slice bba bn2 bbc, .int .i64 0] 43)).cell? ⟨gw, 2, none⟩ = some (.slice xa xn xc) := by rw [HGW.out]; exact (H15.out.1.wk.wq.1.alloc _).cell 2 rfl
              have c0 := H15.out.2.1.cell 0 rfl
              have c1 := H15.out.2.1.cell 1 rfl
              have c2 := H15.out.2.1.cell 2 rfl
              have c3 := H15.out.2.1.cell 3 rfl
              have c4 := H15.out.2.1.cell 4 rfl
              have c5 := H15.out.2.1.cell 5 rfl
              have c6 := H15.out.2.1.cell 6 rfl
              obtain ⟨hj, hy0, hy1, hy2⟩ := HJ.out
              go_region_law (first
                | (refine step_append_own rfl (.tmp 139) (.tmp 141) 27 rfl c.B 43 j0 _ 7 48 Tryd.underlying27 hj hy0 hy1 hy2 (by simp [Value.cells]) (by decide) _ _ _ rfl (HNX.out.1.alloc _).drew ⟨wj.heap.size, 0, none⟩ 1 1 [.int .u8 na, .int .u8 120, .int .u8 121, .int .u8 nb, .int .i64 bn2, .slice bba bn2 bbc, .int .i64 0] rfl rfl (news_a wj _ _) (by simp [Value.oneCell']) HNX.out.2.1 HNX.out.2.2.1 HNX.out.2.2.2 ?_; intro v4 w4 hown4 hgr4; obtain ⟨xa4, xc4, hv4⟩ := row_shape hown4; subst hv4; have hgr4 := grown_drew hgr4; obtain ⟨q4, f4⟩ := wk_cells (o := (.cells #[.int .u8 na, .int .u8 120, .int .u8 121, .int .u8 nb, .int .i64 bn2, .slice bba bn2 bbc, .int .i64 0] 43)) H15.out.1.wk hgr4; rw [← HGW.out] at q4 f4; have H4 := Lib.hid (And.intro hown4 hgr4); clear hown4 hgr4))
              all_goals
                have HP := Lib.hid (leaf_push (o := (.cells #[.int .u8 na, .int .u8 120, .int .u8 121, .int .u8 nb, .int .i64 bn2, .slice bba bn2 bbc, .int .i64 0] 43)) H15.out.1 H15.out.2.2 HNB.out bl.length 0 (Nat.le_refl _) na 120 121 nb (by have h := HF.out.2.2; rw [HBN2.out] at h; exact h) (by have h := H4.out.1; rw [HBN2.out] at h; exact h) H4.out.2 HXN.out)
                rw [← HGW.out] at HP
                go_wp2_with fail
                go_roundg (gk - 1)
                case measure => have := HG.out; omega
                case rel =>
                  have hlf := tok_leaf [(na : Int), 120, 121, (nb : Int)] bl n rfl (u8_name HA.out.2.1 HA.out.2.2) HB2.out.2.2.2.2 HB2.out.2.2.2.1 (by omega)
                  have hby : (Tr.leaf [(na : Int), 120, 121, (nb : Int)] bl n .nil).bytes = ckl := by rw [hlf.2, HD.out.2.2]
                  have hw : (Tr.leaf [(na : Int), 120, 121, (nb : Int)] bl n .nil).want = [⟨[(na : Int), 120, 121, (nb : Int)], bl.length, bl.take bl.length, 0⟩] := by
                    show [(⟨[(na : Int), 120, 121, (nb : Int)], bl.length, bl.take n, if bl.length < n then 0 else 2⟩ : Ck)] = _
                    rw [if_pos (by rw [← HBN2.out]; omega), List.take_of_length_le (by rw [← HBN2.out]; omega), List.take_of_length_le (Nat.le_refl _)]
                  have hst : (Tr.leaf [(na : Int), 120, 121, (nb : Int)] bl n .nil).steps = [(0, 0), (1, (n : Int))] := by
                    show ((0, 0) :: (if 0 < n then [(1, (n : Int))] else [])) ++ [] = _
                    rw [if_pos hnz]; rfl
                  have hkd : (Tr.leaf [(na : Int), 120, 121, (nb : Int)] bl n .nil).kinds = [0, 0] := by
                    show (0 :: (if 0 < n then [0] else [])) ++ [] = _
                    rw [if_pos hnz]; rfl
                  have hin := HP.out
                  have hz := HFIN.out (w4.setCell ⟨gw, 2, none⟩ (.slice xa4 (xn + 1) xc4)) _ _ _ _ (.leaf [(na : Int), 120, 121, (nb : Int)] bl n .nil) _ (l ++ ckl) (ln + cn) (hlf.1.mono hq.2) (by rw [hby]; intro h0; have := HNUM.out.2.2.2.1; rw [HCN.out, h0] at this; exact absurd this (by decide)) (by rw [hby]) (by rw [hby, ← HCN.out]) (by rw [hw, hst, hkd]; rw [List.append_assoc, List.append_assoc] at hin; exact hin)
                  exact ⟨i - 1, _, by go_num, by omega, by have := HG.out; omega, hz⟩
    · go_wp2
      go_ret
      exact ⟨_, t, sv1, wv1, kv1, dn, rfl, by rw [← HQ.out.2.1]; exact hR.2.2.2.row, hR.2.1, by rw [← HQ.out.1]; exact hR.2.2.1, hR.2.2.2.wk, by rw [← HQ.out.2.1]; exact hR.2.2.2.nw, hR.2.2.2.on⟩
end Go.Proofs.YthipghkhdlnfiaaDoor
