/- The law's walker: chunks that are written and not gone through. (Printed by wip/gen_trf.py.) -/
import Derived.Test.YthipghkhdlnfiaaDoorTrD
import Derived.Deep.RegionHeld3
import Derived.Deep.LoopGhost
namespace Go.Proofs.YthipghkhdlnfiaaDoor
open Go.RowKit
set_option linter.unusedVariables false

/-- What chunks tells that are not gone through. -/
def FP (gc : Nat) (ba : Option Addr) (bn bc : Nat) (f : Nat → Int) (n : Nat) (w : World) (e : Ending) (w' : World) : Prop :=
  ∃ (v : Value) (t : Tr), e = .returned v ∧ w'.ownsRow w.heap.size 5 1 v t.bytes.length (u8s t.bytes) ∧ (t.bytes = [] → v = .slice none 0 0) ∧ TOk t n ∧ CH w' gc ba bn bc f ∧ Only (fun k => k = gc) w w'
/-- A walker's struct and choices. -/
def WQ (w : World) (gw gc : Nat) (ba : Option Addr) (bn bc : Nat) (f : Nat → Int) (s0 x0 k0 : Value) : Prop := SObj w gw 51 [.pointer (some ⟨gc, 0, none⟩), s0, x0, k0] ∧ CH w gc ba bn bc f
theorem WQ.ne {w : World} {gw gc : Nat} {ba : Option Addr} {bn bc : Nat} {f : Nat → Int} {s0 x0 k0 : Value} (h : WQ w gw gc ba bn bc f s0 x0 k0) : gw ≠ gc := fun e => by
  obtain ⟨hp, hc⟩ := h
  obtain ⟨i, _, hs⟩ := hc.obj
  rw [e] at hp; exact absurd (hp.ty.inj hs.ty) (by decide)
theorem WQ.ch {w w' : World} {gw gc : Nat} {ba : Option Addr} {bn bc : Nat} {f : Nat → Int} {s0 x0 k0 : Value} (h : WQ w gw gc ba bn bc f s0 x0 k0) (hc : CH w' gc ba bn bc f) (ho : Only (fun k => k = gc) w w') : WQ w' gw gc ba bn bc f s0 x0 k0 := ⟨h.1.only ho h.ne, hc⟩
theorem WQ.none {w w' : World} {gw gc : Nat} {ba : Option Addr} {bn bc : Nat} {f : Nat → Int} {s0 x0 k0 : Value} (h : WQ w gw gc ba bn bc f s0 x0 k0) (ho : Only (fun _ => False) w w') : WQ w' gw gc ba bn bc f s0 x0 k0 := ⟨h.1.only ho (fun h => h), h.2.only ho (fun h => h) (fun _ _ _ h => h)⟩
/-- Behind an append to a row of bytes of the call's own. -/
theorem WQ.row {w w' : World} {gw gc : Nat} {ba : Option Addr} {bn bc : Nat} {f : Nat → Int} {s0 x0 k0 : Value} {B n : Nat} {v : Value} {xs : List Value} (h : WQ w gw gc ba bn bc f s0 x0 k0) (hr : w.ownsRow B 5 1 v n xs) (hba : 0 < bn → ∀ p, ba = some p → p.block < B) (ho : Only (fun k => v.ownBlock = some k) w w') : WQ w' gw gc ba bn bc f s0 x0 k0 := by
  refine ⟨h.1.only ho (fun e => ?_), h.2.only ho (fun e => ?_) (fun h0 p hp e => ?_)⟩
  · exact absurd (h.1.ty.inj (ownsRow_ty hr e).1) (by decide)
  · obtain ⟨i, _, hs⟩ := h.2.obj
    exact absurd (hs.ty.inj (ownsRow_ty hr e).1) (by decide)
  · have := (ownsRow_ty hr e).2.1
    have := hba h0 p hp
    omega
theorem name_cells {w : World} {g : Nat} {a b : Nat} (h : SObj w g 26 [.int .u8 a, .int .u8 120, .int .u8 121, .int .u8 b]) : ∀ j u, (u8s [(a : Int), 120, 121, (b : Int)])[j]? = some u → w.cell? ((⟨g, 0, none⟩ : Addr).add j) = some u := fun j u hu => by
  rw [Addr.add_lit, Nat.zero_add]
  exact h.cell j hu
/-- A row of bytes behind a change to the choices alone. -/
theorem row_gc {w w' : World} {gw gc : Nat} {ba : Option Addr} {bn bc : Nat} {f : Nat → Int} {s0 x0 k0 : Value} {B n : Nat} {v : Value} {xs : List Value} (hr : w.ownsRow B 5 1 v n xs) (h : WQ w gw gc ba bn bc f s0 x0 k0) (ho : Only (fun k => k = gc) w w') : w'.ownsRow B 5 1 v n xs :=
  ownsRow_only hr ho (fun k hk e => by
    obtain ⟨i, _, hs⟩ := h.2.obj
    have e : k = gc := e
    rw [e] at hk
    exact absurd (hs.ty.inj (ownsRow_ty hr hk).1) (by decide))
theorem u8_name {a b : Nat} (ha : a ≤ 255) (hb : b ≤ 255) : U8 [(a : Int), 120, 121, (b : Int)] := fun p hp => by
  simp at hp
  rcases hp with rfl | rfl | rfl | rfl <;> omega
theorem only_row {w w1 w2 : World} {gc B n : Nat} {v : Value} {e : TypeId} {size : Nat} {xs : List Value} (h : Only (fun k => k = gc) w w1) (hB : B = w.heap.size) (hr : w1.ownsRow B e size v n xs) (ho : Only (fun k => v.ownBlock = some k) w1 w2) : Only (fun k => k = gc) w w2 :=
  h.trans ho (fun k hk _ e => by have := (ownsRow_ty hr e).2.1; omega)

theorem l5_mk {w wc w5 : World} {gw gc : Nat} {ba : Option Addr} {bn bc : Nat} {f : Nat → Int} {s0 x0 k0 sv v5 : Value} {B ln nx n : Nat} {l l5 : List Int} {na nb : Nat} {t5 : Tr}
    (hb : WQ wc gw gc ba bn bc f s0 x0 k0 ∧ Only (fun k => k = gc) w wc ∧ wc.ownsRow B 5 1 sv ln (u8s l) ∧ SObj wc nx 26 [.int .u8 na, .int .u8 120, .int .u8 121, .int .u8 nb] ∧ na ≤ 255 ∧ nb ≤ 255)
    (ho5 : w5.ownsRow wc.drew.heap.size 5 1 v5 l5.length (u8s l5)) (hn5 : l5 = [] → v5 = .slice none 0 0) (ht5 : TOk t5 n) (hc5 : CH w5 gc ba bn bc f) (hb5 : Only (fun k => k = gc) wc.drew w5) (hl5 : l5 = t5.bytes) (hn : n ≤ 400000) :
    WQ w5 gw gc ba bn bc f s0 x0 k0 ∧ Only (fun k => k = gc) w w5 ∧ w5.ownsRow B 5 1 sv ln (u8s l) ∧ SObj w5 nx 26 [.int .u8 na, .int .u8 120, .int .u8 121, .int .u8 nb] ∧ l5 = t5.bytes ∧ w5.ownsRow wc.drew.heap.size 5 1 v5 l5.length (u8s l5) ∧ (l5 = [] → v5 = .slice none 0 0) ∧ TOk t5 n ∧ l5.length ≤ 400000 ∧ l5.length ≤ 1000000 := by
  have hod : Only (fun k => k = gc) wc w5 := (Only.drewN _ wc 1).tr hb5
  have hle := ht5.le
  refine ⟨hb.1.ch hc5 hod, hb.2.1.tr hod, row_gc hb.2.2.1 hb.1 hod, hb.2.2.2.1.only hod (fun e => ?_), hl5, ho5, hn5, ht5, by rw [hl5]; omega, by rw [hl5]; omega⟩
  obtain ⟨i, _, hs⟩ := hb.1.2.obj
  have e : nx = gc := e
  have h1 := hb.2.2.2.1.ty
  rw [e] at h1
  exact absurd (hs.ty.inj h1) (by decide)

set_option maxRecDepth 100000 in
set_option maxHeartbeats 8000000 in
theorem chunksF (gw gc : Nat) (ba : Option Addr) (bn bc : Nat) (f : Nat → Int) (d : Nat) (hd : d ≤ 6)
    (ih : ∀ d' w s0 xa xn xc k0, d' + 1 = d → WQ w gw gc ba bn bc f s0 (.slice xa xn xc) k0 → Calls Tryd.prog 17 #[.pointer (some ⟨gw, 0, none⟩), .int .i64 d', .bool false] w (FP gc ba bn bc f (4 * qD d') w))
    (w : World) (s0 : Value) (xa : Option Addr) (xn xc : Nat) (k0 : Value) (h : WQ w gw gc ba bn bc f s0 (.slice xa xn xc) k0) :
    Calls Tryd.prog 17 #[.pointer (some ⟨gw, 0, none⟩), .int .i64 d, .bool false] w (FP gc ba bn bc f (4 * qD d) w) := by
  obtain ⟨B, hB⟩ : ∃ B, B = w.heap.size := ⟨_, rfl⟩
  have HBA : Hid (0 < bn → ∀ p, ba = some p → p.block < B) := Lib.hid (fun h0 p hp => by
    obtain ⟨g, o, hba, hg, _⟩ := h.2.row h0
    rw [hba] at hp; injection hp with hp; rw [← hp, hB]; exact hg)
  have hq := qD_le d hd
  obtain ⟨q, hqq⟩ : ∃ q, q = qD d := ⟨_, rfl⟩
  rw [← hqq] at hq
  have HQ := Lib.hid (And.intro hqq (And.intro hB ih))
  have HW := Lib.hid h
  have HC1 : Hid (Calls Tryd.prog 25 #[.pointer (some ⟨gc, 0, none⟩), .int .i64 5] w fun e w' => ∃ v : Nat, e = .returned (.int .i64 v) ∧ v < 5 ∧ CH w' gc ba bn bc f ∧ Only (fun k => k = gc) w w') := Lib.hid (chNext_any 5 gc ba bn bc f w h.2 (by decide) (by decide))
  have q0 : w.cell? ⟨gw, 0, none⟩ = some (.pointer (some ⟨gc, 0, none⟩)) := h.1.cell 0 rfl
  obtain ⟨i0, hi, hz0, hz1, hz2⟩ := info_parts (show (Tryd.prog.info? 5).map (fun i => (i.zero, i.size, i.bytes)) = some (some (.int .u8 0), 1, 1) by kernel_rfl)
  have HI := Lib.hid (And.intro hi (And.intro hz0 (And.intro hz1 hz2)))
  clear hi hz0 hz1 hz2 h hqq hB ih
  go_enter Tryd.func17, Tryd.ntmps17
  go_wp2_with fail
  refine HC1.out.mono ?_
  rintro _ w2 ⟨v5, rfl, hv5, hc2, ho2⟩
  have H2 := Lib.hid (And.intro (HW.out.ch hc2 ho2) ho2)
  clear hc2 ho2 q0
  go_wp2_with fail
  go_loopg [7, 8] 6 (fun g s7 s8 wr => ∃ (i : Nat) (t : Tr), s8 = .int .i64 i ∧ i ≤ 4 ∧ i + 1 ≤ g ∧ Hid (t.bytes.length + i * q ≤ 4 * q ∧ wr.ownsRow B 5 1 s7 t.bytes.length (u8s t.bytes) ∧ (t.bytes = [] → s7 = .slice none 0 0) ∧ TOk t (4 * q) ∧ WQ wr gw gc ba bn bc f s0 (.slice xa xn xc) k0 ∧ Only (fun k => k = gc) w wr))
  case atStart => exact ⟨v5, .nil, rfl, by omega, by omega, by have := Nat.mul_le_mul_right q (show v5 ≤ 4 by omega); simpa [Tr.bytes] using this, World.ownsRow_nil _ _ _ _, fun _ => rfl, TOk.nil _, H2.out.1, H2.out.2⟩
  case round =>
    obtain ⟨i, t, rfl, hi4, hg, hR⟩ := hrel
    have HG := Lib.hid hg; clear hg
    obtain ⟨sa, sc, hs⟩ := row_shape hR.out.2.1
    subst hs
    by_cases hlt : 0 < i
    · obtain ⟨l, hl⟩ : ∃ l, l = t.bytes := ⟨_, rfl⟩
      have hll : l.length ≤ 400000 := by rw [hl]; have := hR.out.2.2.2.1.le; omega
      have HR : Hid (l = t.bytes ∧ l.length + i * q ≤ 4 * q ∧ wr.ownsRow B 5 1 (.slice sa l.length sc) l.length (u8s l) ∧ TOk t (4 * q) ∧ WQ wr gw gc ba bn bc f s0 (.slice xa xn xc) k0 ∧ Only (fun k => k = gc) w wr) := Lib.hid ⟨hl, by rw [hl]; exact hR.out.1, by rw [hl]; exact hR.out.2.1, hR.out.2.2.2⟩
      rw [← hl]
      clear hR hl
      obtain ⟨ln, hln⟩ : ∃ x, x = l.length := ⟨_, rfl⟩
      rw [← hln] at HR hll ⊢
      have HL := Lib.hid hln
      clear hln
      have q0 : wr.cell? ⟨gw, 0, none⟩ = some (.pointer (some ⟨gc, 0, none⟩)) := HR.out.2.2.2.2.1.1.cell 0 rfl
      have HFIN : Hid (∀ (w' : World) (v' : Value) (u : Tr), TOk u q → w'.ownsRow B 5 1 v' (ln + u.bytes.length) (u8s l ++ u8s u.bytes) → u.bytes ≠ [] → WQ w' gw gc ba bn bc f s0 (.slice xa xn xc) k0 → Only (fun k => k = gc) w w' → ((t.app u).bytes.length + (i - 1) * q ≤ 4 * q ∧ w'.ownsRow B 5 1 v' (t.app u).bytes.length (u8s (t.app u).bytes) ∧ ((t.app u).bytes = [] → v' = .slice none 0 0) ∧ TOk (t.app u) (4 * q) ∧ WQ w' gw gc ba bn bc f s0 (.slice xa xn xc) k0 ∧ Only (fun k => k = gc) w w')) := Lib.hid (fun w' v' u hu ho hne hw ho2 => by
        have e1 : (t.app u).bytes = l ++ u.bytes := by rw [Tr.app_bytes, HR.out.1]
        have e2 : (t.app u).bytes.length = ln + u.bytes.length := by rw [e1, List.length_append, HL.out]
        have hle := hu.le
        have hm : i * q = (i - 1) * q + q := by
          obtain ⟨j, rfl⟩ : ∃ j, i = j + 1 := ⟨i - 1, by omega⟩
          rw [Nat.add_sub_cancel, Nat.add_mul, Nat.one_mul]
        have hsum := HR.out.2.1
        refine ⟨by rw [e2]; omega, ?_, fun h0 => ?_, ?_, hw, ho2⟩
        · rw [e2, e1]
          have e3 : u8s (l ++ u.bytes) = u8s l ++ u8s u.bytes := by unfold u8s; rw [List.map_append]
          rw [e3]; exact ho
        · rw [e1] at h0; exact absurd (List.append_eq_nil_iff.1 h0).2 hne
        · have h1 := (HR.out.2.2.2.1.app hu)
          refine ⟨h1.ok, h1.u8, h1.st, h1.wa, h1.ft, ?_⟩
          rw [e2]; omega)
      by_cases hd0 : 0 < d
      · have HC4 : Hid (Calls Tryd.prog 26 #[.pointer (some ⟨gc, 0, none⟩), .int .i64 2] wr fun e w' => (e = .returned (.bool true) ∨ e = .returned (.bool false)) ∧ CH w' gc ba bn bc f ∧ Only (fun k => k = gc) wr w') := Lib.hid (chIs_any 2 gc ba bn bc f wr HR.out.2.2.2.2.1.2 (by decide) (by decide))
        go_wp2_with fail
        refine HC4.out.mono ?_
        rintro _ w3 ⟨rfl | rfl, hc3, ho3⟩
        · obtain ⟨d', rfl⟩ : ∃ d', d = d' + 1 := ⟨d - 1, by omega⟩
          have H3 := Lib.hid (And.intro (HR.out.2.2.2.2.1.ch hc3 ho3) (And.intro (HR.out.2.2.2.2.2.tr ho3) (row_gc HR.out.2.2.1 HR.out.2.2.2.2.1 ho3)))
          clear hc3 ho3 q0
          have q2 : w3.cell? ⟨gw, 2, none⟩ = some (.slice xa xn xc) := H3.out.1.1.cell 2 rfl
          have HNM := Lib.hid (wkName_any gw gc ba bn bc f w3 s0 (.slice xa xn xc) k0 H3.out.1.1 H3.out.1.2)
          go_wp2_with fail
          refine HNM.out.mono ?_
          rintro _ wa ⟨na, nb, rfl, hna, hnb, hca, hoa⟩
          have HB2 : Hid (WQ (wa.alloc (.cells #[.int .u8 na, .int .u8 120, .int .u8 121, .int .u8 nb] 26)) gw gc ba bn bc f s0 (.slice xa xn xc) k0 ∧ Only (fun k => k = gc) w (wa.alloc (.cells #[.int .u8 na, .int .u8 120, .int .u8 121, .int .u8 nb] 26)) ∧ (wa.alloc (.cells #[.int .u8 na, .int .u8 120, .int .u8 121, .int .u8 nb] 26)).ownsRow B 5 1 (.slice sa ln sc) ln (u8s l) ∧ SObj (wa.alloc (.cells #[.int .u8 na, .int .u8 120, .int .u8 121, .int .u8 nb] 26)) wa.heap.size 26 [.int .u8 na, .int .u8 120, .int .u8 121, .int .u8 nb] ∧ na ≤ 255 ∧ nb ≤ 255) := Lib.hid (by
            have ho : Only (fun _ => False) wa (wa.alloc (.cells #[.int .u8 na, .int .u8 120, .int .u8 121, .int .u8 nb] 26)) := Only.alloc _ _ _
            exact ⟨(H3.out.1.ch hca hoa).none ho, (H3.out.2.1.tr hoa).tr (ho.mono (fun _ h => h.elim)), (row_gc H3.out.2.2 H3.out.1 hoa).alloc _, obj_new wa 26 [.int .u8 na, .int .u8 120, .int .u8 121, .int .u8 nb], hna, hnb⟩)
          clear hna hnb hca hoa q2
          go_upto_region 14 with fail
          obtain ⟨nx, hnx⟩ : ∃ x, x = wa.heap.size := ⟨_, rfl⟩
          rw [← hnx] at HB2 ⊢
          clear hnx
          generalize World.alloc _ _ = wc at HB2 ⊢
          have HDW : Hid (IntKind.i64.wrap (((d' + 1 : Nat) : Int) - 1) = (d' : Int) ∧ IntKind.i64.wrap ((d' : Int) + 1 - 1) = (d' : Int) ∧ IntKind.i64.wrap (d' : Int) = (d' : Int)) := Lib.hid ⟨by rw [IntWalk.i64_in _ (by omega)]; omega, by rw [IntWalk.i64_in _ (by omega)]; omega, IntWalk.i64_in _ (by omega)⟩
          have HIH : Hid (Calls Tryd.prog 17 #[.pointer (some ⟨gw, 0, none⟩), .int .i64 d', .bool false] wc.drew (FP gc ba bn bc f (4 * qD d') wc.drew)) := Lib.hid (HQ.out.2.2 d' wc.drew s0 xa xn xc k0 rfl (HB2.out.1.none (Only.drewN _ wc 1)))
          have HM4 : Hid (4 * qD d' ≤ 400000 ∧ 12 + 4 * qD d' = q) := Lib.hid (by have h1 := HQ.out.1; have h2 : qD (d' + 1) = 12 + 4 * qD d' := rfl; omega)
          go_region_held3 (fun w' => True) (first | trivial)
            (first
              | (go_at_call 17; (first | rw [HDW.out.2.2] | rw [HDW.out.1] | rw [HDW.out.2.1] | skip); (with_reducible refine HIH.out.mono ?_); rintro _ w5 ⟨v5, t5, rfl, ho5, hn5, ht5, hc5, hb5⟩; obtain ⟨l5, hl5⟩ : ∃ x, x = t5.bytes := ⟨_, rfl⟩; rw [← hl5] at ho5 hn5; have H5 := Lib.hid (l5_mk HB2.out ho5 hn5 ht5 hc5 hb5 hl5 HM4.out.1); clear hl5 ho5 hn5 ht5 hc5 hb5)
              | (refine step_append_kind rfl (.tmp 68) (.tmp 73) rfl nx rfl [(na : Int), 120, 121, (nb : Int)] rfl (name_cells H5.out.2.2.2.1) H5.out.2.2.2.1.ty _ v5 l5 l5.length rfl H5.out.2.2.2.2.2.2.2.2.2 rfl H5.out.2.2.2.2.2.1 H5.out.2.2.2.2.2.2.1 ?_; intro p6 cc6 w6 hc6 ho6 _; have H6 : Hid (WQ w6 gw gc ba bn bc f s0 (.slice xa xn xc) k0 ∧ Only (fun k => k = gc) w w6 ∧ w6.ownsRow B 5 1 (.slice sa ln sc) ln (u8s l) ∧ Src w6 (some p6) cc6 ([(na : Int), 120, 121, (nb : Int)] ++ l5)) := Lib.hid ⟨H5.out.1.none ho6, H5.out.2.1.tr (ho6.mono (fun _ h => h.elim)), ownsRow_only H5.out.2.2.1 ho6 (fun _ _ h => h), .inr ⟨p6, rfl, hc6⟩⟩; clear hc6 ho6))
          obtain ⟨bn2, hbn2⟩ : ∃ x, x = l5.length := ⟨_, rfl⟩
          have hb400 : bn2 ≤ 400000 := by rw [hbn2]; exact H5.out.2.2.2.2.2.2.2.2.1
          have HCK := chunk_any 76 73 83 84 (some p6) cc6 ([(na : Int), 120, 121, (nb : Int)] ++ l5) w6 H6.out.2.2.2 (by rw [List.length_append, ← hbn2]; simp; omega)
          rw [show ([(na : Int), 120, 121, (nb : Int)] ++ l5).length = 4 + bn2 by rw [List.length_append, hbn2]; rfl] at HCK
          rw [← hbn2]
          have HBN := Lib.hid hbn2
          clear hbn2
          have HCK := Lib.hid HCK
          go_wp2_with fail
          refine HCK.out.mono ?_
          rintro _ wd ⟨cv, rfl, hco, hcb⟩
          have HLF := Lib.hid (tok_list [(na : Int), 120, 121, (nb : Int)] false t5 (4 * qD d') rfl (u8_name HB2.out.2.2.2.2.1 HB2.out.2.2.2.2.2) H5.out.2.2.2.2.2.2.2.1 (by have := HM4.out.1; omega))
          obtain ⟨ckl, hckl⟩ : ∃ x, x = chunkB listId ([(na : Int), 120, 121, (nb : Int)] ++ l5) := ⟨_, rfl⟩
          have hckn : ckl.length ≤ 500000 ∧ 0 < ckl.length := by
            rw [hckl]
            have h1 := chunkB_len (id := listId) rfl ([(na : Int), 120, 121, (nb : Int)] ++ l5)
            rw [List.length_append, ← HBN.out] at h1
            simp only [List.length_cons, List.length_nil] at h1
            omega
          have hco : wd.ownsRow w6.heap.size 5 1 cv (chunkB listId ([(na : Int), 120, 121, (nb : Int)] ++ l5)).length (u8s (chunkB listId ([(na : Int), 120, 121, (nb : Int)] ++ l5))) := hco
          rw [← hckl] at hco
          obtain ⟨cg, cc, ccur, hcv, _⟩ := own_block hco hckn.2
          subst hcv
          have HD : Hid (WQ wd gw gc ba bn bc f s0 (.slice xa xn xc) k0 ∧ Only (fun k => k = gc) w wd ∧ wd.ownsRow B 5 1 (.slice sa ln sc) ln (u8s l) ∧ (∀ j u, (u8s ckl)[j]? = some u → wd.cell? ((⟨cg, 0, none⟩ : Addr).add j) = some u) ∧ B ≤ wd.heap.size ∧ ckl = chunkB listId ([(na : Int), 120, 121, (nb : Int)] ++ l5) ∧ ckl.length ≤ 500000 ∧ 0 < ckl.length) := Lib.hid (by
            have ho : Only (fun _ => False) w6 wd := Only.of_below hcb
            have h2 := H6.out.2.1.tr (ho.mono (fun _ h => h.elim))
            exact ⟨H6.out.1.none ho, h2, ownsRow_only H6.out.2.2.1 ho (fun _ _ h => h), World.ownsRow.cells hco rfl, by have := h2.size; have := HQ.out.2.1; omega, hckl, hckn.1, hckn.2⟩)
          clear hco hcb hckl
          obtain ⟨cn, hcn⟩ : ∃ x, x = ckl.length := ⟨_, rfl⟩
          rw [← hcn] at hckn ⊢
          have HCN := Lib.hid hcn
          clear hcn
          have HNUM : Hid ((u8s ckl).length = cn * 1 ∧ ln + cn ≤ maxLen ∧ (ln + cn) * 1 ≤ 140737488355328) := Lib.hid ⟨by rw [u8s_length, HCN.out, Nat.mul_one], by unfold maxLen; omega, by omega⟩
          obtain ⟨hi, hz0, hz1, hz2⟩ := HI.out
          go_wp2_with (at_builtin; refine wpList_append_own _ rfl _ _ 22 rfl B 5 i0 (.int .u8 0) 1 1 Tryd.underlying22 hi hz0 hz1 hz2 rfl (by decide) _ _ _ rfl HD.out.2.2.1 ⟨cg, 0, none⟩ cn cc (u8s ckl) rfl HNUM.out.1 HD.out.2.2.2.1 (u8s_one _) HNUM.out.2.1 HNUM.out.2.2 HD.out.2.2.2.2.1 ?_; intro ve we hown hgr _; have HE := Lib.hid (And.intro hown hgr); clear hown hgr)
          have HF := Lib.hid (And.intro (HD.out.1.row HD.out.2.2.1 HBA.out (Only.of_grown HE.out.2 (fun k hk => hk))) (And.intro (only_row HD.out.2.1 HQ.out.2.1 HD.out.2.2.1 (Only.of_grown HE.out.2 (fun k hk => hk))) HE.out.1))
          go_wp2_with fail
          go_roundg (gk - 1)
          case measure => have := HG.out; omega
          case rel =>
            have hlf := HLF.out
            have hz := HFIN.out we ve (.list [(na : Int), 120, 121, (nb : Int)] false t5 .nil) (by rw [← HM4.out.2]; exact hlf.1) (by rw [(show (Tr.list [(na : Int), 120, 121, (nb : Int)] false t5 .nil).bytes = chunkB listId ([(na : Int), 120, 121, (nb : Int)] ++ l5) by rw [hlf.2, H5.out.2.2.2.2.1]), ← HD.out.2.2.2.2.2.1, ← HCN.out]; exact HF.out.2.2) (by rw [(show (Tr.list [(na : Int), 120, 121, (nb : Int)] false t5 .nil).bytes = chunkB listId ([(na : Int), 120, 121, (nb : Int)] ++ l5) by rw [hlf.2, H5.out.2.2.2.2.1]), ← HD.out.2.2.2.2.2.1]; intro h0; have := HD.out.2.2.2.2.2.2.2; rw [h0] at this; exact absurd this (by decide)) HF.out.1 HF.out.2.1
            exact ⟨i - 1, _, by go_num, by omega, by have := HG.out; omega, hz⟩
        · have H3 := Lib.hid (And.intro (HR.out.2.2.2.2.1.ch hc3 ho3) (And.intro (HR.out.2.2.2.2.2.tr ho3) (row_gc HR.out.2.2.1 HR.out.2.2.2.2.1 ho3)))
          clear hc3 ho3 q0
          have q0 : w3.cell? ⟨gw, 0, none⟩ = some (.pointer (some ⟨gc, 0, none⟩)) := H3.out.1.1.cell 0 rfl
          have HNM := Lib.hid (wkName_any gw gc ba bn bc f w3 s0 (.slice xa xn xc) k0 H3.out.1.1 H3.out.1.2)
          go_wp2_with fail
          refine HNM.out.mono ?_
          rintro _ wa ⟨na, nb, rfl, hna, hnb, hca, hoa⟩
          have HA := Lib.hid (And.intro ((H3.out.1).ch hca hoa) (And.intro (H3.out.2.1.tr hoa) (And.intro (row_gc H3.out.2.2 H3.out.1 hoa) (And.intro hna hnb))))
          clear hca hoa hna hnb
          have HBY := Lib.hid (wkBytes_any gw gc ba bn bc f wa s0 (.slice xa xn xc) k0 HA.out.1.1 HA.out.1.2)
          go_wp2_with fail
          refine HBY.out.mono ?_
          rintro _ wb ⟨bv, bl, rfl, hbo, hb11, hbu, hcb, hob⟩
          obtain ⟨bba, bbc, hbv, _, hbs⟩ := src_own hbo
          subst hbv
          have HB2 : Hid (WQ (wb.alloc (.cells #[.int .u8 na, .int .u8 120, .int .u8 121, .int .u8 nb] 26)) gw gc ba bn bc f s0 (.slice xa xn xc) k0 ∧ Only (fun k => k = gc) w (wb.alloc (.cells #[.int .u8 na, .int .u8 120, .int .u8 121, .int .u8 nb] 26)) ∧ (wb.alloc (.cells #[.int .u8 na, .int .u8 120, .int .u8 121, .int .u8 nb] 26)).ownsRow B 5 1 (.slice sa ln sc) ln (u8s l) ∧ Src (wb.alloc (.cells #[.int .u8 na, .int .u8 120, .int .u8 121, .int .u8 nb] 26)) bba bbc bl ∧ SObj (wb.alloc (.cells #[.int .u8 na, .int .u8 120, .int .u8 121, .int .u8 nb] 26)) wb.heap.size 26 [.int .u8 na, .int .u8 120, .int .u8 121, .int .u8 nb] ∧ bl.length ≤ 11 ∧ U8 bl) := Lib.hid (by
            have ho : Only (fun _ => False) wb (wb.alloc (.cells #[.int .u8 na, .int .u8 120, .int .u8 121, .int .u8 nb] 26)) := Only.alloc _ _ _
            have hw := HA.out.1.ch hcb hob
            exact ⟨hw.none ho, (HA.out.2.1.tr hob).tr (ho.mono (fun _ h => h.elim)), (row_gc HA.out.2.2.1 HA.out.1 hob).alloc _, hbs.below ((Below.refl _ _).alloc (Nat.le_refl _) _), obj_new wb 26 [.int .u8 na, .int .u8 120, .int .u8 121, .int .u8 nb], hb11, hbu⟩)
          clear hbo hb11 hbu hcb hob hbs
          go_upto_region 22 with fail
          obtain ⟨nx, hnx⟩ : ∃ x, x = wb.heap.size := ⟨_, rfl⟩
          rw [← hnx] at HB2 ⊢
          clear hnx
          generalize World.alloc _ _ = wc at HB2 ⊢
          obtain ⟨bn2, hbn2⟩ : ∃ x, x = bl.length := ⟨_, rfl⟩
          have HCK := chunk_any na 120 121 nb bba bbc bl wc HB2.out.2.2.2.1 (by have := HB2.out.2.2.2.2.2.1; omega)
          rw [← hbn2] at HCK ⊢
          have HCK := Lib.hid HCK
          have n0 := HB2.out.2.2.2.2.1.cell 0 rfl
          have n1 := HB2.out.2.2.2.2.1.cell 1 rfl
          have n2 := HB2.out.2.2.2.2.1.cell 2 rfl
          have n3 := HB2.out.2.2.2.2.1.cell 3 rfl
          have HBN := Lib.hid hbn2
          clear hbn2
          go_wp2_with fail
          refine HCK.out.mono ?_
          rintro _ wd ⟨cv, rfl, hco, hcb⟩
          have HLF := Lib.hid (fun n hn => tok_leaf [(na : Int), 120, 121, (nb : Int)] bl n rfl (u8_name HA.out.2.2.2.1 HA.out.2.2.2.2) HB2.out.2.2.2.2.2.2 HB2.out.2.2.2.2.2.1 hn)
          obtain ⟨ckl, hckl⟩ : ∃ x, x = chunkB [(na : Int), 120, 121, (nb : Int)] bl := ⟨_, rfl⟩
          have hckn : ckl.length ≤ 20 ∧ 0 < ckl.length := by
            rw [hckl]
            have h1 := chunkB_len (id := [(na : Int), 120, 121, (nb : Int)]) rfl bl
            have h2 := HB2.out.2.2.2.2.2.1
            omega
          rw [← hckl] at hco
          obtain ⟨cg, cc, ccur, hcv, _⟩ := own_block hco hckn.2
          subst hcv
          have HD : Hid (WQ wd gw gc ba bn bc f s0 (.slice xa xn xc) k0 ∧ Only (fun k => k = gc) w wd ∧ wd.ownsRow B 5 1 (.slice sa ln sc) ln (u8s l) ∧ (∀ j u, (u8s ckl)[j]? = some u → wd.cell? ((⟨cg, 0, none⟩ : Addr).add j) = some u) ∧ B ≤ wd.heap.size ∧ ckl = chunkB [(na : Int), 120, 121, (nb : Int)] bl ∧ ckl.length ≤ 20 ∧ 0 < ckl.length) := Lib.hid (by
            have ho : Only (fun _ => False) wc wd := Only.of_below hcb
            have h2 := HB2.out.2.1.tr (ho.mono (fun _ h => h.elim))
            exact ⟨HB2.out.1.none ho, h2, ownsRow_only HB2.out.2.2.1 ho (fun _ _ h => h), World.ownsRow.cells hco rfl, by have := h2.size; have := HQ.out.2.1; omega, hckl, hckn.1, hckn.2⟩)
          clear hco hcb hckl
          obtain ⟨cn, hcn⟩ : ∃ x, x = ckl.length := ⟨_, rfl⟩
          rw [← hcn] at hckn ⊢
          have HCN := Lib.hid hcn
          clear hcn
          have HNUM : Hid ((u8s ckl).length = cn * 1 ∧ ln + cn ≤ maxLen ∧ (ln + cn) * 1 ≤ 140737488355328) := Lib.hid ⟨by rw [u8s_length, HCN.out, Nat.mul_one], by unfold maxLen; omega, by omega⟩
          obtain ⟨hi, hz0, hz1, hz2⟩ := HI.out
          go_wp2_with (at_builtin; refine wpList_append_own _ rfl _ _ 22 rfl B 5 i0 (.int .u8 0) 1 1 Tryd.underlying22 hi hz0 hz1 hz2 rfl (by decide) _ _ _ rfl HD.out.2.2.1 ⟨cg, 0, none⟩ cn cc (u8s ckl) rfl HNUM.out.1 HD.out.2.2.2.1 (u8s_one _) HNUM.out.2.1 HNUM.out.2.2 HD.out.2.2.2.2.1 ?_; intro ve we hown hgr _; have HE := Lib.hid (And.intro hown hgr); clear hown hgr)
          have HF := Lib.hid (And.intro (HD.out.1.row HD.out.2.2.1 HBA.out (Only.of_grown HE.out.2 (fun k hk => hk))) (And.intro (only_row HD.out.2.1 HQ.out.2.1 HD.out.2.2.1 (Only.of_grown HE.out.2 (fun k hk => hk))) HE.out.1))
          go_wp2_with fail
          go_roundg (gk - 1)
          case measure => have := HG.out; omega
          case rel =>
            have hlf := HLF.out 0 (by decide)
            have hz := HFIN.out we ve (.leaf [(na : Int), 120, 121, (nb : Int)] bl 0 .nil) (hlf.1.mono hq.2) (by rw [hlf.2, ← HD.out.2.2.2.2.2.1, ← HCN.out]; exact HF.out.2.2) (by rw [hlf.2, ← HD.out.2.2.2.2.2.1]; intro h0; have := HD.out.2.2.2.2.2.2.2; rw [h0] at this; exact absurd this (by decide)) HF.out.1 HF.out.2.1
            exact ⟨i - 1, _, by go_num, by omega, by have := HG.out; omega, hz⟩
      · have HNM := Lib.hid (wkName_any gw gc ba bn bc f wr s0 (.slice xa xn xc) k0 HR.out.2.2.2.2.1.1 HR.out.2.2.2.2.1.2)
        go_wp2_with fail
        refine HNM.out.mono ?_
        rintro _ wa ⟨na, nb, rfl, hna, hnb, hca, hoa⟩
        have HA := Lib.hid (And.intro ((HR.out.2.2.2.2.1).ch hca hoa) (And.intro (HR.out.2.2.2.2.2.tr hoa) (And.intro (row_gc HR.out.2.2.1 HR.out.2.2.2.2.1 hoa) (And.intro hna hnb))))
        clear hca hoa hna hnb
        have HBY := Lib.hid (wkBytes_any gw gc ba bn bc f wa s0 (.slice xa xn xc) k0 HA.out.1.1 HA.out.1.2)
        go_wp2_with fail
        refine HBY.out.mono ?_
        rintro _ wb ⟨bv, bl, rfl, hbo, hb11, hbu, hcb, hob⟩
        obtain ⟨bba, bbc, hbv, _, hbs⟩ := src_own hbo
        subst hbv
        have HB2 : Hid (WQ (wb.alloc (.cells #[.int .u8 na, .int .u8 120, .int .u8 121, .int .u8 nb] 26)) gw gc ba bn bc f s0 (.slice xa xn xc) k0 ∧ Only (fun k => k = gc) w (wb.alloc (.cells #[.int .u8 na, .int .u8 120, .int .u8 121, .int .u8 nb] 26)) ∧ (wb.alloc (.cells #[.int .u8 na, .int .u8 120, .int .u8 121, .int .u8 nb] 26)).ownsRow B 5 1 (.slice sa ln sc) ln (u8s l) ∧ Src (wb.alloc (.cells #[.int .u8 na, .int .u8 120, .int .u8 121, .int .u8 nb] 26)) bba bbc bl ∧ SObj (wb.alloc (.cells #[.int .u8 na, .int .u8 120, .int .u8 121, .int .u8 nb] 26)) wb.heap.size 26 [.int .u8 na, .int .u8 120, .int .u8 121, .int .u8 nb] ∧ bl.length ≤ 11 ∧ U8 bl) := Lib.hid (by
          have ho : Only (fun _ => False) wb (wb.alloc (.cells #[.int .u8 na, .int .u8 120, .int .u8 121, .int .u8 nb] 26)) := Only.alloc _ _ _
          have hw := HA.out.1.ch hcb hob
          exact ⟨hw.none ho, (HA.out.2.1.tr hob).tr (ho.mono (fun _ h => h.elim)), (row_gc HA.out.2.2.1 HA.out.1 hob).alloc _, hbs.below ((Below.refl _ _).alloc (Nat.le_refl _) _), obj_new wb 26 [.int .u8 na, .int .u8 120, .int .u8 121, .int .u8 nb], hb11, hbu⟩)
        clear hbo hb11 hbu hcb hob hbs
        go_upto_region 22 with fail
        obtain ⟨nx, hnx⟩ : ∃ x, x = wb.heap.size := ⟨_, rfl⟩
        rw [← hnx] at HB2 ⊢
        clear hnx
        generalize World.alloc _ _ = wc at HB2 ⊢
        obtain ⟨bn2, hbn2⟩ : ∃ x, x = bl.length := ⟨_, rfl⟩
        have HCK := chunk_any na 120 121 nb bba bbc bl wc HB2.out.2.2.2.1 (by have := HB2.out.2.2.2.2.2.1; omega)
        rw [← hbn2] at HCK ⊢
        have HCK := Lib.hid HCK
        have n0 := HB2.out.2.2.2.2.1.cell 0 rfl
        have n1 := HB2.out.2.2.2.2.1.cell 1 rfl
        have n2 := HB2.out.2.2.2.2.1.cell 2 rfl
        have n3 := HB2.out.2.2.2.2.1.cell 3 rfl
        have HBN := Lib.hid hbn2
        clear hbn2
        go_wp2_with fail
        refine HCK.out.mono ?_
        rintro _ wd ⟨cv, rfl, hco, hcb⟩
        have HLF := Lib.hid (fun n hn => tok_leaf [(na : Int), 120, 121, (nb : Int)] bl n rfl (u8_name HA.out.2.2.2.1 HA.out.2.2.2.2) HB2.out.2.2.2.2.2.2 HB2.out.2.2.2.2.2.1 hn)
        obtain ⟨ckl, hckl⟩ : ∃ x, x = chunkB [(na : Int), 120, 121, (nb : Int)] bl := ⟨_, rfl⟩
        have hckn : ckl.length ≤ 20 ∧ 0 < ckl.length := by
          rw [hckl]
          have h1 := chunkB_len (id := [(na : Int), 120, 121, (nb : Int)]) rfl bl
          have h2 := HB2.out.2.2.2.2.2.1
          omega
        rw [← hckl] at hco
        obtain ⟨cg, cc, ccur, hcv, _⟩ := own_block hco hckn.2
        subst hcv
        have HD : Hid (WQ wd gw gc ba bn bc f s0 (.slice xa xn xc) k0 ∧ Only (fun k => k = gc) w wd ∧ wd.ownsRow B 5 1 (.slice sa ln sc) ln (u8s l) ∧ (∀ j u, (u8s ckl)[j]? = some u → wd.cell? ((⟨cg, 0, none⟩ : Addr).add j) = some u) ∧ B ≤ wd.heap.size ∧ ckl = chunkB [(na : Int), 120, 121, (nb : Int)] bl ∧ ckl.length ≤ 20 ∧ 0 < ckl.length) := Lib.hid (by
          have ho : Only (fun _ => False) wc wd := Only.of_below hcb
          have h2 := HB2.out.2.1.tr (ho.mono (fun _ h => h.elim))
          exact ⟨HB2.out.1.none ho, h2, ownsRow_only HB2.out.2.2.1 ho (fun _ _ h => h), World.ownsRow.cells hco rfl, by have := h2.size; have := HQ.out.2.1; omega, hckl, hckn.1, hckn.2⟩)
        clear hco hcb hckl
        obtain ⟨cn, hcn⟩ : ∃ x, x = ckl.length := ⟨_, rfl⟩
        rw [← hcn] at hckn ⊢
        have HCN := Lib.hid hcn
        clear hcn
        have HNUM : Hid ((u8s ckl).length = cn * 1 ∧ ln + cn ≤ maxLen ∧ (ln + cn) * 1 ≤ 140737488355328) := Lib.hid ⟨by rw [u8s_length, HCN.out, Nat.mul_one], by unfold maxLen; omega, by omega⟩
        obtain ⟨hi, hz0, hz1, hz2⟩ := HI.out
        go_wp2_with (at_builtin; refine wpList_append_own _ rfl _ _ 22 rfl B 5 i0 (.int .u8 0) 1 1 Tryd.underlying22 hi hz0 hz1 hz2 rfl (by decide) _ _ _ rfl HD.out.2.2.1 ⟨cg, 0, none⟩ cn cc (u8s ckl) rfl HNUM.out.1 HD.out.2.2.2.1 (u8s_one _) HNUM.out.2.1 HNUM.out.2.2 HD.out.2.2.2.2.1 ?_; intro ve we hown hgr _; have HE := Lib.hid (And.intro hown hgr); clear hown hgr)
        have HF := Lib.hid (And.intro (HD.out.1.row HD.out.2.2.1 HBA.out (Only.of_grown HE.out.2 (fun k hk => hk))) (And.intro (only_row HD.out.2.1 HQ.out.2.1 HD.out.2.2.1 (Only.of_grown HE.out.2 (fun k hk => hk))) HE.out.1))
        go_wp2_with fail
        go_roundg (gk - 1)
        case measure => have := HG.out; omega
        case rel =>
          have hlf := HLF.out 0 (by decide)
          have hz := HFIN.out we ve (.leaf [(na : Int), 120, 121, (nb : Int)] bl 0 .nil) (hlf.1.mono hq.2) (by rw [hlf.2, ← HD.out.2.2.2.2.2.1, ← HCN.out]; exact HF.out.2.2) (by rw [hlf.2, ← HD.out.2.2.2.2.2.1]; intro h0; have := HD.out.2.2.2.2.2.2.2; rw [h0] at this; exact absurd this (by decide)) HF.out.1 HF.out.2.1
          exact ⟨i - 1, _, by go_num, by omega, by have := HG.out; omega, hz⟩
    · go_wp2
      go_ret
      exact ⟨_, t, rfl, by rw [← HQ.out.2.1]; exact hR.out.2.1, hR.out.2.2.1, by rw [← HQ.out.1]; exact hR.out.2.2.2.1, hR.out.2.2.2.2.1.2, hR.out.2.2.2.2.2⟩
end Go.Proofs.YthipghkhdlnfiaaDoor
