/- The reference's large predictions at the other modes; Predict16. Printed by wip/gen_predl.py. -/
import Derived.Test.YtmdijdoaijnpaaaDoorPredL
namespace Go.Proofs.YtmdijdoaijnpaaaDoor
open Go.RowKit
set_option linter.unusedVariables false

theorem sp16_dc (aa : Option Addr) (ca : Nat) (fa : Nat → Int) (al : Option Addr) (cl : Nat) (fl : Nat → Int) (corner : Int) (w : World) (ha : Arg .u8 w aa 16 fa) (hl : Arg .u8 w al 16 fl) (hfa : ∀ k, 0 ≤ fa k ∧ fa k ≤ 255) (hfl : ∀ k, 0 ≤ fl k ∧ fl k ≤ 255) (hc0 : 0 ≤ corner) (hc1 : corner ≤ 255) :
    Calls Tryd.prog 11 #[.int .i64 0, .int .i64 corner, .slice aa 16 ca, .slice al 16 cl] w fun e w' => (∃ a' c', e = .returned (.slice a' 256 c') ∧ Own .u8 w.heap.size w' a' 256 (rowF (fun j i => (sumF fa 16 + sumF fl 16 + 16) / 32))) ∧ Below w.heap.size w w' := by
  have H := Lib.hid (And.intro ha (And.intro hl (And.intro hfa hfl))); clear ha hl hfa hfl
  go_enter Tryd.func11, Tryd.ntmps11
  go_wp2_with fail
  refine (pl16_dc aa ca fa al cl fl corner w H.out.1 H.out.2.1 H.out.2.2.1 H.out.2.2.2 hc0 hc1).mono ?_
  rintro _ w1 ⟨⟨a', c', rfl, ho⟩, hb⟩
  have H1 := Lib.hid (And.intro ho hb); clear ho hb
  go_wp2
  go_ret
  exact ⟨⟨_, _, rfl, H1.out.1⟩, H1.out.2⟩

set_option maxRecDepth 100000 in
set_option maxHeartbeats 4000000 in
theorem pl16_tm (aa : Option Addr) (ca : Nat) (fa : Nat → Int) (al : Option Addr) (cl : Nat) (fl : Nat → Int) (corner : Int) (w : World) (ha : Arg .u8 w aa 16 fa) (hl : Arg .u8 w al 16 fl) (hfa : ∀ k, 0 ≤ fa k ∧ fa k ≤ 255) (hfl : ∀ k, 0 ≤ fl k ∧ fl k ≤ 255) (hc0 : 0 ≤ corner) (hc1 : corner ≤ 255) :
    Calls Tryd.prog 25 #[.int .i64 16, .int .i64 1, .int .i64 corner, .slice aa 16 ca, .slice al 16 cl] w fun e w' => (∃ a' c', e = .returned (.slice a' 256 c') ∧ Own .u8 w.heap.size w' a' 256 (rowF (fun j i => hld 0 255 (fl j + fa i - corner)))) ∧ Below w.heap.size w w' := by
  obtain ⟨i0, hi, hz0, hz1, hz2⟩ := info_parts infoI
  obtain ⟨ga, oa, rfl, hga, ra⟩ := ha (by decide)
  obtain ⟨gl, ol, rfl, hgl, rl⟩ := hl (by decide)
  have HF := Lib.hid (And.intro hfa hfl)
  have HA := Lib.hid (And.intro ra rl)
  have HG := Lib.hid (And.intro hga hgl)
  have HB := Lib.hid (obj_new w 68 [.bool true, .bool true])
  clear ha hl hfa hfl ra rl hga hgl
  go_enter Tryd.func25, Tryd.ntmps25
  go_wp2
  have HW : Hid (TwoR w (w.alloc (.cells #[.bool true, .bool true] 68)) [.bool true, .bool true] (.slice none 0 0) (.slice none 0 0) 0 0 fa fl) :=
    Lib.hid ⟨World.ownsRow_nil _ _ _ _, World.ownsRow_nil _ _ _ _, (fun k hk => by cases hk), (Below.refl _ _).alloc (Nat.le_refl _) _, HB.out⟩
  clear HB
  generalize World.alloc w _ = w1 at HW ⊢
  go_loopw [12, 13, 14] (fun va vb i wr => ∃ p : Nat, p ≤ 16 ∧ i = .int .i64 p ∧ Hid (TwoR w wr [.bool true, .bool true] va vb p p fa fl)) (fun _ _ i _ => 16 - (intOf i).toNat)
  case atStart => exact ⟨0, by omega, rfl, HW⟩
  case round =>
    obtain ⟨p, hp, rfl, hR⟩ := hrel
    by_cases hlt : p < 16
    · obtain ⟨c0, c1⟩ := hR.out.src HA.out HG.out hlt ⟨rfl, rfl⟩
      obtain ⟨x0, x1⟩ := HF.out.1 p
      obtain ⟨y0, y1⟩ := HF.out.2 p
      generalize hva : fa p = xa at c0 x0 x1
      generalize hvl : fl p = xl at c1 y0 y1
      have HVV := Lib.hid (And.intro hva hvl); clear hva hvl
      have q0 : IntKind.i64.wrap xa = xa := IntWalk.i64_in _ (by omega)
      have q1 : IntKind.i64.wrap xl = xl := IntWalk.i64_in _ (by omega)
      have HL : Hid ((∀ j, u12.ownBlock = some j → j < wr.heap.size) ∧ ∀ j, u12.ownBlock = some j → j < wr.heap.size + 1) := Lib.hid ⟨fun j h => (hR.out.a.lt j h).2, fun j h => Nat.lt_succ_of_lt (hR.out.a.lt j h).2⟩
      have X1 : Hid (TwoR w (wr.alloc (.cells #[.int .i64 xa] 3)).drew [.bool true, .bool true] u12 u13 p p fa fl ∧ (wr.alloc (.cells #[.int .i64 xa] 3)).drew.cell? ⟨wr.heap.size, 0, none⟩ = some (.int .i64 xa)) := Lib.hid ⟨(hR.out.alloc _).drew, cell_of_row _ _ 0 _ _ _ (heap_alloc_new wr _)⟩
      have X2 : Hid (TwoR w ((wr.alloc (.cells #[.int .i64 xa] 3)).alloc (.cells #[.int .i64 xl] 3)).drew [.bool true, .bool true] u12 u13 p p fa fl ∧ ((wr.alloc (.cells #[.int .i64 xa] 3)).alloc (.cells #[.int .i64 xl] 3)).drew.cell? ⟨wr.heap.size, 0, none⟩ = some (.int .i64 xa) ∧ ((wr.alloc (.cells #[.int .i64 xa] 3)).alloc (.cells #[.int .i64 xl] 3)).drew.cell? ⟨wr.heap.size + 1, 0, none⟩ = some (.int .i64 xl)) := Lib.hid ⟨((hR.out.alloc _).alloc _).drew, by simp, by simp⟩
      have X3 : Hid (TwoR w ((wr.alloc (.cells #[.int .i64 xl] 3)).alloc (.cells #[.int .i64 xa] 3)).drew [.bool true, .bool true] u12 u13 p p fa fl ∧ ((wr.alloc (.cells #[.int .i64 xl] 3)).alloc (.cells #[.int .i64 xa] 3)).drew.cell? ⟨wr.heap.size, 0, none⟩ = some (.int .i64 xl) ∧ ((wr.alloc (.cells #[.int .i64 xl] 3)).alloc (.cells #[.int .i64 xa] 3)).drew.cell? ⟨wr.heap.size + 1, 0, none⟩ = some (.int .i64 xa)) := Lib.hid ⟨((hR.out.alloc _).alloc _).drew, by simp, by simp⟩
      go_wp2_with fail
      go_region_held3 (fun w' => w'.cell? ⟨ga, oa + p, none⟩ = some (.int .u8 xa) ∧ w'.cell? ⟨gl, ol + p, none⟩ = some (.int .u8 xl)) (first | go_keep | exact TwoR.src ‹TwoR w _ [.bool true, .bool true] _ _ (p + 1) _ _ _› HA.out HG.out hlt HVV.out)
        (first
          | ((refine step_append_lies _ (by rfl) (.tmp 61) (.tmp 67) 32 (by rfl) (w.heap.size + 1) 3 i0 (.int .i64 0) 1 8 Tryd.underlying32 hi hz0 hz1 hz2 rfl (by decide) u12 p (cellsOf .i64 p fa) (by rfl) X1.out.1.a ⟨wr.heap.size, 0, none⟩ 1 1 [.int .i64 xa] (by rfl) rfl (news1 X1.out.2) (by simp [Value.oneCell']) (by decide) (by unfold maxLen; omega) (by omega) X1.out.1.sz _ rfl ?_; intro g cap w2 hown hgrow hat hglt; have hA1 := TwoR.more X1.out.1 HVV.out.1.symm hown hgrow hat; clear hown hgrow hat))
          | ((refine step_append_lies _ (by rfl) (.tmp 61) (.tmp 67) 32 (by rfl) (w.heap.size + 1) 3 i0 (.int .i64 0) 1 8 Tryd.underlying32 hi hz0 hz1 hz2 rfl (by decide) u12 p (cellsOf .i64 p fa) (by rfl) X2.out.1.a ⟨wr.heap.size, 0, none⟩ 1 1 [.int .i64 xa] (by rfl) rfl (news1 X2.out.2.1) (by simp [Value.oneCell']) (by decide) (by unfold maxLen; omega) (by omega) X2.out.1.sz _ rfl ?_; intro g cap w2 hown hgrow hat hglt; have hA2 := TwoR.more X2.out.1 HVV.out.1.symm hown hgrow hat; have hC2 := Lib.hid (TwoR.cell hgrow X2.out.2.2 HL.out.2); clear hown hgrow hat))
          | ((refine step_append_lies _ (by rfl) (.tmp 61) (.tmp 67) 32 (by rfl) (w.heap.size + 1) 3 i0 (.int .i64 0) 1 8 Tryd.underlying32 hi hz0 hz1 hz2 rfl (by decide) u12 p (cellsOf .i64 p fa) (by rfl) X3.out.1.a ⟨(wr.heap.size + 1), 0, none⟩ 1 1 [.int .i64 xa] (by rfl) rfl (news1 X3.out.2.2) (by simp [Value.oneCell']) (by decide) (by unfold maxLen; omega) (by omega) X3.out.1.sz _ rfl ?_; intro g cap w2 hown hgrow hat hglt; have hA3 := TwoR.more X3.out.1 HVV.out.1.symm hown hgrow hat; have hC3 := Lib.hid (TwoR.cell hgrow X3.out.2.1 HL.out.1); clear hown hgrow hat))
          | ((refine step_append_lies _ (by rfl) (.tmp 69) (.tmp 75) 32 (by rfl) (w.heap.size + 1) 3 i0 (.int .i64 0) 1 8 Tryd.underlying32 hi hz0 hz1 hz2 rfl (by decide) u13 p (cellsOf .i64 p fl) (by rfl) (hA1.alloc (.cells #[.int .i64 xl] 3)).b ⟨w2.heap.size, 0, none⟩ 1 1 [.int .i64 xl] (by rfl) rfl (cell_one_new w2 _ _) (by simp [Value.oneCell']) (by decide) (by unfold maxLen; omega) (by omega) (hA1.alloc (.cells #[.int .i64 xl] 3)).sz _ rfl ?_; intro g cap w3 hown hgrow hat hglt3; have hB := TwoR.moreb (hA1.alloc (.cells #[.int .i64 xl] 3)) HVV.out.2.symm hown hgrow hat; clear hown hgrow hat))
          | ((refine step_append_lies _ (by rfl) (.tmp 69) (.tmp 75) 32 (by rfl) (w.heap.size + 1) 3 i0 (.int .i64 0) 1 8 Tryd.underlying32 hi hz0 hz1 hz2 rfl (by decide) u13 p (cellsOf .i64 p fl) (by rfl) hA2.b ⟨(wr.heap.size + 1), 0, none⟩ 1 1 [.int .i64 xl] (by rfl) rfl (news1 hC2.out) (by simp [Value.oneCell']) (by decide) (by unfold maxLen; omega) (by omega) hA2.sz _ rfl ?_; intro g cap w3 hown hgrow hat hglt3; have hB := TwoR.moreb hA2 HVV.out.2.symm hown hgrow hat; clear hown hgrow hat))
          | ((refine step_append_lies _ (by rfl) (.tmp 69) (.tmp 75) 32 (by rfl) (w.heap.size + 1) 3 i0 (.int .i64 0) 1 8 Tryd.underlying32 hi hz0 hz1 hz2 rfl (by decide) u13 p (cellsOf .i64 p fl) (by rfl) hA3.b ⟨wr.heap.size, 0, none⟩ 1 1 [.int .i64 xl] (by rfl) rfl (news1 hC3.out) (by simp [Value.oneCell']) (by decide) (by unfold maxLen; omega) (by omega) hA3.sz _ rfl ?_; intro g cap w3 hown hgrow hat hglt3; have hB := TwoR.moreb hA3 HVV.out.2.symm hown hgrow hat; clear hown hgrow hat)))
      all_goals
        have HB := Lib.hid ‹TwoR w _ [.bool true, .bool true] _ _ (p + 1) (p + 1) fa fl›
        clear X1 X2 X3 HL hR HVV c0 c1
        go_wp2
        go_roundw
        case rel => exact ⟨p + 1, by omega, by go_num, HB⟩
        case measure => simp [intOf]; omega
    · obtain rfl : p = 16 := by omega
      have s0 := hR.out.box.cell 0 (v := .bool true) rfl
      have s1 := hR.out.box.cell 1 (v := .bool true) rfl
      obtain ⟨a1, c1, rfl, _, o1⟩ := own_of_cells hR.out.a
      obtain ⟨a2, c2, rfl, _, o2⟩ := own_of_cells hR.out.b
      have HO := Lib.hid (And.intro o1.arg o2.arg); clear o1 o2
      have hsz : w.heap.size < wr.heap.size := hR.out.sz
      go_wp2_with fail
      go_region_held3 (fun w' => w'.cell? ⟨w.heap.size, 0, none⟩ = some (.bool true) ∧ w'.cell? ⟨w.heap.size, 1, none⟩ = some (.bool true)) (first | go_keep | exact keep2 ‹Below _ wr.drew _› hsz s0 s1)
        (first
          | (go_at_call 30; refine (byteOf_id corner _ hc0 hc1).mono ?_; rintro e w' ⟨rfl, rfl⟩)
          | (go_at_call 41; refine (fore_tm a1 c1 fa a2 c2 fl corner wr.drew (HO.out.1.drewN 1) (HO.out.2.drewN 1) HF.out.1 HF.out.2 hc0 hc1).mono ?_; rintro e w4 ⟨⟨a4, c4, rfl, ho4⟩, hb4⟩; have hb5 := hb4)
          | (go_at_call 32; refine (bytesOf_any a4 256 c4 (rowF (fun j i => hld 0 255 (fl j + fa i - corner))) w4 (by decide) ho4.arg (rowF_in (fun _ _ => hld_range (by decide) _))).mono ?_; rintro e w6 ⟨⟨a6, c6, rfl, ho6⟩, hb6⟩; have hb5 := hb4.trans (hb6.mono hb4.size)))
      have H6 : Hid (Own .u8 w.heap.size w6 a6 256 (rowF (fun j i => hld 0 255 (fl j + fa i - corner))) ∧ Below w.heap.size w w6) := Lib.hid ⟨ho6.mono (Nat.le_trans (Nat.le_of_lt hsz) hb4.size), (below_drewN hR.out.bel 1).trans (hb5.mono (Nat.le_of_lt hsz))⟩
      clear ho6 hb4 hb5 hb6 ho4
      go_wp2
      go_ret
      exact ⟨⟨_, _, rfl, H6.out.1⟩, H6.out.2⟩
theorem sp16_tm (aa : Option Addr) (ca : Nat) (fa : Nat → Int) (al : Option Addr) (cl : Nat) (fl : Nat → Int) (corner : Int) (w : World) (ha : Arg .u8 w aa 16 fa) (hl : Arg .u8 w al 16 fl) (hfa : ∀ k, 0 ≤ fa k ∧ fa k ≤ 255) (hfl : ∀ k, 0 ≤ fl k ∧ fl k ≤ 255) (hc0 : 0 ≤ corner) (hc1 : corner ≤ 255) :
    Calls Tryd.prog 11 #[.int .i64 1, .int .i64 corner, .slice aa 16 ca, .slice al 16 cl] w fun e w' => (∃ a' c', e = .returned (.slice a' 256 c') ∧ Own .u8 w.heap.size w' a' 256 (rowF (fun j i => hld 0 255 (fl j + fa i - corner)))) ∧ Below w.heap.size w w' := by
  have H := Lib.hid (And.intro ha (And.intro hl (And.intro hfa hfl))); clear ha hl hfa hfl
  go_enter Tryd.func11, Tryd.ntmps11
  go_wp2_with fail
  refine (pl16_tm aa ca fa al cl fl corner w H.out.1 H.out.2.1 H.out.2.2.1 H.out.2.2.2 hc0 hc1).mono ?_
  rintro _ w1 ⟨⟨a', c', rfl, ho⟩, hb⟩
  have H1 := Lib.hid (And.intro ho hb); clear ho hb
  go_wp2
  go_ret
  exact ⟨⟨_, _, rfl, H1.out.1⟩, H1.out.2⟩

set_option maxRecDepth 100000 in
set_option maxHeartbeats 4000000 in
theorem pl16_ve (aa : Option Addr) (ca : Nat) (fa : Nat → Int) (al : Option Addr) (cl : Nat) (fl : Nat → Int) (corner : Int) (w : World) (ha : Arg .u8 w aa 16 fa) (hl : Arg .u8 w al 16 fl) (hfa : ∀ k, 0 ≤ fa k ∧ fa k ≤ 255) (hfl : ∀ k, 0 ≤ fl k ∧ fl k ≤ 255) (hc0 : 0 ≤ corner) (hc1 : corner ≤ 255) :
    Calls Tryd.prog 25 #[.int .i64 16, .int .i64 2, .int .i64 corner, .slice aa 16 ca, .slice al 16 cl] w fun e w' => (∃ a' c', e = .returned (.slice a' 256 c') ∧ Own .u8 w.heap.size w' a' 256 (rowF (fun j i => fa i))) ∧ Below w.heap.size w w' := by
  obtain ⟨i0, hi, hz0, hz1, hz2⟩ := info_parts infoI
  obtain ⟨ga, oa, rfl, hga, ra⟩ := ha (by decide)
  obtain ⟨gl, ol, rfl, hgl, rl⟩ := hl (by decide)
  have HF := Lib.hid (And.intro hfa hfl)
  have HA := Lib.hid (And.intro ra rl)
  have HG := Lib.hid (And.intro hga hgl)
  have HB := Lib.hid (obj_new w 68 [.bool true, .bool true])
  clear ha hl hfa hfl ra rl hga hgl
  go_enter Tryd.func25, Tryd.ntmps25
  go_wp2
  have HW : Hid (TwoR w (w.alloc (.cells #[.bool true, .bool true] 68)) [.bool true, .bool true] (.slice none 0 0) (.slice none 0 0) 0 0 fa fl) :=
    Lib.hid ⟨World.ownsRow_nil _ _ _ _, World.ownsRow_nil _ _ _ _, (fun k hk => by cases hk), (Below.refl _ _).alloc (Nat.le_refl _) _, HB.out⟩
  clear HB
  generalize World.alloc w _ = w1 at HW ⊢
  go_loopw [12, 13, 14] (fun va vb i wr => ∃ p : Nat, p ≤ 16 ∧ i = .int .i64 p ∧ Hid (TwoR w wr [.bool true, .bool true] va vb p p fa fl)) (fun _ _ i _ => 16 - (intOf i).toNat)
  case atStart => exact ⟨0, by omega, rfl, HW⟩
  case round =>
    obtain ⟨p, hp, rfl, hR⟩ := hrel
    by_cases hlt : p < 16
    · obtain ⟨c0, c1⟩ := hR.out.src HA.out HG.out hlt ⟨rfl, rfl⟩
      obtain ⟨x0, x1⟩ := HF.out.1 p
      obtain ⟨y0, y1⟩ := HF.out.2 p
      generalize hva : fa p = xa at c0 x0 x1
      generalize hvl : fl p = xl at c1 y0 y1
      have HVV := Lib.hid (And.intro hva hvl); clear hva hvl
      have q0 : IntKind.i64.wrap xa = xa := IntWalk.i64_in _ (by omega)
      have q1 : IntKind.i64.wrap xl = xl := IntWalk.i64_in _ (by omega)
      have HL : Hid ((∀ j, u12.ownBlock = some j → j < wr.heap.size) ∧ ∀ j, u12.ownBlock = some j → j < wr.heap.size + 1) := Lib.hid ⟨fun j h => (hR.out.a.lt j h).2, fun j h => Nat.lt_succ_of_lt (hR.out.a.lt j h).2⟩
      have X1 : Hid (TwoR w (wr.alloc (.cells #[.int .i64 xa] 3)).drew [.bool true, .bool true] u12 u13 p p fa fl ∧ (wr.alloc (.cells #[.int .i64 xa] 3)).drew.cell? ⟨wr.heap.size, 0, none⟩ = some (.int .i64 xa)) := Lib.hid ⟨(hR.out.alloc _).drew, cell_of_row _ _ 0 _ _ _ (heap_alloc_new wr _)⟩
      have X2 : Hid (TwoR w ((wr.alloc (.cells #[.int .i64 xa] 3)).alloc (.cells #[.int .i64 xl] 3)).drew [.bool true, .bool true] u12 u13 p p fa fl ∧ ((wr.alloc (.cells #[.int .i64 xa] 3)).alloc (.cells #[.int .i64 xl] 3)).drew.cell? ⟨wr.heap.size, 0, none⟩ = some (.int .i64 xa) ∧ ((wr.alloc (.cells #[.int .i64 xa] 3)).alloc (.cells #[.int .i64 xl] 3)).drew.cell? ⟨wr.heap.size + 1, 0, none⟩ = some (.int .i64 xl)) := Lib.hid ⟨((hR.out.alloc _).alloc _).drew, by simp, by simp⟩
      have X3 : Hid (TwoR w ((wr.alloc (.cells #[.int .i64 xl] 3)).alloc (.cells #[.int .i64 xa] 3)).drew [.bool true, .bool true] u12 u13 p p fa fl ∧ ((wr.alloc (.cells #[.int .i64 xl] 3)).alloc (.cells #[.int .i64 xa] 3)).drew.cell? ⟨wr.heap.size, 0, none⟩ = some (.int .i64 xl) ∧ ((wr.alloc (.cells #[.int .i64 xl] 3)).alloc (.cells #[.int .i64 xa] 3)).drew.cell? ⟨wr.heap.size + 1, 0, none⟩ = some (.int .i64 xa)) := Lib.hid ⟨((hR.out.alloc _).alloc _).drew, by simp, by simp⟩
      go_wp2_with fail
      go_region_held3 (fun w' => w'.cell? ⟨ga, oa + p, none⟩ = some (.int .u8 xa) ∧ w'.cell? ⟨gl, ol + p, none⟩ = some (.int .u8 xl)) (first | go_keep | exact TwoR.src ‹TwoR w _ [.bool true, .bool true] _ _ (p + 1) _ _ _› HA.out HG.out hlt HVV.out)
        (first
          | ((refine step_append_lies _ (by rfl) (.tmp 61) (.tmp 67) 32 (by rfl) (w.heap.size + 1) 3 i0 (.int .i64 0) 1 8 Tryd.underlying32 hi hz0 hz1 hz2 rfl (by decide) u12 p (cellsOf .i64 p fa) (by rfl) X1.out.1.a ⟨wr.heap.size, 0, none⟩ 1 1 [.int .i64 xa] (by rfl) rfl (news1 X1.out.2) (by simp [Value.oneCell']) (by decide) (by unfold maxLen; omega) (by omega) X1.out.1.sz _ rfl ?_; intro g cap w2 hown hgrow hat hglt; have hA1 := TwoR.more X1.out.1 HVV.out.1.symm hown hgrow hat; clear hown hgrow hat))
          | ((refine step_append_lies _ (by rfl) (.tmp 61) (.tmp 67) 32 (by rfl) (w.heap.size + 1) 3 i0 (.int .i64 0) 1 8 Tryd.underlying32 hi hz0 hz1 hz2 rfl (by decide) u12 p (cellsOf .i64 p fa) (by rfl) X2.out.1.a ⟨wr.heap.size, 0, none⟩ 1 1 [.int .i64 xa] (by rfl) rfl (news1 X2.out.2.1) (by simp [Value.oneCell']) (by decide) (by unfold maxLen; omega) (by omega) X2.out.1.sz _ rfl ?_; intro g cap w2 hown hgrow hat hglt; have hA2 := TwoR.more X2.out.1 HVV.out.1.symm hown hgrow hat; have hC2 := Lib.hid (TwoR.cell hgrow X2.out.2.2 HL.out.2); clear hown hgrow hat))
          | ((refine step_append_lies _ (by rfl) (.tmp 61) (.tmp 67) 32 (by rfl) (w.heap.size + 1) 3 i0 (.int .i64 0) 1 8 Tryd.underlying32 hi hz0 hz1 hz2 rfl (by decide) u12 p (cellsOf .i64 p fa) (by rfl) X3.out.1.a ⟨(wr.heap.size + 1), 0, none⟩ 1 1 [.int .i64 xa] (by rfl) rfl (news1 X3.out.2.2) (by simp [Value.oneCell']) (by decide) (by unfold maxLen; omega) (by omega) X3.out.1.sz _ rfl ?_; intro g cap w2 hown hgrow hat hglt; have hA3 := TwoR.more X3.out.1 HVV.out.1.symm hown hgrow hat; have hC3 := Lib.hid (TwoR.cell hgrow X3.out.2.1 HL.out.1); clear hown hgrow hat))
          | ((refine step_append_lies _ (by rfl) (.tmp 69) (.tmp 75) 32 (by rfl) (w.heap.size + 1) 3 i0 (.int .i64 0) 1 8 Tryd.underlying32 hi hz0 hz1 hz2 rfl (by decide) u13 p (cellsOf .i64 p fl) (by rfl) (hA1.alloc (.cells #[.int .i64 xl] 3)).b ⟨w2.heap.size, 0, none⟩ 1 1 [.int .i64 xl] (by rfl) rfl (cell_one_new w2 _ _) (by simp [Value.oneCell']) (by decide) (by unfold maxLen; omega) (by omega) (hA1.alloc (.cells #[.int .i64 xl] 3)).sz _ rfl ?_; intro g cap w3 hown hgrow hat hglt3; have hB := TwoR.moreb (hA1.alloc (.cells #[.int .i64 xl] 3)) HVV.out.2.symm hown hgrow hat; clear hown hgrow hat))
          | ((refine step_append_lies _ (by rfl) (.tmp 69) (.tmp 75) 32 (by rfl) (w.heap.size + 1) 3 i0 (.int .i64 0) 1 8 Tryd.underlying32 hi hz0 hz1 hz2 rfl (by decide) u13 p (cellsOf .i64 p fl) (by rfl) hA2.b ⟨(wr.heap.size + 1), 0, none⟩ 1 1 [.int .i64 xl] (by rfl) rfl (news1 hC2.out) (by simp [Value.oneCell']) (by decide) (by unfold maxLen; omega) (by omega) hA2.sz _ rfl ?_; intro g cap w3 hown hgrow hat hglt3; have hB := TwoR.moreb hA2 HVV.out.2.symm hown hgrow hat; clear hown hgrow hat))
          | ((refine step_append_lies _ (by rfl) (.tmp 69) (.tmp 75) 32 (by rfl) (w.heap.size + 1) 3 i0 (.int .i64 0) 1 8 Tryd.underlying32 hi hz0 hz1 hz2 rfl (by decide) u13 p (cellsOf .i64 p fl) (by rfl) hA3.b ⟨wr.heap.size, 0, none⟩ 1 1 [.int .i64 xl] (by rfl) rfl (news1 hC3.out) (by simp [Value.oneCell']) (by decide) (by unfold maxLen; omega) (by omega) hA3.sz _ rfl ?_; intro g cap w3 hown hgrow hat hglt3; have hB := TwoR.moreb hA3 HVV.out.2.symm hown hgrow hat; clear hown hgrow hat)))
      all_goals
        have HB := Lib.hid ‹TwoR w _ [.bool true, .bool true] _ _ (p + 1) (p + 1) fa fl›
        clear X1 X2 X3 HL hR HVV c0 c1
        go_wp2
        go_roundw
        case rel => exact ⟨p + 1, by omega, by go_num, HB⟩
        case measure => simp [intOf]; omega
    · obtain rfl : p = 16 := by omega
      have s0 := hR.out.box.cell 0 (v := .bool true) rfl
      have s1 := hR.out.box.cell 1 (v := .bool true) rfl
      obtain ⟨a1, c1, rfl, _, o1⟩ := own_of_cells hR.out.a
      obtain ⟨a2, c2, rfl, _, o2⟩ := own_of_cells hR.out.b
      have HO := Lib.hid (And.intro o1.arg o2.arg); clear o1 o2
      have hsz : w.heap.size < wr.heap.size := hR.out.sz
      go_wp2_with fail
      go_region_held3 (fun w' => w'.cell? ⟨w.heap.size, 0, none⟩ = some (.bool true) ∧ w'.cell? ⟨w.heap.size, 1, none⟩ = some (.bool true)) (first | go_keep | exact keep2 ‹Below _ wr.drew _› hsz s0 s1)
        (first
          | (go_at_call 30; refine (byteOf_id corner _ hc0 hc1).mono ?_; rintro e w' ⟨rfl, rfl⟩)
          | (go_at_call 41; refine (fore_ve a1 c1 fa a2 c2 fl corner wr.drew (HO.out.1.drewN 1) (HO.out.2.drewN 1) HF.out.1 HF.out.2 hc0 hc1).mono ?_; rintro e w4 ⟨⟨a4, c4, rfl, ho4⟩, hb4⟩; have hb5 := hb4)
          | (go_at_call 32; refine (bytesOf_any a4 256 c4 (rowF (fun j i => fa i)) w4 (by decide) ho4.arg (rowF_in (fun _ i => HF.out.1 i))).mono ?_; rintro e w6 ⟨⟨a6, c6, rfl, ho6⟩, hb6⟩; have hb5 := hb4.trans (hb6.mono hb4.size)))
      have H6 : Hid (Own .u8 w.heap.size w6 a6 256 (rowF (fun j i => fa i)) ∧ Below w.heap.size w w6) := Lib.hid ⟨ho6.mono (Nat.le_trans (Nat.le_of_lt hsz) hb4.size), (below_drewN hR.out.bel 1).trans (hb5.mono (Nat.le_of_lt hsz))⟩
      clear ho6 hb4 hb5 hb6 ho4
      go_wp2
      go_ret
      exact ⟨⟨_, _, rfl, H6.out.1⟩, H6.out.2⟩
theorem sp16_ve (aa : Option Addr) (ca : Nat) (fa : Nat → Int) (al : Option Addr) (cl : Nat) (fl : Nat → Int) (corner : Int) (w : World) (ha : Arg .u8 w aa 16 fa) (hl : Arg .u8 w al 16 fl) (hfa : ∀ k, 0 ≤ fa k ∧ fa k ≤ 255) (hfl : ∀ k, 0 ≤ fl k ∧ fl k ≤ 255) (hc0 : 0 ≤ corner) (hc1 : corner ≤ 255) :
    Calls Tryd.prog 11 #[.int .i64 2, .int .i64 corner, .slice aa 16 ca, .slice al 16 cl] w fun e w' => (∃ a' c', e = .returned (.slice a' 256 c') ∧ Own .u8 w.heap.size w' a' 256 (rowF (fun j i => fa i))) ∧ Below w.heap.size w w' := by
  have H := Lib.hid (And.intro ha (And.intro hl (And.intro hfa hfl))); clear ha hl hfa hfl
  go_enter Tryd.func11, Tryd.ntmps11
  go_wp2_with fail
  refine (pl16_ve aa ca fa al cl fl corner w H.out.1 H.out.2.1 H.out.2.2.1 H.out.2.2.2 hc0 hc1).mono ?_
  rintro _ w1 ⟨⟨a', c', rfl, ho⟩, hb⟩
  have H1 := Lib.hid (And.intro ho hb); clear ho hb
  go_wp2
  go_ret
  exact ⟨⟨_, _, rfl, H1.out.1⟩, H1.out.2⟩

set_option maxRecDepth 100000 in
set_option maxHeartbeats 4000000 in
theorem pl16_he (aa : Option Addr) (ca : Nat) (fa : Nat → Int) (al : Option Addr) (cl : Nat) (fl : Nat → Int) (corner : Int) (w : World) (ha : Arg .u8 w aa 16 fa) (hl : Arg .u8 w al 16 fl) (hfa : ∀ k, 0 ≤ fa k ∧ fa k ≤ 255) (hfl : ∀ k, 0 ≤ fl k ∧ fl k ≤ 255) (hc0 : 0 ≤ corner) (hc1 : corner ≤ 255) :
    Calls Tryd.prog 25 #[.int .i64 16, .int .i64 3, .int .i64 corner, .slice aa 16 ca, .slice al 16 cl] w fun e w' => (∃ a' c', e = .returned (.slice a' 256 c') ∧ Own .u8 w.heap.size w' a' 256 (rowF (fun j i => fl j))) ∧ Below w.heap.size w w' := by
  obtain ⟨i0, hi, hz0, hz1, hz2⟩ := info_parts infoI
  obtain ⟨ga, oa, rfl, hga, ra⟩ := ha (by decide)
  obtain ⟨gl, ol, rfl, hgl, rl⟩ := hl (by decide)
  have HF := Lib.hid (And.intro hfa hfl)
  have HA := Lib.hid (And.intro ra rl)
  have HG := Lib.hid (And.intro hga hgl)
  have HB := Lib.hid (obj_new w 68 [.bool true, .bool true])
  clear ha hl hfa hfl ra rl hga hgl
  go_enter Tryd.func25, Tryd.ntmps25
  go_wp2
  have HW : Hid (TwoR w (w.alloc (.cells #[.bool true, .bool true] 68)) [.bool true, .bool true] (.slice none 0 0) (.slice none 0 0) 0 0 fa fl) :=
    Lib.hid ⟨World.ownsRow_nil _ _ _ _, World.ownsRow_nil _ _ _ _, (fun k hk => by cases hk), (Below.refl _ _).alloc (Nat.le_refl _) _, HB.out⟩
  clear HB
  generalize World.alloc w _ = w1 at HW ⊢
  go_loopw [12, 13, 14] (fun va vb i wr => ∃ p : Nat, p ≤ 16 ∧ i = .int .i64 p ∧ Hid (TwoR w wr [.bool true, .bool true] va vb p p fa fl)) (fun _ _ i _ => 16 - (intOf i).toNat)
  case atStart => exact ⟨0, by omega, rfl, HW⟩
  case round =>
    obtain ⟨p, hp, rfl, hR⟩ := hrel
    by_cases hlt : p < 16
    · obtain ⟨c0, c1⟩ := hR.out.src HA.out HG.out hlt ⟨rfl, rfl⟩
      obtain ⟨x0, x1⟩ := HF.out.1 p
      obtain ⟨y0, y1⟩ := HF.out.2 p
      generalize hva : fa p = xa at c0 x0 x1
      generalize hvl : fl p = xl at c1 y0 y1
      have HVV := Lib.hid (And.intro hva hvl); clear hva hvl
      have q0 : IntKind.i64.wrap xa = xa := IntWalk.i64_in _ (by omega)
      have q1 : IntKind.i64.wrap xl = xl := IntWalk.i64_in _ (by omega)
      have HL : Hid ((∀ j, u12.ownBlock = some j → j < wr.heap.size) ∧ ∀ j, u12.ownBlock = some j → j < wr.heap.size + 1) := Lib.hid ⟨fun j h => (hR.out.a.lt j h).2, fun j h => Nat.lt_succ_of_lt (hR.out.a.lt j h).2⟩
      have X1 : Hid (TwoR w (wr.alloc (.cells #[.int .i64 xa] 3)).drew [.bool true, .bool true] u12 u13 p p fa fl ∧ (wr.alloc (.cells #[.int .i64 xa] 3)).drew.cell? ⟨wr.heap.size, 0, none⟩ = some (.int .i64 xa)) := Lib.hid ⟨(hR.out.alloc _).drew, cell_of_row _ _ 0 _ _ _ (heap_alloc_new wr _)⟩
      have X2 : Hid (TwoR w ((wr.alloc (.cells #[.int .i64 xa] 3)).alloc (.cells #[.int .i64 xl] 3)).drew [.bool true, .bool true] u12 u13 p p fa fl ∧ ((wr.alloc (.cells #[.int .i64 xa] 3)).alloc (.cells #[.int .i64 xl] 3)).drew.cell? ⟨wr.heap.size, 0, none⟩ = some (.int .i64 xa) ∧ ((wr.alloc (.cells #[.int .i64 xa] 3)).alloc (.cells #[.int .i64 xl] 3)).drew.cell? ⟨wr.heap.size + 1, 0, none⟩ = some (.int .i64 xl)) := Lib.hid ⟨((hR.out.alloc _).alloc _).drew, by simp, by simp⟩
      have X3 : Hid (TwoR w ((wr.alloc (.cells #[.int .i64 xl] 3)).alloc (.cells #[.int .i64 xa] 3)).drew [.bool true, .bool true] u12 u13 p p fa fl ∧ ((wr.alloc (.cells #[.int .i64 xl] 3)).alloc (.cells #[.int .i64 xa] 3)).drew.cell? ⟨wr.heap.size, 0, none⟩ = some (.int .i64 xl) ∧ ((wr.alloc (.cells #[.int .i64 xl] 3)).alloc (.cells #[.int .i64 xa] 3)).drew.cell? ⟨wr.heap.size + 1, 0, none⟩ = some (.int .i64 xa)) := Lib.hid ⟨((hR.out.alloc _).alloc _).drew, by simp, by simp⟩
      go_wp2_with fail
      go_region_held3 (fun w' => w'.cell? ⟨ga, oa + p, none⟩ = some (.int .u8 xa) ∧ w'.cell? ⟨gl, ol + p, none⟩ = some (.int .u8 xl)) (first | go_keep | exact TwoR.src ‹TwoR w _ [.bool true, .bool true] _ _ (p + 1) _ _ _› HA.out HG.out hlt HVV.out)
        (first
          | ((refine step_append_lies _ (by rfl) (.tmp 61) (.tmp 67) 32 (by rfl) (w.heap.size + 1) 3 i0 (.int .i64 0) 1 8 Tryd.underlying32 hi hz0 hz1 hz2 rfl (by decide) u12 p (cellsOf .i64 p fa) (by rfl) X1.out.1.a ⟨wr.heap.size, 0, none⟩ 1 1 [.int .i64 xa] (by rfl) rfl (news1 X1.out.2) (by simp [Value.oneCell']) (by decide) (by unfold maxLen; omega) (by omega) X1.out.1.sz _ rfl ?_; intro g cap w2 hown hgrow hat hglt; have hA1 := TwoR.more X1.out.1 HVV.out.1.symm hown hgrow hat; clear hown hgrow hat))
          | ((refine step_append_lies _ (by rfl) (.tmp 61) (.tmp 67) 32 (by rfl) (w.heap.size + 1) 3 i0 (.int .i64 0) 1 8 Tryd.underlying32 hi hz0 hz1 hz2 rfl (by decide) u12 p (cellsOf .i64 p fa) (by rfl) X2.out.1.a ⟨wr.heap.size, 0, none⟩ 1 1 [.int .i64 xa] (by rfl) rfl (news1 X2.out.2.1) (by simp [Value.oneCell']) (by decide) (by unfold maxLen; omega) (by omega) X2.out.1.sz _ rfl ?_; intro g cap w2 hown hgrow hat hglt; have hA2 := TwoR.more X2.out.1 HVV.out.1.symm hown hgrow hat; have hC2 := Lib.hid (TwoR.cell hgrow X2.out.2.2 HL.out.2); clear hown hgrow hat))
          | ((refine step_append_lies _ (by rfl) (.tmp 61) (.tmp 67) 32 (by rfl) (w.heap.size + 1) 3 i0 (.int .i64 0) 1 8 Tryd.underlying32 hi hz0 hz1 hz2 rfl (by decide) u12 p (cellsOf .i64 p fa) (by rfl) X3.out.1.a ⟨(wr.heap.size + 1), 0, none⟩ 1 1 [.int .i64 xa] (by rfl) rfl (news1 X3.out.2.2) (by simp [Value.oneCell']) (by decide) (by unfold maxLen; omega) (by omega) X3.out.1.sz _ rfl ?_; intro g cap w2 hown hgrow hat hglt; have hA3 := TwoR.more X3.out.1 HVV.out.1.symm hown hgrow hat; have hC3 := Lib.hid (TwoR.cell hgrow X3.out.2.1 HL.out.1); clear hown hgrow hat))
          | ((refine step_append_lies _ (by rfl) (.tmp 69) (.tmp 75) 32 (by rfl) (w.heap.size + 1) 3 i0 (.int .i64 0) 1 8 Tryd.underlying32 hi hz0 hz1 hz2 rfl (by decide) u13 p (cellsOf .i64 p fl) (by rfl) (hA1.alloc (.cells #[.int .i64 xl] 3)).b ⟨w2.heap.size, 0, none⟩ 1 1 [.int .i64 xl] (by rfl) rfl (cell_one_new w2 _ _) (by simp [Value.oneCell']) (by decide) (by unfold maxLen; omega) (by omega) (hA1.alloc (.cells #[.int .i64 xl] 3)).sz _ rfl ?_; intro g cap w3 hown hgrow hat hglt3; have hB := TwoR.moreb (hA1.alloc (.cells #[.int .i64 xl] 3)) HVV.out.2.symm hown hgrow hat; clear hown hgrow hat))
          | ((refine step_append_lies _ (by rfl) (.tmp 69) (.tmp 75) 32 (by rfl) (w.heap.size + 1) 3 i0 (.int .i64 0) 1 8 Tryd.underlying32 hi hz0 hz1 hz2 rfl (by decide) u13 p (cellsOf .i64 p fl) (by rfl) hA2.b ⟨(wr.heap.size + 1), 0, none⟩ 1 1 [.int .i64 xl] (by rfl) rfl (news1 hC2.out) (by simp [Value.oneCell']) (by decide) (by unfold maxLen; omega) (by omega) hA2.sz _ rfl ?_; intro g cap w3 hown hgrow hat hglt3; have hB := TwoR.moreb hA2 HVV.out.2.symm hown hgrow hat; clear hown hgrow hat))
          | ((refine step_append_lies _ (by rfl) (.tmp 69) (.tmp 75) 32 (by rfl) (w.heap.size + 1) 3 i0 (.int .i64 0) 1 8 Tryd.underlying32 hi hz0 hz1 hz2 rfl (by decide) u13 p (cellsOf .i64 p fl) (by rfl) hA3.b ⟨wr.heap.size, 0, none⟩ 1 1 [.int .i64 xl] (by rfl) rfl (news1 hC3.out) (by simp [Value.oneCell']) (by decide) (by unfold maxLen; omega) (by omega) hA3.sz _ rfl ?_; intro g cap w3 hown hgrow hat hglt3; have hB := TwoR.moreb hA3 HVV.out.2.symm hown hgrow hat; clear hown hgrow hat)))
      all_goals
        have HB := Lib.hid ‹TwoR w _ [.bool true, .bool true] _ _ (p + 1) (p + 1) fa fl›
        clear X1 X2 X3 HL hR HVV c0 c1
        go_wp2
        go_roundw
        case rel => exact ⟨p + 1, by omega, by go_num, HB⟩
        case measure => simp [intOf]; omega
    · obtain rfl : p = 16 := by omega
      have s0 := hR.out.box.cell 0 (v := .bool true) rfl
      have s1 := hR.out.box.cell 1 (v := .bool true) rfl
      obtain ⟨a1, c1, rfl, _, o1⟩ := own_of_cells hR.out.a
      obtain ⟨a2, c2, rfl, _, o2⟩ := own_of_cells hR.out.b
      have HO := Lib.hid (And.intro o1.arg o2.arg); clear o1 o2
      have hsz : w.heap.size < wr.heap.size := hR.out.sz
      go_wp2_with fail
      go_region_held3 (fun w' => w'.cell? ⟨w.heap.size, 0, none⟩ = some (.bool true) ∧ w'.cell? ⟨w.heap.size, 1, none⟩ = some (.bool true)) (first | go_keep | exact keep2 ‹Below _ wr.drew _› hsz s0 s1)
        (first
          | (go_at_call 30; refine (byteOf_id corner _ hc0 hc1).mono ?_; rintro e w' ⟨rfl, rfl⟩)
          | (go_at_call 41; refine (fore_he a1 c1 fa a2 c2 fl corner wr.drew (HO.out.1.drewN 1) (HO.out.2.drewN 1) HF.out.1 HF.out.2 hc0 hc1).mono ?_; rintro e w4 ⟨⟨a4, c4, rfl, ho4⟩, hb4⟩; have hb5 := hb4)
          | (go_at_call 32; refine (bytesOf_any a4 256 c4 (rowF (fun j i => fl j)) w4 (by decide) ho4.arg (rowF_in (fun j _ => HF.out.2 j))).mono ?_; rintro e w6 ⟨⟨a6, c6, rfl, ho6⟩, hb6⟩; have hb5 := hb4.trans (hb6.mono hb4.size)))
      have H6 : Hid (Own .u8 w.heap.size w6 a6 256 (rowF (fun j i => fl j)) ∧ Below w.heap.size w w6) := Lib.hid ⟨ho6.mono (Nat.le_trans (Nat.le_of_lt hsz) hb4.size), (below_drewN hR.out.bel 1).trans (hb5.mono (Nat.le_of_lt hsz))⟩
      clear ho6 hb4 hb5 hb6 ho4
      go_wp2
      go_ret
      exact ⟨⟨_, _, rfl, H6.out.1⟩, H6.out.2⟩
theorem sp16_he (aa : Option Addr) (ca : Nat) (fa : Nat → Int) (al : Option Addr) (cl : Nat) (fl : Nat → Int) (corner : Int) (w : World) (ha : Arg .u8 w aa 16 fa) (hl : Arg .u8 w al 16 fl) (hfa : ∀ k, 0 ≤ fa k ∧ fa k ≤ 255) (hfl : ∀ k, 0 ≤ fl k ∧ fl k ≤ 255) (hc0 : 0 ≤ corner) (hc1 : corner ≤ 255) :
    Calls Tryd.prog 11 #[.int .i64 3, .int .i64 corner, .slice aa 16 ca, .slice al 16 cl] w fun e w' => (∃ a' c', e = .returned (.slice a' 256 c') ∧ Own .u8 w.heap.size w' a' 256 (rowF (fun j i => fl j))) ∧ Below w.heap.size w w' := by
  have H := Lib.hid (And.intro ha (And.intro hl (And.intro hfa hfl))); clear ha hl hfa hfl
  go_enter Tryd.func11, Tryd.ntmps11
  go_wp2_with fail
  refine (pl16_he aa ca fa al cl fl corner w H.out.1 H.out.2.1 H.out.2.2.1 H.out.2.2.2 hc0 hc1).mono ?_
  rintro _ w1 ⟨⟨a', c', rfl, ho⟩, hb⟩
  have H1 := Lib.hid (And.intro ho hb); clear ho hb
  go_wp2
  go_ret
  exact ⟨⟨_, _, rfl, H1.out.1⟩, H1.out.2⟩

set_option maxRecDepth 100000 in
set_option maxHeartbeats 4000000 in
theorem pl16_left (aa : Option Addr) (ca : Nat) (fa : Nat → Int) (al : Option Addr) (cl : Nat) (fl : Nat → Int) (corner : Int) (w : World) (ha : Arg .u8 w aa 16 fa) (hl : Arg .u8 w al 16 fl) (hfa : ∀ k, 0 ≤ fa k ∧ fa k ≤ 255) (hfl : ∀ k, 0 ≤ fl k ∧ fl k ≤ 255) (hc0 : 0 ≤ corner) (hc1 : corner ≤ 255) :
    Calls Tryd.prog 25 #[.int .i64 16, .int .i64 10, .int .i64 corner, .slice aa 16 ca, .slice al 16 cl] w fun e w' => (∃ a' c', e = .returned (.slice a' 256 c') ∧ Own .u8 w.heap.size w' a' 256 (rowF (fun j i => (sumF fl 16 + 8) / 16))) ∧ Below w.heap.size w w' := by
  obtain ⟨i0, hi, hz0, hz1, hz2⟩ := info_parts infoI
  obtain ⟨ga, oa, rfl, hga, ra⟩ := ha (by decide)
  obtain ⟨gl, ol, rfl, hgl, rl⟩ := hl (by decide)
  have HF := Lib.hid (And.intro hfa hfl)
  have HA := Lib.hid (And.intro ra rl)
  have HG := Lib.hid (And.intro hga hgl)
  have HB := Lib.hid (obj_new w 68 [.bool false, .bool true])
  clear ha hl hfa hfl ra rl hga hgl
  go_enter Tryd.func25, Tryd.ntmps25
  go_wp2
  have HW : Hid (TwoR w (w.alloc (.cells #[.bool false, .bool true] 68)) [.bool false, .bool true] (.slice none 0 0) (.slice none 0 0) 0 0 fa fl) :=
    Lib.hid ⟨World.ownsRow_nil _ _ _ _, World.ownsRow_nil _ _ _ _, (fun k hk => by cases hk), (Below.refl _ _).alloc (Nat.le_refl _) _, HB.out⟩
  clear HB
  generalize World.alloc w _ = w1 at HW ⊢
  go_loopw [12, 13, 14] (fun va vb i wr => ∃ p : Nat, p ≤ 16 ∧ i = .int .i64 p ∧ Hid (TwoR w wr [.bool false, .bool true] va vb p p fa fl)) (fun _ _ i _ => 16 - (intOf i).toNat)
  case atStart => exact ⟨0, by omega, rfl, HW⟩
  case round =>
    obtain ⟨p, hp, rfl, hR⟩ := hrel
    by_cases hlt : p < 16
    · obtain ⟨c0, c1⟩ := hR.out.src HA.out HG.out hlt ⟨rfl, rfl⟩
      obtain ⟨x0, x1⟩ := HF.out.1 p
      obtain ⟨y0, y1⟩ := HF.out.2 p
      generalize hva : fa p = xa at c0 x0 x1
      generalize hvl : fl p = xl at c1 y0 y1
      have HVV := Lib.hid (And.intro hva hvl); clear hva hvl
      have q0 : IntKind.i64.wrap xa = xa := IntWalk.i64_in _ (by omega)
      have q1 : IntKind.i64.wrap xl = xl := IntWalk.i64_in _ (by omega)
      have HL : Hid ((∀ j, u12.ownBlock = some j → j < wr.heap.size) ∧ ∀ j, u12.ownBlock = some j → j < wr.heap.size + 1) := Lib.hid ⟨fun j h => (hR.out.a.lt j h).2, fun j h => Nat.lt_succ_of_lt (hR.out.a.lt j h).2⟩
      have X1 : Hid (TwoR w (wr.alloc (.cells #[.int .i64 xa] 3)).drew [.bool false, .bool true] u12 u13 p p fa fl ∧ (wr.alloc (.cells #[.int .i64 xa] 3)).drew.cell? ⟨wr.heap.size, 0, none⟩ = some (.int .i64 xa)) := Lib.hid ⟨(hR.out.alloc _).drew, cell_of_row _ _ 0 _ _ _ (heap_alloc_new wr _)⟩
      have X2 : Hid (TwoR w ((wr.alloc (.cells #[.int .i64 xa] 3)).alloc (.cells #[.int .i64 xl] 3)).drew [.bool false, .bool true] u12 u13 p p fa fl ∧ ((wr.alloc (.cells #[.int .i64 xa] 3)).alloc (.cells #[.int .i64 xl] 3)).drew.cell? ⟨wr.heap.size, 0, none⟩ = some (.int .i64 xa) ∧ ((wr.alloc (.cells #[.int .i64 xa] 3)).alloc (.cells #[.int .i64 xl] 3)).drew.cell? ⟨wr.heap.size + 1, 0, none⟩ = some (.int .i64 xl)) := Lib.hid ⟨((hR.out.alloc _).alloc _).drew, by simp, by simp⟩
      have X3 : Hid (TwoR w ((wr.alloc (.cells #[.int .i64 xl] 3)).alloc (.cells #[.int .i64 xa] 3)).drew [.bool false, .bool true] u12 u13 p p fa fl ∧ ((wr.alloc (.cells #[.int .i64 xl] 3)).alloc (.cells #[.int .i64 xa] 3)).drew.cell? ⟨wr.heap.size, 0, none⟩ = some (.int .i64 xl) ∧ ((wr.alloc (.cells #[.int .i64 xl] 3)).alloc (.cells #[.int .i64 xa] 3)).drew.cell? ⟨wr.heap.size + 1, 0, none⟩ = some (.int .i64 xa)) := Lib.hid ⟨((hR.out.alloc _).alloc _).drew, by simp, by simp⟩
      go_wp2_with fail
      go_region_held3 (fun w' => w'.cell? ⟨ga, oa + p, none⟩ = some (.int .u8 xa) ∧ w'.cell? ⟨gl, ol + p, none⟩ = some (.int .u8 xl)) (first | go_keep | exact TwoR.src ‹TwoR w _ [.bool false, .bool true] _ _ (p + 1) _ _ _› HA.out HG.out hlt HVV.out)
        (first
          | ((refine step_append_lies _ (by rfl) (.tmp 61) (.tmp 67) 32 (by rfl) (w.heap.size + 1) 3 i0 (.int .i64 0) 1 8 Tryd.underlying32 hi hz0 hz1 hz2 rfl (by decide) u12 p (cellsOf .i64 p fa) (by rfl) X1.out.1.a ⟨wr.heap.size, 0, none⟩ 1 1 [.int .i64 xa] (by rfl) rfl (news1 X1.out.2) (by simp [Value.oneCell']) (by decide) (by unfold maxLen; omega) (by omega) X1.out.1.sz _ rfl ?_; intro g cap w2 hown hgrow hat hglt; have hA1 := TwoR.more X1.out.1 HVV.out.1.symm hown hgrow hat; clear hown hgrow hat))
          | ((refine step_append_lies _ (by rfl) (.tmp 61) (.tmp 67) 32 (by rfl) (w.heap.size + 1) 3 i0 (.int .i64 0) 1 8 Tryd.underlying32 hi hz0 hz1 hz2 rfl (by decide) u12 p (cellsOf .i64 p fa) (by rfl) X2.out.1.a ⟨wr.heap.size, 0, none⟩ 1 1 [.int .i64 xa] (by rfl) rfl (news1 X2.out.2.1) (by simp [Value.oneCell']) (by decide) (by unfold maxLen; omega) (by omega) X2.out.1.sz _ rfl ?_; intro g cap w2 hown hgrow hat hglt; have hA2 := TwoR.more X2.out.1 HVV.out.1.symm hown hgrow hat; have hC2 := Lib.hid (TwoR.cell hgrow X2.out.2.2 HL.out.2); clear hown hgrow hat))
          | ((refine step_append_lies _ (by rfl) (.tmp 61) (.tmp 67) 32 (by rfl) (w.heap.size + 1) 3 i0 (.int .i64 0) 1 8 Tryd.underlying32 hi hz0 hz1 hz2 rfl (by decide) u12 p (cellsOf .i64 p fa) (by rfl) X3.out.1.a ⟨(wr.heap.size + 1), 0, none⟩ 1 1 [.int .i64 xa] (by rfl) rfl (news1 X3.out.2.2) (by simp [Value.oneCell']) (by decide) (by unfold maxLen; omega) (by omega) X3.out.1.sz _ rfl ?_; intro g cap w2 hown hgrow hat hglt; have hA3 := TwoR.more X3.out.1 HVV.out.1.symm hown hgrow hat; have hC3 := Lib.hid (TwoR.cell hgrow X3.out.2.1 HL.out.1); clear hown hgrow hat))
          | ((refine step_append_lies _ (by rfl) (.tmp 69) (.tmp 75) 32 (by rfl) (w.heap.size + 1) 3 i0 (.int .i64 0) 1 8 Tryd.underlying32 hi hz0 hz1 hz2 rfl (by decide) u13 p (cellsOf .i64 p fl) (by rfl) (hA1.alloc (.cells #[.int .i64 xl] 3)).b ⟨w2.heap.size, 0, none⟩ 1 1 [.int .i64 xl] (by rfl) rfl (cell_one_new w2 _ _) (by simp [Value.oneCell']) (by decide) (by unfold maxLen; omega) (by omega) (hA1.alloc (.cells #[.int .i64 xl] 3)).sz _ rfl ?_; intro g cap w3 hown hgrow hat hglt3; have hB := TwoR.moreb (hA1.alloc (.cells #[.int .i64 xl] 3)) HVV.out.2.symm hown hgrow hat; clear hown hgrow hat))
          | ((refine step_append_lies _ (by rfl) (.tmp 69) (.tmp 75) 32 (by rfl) (w.heap.size + 1) 3 i0 (.int .i64 0) 1 8 Tryd.underlying32 hi hz0 hz1 hz2 rfl (by decide) u13 p (cellsOf .i64 p fl) (by rfl) hA2.b ⟨(wr.heap.size + 1), 0, none⟩ 1 1 [.int .i64 xl] (by rfl) rfl (news1 hC2.out) (by simp [Value.oneCell']) (by decide) (by unfold maxLen; omega) (by omega) hA2.sz _ rfl ?_; intro g cap w3 hown hgrow hat hglt3; have hB := TwoR.moreb hA2 HVV.out.2.symm hown hgrow hat; clear hown hgrow hat))
          | ((refine step_append_lies _ (by rfl) (.tmp 69) (.tmp 75) 32 (by rfl) (w.heap.size + 1) 3 i0 (.int .i64 0) 1 8 Tryd.underlying32 hi hz0 hz1 hz2 rfl (by decide) u13 p (cellsOf .i64 p fl) (by rfl) hA3.b ⟨wr.heap.size, 0, none⟩ 1 1 [.int .i64 xl] (by rfl) rfl (news1 hC3.out) (by simp [Value.oneCell']) (by decide) (by unfold maxLen; omega) (by omega) hA3.sz _ rfl ?_; intro g cap w3 hown hgrow hat hglt3; have hB := TwoR.moreb hA3 HVV.out.2.symm hown hgrow hat; clear hown hgrow hat)))
      all_goals
        have HB := Lib.hid ‹TwoR w _ [.bool false, .bool true] _ _ (p + 1) (p + 1) fa fl›
        clear X1 X2 X3 HL hR HVV c0 c1
        go_wp2
        go_roundw
        case rel => exact ⟨p + 1, by omega, by go_num, HB⟩
        case measure => simp [intOf]; omega
    · obtain rfl : p = 16 := by omega
      have s0 := hR.out.box.cell 0 (v := .bool false) rfl
      have s1 := hR.out.box.cell 1 (v := .bool true) rfl
      obtain ⟨a1, c1, rfl, _, o1⟩ := own_of_cells hR.out.a
      obtain ⟨a2, c2, rfl, _, o2⟩ := own_of_cells hR.out.b
      have HO := Lib.hid (And.intro o1.arg o2.arg); clear o1 o2
      have hsz : w.heap.size < wr.heap.size := hR.out.sz
      go_wp2_with fail
      go_region_held3 (fun w' => w'.cell? ⟨w.heap.size, 0, none⟩ = some (.bool false) ∧ w'.cell? ⟨w.heap.size, 1, none⟩ = some (.bool true)) (first | go_keep | exact keep2 ‹Below _ wr.drew _› hsz s0 s1)
        (first
          | (go_at_call 30; refine (byteOf_id corner _ hc0 hc1).mono ?_; rintro e w' ⟨rfl, rfl⟩)
          | (go_at_call 41; refine (fore_left a1 c1 fa a2 c2 fl corner wr.drew (HO.out.1.drewN 1) (HO.out.2.drewN 1) HF.out.1 HF.out.2 hc0 hc1).mono ?_; rintro e w4 ⟨⟨a4, c4, rfl, ho4⟩, hb4⟩; have hb5 := hb4)
          | (go_at_call 32; refine (bytesOf_any a4 256 c4 (rowF (fun j i => (sumF fl 16 + 8) / 16)) w4 (by decide) ho4.arg (rowF_in (fun _ _ => by have := sumF_in fl HF.out.2 16; omega))).mono ?_; rintro e w6 ⟨⟨a6, c6, rfl, ho6⟩, hb6⟩; have hb5 := hb4.trans (hb6.mono hb4.size)))
      have H6 : Hid (Own .u8 w.heap.size w6 a6 256 (rowF (fun j i => (sumF fl 16 + 8) / 16)) ∧ Below w.heap.size w w6) := Lib.hid ⟨ho6.mono (Nat.le_trans (Nat.le_of_lt hsz) hb4.size), (below_drewN hR.out.bel 1).trans (hb5.mono (Nat.le_of_lt hsz))⟩
      clear ho6 hb4 hb5 hb6 ho4
      go_wp2
      go_ret
      exact ⟨⟨_, _, rfl, H6.out.1⟩, H6.out.2⟩
theorem sp16_left (aa : Option Addr) (ca : Nat) (fa : Nat → Int) (al : Option Addr) (cl : Nat) (fl : Nat → Int) (corner : Int) (w : World) (ha : Arg .u8 w aa 16 fa) (hl : Arg .u8 w al 16 fl) (hfa : ∀ k, 0 ≤ fa k ∧ fa k ≤ 255) (hfl : ∀ k, 0 ≤ fl k ∧ fl k ≤ 255) (hc0 : 0 ≤ corner) (hc1 : corner ≤ 255) :
    Calls Tryd.prog 11 #[.int .i64 10, .int .i64 corner, .slice aa 16 ca, .slice al 16 cl] w fun e w' => (∃ a' c', e = .returned (.slice a' 256 c') ∧ Own .u8 w.heap.size w' a' 256 (rowF (fun j i => (sumF fl 16 + 8) / 16))) ∧ Below w.heap.size w w' := by
  have H := Lib.hid (And.intro ha (And.intro hl (And.intro hfa hfl))); clear ha hl hfa hfl
  go_enter Tryd.func11, Tryd.ntmps11
  go_wp2_with fail
  refine (pl16_left aa ca fa al cl fl corner w H.out.1 H.out.2.1 H.out.2.2.1 H.out.2.2.2 hc0 hc1).mono ?_
  rintro _ w1 ⟨⟨a', c', rfl, ho⟩, hb⟩
  have H1 := Lib.hid (And.intro ho hb); clear ho hb
  go_wp2
  go_ret
  exact ⟨⟨_, _, rfl, H1.out.1⟩, H1.out.2⟩

set_option maxRecDepth 100000 in
set_option maxHeartbeats 4000000 in
theorem pl16_top (aa : Option Addr) (ca : Nat) (fa : Nat → Int) (al : Option Addr) (cl : Nat) (fl : Nat → Int) (corner : Int) (w : World) (ha : Arg .u8 w aa 16 fa) (hl : Arg .u8 w al 16 fl) (hfa : ∀ k, 0 ≤ fa k ∧ fa k ≤ 255) (hfl : ∀ k, 0 ≤ fl k ∧ fl k ≤ 255) (hc0 : 0 ≤ corner) (hc1 : corner ≤ 255) :
    Calls Tryd.prog 25 #[.int .i64 16, .int .i64 11, .int .i64 corner, .slice aa 16 ca, .slice al 16 cl] w fun e w' => (∃ a' c', e = .returned (.slice a' 256 c') ∧ Own .u8 w.heap.size w' a' 256 (rowF (fun j i => (sumF fa 16 + 8) / 16))) ∧ Below w.heap.size w w' := by
  obtain ⟨i0, hi, hz0, hz1, hz2⟩ := info_parts infoI
  obtain ⟨ga, oa, rfl, hga, ra⟩ := ha (by decide)
  obtain ⟨gl, ol, rfl, hgl, rl⟩ := hl (by decide)
  have HF := Lib.hid (And.intro hfa hfl)
  have HA := Lib.hid (And.intro ra rl)
  have HG := Lib.hid (And.intro hga hgl)
  have HB := Lib.hid (obj_new w 68 [.bool true, .bool false])
  clear ha hl hfa hfl ra rl hga hgl
  go_enter Tryd.func25, Tryd.ntmps25
  go_wp2
  have HW : Hid (TwoR w (w.alloc (.cells #[.bool true, .bool false] 68)) [.bool true, .bool false] (.slice none 0 0) (.slice none 0 0) 0 0 fa fl) :=
    Lib.hid ⟨World.ownsRow_nil _ _ _ _, World.ownsRow_nil _ _ _ _, (fun k hk => by cases hk), (Below.refl _ _).alloc (Nat.le_refl _) _, HB.out⟩
  clear HB
  generalize World.alloc w _ = w1 at HW ⊢
  go_loopw [12, 13, 14] (fun va vb i wr => ∃ p : Nat, p ≤ 16 ∧ i = .int .i64 p ∧ Hid (TwoR w wr [.bool true, .bool false] va vb p p fa fl)) (fun _ _ i _ => 16 - (intOf i).toNat)
  case atStart => exact ⟨0, by omega, rfl, HW⟩
  case round =>
    obtain ⟨p, hp, rfl, hR⟩ := hrel
    by_cases hlt : p < 16
    · obtain ⟨c0, c1⟩ := hR.out.src HA.out HG.out hlt ⟨rfl, rfl⟩
      obtain ⟨x0, x1⟩ := HF.out.1 p
      obtain ⟨y0, y1⟩ := HF.out.2 p
      generalize hva : fa p = xa at c0 x0 x1
      generalize hvl : fl p = xl at c1 y0 y1
      have HVV := Lib.hid (And.intro hva hvl); clear hva hvl
      have q0 : IntKind.i64.wrap xa = xa := IntWalk.i64_in _ (by omega)
      have q1 : IntKind.i64.wrap xl = xl := IntWalk.i64_in _ (by omega)
      have HL : Hid ((∀ j, u12.ownBlock = some j → j < wr.heap.size) ∧ ∀ j, u12.ownBlock = some j → j < wr.heap.size + 1) := Lib.hid ⟨fun j h => (hR.out.a.lt j h).2, fun j h => Nat.lt_succ_of_lt (hR.out.a.lt j h).2⟩
      have X1 : Hid (TwoR w (wr.alloc (.cells #[.int .i64 xa] 3)).drew [.bool true, .bool false] u12 u13 p p fa fl ∧ (wr.alloc (.cells #[.int .i64 xa] 3)).drew.cell? ⟨wr.heap.size, 0, none⟩ = some (.int .i64 xa)) := Lib.hid ⟨(hR.out.alloc _).drew, cell_of_row _ _ 0 _ _ _ (heap_alloc_new wr _)⟩
      have X2 : Hid (TwoR w ((wr.alloc (.cells #[.int .i64 xa] 3)).alloc (.cells #[.int .i64 xl] 3)).drew [.bool true, .bool false] u12 u13 p p fa fl ∧ ((wr.alloc (.cells #[.int .i64 xa] 3)).alloc (.cells #[.int .i64 xl] 3)).drew.cell? ⟨wr.heap.size, 0, none⟩ = some (.int .i64 xa) ∧ ((wr.alloc (.cells #[.int .i64 xa] 3)).alloc (.cells #[.int .i64 xl] 3)).drew.cell? ⟨wr.heap.size + 1, 0, none⟩ = some (.int .i64 xl)) := Lib.hid ⟨((hR.out.alloc _).alloc _).drew, by simp, by simp⟩
      have X3 : Hid (TwoR w ((wr.alloc (.cells #[.int .i64 xl] 3)).alloc (.cells #[.int .i64 xa] 3)).drew [.bool true, .bool false] u12 u13 p p fa fl ∧ ((wr.alloc (.cells #[.int .i64 xl] 3)).alloc (.cells #[.int .i64 xa] 3)).drew.cell? ⟨wr.heap.size, 0, none⟩ = some (.int .i64 xl) ∧ ((wr.alloc (.cells #[.int .i64 xl] 3)).alloc (.cells #[.int .i64 xa] 3)).drew.cell? ⟨wr.heap.size + 1, 0, none⟩ = some (.int .i64 xa)) := Lib.hid ⟨((hR.out.alloc _).alloc _).drew, by simp, by simp⟩
      go_wp2_with fail
      go_region_held3 (fun w' => w'.cell? ⟨ga, oa + p, none⟩ = some (.int .u8 xa) ∧ w'.cell? ⟨gl, ol + p, none⟩ = some (.int .u8 xl)) (first | go_keep | exact TwoR.src ‹TwoR w _ [.bool true, .bool false] _ _ (p + 1) _ _ _› HA.out HG.out hlt HVV.out)
        (first
          | ((refine step_append_lies _ (by rfl) (.tmp 61) (.tmp 67) 32 (by rfl) (w.heap.size + 1) 3 i0 (.int .i64 0) 1 8 Tryd.underlying32 hi hz0 hz1 hz2 rfl (by decide) u12 p (cellsOf .i64 p fa) (by rfl) X1.out.1.a ⟨wr.heap.size, 0, none⟩ 1 1 [.int .i64 xa] (by rfl) rfl (news1 X1.out.2) (by simp [Value.oneCell']) (by decide) (by unfold maxLen; omega) (by omega) X1.out.1.sz _ rfl ?_; intro g cap w2 hown hgrow hat hglt; have hA1 := TwoR.more X1.out.1 HVV.out.1.symm hown hgrow hat; clear hown hgrow hat))
          | ((refine step_append_lies _ (by rfl) (.tmp 61) (.tmp 67) 32 (by rfl) (w.heap.size + 1) 3 i0 (.int .i64 0) 1 8 Tryd.underlying32 hi hz0 hz1 hz2 rfl (by decide) u12 p (cellsOf .i64 p fa) (by rfl) X2.out.1.a ⟨wr.heap.size, 0, none⟩ 1 1 [.int .i64 xa] (by rfl) rfl (news1 X2.out.2.1) (by simp [Value.oneCell']) (by decide) (by unfold maxLen; omega) (by omega) X2.out.1.sz _ rfl ?_; intro g cap w2 hown hgrow hat hglt; have hA2 := TwoR.more X2.out.1 HVV.out.1.symm hown hgrow hat; have hC2 := Lib.hid (TwoR.cell hgrow X2.out.2.2 HL.out.2); clear hown hgrow hat))
          | ((refine step_append_lies _ (by rfl) (.tmp 61) (.tmp 67) 32 (by rfl) (w.heap.size + 1) 3 i0 (.int .i64 0) 1 8 Tryd.underlying32 hi hz0 hz1 hz2 rfl (by decide) u12 p (cellsOf .i64 p fa) (by rfl) X3.out.1.a ⟨(wr.heap.size + 1), 0, none⟩ 1 1 [.int .i64 xa] (by rfl) rfl (news1 X3.out.2.2) (by simp [Value.oneCell']) (by decide) (by unfold maxLen; omega) (by omega) X3.out.1.sz _ rfl ?_; intro g cap w2 hown hgrow hat hglt; have hA3 := TwoR.more X3.out.1 HVV.out.1.symm hown hgrow hat; have hC3 := Lib.hid (TwoR.cell hgrow X3.out.2.1 HL.out.1); clear hown hgrow hat))
          | ((refine step_append_lies _ (by rfl) (.tmp 69) (.tmp 75) 32 (by rfl) (w.heap.size + 1) 3 i0 (.int .i64 0) 1 8 Tryd.underlying32 hi hz0 hz1 hz2 rfl (by decide) u13 p (cellsOf .i64 p fl) (by rfl) (hA1.alloc (.cells #[.int .i64 xl] 3)).b ⟨w2.heap.size, 0, none⟩ 1 1 [.int .i64 xl] (by rfl) rfl (cell_one_new w2 _ _) (by simp [Value.oneCell']) (by decide) (by unfold maxLen; omega) (by omega) (hA1.alloc (.cells #[.int .i64 xl] 3)).sz _ rfl ?_; intro g cap w3 hown hgrow hat hglt3; have hB := TwoR.moreb (hA1.alloc (.cells #[.int .i64 xl] 3)) HVV.out.2.symm hown hgrow hat; clear hown hgrow hat))
          | ((refine step_append_lies _ (by rfl) (.tmp 69) (.tmp 75) 32 (by rfl) (w.heap.size + 1) 3 i0 (.int .i64 0) 1 8 Tryd.underlying32 hi hz0 hz1 hz2 rfl (by decide) u13 p (cellsOf .i64 p fl) (by rfl) hA2.b ⟨(wr.heap.size + 1), 0, none⟩ 1 1 [.int .i64 xl] (by rfl) rfl (news1 hC2.out) (by simp [Value.oneCell']) (by decide) (by unfold maxLen; omega) (by omega) hA2.sz _ rfl ?_; intro g cap w3 hown hgrow hat hglt3; have hB := TwoR.moreb hA2 HVV.out.2.symm hown hgrow hat; clear hown hgrow hat))
          | ((refine step_append_lies _ (by rfl) (.tmp 69) (.tmp 75) 32 (by rfl) (w.heap.size + 1) 3 i0 (.int .i64 0) 1 8 Tryd.underlying32 hi hz0 hz1 hz2 rfl (by decide) u13 p (cellsOf .i64 p fl) (by rfl) hA3.b ⟨wr.heap.size, 0, none⟩ 1 1 [.int .i64 xl] (by rfl) rfl (news1 hC3.out) (by simp [Value.oneCell']) (by decide) (by unfold maxLen; omega) (by omega) hA3.sz _ rfl ?_; intro g cap w3 hown hgrow hat hglt3; have hB := TwoR.moreb hA3 HVV.out.2.symm hown hgrow hat; clear hown hgrow hat)))
      all_goals
        have HB := Lib.hid ‹TwoR w _ [.bool true, .bool false] _ _ (p + 1) (p + 1) fa fl›
        clear X1 X2 X3 HL hR HVV c0 c1
        go_wp2
        go_roundw
        case rel => exact ⟨p + 1, by omega, by go_num, HB⟩
        case measure => simp [intOf]; omega
    · obtain rfl : p = 16 := by omega
      have s0 := hR.out.box.cell 0 (v := .bool true) rfl
      have s1 := hR.out.box.cell 1 (v := .bool false) rfl
      obtain ⟨a1, c1, rfl, _, o1⟩ := own_of_cells hR.out.a
      obtain ⟨a2, c2, rfl, _, o2⟩ := own_of_cells hR.out.b
      have HO := Lib.hid (And.intro o1.arg o2.arg); clear o1 o2
      have hsz : w.heap.size < wr.heap.size := hR.out.sz
      go_wp2_with fail
      go_region_held3 (fun w' => w'.cell? ⟨w.heap.size, 0, none⟩ = some (.bool true) ∧ w'.cell? ⟨w.heap.size, 1, none⟩ = some (.bool false)) (first | go_keep | exact keep2 ‹Below _ wr.drew _› hsz s0 s1)
        (first
          | (go_at_call 30; refine (byteOf_id corner _ hc0 hc1).mono ?_; rintro e w' ⟨rfl, rfl⟩)
          | (go_at_call 41; refine (fore_top a1 c1 fa a2 c2 fl corner wr.drew (HO.out.1.drewN 1) (HO.out.2.drewN 1) HF.out.1 HF.out.2 hc0 hc1).mono ?_; rintro e w4 ⟨⟨a4, c4, rfl, ho4⟩, hb4⟩; have hb5 := hb4)
          | (go_at_call 32; refine (bytesOf_any a4 256 c4 (rowF (fun j i => (sumF fa 16 + 8) / 16)) w4 (by decide) ho4.arg (rowF_in (fun _ _ => by have := sumF_in fa HF.out.1 16; omega))).mono ?_; rintro e w6 ⟨⟨a6, c6, rfl, ho6⟩, hb6⟩; have hb5 := hb4.trans (hb6.mono hb4.size)))
      have H6 : Hid (Own .u8 w.heap.size w6 a6 256 (rowF (fun j i => (sumF fa 16 + 8) / 16)) ∧ Below w.heap.size w w6) := Lib.hid ⟨ho6.mono (Nat.le_trans (Nat.le_of_lt hsz) hb4.size), (below_drewN hR.out.bel 1).trans (hb5.mono (Nat.le_of_lt hsz))⟩
      clear ho6 hb4 hb5 hb6 ho4
      go_wp2
      go_ret
      exact ⟨⟨_, _, rfl, H6.out.1⟩, H6.out.2⟩
theorem sp16_top (aa : Option Addr) (ca : Nat) (fa : Nat → Int) (al : Option Addr) (cl : Nat) (fl : Nat → Int) (corner : Int) (w : World) (ha : Arg .u8 w aa 16 fa) (hl : Arg .u8 w al 16 fl) (hfa : ∀ k, 0 ≤ fa k ∧ fa k ≤ 255) (hfl : ∀ k, 0 ≤ fl k ∧ fl k ≤ 255) (hc0 : 0 ≤ corner) (hc1 : corner ≤ 255) :
    Calls Tryd.prog 11 #[.int .i64 11, .int .i64 corner, .slice aa 16 ca, .slice al 16 cl] w fun e w' => (∃ a' c', e = .returned (.slice a' 256 c') ∧ Own .u8 w.heap.size w' a' 256 (rowF (fun j i => (sumF fa 16 + 8) / 16))) ∧ Below w.heap.size w w' := by
  have H := Lib.hid (And.intro ha (And.intro hl (And.intro hfa hfl))); clear ha hl hfa hfl
  go_enter Tryd.func11, Tryd.ntmps11
  go_wp2_with fail
  refine (pl16_top aa ca fa al cl fl corner w H.out.1 H.out.2.1 H.out.2.2.1 H.out.2.2.2 hc0 hc1).mono ?_
  rintro _ w1 ⟨⟨a', c', rfl, ho⟩, hb⟩
  have H1 := Lib.hid (And.intro ho hb); clear ho hb
  go_wp2
  go_ret
  exact ⟨⟨_, _, rfl, H1.out.1⟩, H1.out.2⟩

set_option maxRecDepth 100000 in
set_option maxHeartbeats 4000000 in
theorem pl16_no (aa : Option Addr) (ca : Nat) (fa : Nat → Int) (al : Option Addr) (cl : Nat) (fl : Nat → Int) (corner : Int) (w : World) (ha : Arg .u8 w aa 16 fa) (hl : Arg .u8 w al 16 fl) (hfa : ∀ k, 0 ≤ fa k ∧ fa k ≤ 255) (hfl : ∀ k, 0 ≤ fl k ∧ fl k ≤ 255) (hc0 : 0 ≤ corner) (hc1 : corner ≤ 255) :
    Calls Tryd.prog 25 #[.int .i64 16, .int .i64 12, .int .i64 corner, .slice aa 16 ca, .slice al 16 cl] w fun e w' => (∃ a' c', e = .returned (.slice a' 256 c') ∧ Own .u8 w.heap.size w' a' 256 (rowF (fun j i => 128))) ∧ Below w.heap.size w w' := by
  obtain ⟨i0, hi, hz0, hz1, hz2⟩ := info_parts infoI
  obtain ⟨ga, oa, rfl, hga, ra⟩ := ha (by decide)
  obtain ⟨gl, ol, rfl, hgl, rl⟩ := hl (by decide)
  have HF := Lib.hid (And.intro hfa hfl)
  have HA := Lib.hid (And.intro ra rl)
  have HG := Lib.hid (And.intro hga hgl)
  have HB := Lib.hid (obj_new w 68 [.bool false, .bool false])
  clear ha hl hfa hfl ra rl hga hgl
  go_enter Tryd.func25, Tryd.ntmps25
  go_wp2
  have HW : Hid (TwoR w (w.alloc (.cells #[.bool false, .bool false] 68)) [.bool false, .bool false] (.slice none 0 0) (.slice none 0 0) 0 0 fa fl) :=
    Lib.hid ⟨World.ownsRow_nil _ _ _ _, World.ownsRow_nil _ _ _ _, (fun k hk => by cases hk), (Below.refl _ _).alloc (Nat.le_refl _) _, HB.out⟩
  clear HB
  generalize World.alloc w _ = w1 at HW ⊢
  go_loopw [12, 13, 14] (fun va vb i wr => ∃ p : Nat, p ≤ 16 ∧ i = .int .i64 p ∧ Hid (TwoR w wr [.bool false, .bool false] va vb p p fa fl)) (fun _ _ i _ => 16 - (intOf i).toNat)
  case atStart => exact ⟨0, by omega, rfl, HW⟩
  case round =>
    obtain ⟨p, hp, rfl, hR⟩ := hrel
    by_cases hlt : p < 16
    · obtain ⟨c0, c1⟩ := hR.out.src HA.out HG.out hlt ⟨rfl, rfl⟩
      obtain ⟨x0, x1⟩ := HF.out.1 p
      obtain ⟨y0, y1⟩ := HF.out.2 p
      generalize hva : fa p = xa at c0 x0 x1
      generalize hvl : fl p = xl at c1 y0 y1
      have HVV := Lib.hid (And.intro hva hvl); clear hva hvl
      have q0 : IntKind.i64.wrap xa = xa := IntWalk.i64_in _ (by omega)
      have q1 : IntKind.i64.wrap xl = xl := IntWalk.i64_in _ (by omega)
      have HL : Hid ((∀ j, u12.ownBlock = some j → j < wr.heap.size) ∧ ∀ j, u12.ownBlock = some j → j < wr.heap.size + 1) := Lib.hid ⟨fun j h => (hR.out.a.lt j h).2, fun j h => Nat.lt_succ_of_lt (hR.out.a.lt j h).2⟩
      have X1 : Hid (TwoR w (wr.alloc (.cells #[.int .i64 xa] 3)).drew [.bool false, .bool false] u12 u13 p p fa fl ∧ (wr.alloc (.cells #[.int .i64 xa] 3)).drew.cell? ⟨wr.heap.size, 0, none⟩ = some (.int .i64 xa)) := Lib.hid ⟨(hR.out.alloc _).drew, cell_of_row _ _ 0 _ _ _ (heap_alloc_new wr _)⟩
      have X2 : Hid (TwoR w ((wr.alloc (.cells #[.int .i64 xa] 3)).alloc (.cells #[.int .i64 xl] 3)).drew [.bool false, .bool false] u12 u13 p p fa fl ∧ ((wr.alloc (.cells #[.int .i64 xa] 3)).alloc (.cells #[.int .i64 xl] 3)).drew.cell? ⟨wr.heap.size, 0, none⟩ = some (.int .i64 xa) ∧ ((wr.alloc (.cells #[.int .i64 xa] 3)).alloc (.cells #[.int .i64 xl] 3)).drew.cell? ⟨wr.heap.size + 1, 0, none⟩ = some (.int .i64 xl)) := Lib.hid ⟨((hR.out.alloc _).alloc _).drew, by simp, by simp⟩
      have X3 : Hid (TwoR w ((wr.alloc (.cells #[.int .i64 xl] 3)).alloc (.cells #[.int .i64 xa] 3)).drew [.bool false, .bool false] u12 u13 p p fa fl ∧ ((wr.alloc (.cells #[.int .i64 xl] 3)).alloc (.cells #[.int .i64 xa] 3)).drew.cell? ⟨wr.heap.size, 0, none⟩ = some (.int .i64 xl) ∧ ((wr.alloc (.cells #[.int .i64 xl] 3)).alloc (.cells #[.int .i64 xa] 3)).drew.cell? ⟨wr.heap.size + 1, 0, none⟩ = some (.int .i64 xa)) := Lib.hid ⟨((hR.out.alloc _).alloc _).drew, by simp, by simp⟩
      go_wp2_with fail
      go_region_held3 (fun w' => w'.cell? ⟨ga, oa + p, none⟩ = some (.int .u8 xa) ∧ w'.cell? ⟨gl, ol + p, none⟩ = some (.int .u8 xl)) (first | go_keep | exact TwoR.src ‹TwoR w _ [.bool false, .bool false] _ _ (p + 1) _ _ _› HA.out HG.out hlt HVV.out)
        (first
          | ((refine step_append_lies _ (by rfl) (.tmp 61) (.tmp 67) 32 (by rfl) (w.heap.size + 1) 3 i0 (.int .i64 0) 1 8 Tryd.underlying32 hi hz0 hz1 hz2 rfl (by decide) u12 p (cellsOf .i64 p fa) (by rfl) X1.out.1.a ⟨wr.heap.size, 0, none⟩ 1 1 [.int .i64 xa] (by rfl) rfl (news1 X1.out.2) (by simp [Value.oneCell']) (by decide) (by unfold maxLen; omega) (by omega) X1.out.1.sz _ rfl ?_; intro g cap w2 hown hgrow hat hglt; have hA1 := TwoR.more X1.out.1 HVV.out.1.symm hown hgrow hat; clear hown hgrow hat))
          | ((refine step_append_lies _ (by rfl) (.tmp 61) (.tmp 67) 32 (by rfl) (w.heap.size + 1) 3 i0 (.int .i64 0) 1 8 Tryd.underlying32 hi hz0 hz1 hz2 rfl (by decide) u12 p (cellsOf .i64 p fa) (by rfl) X2.out.1.a ⟨wr.heap.size, 0, none⟩ 1 1 [.int .i64 xa] (by rfl) rfl (news1 X2.out.2.1) (by simp [Value.oneCell']) (by decide) (by unfold maxLen; omega) (by omega) X2.out.1.sz _ rfl ?_; intro g cap w2 hown hgrow hat hglt; have hA2 := TwoR.more X2.out.1 HVV.out.1.symm hown hgrow hat; have hC2 := Lib.hid (TwoR.cell hgrow X2.out.2.2 HL.out.2); clear hown hgrow hat))
          | ((refine step_append_lies _ (by rfl) (.tmp 61) (.tmp 67) 32 (by rfl) (w.heap.size + 1) 3 i0 (.int .i64 0) 1 8 Tryd.underlying32 hi hz0 hz1 hz2 rfl (by decide) u12 p (cellsOf .i64 p fa) (by rfl) X3.out.1.a ⟨(wr.heap.size + 1), 0, none⟩ 1 1 [.int .i64 xa] (by rfl) rfl (news1 X3.out.2.2) (by simp [Value.oneCell']) (by decide) (by unfold maxLen; omega) (by omega) X3.out.1.sz _ rfl ?_; intro g cap w2 hown hgrow hat hglt; have hA3 := TwoR.more X3.out.1 HVV.out.1.symm hown hgrow hat; have hC3 := Lib.hid (TwoR.cell hgrow X3.out.2.1 HL.out.1); clear hown hgrow hat))
          | ((refine step_append_lies _ (by rfl) (.tmp 69) (.tmp 75) 32 (by rfl) (w.heap.size + 1) 3 i0 (.int .i64 0) 1 8 Tryd.underlying32 hi hz0 hz1 hz2 rfl (by decide) u13 p (cellsOf .i64 p fl) (by rfl) (hA1.alloc (.cells #[.int .i64 xl] 3)).b ⟨w2.heap.size, 0, none⟩ 1 1 [.int .i64 xl] (by rfl) rfl (cell_one_new w2 _ _) (by simp [Value.oneCell']) (by decide) (by unfold maxLen; omega) (by omega) (hA1.alloc (.cells #[.int .i64 xl] 3)).sz _ rfl ?_; intro g cap w3 hown hgrow hat hglt3; have hB := TwoR.moreb (hA1.alloc (.cells #[.int .i64 xl] 3)) HVV.out.2.symm hown hgrow hat; clear hown hgrow hat))
          | ((refine step_append_lies _ (by rfl) (.tmp 69) (.tmp 75) 32 (by rfl) (w.heap.size + 1) 3 i0 (.int .i64 0) 1 8 Tryd.underlying32 hi hz0 hz1 hz2 rfl (by decide) u13 p (cellsOf .i64 p fl) (by rfl) hA2.b ⟨(wr.heap.size + 1), 0, none⟩ 1 1 [.int .i64 xl] (by rfl) rfl (news1 hC2.out) (by simp [Value.oneCell']) (by decide) (by unfold maxLen; omega) (by omega) hA2.sz _ rfl ?_; intro g cap w3 hown hgrow hat hglt3; have hB := TwoR.moreb hA2 HVV.out.2.symm hown hgrow hat; clear hown hgrow hat))
          | ((refine step_append_lies _ (by rfl) (.tmp 69) (.tmp 75) 32 (by rfl) (w.heap.size + 1) 3 i0 (.int .i64 0) 1 8 Tryd.underlying32 hi hz0 hz1 hz2 rfl (by decide) u13 p (cellsOf .i64 p fl) (by rfl) hA3.b ⟨wr.heap.size, 0, none⟩ 1 1 [.int .i64 xl] (by rfl) rfl (news1 hC3.out) (by simp [Value.oneCell']) (by decide) (by unfold maxLen; omega) (by omega) hA3.sz _ rfl ?_; intro g cap w3 hown hgrow hat hglt3; have hB := TwoR.moreb hA3 HVV.out.2.symm hown hgrow hat; clear hown hgrow hat)))
      all_goals
        have HB := Lib.hid ‹TwoR w _ [.bool false, .bool false] _ _ (p + 1) (p + 1) fa fl›
        clear X1 X2 X3 HL hR HVV c0 c1
        go_wp2
        go_roundw
        case rel => exact ⟨p + 1, by omega, by go_num, HB⟩
        case measure => simp [intOf]; omega
    · obtain rfl : p = 16 := by omega
      have s0 := hR.out.box.cell 0 (v := .bool false) rfl
      have s1 := hR.out.box.cell 1 (v := .bool false) rfl
      obtain ⟨a1, c1, rfl, _, o1⟩ := own_of_cells hR.out.a
      obtain ⟨a2, c2, rfl, _, o2⟩ := own_of_cells hR.out.b
      have HO := Lib.hid (And.intro o1.arg o2.arg); clear o1 o2
      have hsz : w.heap.size < wr.heap.size := hR.out.sz
      go_wp2_with fail
      go_region_held3 (fun w' => w'.cell? ⟨w.heap.size, 0, none⟩ = some (.bool false) ∧ w'.cell? ⟨w.heap.size, 1, none⟩ = some (.bool false)) (first | go_keep | exact keep2 ‹Below _ wr.drew _› hsz s0 s1)
        (first
          | (go_at_call 30; refine (byteOf_id corner _ hc0 hc1).mono ?_; rintro e w' ⟨rfl, rfl⟩)
          | (go_at_call 41; refine (fore_no a1 c1 fa a2 c2 fl corner wr.drew (HO.out.1.drewN 1) (HO.out.2.drewN 1) HF.out.1 HF.out.2 hc0 hc1).mono ?_; rintro e w4 ⟨⟨a4, c4, rfl, ho4⟩, hb4⟩; have hb5 := hb4)
          | (go_at_call 32; refine (bytesOf_any a4 256 c4 (rowF (fun j i => 128)) w4 (by decide) ho4.arg (rowF_in (fun _ _ => ⟨by decide, by decide⟩))).mono ?_; rintro e w6 ⟨⟨a6, c6, rfl, ho6⟩, hb6⟩; have hb5 := hb4.trans (hb6.mono hb4.size)))
      have H6 : Hid (Own .u8 w.heap.size w6 a6 256 (rowF (fun j i => 128)) ∧ Below w.heap.size w w6) := Lib.hid ⟨ho6.mono (Nat.le_trans (Nat.le_of_lt hsz) hb4.size), (below_drewN hR.out.bel 1).trans (hb5.mono (Nat.le_of_lt hsz))⟩
      clear ho6 hb4 hb5 hb6 ho4
      go_wp2
      go_ret
      exact ⟨⟨_, _, rfl, H6.out.1⟩, H6.out.2⟩
theorem sp16_no (aa : Option Addr) (ca : Nat) (fa : Nat → Int) (al : Option Addr) (cl : Nat) (fl : Nat → Int) (corner : Int) (w : World) (ha : Arg .u8 w aa 16 fa) (hl : Arg .u8 w al 16 fl) (hfa : ∀ k, 0 ≤ fa k ∧ fa k ≤ 255) (hfl : ∀ k, 0 ≤ fl k ∧ fl k ≤ 255) (hc0 : 0 ≤ corner) (hc1 : corner ≤ 255) :
    Calls Tryd.prog 11 #[.int .i64 12, .int .i64 corner, .slice aa 16 ca, .slice al 16 cl] w fun e w' => (∃ a' c', e = .returned (.slice a' 256 c') ∧ Own .u8 w.heap.size w' a' 256 (rowF (fun j i => 128))) ∧ Below w.heap.size w w' := by
  have H := Lib.hid (And.intro ha (And.intro hl (And.intro hfa hfl))); clear ha hl hfa hfl
  go_enter Tryd.func11, Tryd.ntmps11
  go_wp2_with fail
  refine (pl16_no aa ca fa al cl fl corner w H.out.1 H.out.2.1 H.out.2.2.1 H.out.2.2.2 hc0 hc1).mono ?_
  rintro _ w1 ⟨⟨a', c', rfl, ho⟩, hb⟩
  have H1 := Lib.hid (And.intro ho hb); clear ho hb
  go_wp2
  go_ret
  exact ⟨⟨_, _, rfl, H1.out.1⟩, H1.out.2⟩

end Go.Proofs.YtmdijdoaijnpaaaDoor
