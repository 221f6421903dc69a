/- The reference's large predictions: two rows that grow side by side (predictLarge's loop draws its order). -/
import Derived.Test.YtmdijdoaijnpaaaDoorPredS2
import Derived.Deep.RegionHeld3
namespace Go.Proofs.YtmdijdoaijnpaaaDoor
open Go.RowKit
set_option linter.unusedVariables false

/-- Two rows that grow side by side, each in blocks of its own, beside a box. -/
structure TwoR (w W : World) (cs : List Value) (va vb : Value) (na nb : Nat) (f g : Nat → Int) : Prop where
  a : W.ownsRow (w.heap.size + 1) 3 1 va na (cellsOf .i64 na f)
  b : W.ownsRow (w.heap.size + 1) 3 1 vb nb (cellsOf .i64 nb g)
  apart : ∀ k, va.ownBlock = some k → vb.ownBlock = some k → False
  bel : Below w.heap.size w W
  box : SObj W w.heap.size 68 cs
theorem TwoR.sz {w W : World} {cs : List Value} {va vb : Value} {na nb : Nat} {f g : Nat → Int} (h : TwoR w W cs va vb na nb f g) : w.heap.size + 1 ≤ W.heap.size := h.box.lt
theorem news1 {W : World} {b o : Nat} {v : Value} (h : W.cell? ⟨b, o, none⟩ = some v) : ∀ j u, [v][j]? = some u → W.cell? ((⟨b, o, none⟩ : Addr).add j) = some u := by
  intro j u hj
  obtain rfl : j = 0 := by
    have := (List.getElem?_eq_some_iff.1 hj).1
    simpa using this
  simp at hj
  subst hj
  rw [Addr.add_lit]; exact h
theorem TwoR.alloc {w W : World} {cs : List Value} {va vb : Value} {na nb : Nat} {f g : Nat → Int} (h : TwoR w W cs va vb na nb f g) (o : Go.Obj) : TwoR w (W.alloc o) cs va vb na nb f g := ⟨h.a.alloc o, h.b.alloc o, h.apart, h.bel.alloc h.bel.size o, h.box.alloc o⟩
theorem TwoR.drew {w W : World} {cs : List Value} {va vb : Value} {na nb : Nat} {f g : Nat → Int} (h : TwoR w W cs va vb na nb f g) : TwoR w W.drew cs va vb na nb f g :=
  ⟨h.a.kept (grownBy_drewN W 1 none) (by cases va.ownBlock <;> simp), h.b.kept (grownBy_drewN W 1 none) (by cases vb.ownBlock <;> simp), h.apart, below_drewN h.bel 1, h.box.drew⟩
theorem TwoR.swap {w W : World} {cs : List Value} {va vb : Value} {na nb : Nat} {f g : Nat → Int} (h : TwoR w W cs va vb na nb f g) : TwoR w W cs vb va nb na g f := ⟨h.b, h.a, fun k h1 h2 => h.apart k h2 h1, h.bel, h.box⟩
/-- One more of the first row. -/
theorem TwoR.more {w W W' : World} {cs : List Value} {va vb : Value} {na nb : Nat} {f g : Nat → Int} {x : Int} {k cap : Nat} (h : TwoR w W cs va vb na nb f g) (hx : x = f na) (hown : W'.ownsRow (w.heap.size + 1) 3 1 (.slice (some ⟨k, 0, none⟩) (na + 1) cap) (na + 1) (cellsOf .i64 na f ++ [.int .i64 x]))
    (hgrow : W.grownBy W' va.ownBlock) (hat : va.ownBlock = some k ∨ k = W.heap.size) : TwoR w W' cs (.slice (some ⟨k, 0, none⟩) (na + 1) cap) vb (na + 1) nb f g := by
  refine ⟨by rw [cellsOf_succ, ← hx]; exact hown, h.b.kept hgrow ?_, fun j hj hb => ?_, h.bel.grown hgrow h.bel.size (fun j hj => by have := (h.a.lt j hj).1; omega), h.box.grown hgrow (fun e => by have := (h.a.lt _ e.symm).1; omega)⟩
  · cases hb : vb.ownBlock with
    | none => exact .inl rfl
    | some j =>
      right
      intro e
      exact h.apart j e.symm hb
  · have hjk : j = k := by simpa [Value.ownBlock] using hj.symm
    subst hjk
    rcases hat with h1 | h1
    · exact h.apart _ h1 hb
    · have := (h.b.lt _ hb).2; omega
/-- .. of the second one. -/
theorem TwoR.moreb {w W W' : World} {cs : List Value} {va vb : Value} {na nb : Nat} {f g : Nat → Int} {x : Int} {k cap : Nat} (h : TwoR w W cs va vb na nb f g) (hx : x = g nb) (hown : W'.ownsRow (w.heap.size + 1) 3 1 (.slice (some ⟨k, 0, none⟩) (nb + 1) cap) (nb + 1) (cellsOf .i64 nb g ++ [.int .i64 x]))
    (hgrow : W.grownBy W' vb.ownBlock) (hat : vb.ownBlock = some k ∨ k = W.heap.size) : TwoR w W' cs va (.slice (some ⟨k, 0, none⟩) (nb + 1) cap) na (nb + 1) f g := (h.swap.more hx hown hgrow hat).swap
theorem TwoR.src {w W : World} {cs : List Value} {va vb : Value} {na nb : Nat} {f g : Nat → Int} (h : TwoR w W cs va vb na nb f g) {ga oa gl ol p : Nat} {fa fl : Nat → Int} {xa xl : Int} (hA : Row .u8 w ga oa 16 fa ∧ Row .u8 w gl ol 16 fl) (hG : ga < w.heap.size ∧ gl < w.heap.size) (hp : p < 16) (hv : fa p = xa ∧ fl p = xl) :
    W.cell? ⟨ga, oa + p, none⟩ = some (.int .u8 xa) ∧ W.cell? ⟨gl, ol + p, none⟩ = some (.int .u8 xl) := by
  obtain ⟨rfl, rfl⟩ := hv
  exact ⟨(h.bel.cell (p := ⟨ga, oa + p, none⟩) hG.1).trans (hA.1 p hp), (h.bel.cell (p := ⟨gl, ol + p, none⟩) hG.2).trans (hA.2 p hp)⟩
/-- A cell of another block, behind one more of the first row. -/
theorem TwoR.cell {W W' : World} {va : Value} (hgrow : W.grownBy W' va.ownBlock) {b : Nat} {v : Value} (hb : W.cell? ⟨b, 0, none⟩ = some v) (hlt : ∀ j, va.ownBlock = some j → j < b) : W'.cell? ⟨b, 0, none⟩ = some v := by
  have hbz := World.block_lt_of_cell? W _ hb
  rw [World.cell?_of_block (w := W) (hgrow.block b hbz (fun e => by have := hlt b e.symm; omega))]; exact hb

theorem byteOf_id (x : Int) (w : World) (h0 : 0 ≤ x) (h1 : x ≤ 255) :
    Calls Tryd.prog 30 #[.int .i64 x] w fun e w' => e = .returned (.int .i64 x) ∧ w = w' := by
  have e : hld 0 255 x = x := by unfold hld; (repeat' split) <;> omega
  have := byteOf_any x w
  rw [e] at this
  exact this
theorem keep2 {w W W' : World} {u v : Value} (hb : Below W.heap.size W.drew W') (h : w.heap.size < W.heap.size) (s0 : W.cell? ⟨w.heap.size, 0, none⟩ = some u) (s1 : W.cell? ⟨w.heap.size, 1, none⟩ = some v) : W'.cell? ⟨w.heap.size, 0, none⟩ = some u ∧ W'.cell? ⟨w.heap.size, 1, none⟩ = some v :=
  ⟨(hb.cell (p := ⟨w.heap.size, 0, none⟩) h).trans s0, (hb.cell (p := ⟨w.heap.size, 1, none⟩) h).trans s1⟩
theorem rowF_in {V : Nat → Nat → Int} (h : ∀ j i, 0 ≤ V j i ∧ V j i ≤ 255) (k : Nat) : 0 ≤ rowF V k ∧ rowF V k ≤ 255 := h _ _
theorem dc_in {fa fl : Nat → Int} (ha : ∀ k, 0 ≤ fa k ∧ fa k ≤ 255) (hl : ∀ k, 0 ≤ fl k ∧ fl k ≤ 255) : ∀ j i : Nat, 0 ≤ (sumF fa 16 + sumF fl 16 + 16) / 32 ∧ (sumF fa 16 + sumF fl 16 + 16) / 32 ≤ 255 := fun _ _ => by
  have := sumF_in fa ha 16; have := sumF_in fl hl 16; omega

set_option maxRecDepth 100000 in
set_option maxHeartbeats 4000000 in
theorem pl16_dc (aa : Option Addr) (ca : Nat) (fa : Nat → Int) (al : Option Addr) (cl : Nat) (fl : Nat → Int) (corner : Int) (w : World) (ha : Arg .u8 w aa 16 fa) (hl : Arg .u8 w al 16 fl) (hfa : ∀ k, 0 ≤ fa k ∧ fa k ≤ 255) (hfl : ∀ k, 0 ≤ fl k ∧ fl k ≤ 255) (hc0 : 0 ≤ corner) (hc1 : corner ≤ 255) :
    Calls Tryd.prog 25 #[.int .i64 16, .int .i64 0, .int .i64 corner, .slice aa 16 ca, .slice al 16 cl] w fun e w' => (∃ a' c', e = .returned (.slice a' 256 c') ∧ Own .u8 w.heap.size w' a' 256 (rowF (fun j i => (sumF fa 16 + sumF fl 16 + 16) / 32))) ∧ Below w.heap.size w w' := by
  obtain ⟨i0, hi, hz0, hz1, hz2⟩ := info_parts infoI
  obtain ⟨ga, oa, rfl, hga, ra⟩ := ha (by decide)
  obtain ⟨gl, ol, rfl, hgl, rl⟩ := hl (by decide)
  have HF := Lib.hid (And.intro hfa hfl)
  have HA := Lib.hid (And.intro ra rl)
  have HG := Lib.hid (And.intro hga hgl)
  have HB := Lib.hid (obj_new w 68 [.bool true, .bool true])
  clear ha hl hfa hfl ra rl hga hgl
  go_enter Tryd.func25, Tryd.ntmps25
  go_wp2
  have HW : Hid (TwoR w (w.alloc (.cells #[.bool true, .bool true] 68)) [.bool true, .bool true] (.slice none 0 0) (.slice none 0 0) 0 0 fa fl) :=
    Lib.hid ⟨World.ownsRow_nil _ _ _ _, World.ownsRow_nil _ _ _ _, (fun k hk => by cases hk), (Below.refl _ _).alloc (Nat.le_refl _) _, HB.out⟩
  clear HB
  generalize World.alloc w _ = w1 at HW ⊢
  go_loopw [12, 13, 14] (fun va vb i wr => ∃ p : Nat, p ≤ 16 ∧ i = .int .i64 p ∧ Hid (TwoR w wr [.bool true, .bool true] va vb p p fa fl)) (fun _ _ i _ => 16 - (intOf i).toNat)
  case atStart => exact ⟨0, by omega, rfl, HW⟩
  case round =>
    obtain ⟨p, hp, rfl, hR⟩ := hrel
    by_cases hlt : p < 16
    · obtain ⟨c0, c1⟩ := hR.out.src HA.out HG.out hlt ⟨rfl, rfl⟩
      obtain ⟨x0, x1⟩ := HF.out.1 p
      obtain ⟨y0, y1⟩ := HF.out.2 p
      generalize hva : fa p = xa at c0 x0 x1
      generalize hvl : fl p = xl at c1 y0 y1
      have HVV := Lib.hid (And.intro hva hvl); clear hva hvl
      have q0 : IntKind.i64.wrap xa = xa := IntWalk.i64_in _ (by omega)
      have q1 : IntKind.i64.wrap xl = xl := IntWalk.i64_in _ (by omega)
      have HL : Hid ((∀ j, u12.ownBlock = some j → j < wr.heap.size) ∧ ∀ j, u12.ownBlock = some j → j < wr.heap.size + 1) := Lib.hid ⟨fun j h => (hR.out.a.lt j h).2, fun j h => Nat.lt_succ_of_lt (hR.out.a.lt j h).2⟩
      have X1 : Hid (TwoR w (wr.alloc (.cells #[.int .i64 xa] 3)).drew [.bool true, .bool true] u12 u13 p p fa fl ∧ (wr.alloc (.cells #[.int .i64 xa] 3)).drew.cell? ⟨wr.heap.size, 0, none⟩ = some (.int .i64 xa)) := Lib.hid ⟨(hR.out.alloc _).drew, cell_of_row _ _ 0 _ _ _ (heap_alloc_new wr _)⟩
      have X2 : Hid (TwoR w ((wr.alloc (.cells #[.int .i64 xa] 3)).alloc (.cells #[.int .i64 xl] 3)).drew [.bool true, .bool true] u12 u13 p p fa fl ∧ ((wr.alloc (.cells #[.int .i64 xa] 3)).alloc (.cells #[.int .i64 xl] 3)).drew.cell? ⟨wr.heap.size, 0, none⟩ = some (.int .i64 xa) ∧ ((wr.alloc (.cells #[.int .i64 xa] 3)).alloc (.cells #[.int .i64 xl] 3)).drew.cell? ⟨wr.heap.size + 1, 0, none⟩ = some (.int .i64 xl)) := Lib.hid ⟨((hR.out.alloc _).alloc _).drew, by simp, by simp⟩
      have X3 : Hid (TwoR w ((wr.alloc (.cells #[.int .i64 xl] 3)).alloc (.cells #[.int .i64 xa] 3)).drew [.bool true, .bool true] u12 u13 p p fa fl ∧ ((wr.alloc (.cells #[.int .i64 xl] 3)).alloc (.cells #[.int .i64 xa] 3)).drew.cell? ⟨wr.heap.size, 0, none⟩ = some (.int .i64 xl) ∧ ((wr.alloc (.cells #[.int .i64 xl] 3)).alloc (.cells #[.int .i64 xa] 3)).drew.cell? ⟨wr.heap.size + 1, 0, none⟩ = some (.int .i64 xa)) := Lib.hid ⟨((hR.out.alloc _).alloc _).drew, by simp, by simp⟩
      go_wp2_with fail
      go_region_held3 (fun w' => w'.cell? ⟨ga, oa + p, none⟩ = some (.int .u8 xa) ∧ w'.cell? ⟨gl, ol + p, none⟩ = some (.int .u8 xl)) (first | go_keep | exact TwoR.src ‹TwoR w _ [.bool true, .bool true] _ _ (p + 1) _ _ _› HA.out HG.out hlt HVV.out)
        (first
          | ((refine step_append_lies _ (by rfl) (.tmp 61) (.tmp 67) 32 (by rfl) (w.heap.size + 1) 3 i0 (.int .i64 0) 1 8 Tryd.underlying32 hi hz0 hz1 hz2 rfl (by decide) u12 p (cellsOf .i64 p fa) (by rfl) X1.out.1.a ⟨wr.heap.size, 0, none⟩ 1 1 [.int .i64 xa] (by rfl) rfl (news1 X1.out.2) (by simp [Value.oneCell']) (by decide) (by unfold maxLen; omega) (by omega) X1.out.1.sz _ rfl ?_; intro g cap w2 hown hgrow hat hglt; have hA1 := TwoR.more X1.out.1 HVV.out.1.symm hown hgrow hat; clear hown hgrow hat))
          | ((refine step_append_lies _ (by rfl) (.tmp 61) (.tmp 67) 32 (by rfl) (w.heap.size + 1) 3 i0 (.int .i64 0) 1 8 Tryd.underlying32 hi hz0 hz1 hz2 rfl (by decide) u12 p (cellsOf .i64 p fa) (by rfl) X2.out.1.a ⟨wr.heap.size, 0, none⟩ 1 1 [.int .i64 xa] (by rfl) rfl (news1 X2.out.2.1) (by simp [Value.oneCell']) (by decide) (by unfold maxLen; omega) (by omega) X2.out.1.sz _ rfl ?_; intro g cap w2 hown hgrow hat hglt; have hA2 := TwoR.more X2.out.1 HVV.out.1.symm hown hgrow hat; have hC2 := Lib.hid (TwoR.cell hgrow X2.out.2.2 HL.out.2); clear hown hgrow hat))
          | ((refine step_append_lies _ (by rfl) (.tmp 61) (.tmp 67) 32 (by rfl) (w.heap.size + 1) 3 i0 (.int .i64 0) 1 8 Tryd.underlying32 hi hz0 hz1 hz2 rfl (by decide) u12 p (cellsOf .i64 p fa) (by rfl) X3.out.1.a ⟨(wr.heap.size + 1), 0, none⟩ 1 1 [.int .i64 xa] (by rfl) rfl (news1 X3.out.2.2) (by simp [Value.oneCell']) (by decide) (by unfold maxLen; omega) (by omega) X3.out.1.sz _ rfl ?_; intro g cap w2 hown hgrow hat hglt; have hA3 := TwoR.more X3.out.1 HVV.out.1.symm hown hgrow hat; have hC3 := Lib.hid (TwoR.cell hgrow X3.out.2.1 HL.out.1); clear hown hgrow hat))
          | ((refine step_append_lies _ (by rfl) (.tmp 69) (.tmp 75) 32 (by rfl) (w.heap.size + 1) 3 i0 (.int .i64 0) 1 8 Tryd.underlying32 hi hz0 hz1 hz2 rfl (by decide) u13 p (cellsOf .i64 p fl) (by rfl) (hA1.alloc (.cells #[.int .i64 xl] 3)).b ⟨w2.heap.size, 0, none⟩ 1 1 [.int .i64 xl] (by rfl) rfl (cell_one_new w2 _ _) (by simp [Value.oneCell']) (by decide) (by unfold maxLen; omega) (by omega) (hA1.alloc (.cells #[.int .i64 xl] 3)).sz _ rfl ?_; intro g cap w3 hown hgrow hat hglt3; have hB := TwoR.moreb (hA1.alloc (.cells #[.int .i64 xl] 3)) HVV.out.2.symm hown hgrow hat; clear hown hgrow hat))
          | ((refine step_append_lies _ (by rfl) (.tmp 69) (.tmp 75) 32 (by rfl) (w.heap.size + 1) 3 i0 (.int .i64 0) 1 8 Tryd.underlying32 hi hz0 hz1 hz2 rfl (by decide) u13 p (cellsOf .i64 p fl) (by rfl) hA2.b ⟨(wr.heap.size + 1), 0, none⟩ 1 1 [.int .i64 xl] (by rfl) rfl (news1 hC2.out) (by simp [Value.oneCell']) (by decide) (by unfold maxLen; omega) (by omega) hA2.sz _ rfl ?_; intro g cap w3 hown hgrow hat hglt3; have hB := TwoR.moreb hA2 HVV.out.2.symm hown hgrow hat; clear hown hgrow hat))
          | ((refine step_append_lies _ (by rfl) (.tmp 69) (.tmp 75) 32 (by rfl) (w.heap.size + 1) 3 i0 (.int .i64 0) 1 8 Tryd.underlying32 hi hz0 hz1 hz2 rfl (by decide) u13 p (cellsOf .i64 p fl) (by rfl) hA3.b ⟨wr.heap.size, 0, none⟩ 1 1 [.int .i64 xl] (by rfl) rfl (news1 hC3.out) (by simp [Value.oneCell']) (by decide) (by unfold maxLen; omega) (by omega) hA3.sz _ rfl ?_; intro g cap w3 hown hgrow hat hglt3; have hB := TwoR.moreb hA3 HVV.out.2.symm hown hgrow hat; clear hown hgrow hat)))
      all_goals
        have HB := Lib.hid ‹TwoR w _ [.bool true, .bool true] _ _ (p + 1) (p + 1) fa fl›
        clear X1 X2 X3 HL hR HVV c0 c1
        go_wp2
        go_roundw
        case rel => exact ⟨p + 1, by omega, by go_num, HB⟩
        case measure => simp [intOf]; omega
    · obtain rfl : p = 16 := by omega
      have s0 := hR.out.box.cell 0 (v := .bool true) rfl
      have s1 := hR.out.box.cell 1 (v := .bool true) rfl
      obtain ⟨a1, c1, rfl, _, o1⟩ := own_of_cells hR.out.a
      obtain ⟨a2, c2, rfl, _, o2⟩ := own_of_cells hR.out.b
      have HO := Lib.hid (And.intro o1.arg o2.arg); clear o1 o2
      have hsz : w.heap.size < wr.heap.size := hR.out.sz
      go_wp2_with fail
      go_region_held3 (fun w' => w'.cell? ⟨w.heap.size, 0, none⟩ = some (.bool true) ∧ w'.cell? ⟨w.heap.size, 1, none⟩ = some (.bool true)) (first | go_keep | exact keep2 ‹Below _ wr.drew _› hsz s0 s1)
        (first
          | (go_at_call 30; refine (byteOf_id corner _ hc0 hc1).mono ?_; rintro e w' ⟨rfl, rfl⟩)
          | (go_at_call 41; refine (fore_dc a1 c1 fa a2 c2 fl corner wr.drew (HO.out.1.drewN 1) (HO.out.2.drewN 1) HF.out.1 HF.out.2 hc0 hc1).mono ?_; rintro e w4 ⟨⟨a4, c4, rfl, ho4⟩, hb4⟩; have hb5 := hb4)
          | (go_at_call 32; refine (bytesOf_any a4 256 c4 (rowF (fun j i => (sumF fa 16 + sumF fl 16 + 16) / 32)) w4 (by decide) ho4.arg (rowF_in (dc_in HF.out.1 HF.out.2))).mono ?_; rintro e w6 ⟨⟨a6, c6, rfl, ho6⟩, hb6⟩; have hb5 := hb4.trans (hb6.mono hb4.size)))
      have H6 : Hid (Own .u8 w.heap.size w6 a6 256 (rowF (fun j i => (sumF fa 16 + sumF fl 16 + 16) / 32)) ∧ Below w.heap.size w w6) := Lib.hid ⟨ho6.mono (Nat.le_trans (Nat.le_of_lt hsz) hb4.size), (below_drewN hR.out.bel 1).trans (hb5.mono (Nat.le_of_lt hsz))⟩
      clear ho6 hb4 hb5 hb6 ho4
      go_wp2
      go_ret
      exact ⟨⟨_, _, rfl, H6.out.1⟩, H6.out.2⟩
end Go.Proofs.YtmdijdoaijnpaaaDoor
