/- The reference's levelOf. -/
import Derived.Test.YthmkmemocjnleaaDoorFilR
import Derived.Test.YthmkmemocjnleaaDoorSegD
namespace Go.Proofs.YthmkmemocjnleaaDoor
open Go.RowKit
set_option linter.unusedVariables false

/-- The level of a segment, what is added, the level of a block, and whether some read it otherwise. -/
def nS (on ab : Bool) (lv st : Int) : Int := if on then (if ab then st else st + lv) else lv
def mS (dl : Bool) (r m : Int) (small : Bool) : Int := if dl then (if small then r + m else r) else 0
def lvO (n more : Int) : Int := wi (wi n 0 63 + more) 0 63
def odd1 (odd dl : Bool) (n r : Int) : Bool := if dl then (odd || n + r != wi (n + r) (-128) 127) else odd
def odd2 (odd : Bool) (n more : Int) : Bool := odd || n != wi n (-128) 127 || n + more != wi (n + more) (-128) 127
def odd3 (odd : Bool) (lv n more : Int) : Bool := odd || lvO n more != wi (n + more) 0 63 || (lv == 0 && lvO n more != 0)
def blk177 (i lm : Int) : List Value := [.int .i64 i, .bool false, .int .i64 lm, .int .i64 0, .int .i64 0, .int .i64 0, .int .i64 0, .int .i64 0, .int .i64 0, .int .i64 0, .int .i64 0, .int .i64 0, .int .i64 0, .int .i64 0, .int .i64 0, .int .i64 0, .int .i64 0, .int .i64 0, .int .i64 0, .int .i64 0, .bool false]
theorem updR_self {D : Nat → Option Value} {i : Nat} {v : Value} (h : D i = some v) (k : Nat) : At51.updR D i v k = D k := by
  unfold At51.updR
  by_cases e : k = i
  · rw [if_pos e, e, h]
  · rw [if_neg e]
/-- The decoder's block with the mark; the copy of the block's data. -/
def LvW (w : World) (D : Nat → Option Value) (gd h : Nat) (i lm : Int) (odd : Bool) (wx : World) : Prop :=
  FD (At51.updR D 350 (.bool odd)) wx gd ∧ w.grownBy wx (some gd) ∧ SObj wx h 177 (blk177 i lm) ∧ w.heap.size ≤ h

theorem LvW.put {w : World} {D : Nat → Option Value} {gd h : Nat} {i lm : Int} {odd : Bool} {wx : World} (H : LvW w D gd h i lm odd wx) (hg : gd < w.heap.size) (o : Bool) : LvW w D gd h i lm o (wx.setCell ⟨gd, 350, none⟩ (.bool o)) := by
  obtain ⟨a, b, c, d⟩ := H
  refine ⟨a.put 350 (.bool o) (old := .bool odd) (by unfold At51.updR; rw [if_pos rfl]) (fun k => ?_), grownBy.trans b (grownBy_setCell _ _ _), c.far ⟨gd, 350, none⟩ (by simp only; omega) _, d⟩
  unfold At51.updR
  by_cases e : k = 350
  · rw [if_pos e, if_pos e]
  · rw [if_neg e, if_neg e, if_neg e]
theorem LvW.odd {w : World} {D : Nat → Option Value} {gd h : Nat} {i lm : Int} {odd : Bool} {wx : World} (H : LvW w D gd h i lm odd wx) : wx.cell? ⟨gd, 350, none⟩ = some (.bool odd) ∧ wx.frozen? ⟨gd, 350, none⟩ = false :=
  ⟨by rw [H.1.2.1]; unfold At51.updR; rw [if_pos rfl], H.1.2.2 _⟩
theorem LvW.at {w : World} {D : Nat → Option Value} {gd h : Nat} {i lm : Int} {odd : Bool} {wx : World} (H : LvW w D gd h i lm odd wx) (k : Nat) (hk : k ≠ 350) {v : Value} (hv : D k = some v) : wx.cell? ⟨gd, k, none⟩ = some v := by
  rw [H.1.2.1]; unfold At51.updR; rw [if_neg hk]; exact hv

set_option maxRecDepth 100000 in
set_option maxHeartbeats 4000000 in
theorem levelOf_any (gd : Nat) (D : Nat → Option Value) (i : Nat) (small : Bool) (on ab dl odd : Bool) (lv st r m : Int) (w : World) (h : FD D w gd) (hi : i < 4)
    (k0 : D 258 = some (.bool on)) (k1 : D 260 = some (.bool ab)) (k2 : D (265 + i) = some (.int .i64 st)) (k3 : D 273 = some (.int .i64 lv)) (k4 : D 275 = some (.bool dl)) (k5 : D 276 = some (.int .i64 r)) (k6 : D 280 = some (.int .i64 m)) (k7 : D 350 = some (.bool odd))
    (b0 : 0 ≤ lv) (b1 : lv ≤ 63) (b2 : -63 ≤ st) (b3 : st ≤ 63) (b4 : -63 ≤ r) (b5 : r ≤ 63) (b6 : -63 ≤ m) (b7 : m ≤ 63) (lm : Int) (hlm : lm = if small then 4 else 0)
    (n more : Int) (hn : n = nS on ab lv st) (hmore : more = mS dl r m small) :
    Calls Tryd.prog 73 #[.pointer (some ⟨gd, 0, none⟩), .agg #[.int .i64 i, .bool false, .int .i64 lm, .int .i64 0, .int .i64 0, .int .i64 0, .int .i64 0, .int .i64 0, .int .i64 0, .int .i64 0, .int .i64 0, .int .i64 0, .int .i64 0, .int .i64 0, .int .i64 0, .int .i64 0, .int .i64 0, .int .i64 0, .int .i64 0, .int .i64 0, .bool false]] w fun e w' =>
      e = .returned (.int .i64 (lvO n more)) ∧ FD (At51.updR D 350 (.bool (odd3 (odd2 (odd1 odd dl n r) n more) lv n more))) w' gd ∧ w.grownBy w' (some gd) := by
  have HO : Hid (LvW w D gd w.heap.size i lm odd (w.alloc (.cells (blk177 i lm).toArray 177))) := Lib.hid ⟨(h.grown (World.grownBy_alloc w _ none) (by intro c; cases c)).congr (fun k => (updR_self k7 k).symm), World.grownBy_alloc w _ _, obj_new _ _ _, Nat.le_refl _⟩
  have hgd := h.1
  have bn : -63 ≤ n ∧ n ≤ 126 := by rw [hn]; unfold nS; repeat' split <;> omega
  have bm : -126 ≤ more ∧ more ≤ 126 := by rw [hmore]; unfold mS; repeat' split <;> omega
  obtain ⟨bn0, bn1⟩ := bn
  obtain ⟨bm0, bm1⟩ := bm
  have HK := Lib.hid (And.intro k0 (And.intro k1 (And.intro k2 (And.intro k3 (And.intro k4 (And.intro k5 (And.intro k6 (And.intro hlm (And.intro hn hmore))))))))); clear k0 k1 k2 k3 k4 k5 k6 k7 hlm hn hmore h
  unfold blk177 at HO
  go_enter Tryd.func73, Tryd.ntmps73
  go_upto_region 1 with fail
  generalize World.alloc _ _ = w1 at HO ⊢
  have HO : Hid (LvW w D gd w.heap.size i lm odd w1) := HO
  obtain ⟨g, hg⟩ : ∃ g, g = w.heap.size := ⟨_, rfl⟩
  rw [← hg] at HO ⊢
  have HG := Lib.hid hg; clear hg
  have c0 : w1.cell? ⟨gd, 258, none⟩ = some (.bool on) := (HO.out.1.2.1 258).trans HK.out.1
  have c1 : w1.cell? ⟨gd, 260, none⟩ = some (.bool ab) := (HO.out.1.2.1 260).trans HK.out.2.1
  have c2 : w1.cell? ⟨gd, 265 + i, none⟩ = some (.int .i64 st) := by rw [HO.out.1.2.1, At51.updR, if_neg (by omega)]; exact HK.out.2.2.1
  have c3 : w1.cell? ⟨gd, 273, none⟩ = some (.int .i64 lv) := (HO.out.1.2.1 273).trans HK.out.2.2.2.1
  have d0 : w1.cell? ⟨g, 0, none⟩ = some (.int .i64 i) := HO.out.2.2.1.cell 0 rfl
  have d2 : w1.cell? ⟨g, 2, none⟩ = some (.int .i64 lm) := HO.out.2.2.1.cell 2 rfl
  have i0 : (0 : Int) ≤ (i : Int) := by omega
  have i1 : (i : Int) < 4 := by omega
  go_upto_if 17 with fail
  go_cut [5] from 18 (fun s5 wx => s5 = .int .i64 n ∧ Hid (LvW w D gd g i lm odd wx))
  case first =>
    cases on with
    | false =>
      have e := Lib.hid (show n = lv from HK.out.2.2.2.2.2.2.2.2.1)
      go_wp2
      go_meet
      exact ⟨by rw [e.out], HO⟩
    | true =>
      cases ab with
      | true =>
        have e := Lib.hid (show n = st from HK.out.2.2.2.2.2.2.2.2.1)
        go_wp2
        go_quiet (fail)
        go_wp2
        go_meet
        exact ⟨by rw [e.out], Lib.hid ⟨HO.out.1.grown (grownBy_drewN _ _ none) (by intro c; cases c), grownBy.trans HO.out.2.1 (grownBy_drewN _ _ _), HO.out.2.2.1.drewN _, HO.out.2.2.2⟩⟩
      | false =>
        have e := Lib.hid (show n = st + lv from HK.out.2.2.2.2.2.2.2.2.1)
        go_wp2
        go_quiet (fail)
        go_wp2
        go_meet
        exact ⟨by rw [e.out], Lib.hid ⟨HO.out.1.grown (grownBy_drewN _ _ none) (by intro c; cases c), grownBy.trans HO.out.2.1 (grownBy_drewN _ _ _), HO.out.2.2.1.drewN _, HO.out.2.2.2⟩⟩
  case rest =>
    obtain ⟨rfl, HC⟩ := hcut
    clear c0 c1 c2 c3 d0 d2 HO
    have HGD := Lib.hid hgd; clear hgd
    have c4 : wc.cell? ⟨gd, 275, none⟩ = some (.bool dl) := HC.out.at 275 (by omega) HK.out.2.2.2.2.1
    have c5 : wc.cell? ⟨gd, 276, none⟩ = some (.int .i64 r) := HC.out.at 276 (by omega) HK.out.2.2.2.2.2.1
    have c6 : wc.cell? ⟨gd, 280, none⟩ = some (.int .i64 m) := HC.out.at 280 (by omega) HK.out.2.2.2.2.2.2.1
    have c7 : wc.cell? ⟨gd, 350, none⟩ = some (.bool odd) := HC.out.odd.1
    have z7 : wc.frozen? ⟨gd, 350, none⟩ = false := HC.out.odd.2
    have d2 : wc.cell? ⟨g, 2, none⟩ = some (.int .i64 lm) := HC.out.2.2.1.cell 2 rfl
    have hne : gd ≠ g := by have := HC.out.2.2.2; have := HGD.out; omega
    go_upto_if 43 with fail
    go_cut [6] from 44 (fun s6 wx => s6 = .int .i64 more ∧ Hid (LvW w D gd g i lm (odd1 odd dl n r) wx))
    case first =>
      cases dl with
      | false =>
        have e := Lib.hid (show more = 0 from HK.out.2.2.2.2.2.2.2.2.2)
        go_wp2
        go_meet
        exact ⟨by rw [e.out], HC⟩
      | true =>
        have HP : Hid (∀ o, LvW w D gd g i lm o (wc.setCell ⟨gd, 350, none⟩ (.bool o))) := Lib.hid (fun o => HC.out.put HGD.out o)
        cases small with
        | false =>
          have e := Lib.hid (show more = r from HK.out.2.2.2.2.2.2.2.2.2)
          have hl : lm = 0 := HK.out.2.2.2.2.2.2.2.1
          subst hl
          cases odd with
          | true =>
            have H2 : Hid (LvW w D gd g i 0 (odd1 true true n r) (wc.setCell ⟨gd, 350, none⟩ (.bool true))) := Lib.hid (HP.out true)
            go_wp2
            go_meet
            exact ⟨by rw [e.out], H2⟩
          | false =>
            have H2 : Hid (LvW w D gd g i 0 (odd1 false true n r) (wc.setCell ⟨gd, 350, none⟩ (.bool (n + r != wi (n + r) (-128) 127)))) := Lib.hid (HP.out _)
            go_wp2_with (first | (go_at_call 78; refine (short_any _ _).mono ?_; rintro _ _ ⟨rfl, rfl⟩))
            go_meet
            exact ⟨by rw [e.out], H2⟩
        | true =>
          have e := Lib.hid (show more = r + m from HK.out.2.2.2.2.2.2.2.2.2)
          have hl : lm = 4 := HK.out.2.2.2.2.2.2.2.1
          subst hl
          cases odd with
          | true =>
            have H2 : Hid (LvW w D gd g i 4 (odd1 true true n r) (wc.setCell ⟨gd, 350, none⟩ (.bool true))) := Lib.hid (HP.out true)
            go_wp2
            go_meet
            exact ⟨by rw [e.out], H2⟩
          | false =>
            have H2 : Hid (LvW w D gd g i 4 (odd1 false true n r) (wc.setCell ⟨gd, 350, none⟩ (.bool (n + r != wi (n + r) (-128) 127)))) := Lib.hid (HP.out _)
            go_wp2_with (first | (go_at_call 78; refine (short_any _ _).mono ?_; rintro _ _ ⟨rfl, rfl⟩))
            go_meet
            exact ⟨by rw [e.out], H2⟩
    case rest =>
      obtain ⟨rfl, HC2⟩ := hcut
      clear c4 c5 c6 c7 z7 d2 HC
      obtain ⟨o1, ho1⟩ : ∃ o1, o1 = odd1 odd dl n r := ⟨_, rfl⟩
      rw [← ho1] at HC2
      have HO1 := Lib.hid ho1; clear ho1
      have HP2 : Hid (∀ o, LvW w D gd g i lm o (wc.setCell ⟨gd, 350, none⟩ (.bool o))) := Lib.hid (fun o => HC2.out.put HGD.out o)
      have c7 : wc.cell? ⟨gd, 350, none⟩ = some (.bool o1) := HC2.out.odd.1
      have z7 : wc.frozen? ⟨gd, 350, none⟩ = false := HC2.out.odd.2
      have hb1 : (n != wi n (-128) 127) = false := by rw [wi_in (by omega) (by omega)]; simp
      go_upto_region 12 with fail
      go_cut [6] from 70 (fun s6 wx => s6 = .int .i64 more ∧ Hid (LvW w D gd g i lm (odd2 o1 n more) wx))
      case first =>
        cases o1 with
        | true =>
          have H2 : Hid (LvW w D gd g i lm (odd2 true n more) (wc.setCell ⟨gd, 350, none⟩ (.bool true))) := Lib.hid (HP2.out true)
          go_wp2
          go_meet
          exact ⟨rfl, H2⟩
        | false =>
          have H2 : Hid (LvW w D gd g i lm (odd2 false n more) (wc.setCell ⟨gd, 350, none⟩ (.bool (n + more != wi (n + more) (-128) 127)))) := Lib.hid (by
            have := HP2.out (n + more != wi (n + more) (-128) 127)
            unfold odd2
            rw [hb1]
            exact this)
          go_wp2_with (first | (go_at_call 78; refine (short_any _ _).mono ?_; rintro _ _ ⟨rfl, rfl⟩))
          go_meet
          exact ⟨rfl, H2⟩
      case rest =>
        obtain ⟨rfl, HC3⟩ := hcut
        clear c7 z7 hb1 HP2 HC2
        obtain ⟨o2, ho2⟩ : ∃ o2, o2 = odd2 o1 n more := ⟨_, rfl⟩
        rw [← ho2] at HC3
        have HO2 := Lib.hid ho2; clear ho2
        have HP3 : Hid (∀ o, LvW w D gd g i lm o (wc.setCell ⟨gd, 350, none⟩ (.bool o))) := Lib.hid (fun o => HC3.out.put HGD.out o)
        have c7 : wc.cell? ⟨gd, 350, none⟩ = some (.bool o2) := HC3.out.odd.1
        have z7 : wc.frozen? ⟨gd, 350, none⟩ = false := HC3.out.odd.2
        have c3 : wc.cell? ⟨gd, 273, none⟩ = some (.int .i64 lv) := HC3.out.at 273 (by omega) HK.out.2.2.2.1
        obtain ⟨out, hout⟩ : ∃ out, out = lvO n more := ⟨_, rfl⟩
        obtain ⟨q, hq⟩ : ∃ q, q = wi n 0 63 := ⟨_, rfl⟩
        have hout2 : wi (q + more) 0 63 = out := by rw [hout, hq]; rfl
        have bq := wi_bd (x := n) (lo := 0) (hi := 63) (by decide)
        rw [← hq] at bq
        obtain ⟨bq0, bq1⟩ := bq
        have HQO := Lib.hid (And.intro hq (And.intro hout hout2)); clear hq hout hout2
        go_wp2_with fail
        refine (within_wi n 0 63 _ (by decide)).mono ?_
        rw [← HQO.out.1]
        rintro _ _ ⟨rfl, rfl⟩
        go_wp2_with fail
        refine (within_wi (q + more) 0 63 _ (by decide)).mono ?_
        rw [HQO.out.2.2]
        rintro _ _ ⟨rfl, rfl⟩
        cases o2 with
        | true =>
          have H2 : Hid (LvW w D gd g i lm (odd3 true lv n more) (wc.setCell ⟨gd, 350, none⟩ (.bool true))) := Lib.hid (HP3.out true)
          go_wp2
          go_ret
          rw [← HO1.out, ← HO2.out, ← HQO.out.2.1]
          exact ⟨rfl, H2.out.1, H2.out.2.1⟩
        | false =>
          cases hb : (out != wi (n + more) 0 63) with
          | true =>
            have H2 : Hid (LvW w D gd g i lm (odd3 false lv n more) (wc.setCell ⟨gd, 350, none⟩ (.bool true))) := Lib.hid (by
              have := HP3.out true
              unfold odd3
              rw [← HQO.out.2.1, hb]
              exact this)
            go_wp2_with (first | (go_at_call 37; refine (within_wi _ 0 63 _ (by decide)).mono ?_; rintro _ _ ⟨rfl, rfl⟩))
            go_ret
            rw [← HO1.out, ← HO2.out, ← HQO.out.2.1]
            exact ⟨rfl, H2.out.1, H2.out.2.1⟩
          | false =>
            cases hl : (lv == 0) with
            | false =>
              have H2 : Hid (LvW w D gd g i lm (odd3 false lv n more) (wc.setCell ⟨gd, 350, none⟩ (.bool false))) := Lib.hid (by
                have := HP3.out false
                unfold odd3
                rw [← HQO.out.2.1, hb, hl]
                exact this)
              go_wp2_with (first | (go_at_call 37; refine (within_wi _ 0 63 _ (by decide)).mono ?_; rintro _ _ ⟨rfl, rfl⟩))
              go_ret
              rw [← HO1.out, ← HO2.out, ← HQO.out.2.1]
              exact ⟨rfl, H2.out.1, H2.out.2.1⟩
            | true =>
              have H2 : Hid (LvW w D gd g i lm (odd3 false lv n more) (wc.setCell ⟨gd, 350, none⟩ (.bool (out != 0)))) := Lib.hid (by
                have := HP3.out (out != 0)
                unfold odd3
                rw [← HQO.out.2.1, hb, hl]
                simpa using this)
              go_wp2_with (first | (go_at_call 37; refine (within_wi _ 0 63 _ (by decide)).mono ?_; rintro _ _ ⟨rfl, rfl⟩))
              go_ret
              rw [← HO1.out, ← HO2.out, ← HQO.out.2.1]
              exact ⟨rfl, H2.out.1, H2.out.2.1⟩
end Go.Proofs.YthmkmemocjnleaaDoor
