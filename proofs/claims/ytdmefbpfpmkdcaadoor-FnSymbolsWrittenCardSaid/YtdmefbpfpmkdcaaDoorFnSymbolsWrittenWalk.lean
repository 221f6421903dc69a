/- laws.FnSymbolsWritten. -/
import Derived.Test.YtdmefbpfpmkdcaaDoorISyms
import Derived.Test.YtdmefbpfpmkdcaaDoorCPut
import Derived.Test.YtdmefbpfpmkdcaaDoorLaidS
namespace Go.Proofs.YtdmefbpfpmkdcaaDoor
open Go.RowKit
set_option linter.unusedVariables false

theorem strm_bytesF (T n : Nat) : Strm (bytesF T) T n := fun j _ => rfl
theorem Laid.only {w w' : World} (h : Laid w) (ho : Only (fun _ => False) w w') : Laid w' := ⟨h.1.only ho (fun h => h), h.2.only ho (fun _ _ h => h)⟩

theorem listF_cells_snoc (ws : List Nat) (p s : Nat) (h : ws.length = p) : cellsOf .i64 (p + 1) (listF (ws ++ [s])) = cellsOf .i64 p (listF ws) ++ [.int .i64 s] := by
  subst h
  exact (listF_snoc ws s).symm

set_option maxRecDepth 100000 in
set_option maxHeartbeats 400000 in
theorem symw_good (w : World) (ht : Laid w) (a0 : Option Addr) (n c0 : Nat) (lf : Nat → Int) (a1 : Option Addr) (m c1 : Nat) (xs : Nat → Int) (h0 : Arg .i64 w a0 n lf) (h1 : Arg .i64 w a1 m xs) (hn : n ≤ 4096) (hm : m ≤ 4096) (hr : inR lf 0 15 n = true) (hwb : wholeB (natF lf) n = true) (hx : ∀ i, -9223372036854775808 ≤ xs i ∧ xs i ≤ 9223372036854775807) :
    Calls Tryd.prog 7 #[.slice a0 n c0, .slice a1 m c1] w fun e w' => e = .returned (.bool true) ∧ Below w.heap.size w w' := by
  obtain ⟨i0, hi, hz0, hz1, hz2⟩ := info_parts infoInt
  have HI := Lib.hid (And.intro hi (And.intro hz0 (And.intro hz1 hz2)))
  have hlf := inR_true.1 hr
  obtain ⟨c, hc⟩ : ∃ c, c = natF lf := ⟨_, rfl⟩
  have hcl : ∀ i, i < n → lf i = (c i : Int) ∧ c i ≤ 15 := fun i hi => by rw [hc]; have := hlf i hi; unfold natF; omega
  have hwu : 1 < used c n ∧ krf c n = 32768 := by rw [hc]; unfold wholeB at hwb; exact of_decide_eq_true hwb
  have hW : Whole c n := ⟨fun i hi => (hcl i hi).2, hwu.2, by omega⟩
  have hu := hwu.1
  have HW := Lib.hid (isWhole_any a0 n c0 lf w h0 hn (fun i hi => hlf i hi))
  rw [hwb] at HW
  have HR := Lib.hid (inRange_any a0 n c0 lf 0 15 w h0 (by omega))
  rw [hr] at HR
  have HCN := Lib.hid (canonical_any a0 n c0 lf w h0 hn c (fun i hi => (hcl i hi).1) hW hu)
  have H := Lib.hid (And.intro ht (And.intro h0 (And.intro h1 (And.intro hcl (And.intro hW (And.intro hu hx))))))
  clear ht h0 h1 hr hwb hx hlf hc hcl hwu hW hu hi hz0 hz1 hz2
  go_enter Tryd.func7, Tryd.ntmps7
  go_wp2_with fail
  refine HR.out.mono ?_
  rintro _ wa ⟨rfl, rfl⟩
  go_wp2_with fail
  refine HW.out.mono ?_
  rintro _ wa ⟨rfl, rfl⟩
  go_wp2_with fail
  refine HCN.out.mono ?_
  rintro _ w1 ⟨⟨gb, rfl, hbo, hgb⟩, hb1⟩
  have H1 := Lib.hid (And.intro hbo (And.intro hgb hb1))
  clear hbo hgb hb1
  go_wp2_with fail
  obtain ⟨w6, hw6⟩ : ∃ x, x = (w1.alloc (.cells #[.slice a0 n c0, .slice (some ⟨gb, 0, none⟩) n n, .bool false] 47)).alloc (.cells #[.slice none 0 0, .int .i64 0] 27) := ⟨_, rfl⟩
  obtain ⟨g5, hg5⟩ : ∃ x, x = w1.heap.size := ⟨_, rfl⟩
  obtain ⟨g, hg⟩ : ∃ x, x = g5 + 1 := ⟨_, rfl⟩
  have H6 : Hid (BWr w6 g g 0 0 ∧ SObj w6 g5 47 [.slice a0 n c0, .slice (some ⟨gb, 0, none⟩) n n, .bool false] ∧ SObj w6 gb 3 (cellsOf .i64 n (fun k => (bitF c n 15 0 k : Int))) ∧ Below w.heap.size w w6 ∧ w6.heap.size = g + 1 ∧ g = g5 + 1 ∧ gb < g5 ∧ w.heap.size ≤ gb) := Lib.hid (by
    have e1 : (w1.alloc (.cells #[.slice a0 n c0, .slice (some ⟨gb, 0, none⟩) n n, .bool false] 47)).heap.size = w1.heap.size + 1 := by simp
    have hlt := H1.out.1.lt
    rw [hw6, hg, hg5]
    refine ⟨?_, (obj_new w1 47 [.slice a0 n c0, .slice (some ⟨gb, 0, none⟩) n n, .bool false]).alloc _, (H1.out.1.alloc _).alloc _, (H1.out.2.2.alloc (H1.out.2.2.size) _).alloc (by rw [e1]; have := H1.out.2.2.size; omega) _, by simp, rfl, hlt, H1.out.2.1⟩
    have h5 := bwr0 (w1.alloc (.cells #[.slice a0 n c0, .slice (some ⟨gb, 0, none⟩) n n, .bool false] 47))
    rw [e1] at h5
    exact h5)
  rw [← hw6, ← hg5, ← hg]
  clear hw6 hg hg5 H1
  have hrow0 : w6.ownsRow (g + 1) 3 1 (.slice none 0 0) 0 (cellsOf .i64 0 (listF [])) := World.ownsRow_nil _ _ _ _
  obtain ⟨g7, hg7⟩ : ∃ x, x = g + 1 := ⟨_, rfl⟩
  rw [← hg7] at hrow0
  have HG := Lib.hid hg7; clear hg7
  go_loopg [7, 8] (m + 1) (fun j s7 s8 wr => ∃ (i p T q : Nat) (ws : List Nat), s8 = .int .i64 i ∧ i ≤ m ∧ m < j + i ∧ p ≤ i ∧ wr.ownsRow g7 3 1 s7 p (cellsOf .i64 p (listF ws)) ∧ Hid (ws.length = p ∧ Wrt c n ws T q ∧ BWr wr g g T q ∧ Below w.heap.size w wr ∧ SObj wr g5 47 [.slice a0 n c0, .slice (some ⟨gb, 0, none⟩) n n, .bool false] ∧ SObj wr gb 3 (cellsOf .i64 n (fun k => (bitF c n 15 0 k : Int))) ∧ g7 ≤ wr.heap.size))
  case atStart => exact ⟨0, 0, 0, 0, [], rfl, by omega, by omega, Nat.le_refl _, hrow0, rfl, Wrt.nil, H6.out.1, H6.out.2.2.2.1, H6.out.2.1, H6.out.2.2.1, by have := H6.out.2.2.2.2.1; have := HG.out; omega⟩
  case round =>
    obtain ⟨i, p, T, q, ws, rfl, hi, hj, hp, hown, hR⟩ := hrel
    clear hrow0
    by_cases hlt : i < m
    · obtain ⟨ga, oa, rfl, hga, ra⟩ := H.out.2.2.1 (by omega)
      have cx := (hR.out.2.2.2.1.cell (p := ⟨ga, oa + i, none⟩) hga).trans (ra i hlt)
      obtain ⟨x, hx⟩ : ∃ x, x = xs i := ⟨_, rfl⟩
      rw [← hx] at cx
      have hxb := H.out.2.2.2.2.2.2 i
      rw [← hx] at hxb
      clear hx ra
      by_cases hx0 : x < 0
      · go_wp2
        go_roundg (gk - 1)
        case measure => omega
        case rel => exact ⟨i + 1, p, T, q, ws, by go_num, by omega, by omega, by omega, hown, hR.out⟩
      by_cases hxn : (n : Int) ≤ x
      · go_wp2
        go_roundg (gk - 1)
        case measure => omega
        case rel => exact ⟨i + 1, p, T, q, ws, by go_num, by omega, by omega, by omega, hown, hR.out⟩
      obtain ⟨s, rfl⟩ : ∃ s : Nat, x = (s : Int) := ⟨x.toNat, by omega⟩
      have hsn : s < n := by omega
      clear hxb hx0 hxn
      obtain ⟨gl, ol, rfl, hgl, rl⟩ := H.out.2.1 (by omega)
      have cy := (hR.out.2.2.2.1.cell (p := ⟨gl, ol + s, none⟩) hgl).trans (rl s hsn)
      rw [(H.out.2.2.2.1 s hsn).1] at cy
      obtain ⟨y, hy⟩ : ∃ y, y = c s := ⟨_, rfl⟩
      rw [← hy] at cy
      have HY := Lib.hid hy
      clear hy rl
      by_cases hy0 : y = 0
      · subst hy0
        go_wp2
        go_roundg (gk - 1)
        case measure => omega
        case rel => exact ⟨i + 1, p, T, q, ws, by go_num, by omega, by omega, by omega, hown, hR.out⟩
      have hypos : 0 < y := by omega
      have hyi : ¬ (y : Int) ≤ 0 := by omega
      go_wp2_with (at_builtin; refine wpList_append_own _ rfl _ _ 22 rfl g7 3 i0 (.int .i64 0) 1 8 Tryd.underlying22 HI.out.1 HI.out.2.1 HI.out.2.2.1 HI.out.2.2.2 rfl (by decide) _ _ _ rfl (World.ownsRow.alloc hown _) ⟨wr.heap.size, 0, none⟩ 1 1 [.int .i64 s] rfl rfl (cell_one_new wr _ _) (by simp [Value.oneCell']) (by unfold maxLen; omega) (by omega) (by have := hR.out.2.2.2.2.2.2; simp; omega) ?_)
      intro v' w3 hown3 hgrow _
      rw [← listF_cells_snoc ws p s hR.out.1] at hown3
      have ho3 : Only (fun k => u7.ownBlock = some k) wr w3 := (Only.alloc _ _ _).tr (Only.of_grown hgrow (fun k hk => hk))
      have hg7 := hR.out.2.2.2.2.2.2
      have hn5 : ¬ u7.ownBlock = some g5 := fun e => by have := (hown.lt _ e).1; have := HG.out; have := H6.out; omega
      have hnb : ¬ u7.ownBlock = some gb := fun e => by have := (hown.lt _ e).1; have := HG.out; have := H6.out; omega
      have hng : ¬ u7.ownBlock = some g := fun e => by have := (hown.lt _ e).1; have := HG.out; omega
      have hbel3 : Below w.heap.size w w3 := hR.out.2.2.2.1.trans (ho3.below hR.out.2.2.2.1.size (fun k hk => by have := (hown.lt k hk).1; have := HG.out; have := H6.out; omega))
      have hb3 : BWr w3 g g T q := hR.out.2.2.1.only ho3 hng (fun k hk e => absurd ((ownsRow_ty hown e).1.inj hk) (by decide))
      have h53 := hR.out.2.2.2.2.1.only ho3 hn5
      have hgb3 := hR.out.2.2.2.2.2.1.only ho3 hnb
      have cx3 : w3.cell? ⟨ga, oa + i, none⟩ = some (.int .i64 s) := by
        rw [hbel3.cell (p := ⟨ga, oa + i, none⟩) hga, ← hR.out.2.2.2.1.cell (p := ⟨ga, oa + i, none⟩) hga]
        exact cx
      have d0 := h53.cell 0 rfl
      have d1 := h53.cell 1 rfl
      have d2 := h53.cell 2 rfl
      have hql : q ≤ 61440 := by
        have h5 := hR.out.2.1.len (fun k hk => (H.out.2.2.2.1 k hk).2)
        have := hR.out.1
        omega
      have HP : Hid (∀ nq, Calls Tryd.prog 23 #[.agg #[.slice (some ⟨gl, ol, none⟩) n c0, .slice (some ⟨gb, 0, none⟩) n n, .bool false], .pointer (some ⟨g, 0, none⟩), .int .i64 s] (w3.drewN nq) fun e w' => e = .returned (.tuple #[]) ∧ BWr w' g g (T + trn (vOf c n s) (c s) * 2 ^ q) (q + c s) ∧ Only (Of (w3.drewN nq) g 5 g) (w3.drewN nq) w') := Lib.hid (fun nq => by
        have hon : Only (fun _ => False) w3 (w3.drewN nq) := Only.drewN (fun _ => False) w3 nq
        have ha0 : Arg .i64 w (some ⟨gl, ol, none⟩) n lf := H.out.2.1
        exact cput_any g g T q s _ n c0 gb lf c (w3.drewN nq) (hb3.only hon (fun h => h) (fun _ _ h => h)) ((ha0.below hbel3).only hon (fun _ _ _ h => h)) (hgb3.only hon (fun h => h)) hsn (H.out.2.2.2.1 s hsn).1 (by have := HY.out; omega) (H.out.2.2.2.1 s hsn).2 (by omega))
      have HW3 := Lib.hid (And.intro hown3 (And.intro hbel3 (And.intro hb3 (And.intro h53 hgb3))))
      have HR3 := Lib.hid (And.intro hR.out.1 (And.intro hR.out.2.1 (show g7 ≤ w3.heap.size by have := ho3.size; omega)))
      clear hown hown3 hbel3 hb3 h53 hgb3 ho3 hg7 hn5 hnb hng hgrow cx cy hql hR
      go_upto_region 13 with fail
      refine wp_region_quiet_tail 5 (by kernel_rfl) (by kernel_rfl) ?_
      simp only [List.take_succ_cons, List.take_zero, List.drop_succ_cons, List.drop_zero]
      repeat (go_big_quiet_step (fail))
      refine wpQuiet_nil ?_
      intro wq hwq
      obtain ⟨nq, rfl⟩ := hwq
      go_wp2_with fail
      refine (HP.out nq).mono ?_
      rintro _ w5 ⟨rfl, hb5, hon5⟩
      have ho5 : Only (Of w3 g 5 g) w3 w5 := (Only.drewN _ w3 nq).trOf hon5
      have R1 : w5.ownsRow g7 3 1 v' (p + 1) (cellsOf .i64 (p + 1) (listF (ws ++ [s]))) := ownsRow_only HW3.out.1 ho5 (fun k hk e => by
        have h1 := ownsRow_ty HW3.out.1 hk
        have := HG.out
        rcases e with e | ⟨_, e⟩
        · omega
        · exact absurd (h1.1.inj e) (by decide))
      have R2 : Below w.heap.size w w5 := HW3.out.2.1.trans (ho5.below HW3.out.2.1.size (fun k hk => by
        have := H6.out
        rcases hk with rfl | ⟨h, _⟩ <;> omega))
      have R3 := HW3.out.2.2.2.1.only ho5 (fun e => by have := H6.out; rcases e with e | ⟨e, _⟩ <;> omega)
      have R4 := HW3.out.2.2.2.2.only ho5 (fun e => by have := H6.out; rcases e with e | ⟨e, _⟩ <;> omega)
      have R5 : g7 ≤ w5.heap.size := Nat.le_trans HR3.out.2.2 ho5.size
      have R6 : Wrt c n (ws ++ [s]) (T + trn (vOf c n s) (c s) * 2 ^ q) (q + c s) := Wrt.snoc ws T q s HR3.out.2.1 hsn (by have := HY.out; omega)
      have HZ := Lib.hid (And.intro R2 (And.intro R3 (And.intro R4 (And.intro R5 (And.intro R6 hb5)))))
      clear hb5 hon5 ho5 R2 R3 R4 R5 R6 cx3 d0 d1 d2 HP HW3
      go_wp2
      go_roundg (gk - 1)
      case measure => omega
      case rel => exact ⟨i + 1, p + 1, _, _, ws ++ [s], by go_num, by omega, by omega, by omega, R1, by rw [List.length_append, HR3.out.1]; rfl, HZ.out.2.2.2.2.1, HZ.out.2.2.2.2.2, HZ.out.1, HZ.out.2.1, HZ.out.2.2.1, HZ.out.2.2.2.1⟩
    · have him : i = m := by omega
      obtain ⟨av, cv, rfl, hcv, how⟩ := own_of_cells hown
      have hql : q ≤ 61440 := by
        have h5 := hR.out.2.1.len (fun k hk => (H.out.2.2.2.1 k hk).2)
        have := hR.out.1
        omega
      obtain ⟨u, ho, hrow, hgg, hT⟩ := hR.out.2.2.1
      have HU := Lib.hid (And.intro ho (And.intro hrow (And.intro how him)))
      clear ho hrow how hown him hgg
      go_wp2_with fail
      refine (done_any g _ _ wr HU.out.1).mono ?_
      rintro _ w3 ⟨rfl, rfl⟩
      obtain ⟨ab, cb, rfl, hcb, hob⟩ := own_of_cells HU.out.2.1
      have hlb : lenB q ≤ 1048576 := by unfold lenB; omega
      have hp4 : p ≤ 4096 := by omega
      have hbel := hR.out.2.2.2.1
      have hlw : Laid wr := H.out.1.only (Only.of_below hbel)
      have HN := Lib.hid (isyms_any a0 n c0 lf c p ab (lenB q) cb (bytesF T) T wr (H.out.2.1.below hbel) (fun k hk => (H.out.2.2.2.1 k hk).1) hob.arg (strm_bytesF T (lenB q)) hlb hlw.1 hlw.2 H.out.2.2.2.2.1 H.out.2.2.2.2.2.1 hn hp4)
      obtain ⟨L, hL⟩ : ∃ L, L = lenB q := ⟨_, rfl⟩
      rw [← hL] at HN ⊢
      have HO : Hid (Told (codesL c n n) T L 0 p ws 0) := Lib.hid (by
        have h5 := (Wrt.rds H.out.2.2.2.2.1 hR.out.2.1).2 0 L (by rw [hL]; unfold lenB; omega)
        rw [Nat.zero_mul, Nat.add_zero] at h5
        exact .inl ⟨rfl, hR.out.1, q, h5⟩)
      have HB := Lib.hid (And.intro hbel (And.intro HU.out.2.2.1 hR.out.1))
      clear hL HU hcb hob hlb hbel hlw hT hql hR
      go_wp2_with fail
      refine HN.out.mono ?_
      rintro _ w4 ⟨⟨l, kind, a', c', rfl, htold, hown⟩, hb4⟩
      obtain ⟨rfl, rfl⟩ := Told.uniq H.out.2.2.2.2.1.code HO.out htold
      have hlen := HB.out.2.2
      rw [hlen] at hown ⊢
      have HS := Lib.hid (ints_any a' p c' (listF ws) av p cv (listF ws) w4 hown.arg ((HB.out.2.1.below hb4).arg) hp4 rfl)
      have hsame : sameI (listF ws) (listF ws) p = true := decide_eq_true (fun _ _ => rfl)
      rw [hsame] at HS
      have H4 := Lib.hid (HB.out.1.trans (hb4.mono HB.out.1.size))
      clear htold hown hb4 hsame hlen HB HO HN
      go_wp2_with fail
      refine HS.out.mono ?_
      rintro _ w5 ⟨rfl, hb5⟩
      have H5 := Lib.hid (H4.out.trans (hb5.mono H4.out.size))
      clear hb5
      go_wp2_with fail
      refine (readSums_any w5).mono ?_
      rintro _ w8 ⟨rfl, rfl⟩
      go_wp2
      go_ret
      exact ⟨rfl, H5.out⟩

theorem symw_bad (w : World) (a0 : Option Addr) (n c0 : Nat) (lf : Nat → Int) (a1 : Option Addr) (m c1 : Nat) (h0 : Arg .i64 w a0 n lf) (hn : n ≤ 2147483647) (hm : m ≤ 2147483647) (hb : ¬ (n ≤ 4096 ∧ inR lf 0 15 n = true ∧ wholeB (natF lf) n = true ∧ m ≤ 4096)) :
    Calls Tryd.prog 7 #[.slice a0 n c0, .slice a1 m c1] w fun e w' => e = .returned (.bool true) ∧ Below w.heap.size w w' := by
  by_cases b1 : 4096 < n
  · clear h0 hb
    go_enter Tryd.func7, Tryd.ntmps7
    go_wp2_with fail
    refine (readSums_any w).mono ?_
    rintro _ w4 ⟨rfl, rfl⟩
    go_wp2
    go_ret
    exact ⟨rfl, Below.refl _ _⟩
  have HR := Lib.hid (inRange_any a0 n c0 lf 0 15 w h0 (by omega))
  cases hr : inR lf 0 15 n with
  | false =>
    rw [hr] at HR
    clear h0 hb hr
    go_enter Tryd.func7, Tryd.ntmps7
    go_wp2_with fail
    refine HR.out.mono ?_
    rintro _ w4 ⟨rfl, rfl⟩
    go_wp2_with fail
    refine (readSums_any w).mono ?_
    rintro _ w4 ⟨rfl, rfl⟩
    go_wp2
    go_ret
    exact ⟨rfl, Below.refl _ _⟩
  | true =>
    have hlf := inR_true.1 hr
    rw [hr] at HR
    have HW := Lib.hid (isWhole_any a0 n c0 lf w h0 (by omega) (fun i hi => hlf i hi))
    cases hw : wholeB (natF lf) n with
    | false =>
      rw [hw] at HW
      clear h0 hb hr hw hlf
      go_enter Tryd.func7, Tryd.ntmps7
      go_wp2_with fail
      refine HR.out.mono ?_
      rintro _ w4 ⟨rfl, rfl⟩
      go_wp2_with fail
      refine HW.out.mono ?_
      rintro _ w4 ⟨rfl, rfl⟩
      go_wp2_with fail
      refine (readSums_any w).mono ?_
      rintro _ w4 ⟨rfl, rfl⟩
      go_wp2
      go_ret
      exact ⟨rfl, Below.refl _ _⟩
    | true =>
      rw [hw] at HW
      have hm4 : 4096 < m := by
        rcases Nat.lt_or_ge 4096 m with h | h
        · exact h
        · exact absurd ⟨by omega, hr, hw, h⟩ hb
      clear h0 hb hr hw hlf
      go_enter Tryd.func7, Tryd.ntmps7
      go_wp2_with fail
      refine HR.out.mono ?_
      rintro _ w4 ⟨rfl, rfl⟩
      go_wp2_with fail
      refine HW.out.mono ?_
      rintro _ w4 ⟨rfl, rfl⟩
      go_wp2_with fail
      refine (readSums_any w).mono ?_
      rintro _ w4 ⟨rfl, rfl⟩
      go_wp2
      go_ret
      exact ⟨rfl, Below.refl _ _⟩

theorem fnSymbolsWritten_walk (w : World) (ht : Laid w) (a0 : Option Addr) (n0 c0 : Nat) (z0 : List Int) (h0 : IsRow .i64 w a0 n0 c0 z0) (a1 : Option Addr) (n1 c1 : Nat) (z1 : List Int) (h1 : IsRow .i64 w a1 n1 c1 z1) :
    Calls Tryd.prog 7 #[.slice a0 n0 c0, .slice a1 n1 c1] w fun e w' => e = .returned (.bool true) ∧ Below w.heap.size w w' := by
  obtain ⟨g0, l0, m0, _, _⟩ := h0.arg
  obtain ⟨g1, l1, m1, _, b1⟩ := h1.arg
  unfold maxLen at m0 m1
  have k0 : n0 ≤ 9223372036854775807 := by omega
  have k1 : n1 ≤ 9223372036854775807 := by omega
  have hx : ∀ i, -9223372036854775808 ≤ z1.getD i 0 ∧ z1.getD i 0 ≤ 9223372036854775807 := fun i => by
    have h5 := b1 i
    simp only [Lit.wf, Bool.and_eq_true, decide_eq_true_eq] at h5
    exact h5
  clear h0 h1 l0 l1 m0 m1 b1
  by_cases s0 : 2147483647 < n0
  · clear g0 g1 hx ht
    go_enter Tryd.func7, Tryd.ntmps7
    go_wp2
    go_ret
    exact ⟨rfl, Below.refl _ _⟩
  by_cases s1 : 2147483647 < n1
  · clear g0 g1 hx ht
    go_enter Tryd.func7, Tryd.ntmps7
    go_wp2
    go_ret
    exact ⟨rfl, Below.refl _ _⟩
  by_cases hok : n0 ≤ 4096 ∧ inR (fun i => z0.getD i 0) 0 15 n0 = true ∧ wholeB (natF (fun i => z0.getD i 0)) n0 = true ∧ n1 ≤ 4096
  · exact symw_good w ht a0 n0 c0 _ a1 n1 c1 _ g0 g1 hok.1 hok.2.2.2 hok.2.1 hok.2.2.1 hx
  · exact symw_bad w a0 n0 c0 _ a1 n1 c1 g0 (by omega) (by omega) hok
end Go.Proofs.YtdmefbpfpmkdcaaDoor
