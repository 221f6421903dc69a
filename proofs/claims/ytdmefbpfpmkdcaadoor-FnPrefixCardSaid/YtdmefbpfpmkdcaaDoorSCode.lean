/- The reference's code. -/
import Derived.Test.YtdmefbpfpmkdcaaDoorSSmp
namespace Go.Proofs.YtdmefbpfpmkdcaaDoor
open Go.RowKit
set_option linter.unusedVariables false

theorem cres_put {pre : Pre} {S nb : Nat} {w w1 w2 : World} {g g4 : Nat} {a : Option Addr} {cb : Nat} {f : Nat → Int} {cs : Array Value} {ok : Bool} {p' : Nat} {sh' op' : Bool} (hsz : cs.size = 17) (hall : cs.all (·.oneCell') = true) (hsb : SB w2 g a nb cb f S p' sh' op')
    (hr : (op' = true ∧ pre = .opened) ∨ (op' = false ∧ sh' = true ∧ pre = .short) ∨ (op' = false ∧ sh' = false ∧ ok = true ∧ ∃ C I sa sc M, pre = .tree C p' ∧ Code C I ∧ CodeOK C w2 cs sa sc M ∧ ∀ x, 0 < M → sa = some x → w1.heap.size ≤ x.block ∧ x.block < w2.heap.size))
    (hw : w.heap.size ≤ g4) (h1 : g4 < w1.heap.size) (h4 : SObj w2 g4 86 (cdCells (fun _ => 0) (.slice none 0 0))) (hg : g < w.heap.size) (ha : ∀ x, 0 < nb → a = some x → x.block < w.heap.size) :
    CRes pre S nb w (w2.setCells g4 0 cs.toList) g a cb f (.returned (.tuple #[.agg cs, .bool ok])) ∧ Only (fun k => k = g4) w2 (w2.setCells g4 0 cs.toList) ∧ SObj (w2.setCells g4 0 cs.toList) g4 86 cs.toList := by
  obtain ⟨f1, f2⟩ := res_put h4 (cdCells_len _ _) cs hsz
  refine ⟨⟨cs, ok, p', sh', op', rfl, hsz, hall, hsb.only f2 (by omega) (fun h0 x hx e => by have := ha x h0 hx; omega), ?_⟩, f2, f1⟩
  rcases hr with h | h | ⟨e1, e2, e3, C, I, sa, sc, M, e4, e5, e6, e7⟩
  · exact .inl h
  · exact .inr (.inl h)
  · exact .inr (.inr ⟨e1, e2, e3, C, I, sa, sc, M, e4, e5, e6.only f2 (fun h0 x hx e => by have := (e7 x h0 hx).1; omega), fun x h0 hx => by have := e7 x h0 hx; have := f2.size; omega⟩)

set_option maxRecDepth 100000 in
set_option maxHeartbeats 4000000 in
theorem scode_any (g : Nat) (a : Option Addr) (nb cb : Nat) (f : Nat → Int) (S size : Nat) (w : World) (h : SB w g a nb cb f S 0 false false) (hs1 : 1 ≤ size) (hs2 : size ≤ 4096) :
    Calls Tryd.prog 42 #[.pointer (some ⟨g, 0, none⟩), .int .i64 size] w fun e w' => CRes (preF S nb size) S nb w w' g a cb f e ∧ Only (fun k => k = g) w w' := by
  have har : ∀ x, 0 < nb → a = some x → x.block < w.heap.size := fun x h0 hx => by
    obtain ⟨g1, o1, e, hg1, _⟩ := h.row h0
    rw [hx] at e; injection e with e; subst e; exact hg1
  have H := Lib.hid (And.intro h har)
  clear h har
  go_enter Tryd.func42, Tryd.ntmps42
  go_upto_region 1 with fail
  obtain ⟨g4, hg4⟩ : ∃ x, x = w.heap.size := ⟨_, rfl⟩
  generalize hw1 : World.alloc _ _ = w1
  have H1 : Hid (SObj w1 g4 86 (cdCells (fun _ => 0) (.slice none 0 0)) ∧ Only (fun _ => False) w w1 ∧ g4 = w.heap.size) := Lib.hid (by rw [← hw1, hg4]; exact ⟨obj_new _ _ _, Only.alloc _ _ _, rfl⟩)
  rw [← hg4]
  clear hw1 hg4
  have hb1 : SB w1 g a nb cb f S 0 false false := H.out.1.only H1.out.2.1 (fun h => h) (fun _ _ _ h => h)
  have HFL := Lib.hid (flag_any g a nb cb f S 0 false false w1 hb1)
  obtain ⟨u, hu⟩ : ∃ x, x = rdv S nb 0 1 := ⟨_, rfl⟩
  obtain ⟨p1, hp1⟩ : ∃ x, x = nx nb 0 1 := ⟨_, rfl⟩
  obtain ⟨sh1, hsh1⟩ : ∃ x, x = decide (8 * nb < 0 + 1) := ⟨_, rfl⟩
  obtain ⟨tw, htw⟩ : ∃ x : Bool, x = decide (u = 1) := ⟨_, rfl⟩
  rw [← hu, ← hp1, Bool.false_or, ← hsh1, ← htw] at HFL
  have HP1 := Lib.hid (And.intro hu (And.intro hp1 (And.intro hsh1 htw)))
  clear hu hp1 hsh1 htw hb1
  go_wp2_with fail
  refine HFL.out.mono ?_
  rintro _ w2 ⟨rfl, hsb2, ho2⟩
  have hne4 : ¬ g4 = g := by have := H.out.1.obj.lt; have := H1.out.2.2; omega
  have H2 := Lib.hid (And.intro hsb2 (And.intro ho2 (H1.out.1.only ho2 hne4)))
  clear hsb2 ho2 HFL hne4
  cases tw with
  | true =>
    have hu1 : u = 1 := of_decide_eq_true HP1.out.2.2.2.symm
    have hsh : sh1 = false := by
      rw [HP1.out.2.2.1]
      refine decide_eq_false (fun h => ?_)
      have h5 := HP1.out.1
      unfold rdv at h5
      rw [if_neg (by omega)] at h5
      omega
    have hpre : preF S nb size = simpF S nb size p1 := by unfold preF; rw [← HP1.out.1, ← HP1.out.2.1, if_pos hu1]
    subst hsh
    have HSM := Lib.hid (ssmp_any g a nb cb f S p1 size w2 H2.out.1 hs1 hs2)
    rw [← hpre] at HSM
    clear hu1 hpre
    go_wp2_with fail
    refine HSM.out.mono ?_
    rintro _ w3 ⟨⟨cs, ok, p', sh', op', rfl, hsz, hall, hsb, hr⟩, ho3⟩
    have hgl := H.out.1.obj.lt
    have hg4 := H1.out.2.2
    have h43 := H2.out.2.2.only ho3 (by omega)
    have HPUT := Lib.hid (cres_put (w := w) hsz hall hsb hr (by omega) H2.out.2.2.lt h43 hgl H.out.2)
    have HON := Lib.hid ((H1.out.2.1.mono (S' := fun k => k = g) (fun _ h => h.elim)).tr (H2.out.2.1.tr ho3))
    have HTH : Hid (World.there w3 g4 0 cs.size) := Lib.hid (there_of_obj h43 (by rw [hsz, cdCells_len]; exact Nat.le_refl _))
    have HSZ := Lib.hid (And.intro hsz (And.intro hall hg4))
    clear hsz hall hsb hr ho3 hgl hg4 h43 HSM
    go_wp2_with (refine wpList_store_mid rfl 86 (.tmp 4) (.tmp 14) rfl g4 0 cs rfl rfl HTH.out (infoCode17 cs HSZ.out.1) HSZ.out.2.1 ?_)
    refine bodyPost_ret (v := .tuple #[.agg cs, .bool ok]) ?_ rfl ⟨HPUT.out.1, New1.cut ((HON.out.mono (fun _ e => .inl e)).tr (HPUT.out.2.1.mono (fun k e => .inr (by have := HSZ.out.2.2; omega))))⟩
    rw [results_cell_tmp Tryd.results42]
    have hl := res_load HPUT.out.2.2 HSZ.out.1
    simp [asAddr, hl]
  | false =>
    have hu1 : ¬ u = 1 := of_decide_eq_false HP1.out.2.2.2.symm
    have hpre : preF S nb size = lensP size (normL S nb size p1) := by unfold preF; rw [← HP1.out.1, ← HP1.out.2.1, if_neg hu1]
    have hshp : sh1 = true → p1 = 8 * nb := fun h => by
      have h5 := HP1.out.2.2.1
      rw [h] at h5
      have h6 := of_decide_eq_true h5.symm
      rw [HP1.out.2.1]
      unfold nx
      rw [if_neg (by omega)]
    have HLN := Lib.hid (slens_any g a nb cb f S p1 size sh1 w2 H2.out.1 hs1 hs2 hshp)
    have HPRE := Lib.hid hpre
    clear hu1 hpre hshp
    go_wp2_with fail
    refine HLN.out.mono ?_
    rintro _ w3 ⟨⟨v, ok, p', sh', op', rfl, hsb, hr⟩, ho3⟩
    have hgl := H.out.1.obj.lt
    have hg4 := H1.out.2.2
    have h43 := H2.out.2.2.only ho3 (by omega)
    have H3 := Lib.hid (And.intro hsb (And.intro hr (And.intro ho3 (And.intro h43 (And.intro hg4 hgl)))))
    clear hsb hr ho3 hgl hg4 h43 HLN
    cases ok with
    | false =>
      have hr2 : (op' = true ∧ preF S nb size = .opened) ∨ (op' = false ∧ sh' = true ∧ preF S nb size = .short) ∨ (op' = false ∧ sh' = false ∧ false = true ∧ ∃ C I sa sc M, preF S nb size = .tree C p' ∧ Code C I ∧ CodeOK C w3 cs0 sa sc M ∧ ∀ x, 0 < M → sa = some x → w1.heap.size ≤ x.block ∧ x.block < w3.heap.size) := by
        rcases H3.out.2.1 with h | h | h
        · exact .inl ⟨h.1, by rw [HPRE.out, h.2.1]; rfl⟩
        · exact .inr (.inl ⟨h.1, h.2.1, by rw [HPRE.out, h.2.2.2]; rfl⟩)
        · exact absurd h.2.2.1 (by decide)
      have HPUT := Lib.hid (cres_put (w := w) (cs := cs0) cs0_size cs0_all H3.out.1 hr2 (by have := H3.out.2.2.2.2.1; omega) H1.out.1.lt H3.out.2.2.2.1 H3.out.2.2.2.2.2 H.out.2)
      have HTH : Hid (World.there w3 g4 0 cs0.size) := Lib.hid (there_of_obj H3.out.2.2.2.1 (by rw [cs0_size, cdCells_len]; exact Nat.le_refl _))
      clear hr2
      go_wp2_with (refine wpList_store_mid rfl 86 (.tmp 4) (.tmp 24) rfl g4 0 cs0 rfl rfl HTH.out (infoCode17 cs0 cs0_size) cs0_all ?_)
      refine bodyPost_ret (v := .tuple #[.agg cs0, .bool false]) ?_ rfl ⟨HPUT.out.1, New1.cut ((((H1.out.2.1.mono (S' := fun k => k = g) (fun _ h => h.elim)).tr (H2.out.2.1.tr H3.out.2.2.1)).mono (fun _ e => .inl e)).tr (HPUT.out.2.1.mono (fun k e => .inr (by have := H3.out.2.2.2.2.1; omega))))⟩
      rw [results_cell_tmp Tryd.results42]
      have hl := res_load HPUT.out.2.2 cs0_size
      simp [asAddr, hl]
    | true =>
      obtain ⟨a', c', o, rfl, hown, hbd, hfl⟩ : ∃ (a' : Option Addr) (c' : Nat) (o : Nat → Nat), v = .slice a' size c' ∧ Own .i64 w2.heap.size w3 a' size (fun k => (o k : Int)) ∧ (∀ k, k < size → o k ≤ 15) ∧ ((op' = true ∧ preF S nb size = .opened) ∨ (op' = false ∧ sh' = false ∧ preF S nb size = if wholeB o size = true then .tree (codesL o size size) p' else .opened)) := by
        rcases H3.out.2.1 with ⟨h1, h2, h3⟩ | h | ⟨h1, h2, _, a', c', o, h3, h4, h5, h6⟩
        · obtain ⟨a', c', o, h3, h4, h5⟩ := h3 rfl
          exact ⟨a', c', o, h3, h4, h5, .inl ⟨h1, by rw [HPRE.out, h2]; rfl⟩⟩
        · exact absurd h.2.2.1 (by decide)
        · exact ⟨a', c', o, h3, h4, h5, .inr ⟨h1, h2, by rw [HPRE.out, h6]; rfl⟩⟩
      have hfo : natF (fun k => (o k : Int)) = o := by funext k; unfold natF; simp
      have HM := Lib.hid (made_any a' size c' (fun k => (o k : Int)) w3 hown.arg hs2 (fun k hk => by have := hbd k hk; omega))
      rw [hfo] at HM
      have HO := Lib.hid (And.intro hbd hfl)
      clear hfo hown hbd hfl
      go_wp2_with fail
      refine HM.out.mono ?_
      rintro _ w6 ⟨⟨cs, sa, sc, rfl, hcr, hfr⟩, hb6⟩
      obtain ⟨M, hM⟩ : ∃ x, x = (sys o size 15).length := ⟨_, rfl⟩
      have hM4 : M ≤ 4096 := by rw [hM]; have := sys_le o size HO.out.1; omega
      have hsz : cs.size = 17 := by rw [hcr.cells]; simp [cdCells]
      have hall : (cs.all (·.oneCell')) = true := by rw [hcr.cells]; exact cdCells_all _ _ _ _
      obtain ⟨okb, hokb⟩ : ∃ x, x = madeB o size := ⟨_, rfl⟩
      rw [← hokb]
      rw [← hM] at hfr
      have HPT := Lib.hid (cd_put w6 cs hsz)
      have HTH := Lib.hid (cd_there w6 cs hsz)
      have HSZ := Lib.hid (And.intro hsz hall)
      have H6 := Lib.hid (And.intro hcr (And.intro hfr (And.intro hb6 (And.intro hM hokb))))
      clear hcr hfr hb6 hM hokb hall hsz HM
      go_upto_region 7 with (first | (refine wpList_store_mid rfl 86 (.tmp 8) (.tmp 28) rfl w6.heap.size 0 cs rfl rfl HTH.out (infoCode17 cs HSZ.out.1) HSZ.out.2 ?_))
      (try simp only [Act.put])
      obtain ⟨g8, hg8⟩ : ∃ x, x = w6.heap.size := ⟨_, rfl⟩
      rw [← hg8] at HPT ⊢
      generalize hw8 : World.setCells _ _ _ _ = w8
      have H8 : Hid (CodeR w8 (hh o size) (sys o size 15) cs sa sc ∧ SObj w8 g8 86 cs.toList ∧ SB w8 g a nb cb f S p' sh' op' ∧ SObj w8 g4 86 (cdCells (fun _ => 0) (.slice none 0 0)) ∧ Only (fun k => k = g) w w8 ∧ (g4 < g8 ∧ g < g4) ∧ (0 < M → ∀ x, sa = some x → w3.heap.size ≤ x.block ∧ x.block < w8.heap.size) ∧ g4 < w3.heap.size) := Lib.hid (by
        have e1 : Only (fun _ => False) w6 w8 := by rw [← hw8]; exact HPT.out.2
        have e2 : SObj w8 g8 86 cs.toList := by rw [← hw8]; exact HPT.out.1
        have e3 : Only (fun _ => False) w3 w8 := (Only.of_below H6.out.2.2.1).tr e1
        have h3 := H3.out.2.2
        have hl4 := h3.2.1.lt
        have hs6 := H6.out.2.2.1.size
        refine ⟨H6.out.1.only e1 (fun _ _ _ h => h), e2, H3.out.1.only e3 (fun h => h) (fun _ _ _ h => h), h3.2.1.only e3 (fun h => h), ((H1.out.2.1.mono (S' := fun k => k = g) (fun _ h => h.elim)).tr (H2.out.2.1.tr h3.1)).tr (e3.mono (fun _ h => h.elim)), ⟨by omega, by omega⟩, fun h0 x hx => ⟨H6.out.2.1 h0 x hx, ?_⟩, hl4⟩
        obtain ⟨g1, o1, e6, hg1, _⟩ := H6.out.1.row (by rw [← H6.out.2.2.2.1]; exact h0)
        rw [hx] at e6; injection e6 with e6; subst e6
        exact Nat.lt_of_lt_of_le hg1 e1.size)
      have d16 : w8.cell? ⟨g8, 16, none⟩ = some (.slice sa M sc) := H8.out.2.1.cell 16 (by rw [H8.out.1.cells]; show (cdCells _ _)[16]? = _; rw [cdCells_sym, ← H6.out.2.2.2.1])
      have b3 := H8.out.2.2.1.obj.cell 3 rfl
      have z3 := H8.out.2.2.1.obj.free 3
      obtain ⟨op5, hop5⟩ : ∃ x : Bool, x = (op' || !(okb && decide (1 < M))) := ⟨_, rfl⟩
      have HOP := Lib.hid hop5
      have HWB : Hid (wholeB o size = (okb && decide (1 < M))) := Lib.hid (by rw [H6.out.2.2.2.2, H6.out.2.2.2.1]; exact made_whole o size HO.out.1)
      have hne : ∀ k : Nat, k = g → ¬ k = g4 := fun k hk e => by have := H8.out.2.2.2.2.2.1; omega
      have HNE := Lib.hid hne
      clear hw8 HPT HTH hg8 hop5 H3 hne
      go_cut [] from 30 to 46 (fun wx => Hid (SB wx g a nb cb f S p' sh' op5 ∧ Only (fun k => k = g) w8 wx))
      case first =>
        have HSET : Hid (∀ b : Bool, b = op5 → Hid (SB (w8.setCell ⟨g, 3, none⟩ (.bool b)) g a nb cb f S p' sh' op5 ∧ Only (fun k => k = g) w8 (w8.setCell ⟨g, 3, none⟩ (.bool b)))) := Lib.hid (fun b hb => by
          subst hb
          have ho : Only (fun k => k = g) w8 (w8.setCell ⟨g, 3, none⟩ (.bool b)) := Only.setCell _ _ _ rfl
          exact ⟨H8.out.2.2.1.own ho H8.out.2.2.1.le (H8.out.2.2.1.obj.set 3 (.bool b)), ho⟩)
        cases op' with
        | true =>
          go_wp2
          go_meet
          exact HSET.out _ (by rw [HOP.out]; rfl)
        | false =>
          cases okb with
          | false =>
            go_wp2
            go_meet
            exact HSET.out _ (by rw [HOP.out]; rfl)
          | true =>
            go_wp2
            go_meet
            exact HSET.out _ (by rw [HOP.out]; by_cases h : 1 < M <;> simp [h] <;> omega)
      case rest =>
        clear d16 b3 z3
        have hob := H8.out.2.1.only hcut.out.2 (by have := H8.out.2.2.2.2.2.1; omega)
        have hr4 := H8.out.2.2.2.1.only hcut.out.2 (fun e => HNE.out g4 e rfl)
        have hr : (op5 = true ∧ preF S nb size = .opened) ∨ (op5 = false ∧ sh' = true ∧ preF S nb size = .short) ∨ (op5 = false ∧ sh' = false ∧ okb = true ∧ ∃ C I sa sc M, preF S nb size = .tree C p' ∧ Code C I ∧ CodeOK C wc cs sa sc M ∧ ∀ x, 0 < M → sa = some x → w3.heap.size ≤ x.block ∧ x.block < wc.heap.size) := by
          rcases HO.out.2 with ⟨h1, h2⟩ | ⟨h1, h2, h3⟩
          · exact .inl ⟨by rw [HOP.out, h1]; rfl, h2⟩
          · by_cases hw : wholeB o size = true
            · rw [if_pos hw] at h3
              have h5 := HWB.out
              rw [hw] at h5
              have hok : okb = true := by cases okb; simp at h5; rfl
              obtain ⟨C, I, c1, c2, c3, c4⟩ := made_ok HO.out.1 (by omega) (H6.out.2.2.2.2.symm.trans hok) w8 cs sa sc H8.out.1
              rw [← H6.out.2.2.2.1] at c2
              refine .inr (.inr ⟨by rw [HOP.out, h1, ← h5]; rfl, h2, hok, C, I, sa, sc, M, by rw [h3, c3 hw], c1, c2.only hcut.out.2 (fun h0 x hx e => by have := (H8.out.2.2.2.2.2.2.1 h0 x hx).1; have := H8.out.2.2.2.2.2; omega), fun x h0 hx => by have := H8.out.2.2.2.2.2.2.1 h0 x hx; have := hcut.out.2.size; omega⟩)
            · rw [if_neg hw] at h3
              have hw2 : wholeB o size = false := by cases h : wholeB o size; rfl; exact absurd h hw
              exact .inl ⟨by rw [HOP.out, ← HWB.out, hw2]; simp, h3⟩
        have HPUT := Lib.hid (cres_put (w := w) HSZ.out.1 HSZ.out.2 hcut.out.1 hr (by have := H1.out.2.2; omega) H8.out.2.2.2.2.2.2.2 hr4 H.out.1.obj.lt H.out.2)
        have HTH : Hid (World.there wc g4 0 cs.size) := Lib.hid (there_of_obj hr4 (by rw [HSZ.out.1, cdCells_len]; exact Nat.le_refl _))
        have HBX : Hid (wc.heap[g8]? = some (.cells cs 86 (0, 0))) := Lib.hid (by
          have h6 : wc.heap[g8]? = some (.cells cs.toList.toArray 86 (0, 0)) := hob
          rw [Array.toArray_toList] at h6
          exact h6)
        have HON := Lib.hid (H8.out.2.2.2.2.1.tr hcut.out.2)
        clear hob hr4 hr hcut
        go_wp2_with (first | (refine wpList_load_row rfl 86 (.tmp 8) rfl g8 rfl 86 cs (0,0) _ HBX.out Tryd.underlying86 rfl (infoCode17 cs HSZ.out.1) ?_) | (refine wpList_store_mid rfl 86 (.tmp 4) (.tmp 47) rfl g4 0 cs rfl rfl HTH.out (infoCode17 cs HSZ.out.1) HSZ.out.2 ?_))
        refine bodyPost_ret (v := .tuple #[.agg cs, .bool okb]) ?_ rfl ⟨HPUT.out.1, New1.cut ((HON.out.mono (fun _ e => .inl e)).tr (HPUT.out.2.1.mono (fun k e => .inr (by have := H1.out.2.2; omega))))⟩
        rw [results_cell_tmp Tryd.results42]
        have hl := res_load HPUT.out.2.2 HSZ.out.1
        simp [asAddr, hl]
end Go.Proofs.YtdmefbpfpmkdcaaDoor
