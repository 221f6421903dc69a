/- Going to the next chunk: the walk. Printed by wip/gen_rfh.py. -/
import Derived.Test.YthipghkhdlnfiaaDoorRfG
namespace Go.Proofs.YthipghkhdlnfiaaDoor
open Go.RowKit
set_option linter.unusedVariables false
set_option linter.unusedSimpArgs false

theorem and_one (n : Nat) (h : n < 4294967296) : (bits .and .u32 (n : Int) 1 == 1) = decide (n % 2 = 1) := by
  have e : bits .and .u32 (n : Int) 1 = ((n % 2 : Nat) : Int) := by
    rw [show (1 : Int) = ((1 : Nat) : Int) from rfl, u32_and_nat n 1 h (by decide), Nat.and_one_is_mod]
  rw [e, Bool.eq_iff_iff]
  simp only [beq_iff_eq, decide_eq_true_eq]
  omega

set_option maxRecDepth 100000 in
set_option maxHeartbeats 8000000 in
theorem next_any (B bp : Nat) (ca : Option Addr) (cn cc N : Nat) (cz : Nat → Int) (E U M S L P H : Addr) (hBp : B ≤ bp) (Ls : List Lv) (rest : List Int) (hby : By rest) (hr40 : rest.length ≤ 1099511627776) (z tot chk : Nat) (cr : Value) (buf : List Value) (pad : Bool) (w : World)
    (he : Env B w ca cn cc N cz E U M S L P H) (hp : Pcs B w bp ca cn cc N rest) (hs : Stk w B bp Ls) (hb : buf.length = 8) (hz : SObj w z 89 (zC (lvV bp Ls) .nilIface tot chk cr buf pad)) (hBz : B ≤ z) (hct : chk ≤ tot) (ht : tot < 4294967296) (hzl : ∀ M ∈ Ls, M.z ≠ z)
    (hcr : 0 < chk → ∃ c, B ≤ c ∧ cr = .pointer (some ⟨c, 0, none⟩) ∧ SObj w c 95 [.pointer (some ⟨z, 0, none⟩)]) :
    Calls Tryd.prog 22 #[.pointer (some ⟨z, 0, none⟩)] w (NxP B w z bp ca cn cc N E Ls rest (nextM rest (av Ls rest.length) tot chk pad)) := by
  obtain ⟨TT, q, _, hV, _⟩ := lv_shape bp Ls
  have hz0 := hz
  rw [hV] at hz
  obtain ⟨g, hg⟩ : ∃ g, g = w.heap.size := ⟨_, rfl⟩
  obtain ⟨a, ha⟩ : ∃ a, a = av Ls rest.length := ⟨_, rfl⟩
  have hB := he.1.lt
  have hbpl : bp < w.heap.size := by obtain ⟨_, _, _, o, _⟩ := hp; exact SObj.lt o
  have HSK : Hid (NSk B z g bp Ls) := Lib.hid (by
    refine ⟨by have := hz.lt; omega, by omega, fun e => ?_, hBz, by omega, hBp, fun Q hQ => ?_⟩
    · obtain ⟨_, _, _, o, _⟩ := hp
      rw [← e] at o
      exact absurd (o.ty.inj hz.ty) (by decide)
    · obtain ⟨_, _, t1, t2⟩ := hs.ge Q hQ
      obtain ⟨c1, f1, g1⟩ := t1
      obtain ⟨c2, f2, g2⟩ := t2
      have h1 := (Array.getElem?_eq_some_iff.1 g1).1
      have h2 := (Array.getElem?_eq_some_iff.1 g2).1
      refine ⟨hzl Q hQ, fun e => ?_, by omega, by omega⟩
      have := OfTy.inj ⟨c2, f2, g2⟩ (by rw [e]; exact hz.ty)
      exact absurd this (by decide))
  have H1 : Hid (NSt B w z g bp ca cn cc N cz E U M S L P H Ls rest (.iface TT (.pointer (some ⟨q, 0, none⟩))) .nilIface tot chk cr buf pad 0 (w.alloc (.cells #[.int .u8 0, .int .u8 0, .int .u8 0, .int .u8 0] 55))) := Lib.hid (by
    have ho : Only (fun _ => False) w (w.alloc (.cells #[.int .u8 0, .int .u8 0, .int .u8 0, .int .u8 0] 55)) := Only.alloc _ _ _
    refine ⟨hz.alloc _, hb, ⟨_, _, _, _, by rw [hg]; exact obj_new w _ [.int .u8 0, .int .u8 0, .int .u8 0, .int .u8 0]⟩, hp.only ho (fun _ h => h.elim) (fun h => h), by rw [dec_zero]; exact hs.only ho (fun _ _ => ⟨fun h => h, fun h => h⟩), he.only ho (fun _ h => h.elim), ho.mono (fun _ h => h.elim)⟩)
  have HCR : Hid (0 < chk → ∃ c, B ≤ c ∧ cr = .pointer (some ⟨c, 0, none⟩) ∧ SObj w c 95 [.pointer (some ⟨z, 0, none⟩)]) := Lib.hid hcr
  have HTY : Hid (OfTy w 89 z ∧ OfTy w 63 bp ∧ ∀ Q ∈ Ls, OfTy w 89 Q.z) := Lib.hid ⟨hz.ty, by obtain ⟨_, _, _, o, _⟩ := hp; exact o.ty, fun Q hQ => (hs.ge Q hQ).2.2.1⟩
  have HX := Lib.hid (And.intro hg (And.intro ha (And.intro hV (And.intro hby (And.intro hs hzl)))))
  have HEX : Hid (∀ (wv wf : World) (k c : Nat) (er : Addr) {tot' chk' : Nat} {cr' : Value} {buf' : List Value} {pad' : Bool}, NSt B w z g bp ca cn cc N cz E U M S L P H Ls rest (.iface TT (.pointer (some ⟨q, 0, none⟩))) (.iface 115 (.pointer (some er))) tot' chk' cr' buf' pad' c wv → Only (fun k => k = g) wv wf → nextM rest a tot chk pad = .bad k c → (k = 1 ∧ er = E ∨ k = 2 ∧ er ≠ E ∧ ∃ gg s, Snt B wv gg er s ∧ s ≠ sE) → NxP B w z bp ca cn cc N E Ls rest (nextM rest a tot chk pad) (.returned (.tuple #[.agg #[.int .u8 0, .int .u8 0, .int .u8 0, .int .u8 0], .int .u32 0, .nilIface, errV er])) wf) := Lib.hid (fun wv wf k c er tot' chk' cr' buf' pad' hn ho hno hk => by
    have e := HX.out.1
    have hk2 := HSK.out
    rw [hno]
    refine ⟨hn.pc.only ho (fun j hj => by rw [hj]; exact hk2.bg) (fun e => hk2.gb e.symm), hn.st.only ho (fun Q hQ => ?_), hn.on.trans ho (fun j hj hnn hjj => by omega), er, tot', chk', cr', buf', pad', hn.b8, ?_, rfl, ?_⟩
    · obtain ⟨Q', hQ', rfl⟩ := List.mem_map.1 hQ
      exact ⟨(hk2.al Q' hQ').2.2.1, (hk2.al Q' hQ').2.2.2⟩
    · rcases hk with hk | ⟨h1, h2, gg, s, h3, h4⟩
      · exact .inl hk
      · exact .inr ⟨h1, h2, gg, s, h3.only hn.en.1.lt ho (fun j hj => by rw [hj]; exact hk2.bg), h4⟩
    · rw [HX.out.2.2.1]
      exact hn.zo.only ho (fun e => hk2.gz e.symm))
  have HBD := Lib.hid (And.intro hr40 ht)
  rw [← ha]
  have ngz := HSK.out.gz
  clear he hp hs hb hz hz0 hBz hzl hcr hg ha hV hby hB hbpl hr40 ht
  go_enter Tryd.func22, Tryd.ntmps22
  go_upto_region 1 with fail
  rw [← HX.out.1]
  generalize World.alloc _ _ = w1 at H1 ⊢
  have kz1 : w1.cell? ⟨z, 1, none⟩ = some .nilIface := H1.out.zo.cell 1 rfl
  have kz3 : w1.cell? ⟨z, 3, none⟩ = some (.int .u32 chk) := H1.out.zo.cell 3 rfl
  have kz4 : w1.cell? ⟨z, 4, none⟩ = some cr := H1.out.zo.cell 4 rfl
  go_upto_if 22 with fail
  generalize hb22 : ((chk : Int) != 0) = b22
  go_cut [] from 23 to 65 (fun wx => ∃ (cr' : Value) (buf' : List Value), chk ≤ a ∧ Hid (NSt B w z g bp ca cn cc N cz E U M S L P H Ls rest (.iface TT (.pointer (some ⟨q, 0, none⟩))) .nilIface (tot - chk) 0 cr' buf' pad chk wx))
  case first =>
    cases b22
    · have hc0 : chk = 0 := by
        rcases Nat.eq_zero_or_pos chk with h | h
        · exact h
        · rw [show ((chk : Int) != 0) = true from by rw [bne_iff_ne]; omega] at hb22; exact absurd hb22 (by decide)
      clear hb22
      subst hc0
      go_wp2
      go_meet
      exact ⟨cr, buf, Nat.zero_le _, Lib.hid H1.out⟩
    · have hc0 : ¬ chk = 0 := fun e => by subst e; exact absurd hb22 (by decide)
      clear hb22
      obtain ⟨c, hcB, hcr, hco⟩ := HCR.out (by omega)
      subst hcr
      have HNC : Hid (∀ k, (k = z ∨ RW bp Ls k) → k ≠ c) := Lib.hid (fun k e ek => by
        subst ek
        rcases e with e | e | ⟨Q, hQ, e⟩
        · exact absurd (hco.ty.inj (by rw [e]; exact HTY.out.1)) (by decide)
        · exact absurd (hco.ty.inj (by rw [e]; exact HTY.out.2.1)) (by decide)
        · exact absurd (hco.ty.inj (by rw [e]; exact HTY.out.2.2 Q hQ)) (by decide))
      have HCO : Hid (Stk w1 B bp (⟨z, c, tot, chk, pad⟩ :: Ls)) := Lib.hid (by
        refine ⟨⟨buf, H1.out.b8, ?_⟩, ?_, hct, HBD.out.2, HSK.out.bz, hcB, fun Q hQ => (HSK.out.al Q hQ).1, ?_⟩
        · rw [HX.out.2.2.1]; exact H1.out.zo
        · exact hco.only H1.out.on (fun e => HNC.out _ e rfl)
        · have := H1.out.st; rwa [dec_zero] at this)
      clear hco
      obtain ⟨A, hA⟩ : ∃ A, A = av (⟨z, c, tot, chk, pad⟩ :: Ls) rest.length := ⟨_, rfl⟩
      have hA2 : A = min chk a := by rw [hA, HX.out.2.1]; rfl
      have hAc : A ≤ chk := by omega
      have hAa : A ≤ a := by omega
      have HCP : Hid (Calls Tryd.prog 32 #[.iface 93 (.agg #[]), .iface 87 (.pointer (some ⟨c, 0, none⟩))] w1 (CpP B w1 bp ca cn cc N (⟨z, c, tot, chk, pad⟩ :: Ls) rest)) := Lib.hid (copy_any B bp ca cn cc N cz E hBp ⟨z, c, tot, chk, pad⟩ Ls rest w1 H1.out.en.1 H1.out.pc HCO.out HBD.out.1)
      have HA := Lib.hid (And.intro hA hA2); clear hA hA2
      have HAI : Hid ((0 : Int) ≤ (A : Int) ∧ (A : Int) < 4294967296) := Lib.hid ⟨by omega, by have := HBD.out.2; omega⟩
      go_wp2_with fail
      refine HCP.out.mono ?_
      obtain ⟨iA0, iA1⟩ := HAI.out
      rintro _ w2 ⟨rfl, hp2, hs2, ho2⟩
      rw [← HA.out.1] at hp2 hs2 ⊢
      have H2 : Hid (∃ buf2, NSt B w z g bp ca cn cc N cz E U M S L P H Ls rest (.iface TT (.pointer (some ⟨q, 0, none⟩))) .nilIface (tot - A) (chk - A) (.pointer (some ⟨c, 0, none⟩)) buf2 pad A w2) := Lib.hid (by
        obtain ⟨⟨buf2, hb2, hz2⟩, _, _, _, _, _, _, hst2⟩ := hs2
        have ho : Only (fun k => k = z ∨ RW bp Ls k) w1 w2 := ho2.mono (fun k hk => by
          rcases hk with hk | ⟨Q, hQ, hk⟩
          · exact .inr (.inl hk)
          · rcases List.mem_cons.1 hQ with rfl | hQ
            · exact .inl hk
            · exact .inr (.inr ⟨Q, hQ, hk⟩))
        have hge : ∀ k, (k = z ∨ RW bp Ls k) → B ≤ k := fun k hk => by
          rcases hk with hk | hk
          · rw [hk]; exact HSK.out.bz
          · exact RW.ge HX.out.2.2.2.2.1 hBp hk
        have hgn : ¬ (g = z ∨ RW bp Ls g) := fun h => by
          rcases h with h | h | ⟨Q, hQ, h⟩
          · exact HSK.out.gz h
          · exact HSK.out.gb h
          · exact (HSK.out.al Q hQ).2.2.1 h.symm
        obtain ⟨y0, y1, y2, y3, hgo⟩ := H1.out.go
        refine ⟨buf2, ?_, hb2, ⟨y0, y1, y2, y3, hgo.only ho hgn⟩, hp2, hst2, H1.out.en.only ho hge, H1.out.on.tr ho⟩
        have e := hz2
        rw [lvV_dec, HX.out.2.2.1] at e
        exact e)
      clear hp2 hs2 ho2 HCP
      obtain ⟨buf2, h2⟩ := H2.out
      have HN2 := Lib.hid h2; clear h2 H2
      have fz1 : w2.frozen? ⟨z, 1, none⟩ = false := HN2.out.zo.free 1
      have jz1 : w2.cell? ⟨z, 1, none⟩ = some .nilIface := HN2.out.zo.cell 1 rfl
      clear kz1 kz3 kz4
      have HN3 := Lib.hid (HN2.out.err HSK.out .nilIface)
      go_upto_region 7 with fail
      generalize World.setCell _ _ _ = w3 at HN3 ⊢
      clear fz1 jz1
      have jz1 : w3.cell? ⟨z, 1, none⟩ = some .nilIface := HN3.out.zo.cell 1 rfl
      by_cases hAk : A = chk
      · subst hAk
        go_wp2
        go_meet
        exact ⟨_, buf2, hAa, Lib.hid (by have := HN3.out; rwa [Nat.sub_self] at this)⟩
      · have hne : ((A : Int) != (chk : Int)) = true := by rw [bne_iff_ne]; omega
        have HNO : Hid (nextM rest a tot chk pad = .bad 2 A) := Lib.hid (by unfold nextM; rw [if_pos (by have := HA.out.2; omega), ← HA.out.2])
        go_upto_region 8 with fail
        clear jz1
        have kg : w3.cell? ⟨3, 0, none⟩ = some (.iface 115 (.pointer (some S))) := HN3.out.en.2.s.var
        have HN4 := Lib.hid (HN3.out.err HSK.out (.iface 115 (.pointer (some S))))
        have kz1 : w3.cell? ⟨z, 1, none⟩ = some _ := HN3.out.zo.cell 1 rfl
        have fz1 : w3.frozen? ⟨z, 1, none⟩ = false := HN3.out.zo.free 1
        go_upto_region 9 with fail
        clear kg kz1 fz1
        generalize World.setCell _ _ _ = w4 at HN4 ⊢
        have jz1 : w4.cell? ⟨z, 1, none⟩ = some (.iface 115 (.pointer (some S))) := HN4.out.zo.cell 1 rfl
        go_upto_region 10 with fail
        clear jz1
        have kz : w4.cell? ⟨z, 1, none⟩ = some (.iface 115 (.pointer (some S))) := HN4.out.zo.cell 1 rfl
        obtain ⟨y0, y1, y2, y3, hgo⟩ := HN4.out.go
        have gc0 : w4.cell? ⟨g, 0, none⟩ = some y0 := hgo.cell 0 rfl
        have gf0 : w4.frozen? ⟨g, 0, none⟩ = false := hgo.free 0
        have gc1 : w4.cell? ⟨g, 1, none⟩ = some y1 := hgo.cell 1 rfl
        have gf1 : w4.frozen? ⟨g, 1, none⟩ = false := hgo.free 1
        have gc2 : w4.cell? ⟨g, 2, none⟩ = some y2 := hgo.cell 2 rfl
        have gf2 : w4.frozen? ⟨g, 2, none⟩ = false := hgo.free 2
        have gc3 : w4.cell? ⟨g, 3, none⟩ = some y3 := hgo.cell 3 rfl
        have gf3 : w4.frozen? ⟨g, 3, none⟩ = false := hgo.free 3
        have HGO := Lib.hid hgo; clear hgo
        go_region_held3 (fun w' => w'.cell? ⟨z, 1, none⟩ = some (.iface 115 (.pointer (some S)))) (first | exact kz | (simp only [far_cell ngz, drew_cell]; exact kz)) (first | fail)
        all_goals as_aux_lemma =>
          have HF : Hid (SObj ((((w4.setCell ⟨g, 0, none⟩ (.int .u8 0)).setCell ⟨g, 1, none⟩ (.int .u8 0)).setCell ⟨g, 2, none⟩ (.int .u8 0)).setCell ⟨g, 3, none⟩ (.int .u8 0)).drew g 55 [.int .u8 0, .int .u8 0, .int .u8 0, .int .u8 0] ∧ Only (fun k => k = g) w4 ((((w4.setCell ⟨g, 0, none⟩ (.int .u8 0)).setCell ⟨g, 1, none⟩ (.int .u8 0)).setCell ⟨g, 2, none⟩ (.int .u8 0)).setCell ⟨g, 3, none⟩ (.int .u8 0)).drew) := Lib.hid ⟨SObj.drewN (((((HGO.out.set 0 (.int .u8 0)).set 1 (.int .u8 0)).set 2 (.int .u8 0)).set 3 (.int .u8 0))) 1, ((((Only.setCell (S := fun k => k = g) w4 _ _ rfl).tr (Only.setCell _ _ _ rfl)).tr (Only.setCell _ _ _ rfl)).tr (Only.setCell _ _ _ rfl)).dr⟩
          generalize World.drew _ = wf at HF ⊢
          go_wp2
          refine bodyPost_ret (v := .tuple #[.agg #[.int .u8 0, .int .u8 0, .int .u8 0, .int .u8 0], .int .u32 0, .nilIface, errV S]) ?_ rfl ?_
          · exact results_c3 Tryd.results22 rfl (load_four HF.out.1)
          · exact HEX.out w4 wf 2 (A) S HN4.out HF.out.2 (by exact HNO.out) (.inr ⟨rfl, (HN4.out.en.2.s.ne HN4.out.en.2.e (by decide)), _, _, HN4.out.en.2.s, by decide⟩)
  case rest =>
    obtain ⟨cr', buf', hca, HC⟩ := hcut
    clear kz1 kz3 kz4 hb22
    obtain ⟨t, ht⟩ : ∃ t, t = tot - chk := ⟨_, rfl⟩
    rw [← ht] at HC
    have HT : Hid (t = tot - chk ∧ t < 4294967296 ∧ chk ≤ a) := Lib.hid ⟨ht, by have := HBD.out.2; omega, hca⟩
    clear ht hca hct
    have jz4 : wc.cell? ⟨z, 4, none⟩ = some cr' := HC.out.zo.cell 4 rfl
    have fz4 : wc.frozen? ⟨z, 4, none⟩ = false := HC.out.zo.free 4
    have HC1 := Lib.hid (HC.out.cr HSK.out (.pointer none))
    go_upto_region 12 with fail
    generalize World.setCell _ _ _ = w5 at HC1 ⊢
    clear jz4 fz4
    have jz13 : w5.cell? ⟨z, 13, none⟩ = some (.bool pad) := HC1.out.zo.cell 13 (zC_at13 _ _ _ _ _ _ _ HC1.out.b8)
    go_upto_if 72 with fail
    clear jz13
    go_cut [] from 73 to 128 (fun wx => ∃ (t' c' : Nat) (buf2 : List Value), Hid (nextM rest a tot chk pad = nextT rest a t' c' ∧ t' < 4294967296) ∧ Hid (NSt B w z g bp ca cn cc N cz E U M S L P H Ls rest (.iface TT (.pointer (some ⟨q, 0, none⟩))) .nilIface t' 0 (.pointer none) buf2 pad c' wx))
    case first =>
        cases pad
        · go_wp2
          go_meet
          exact ⟨t, chk, buf', Lib.hid ⟨by obtain ⟨e1, e2, e3⟩ := HT.out; unfold nextM; rw [if_neg (by omega)]; simp [e1], HT.out.2.1⟩, Lib.hid HC1.out⟩
        · have jz2 : w5.cell? ⟨z, 2, none⟩ = some (.int .u32 t) := HC1.out.zo.cell 2 rfl
          go_upto_if 77 with fail
          by_cases ht0 : t = 0
          · rw [show (((t : Nat) : Int) == 0) = true from by rw [ht0]; rfl]
            have HNO : Hid (nextM rest a tot chk true = .bad 2 chk) := Lib.hid (by obtain ⟨e1, e2, e3⟩ := HT.out; unfold nextM; rw [if_neg (by omega), if_pos rfl, if_pos (by omega)])
            clear jz2
            go_upto_region 14 with fail
            have kg : w5.cell? ⟨4, 0, none⟩ = some (.iface 115 (.pointer (some L))) := HC1.out.en.2.l.var
            have HN6 := Lib.hid (HC1.out.err HSK.out (.iface 115 (.pointer (some L))))
            have kz1 : w5.cell? ⟨z, 1, none⟩ = some _ := HC1.out.zo.cell 1 rfl
            have fz1 : w5.frozen? ⟨z, 1, none⟩ = false := HC1.out.zo.free 1
            go_upto_region 15 with fail
            clear kg kz1 fz1
            generalize World.setCell _ _ _ = w6 at HN6 ⊢
            have jz1 : w6.cell? ⟨z, 1, none⟩ = some (.iface 115 (.pointer (some L))) := HN6.out.zo.cell 1 rfl
            rename_i hRet
            (repeat (rename_i hh; clear hh))
            (try (rename_i Ka; repeat (rename_i hh; clear hh)))
            (try (rename_i Kb; repeat (rename_i hh; clear hh)))
            have kz : w6.cell? ⟨z, 1, none⟩ = some (.iface 115 (.pointer (some L))) := HN6.out.zo.cell 1 rfl
            obtain ⟨y0, y1, y2, y3, hgo⟩ := HN6.out.go
            have gc0 : w6.cell? ⟨g, 0, none⟩ = some y0 := hgo.cell 0 rfl
            have gf0 : w6.frozen? ⟨g, 0, none⟩ = false := hgo.free 0
            have gc1 : w6.cell? ⟨g, 1, none⟩ = some y1 := hgo.cell 1 rfl
            have gf1 : w6.frozen? ⟨g, 1, none⟩ = false := hgo.free 1
            have gc2 : w6.cell? ⟨g, 2, none⟩ = some y2 := hgo.cell 2 rfl
            have gf2 : w6.frozen? ⟨g, 2, none⟩ = false := hgo.free 2
            have gc3 : w6.cell? ⟨g, 3, none⟩ = some y3 := hgo.cell 3 rfl
            have gf3 : w6.frozen? ⟨g, 3, none⟩ = false := hgo.free 3
            have HGO := Lib.hid hgo; clear hgo
            go_region_held3 (fun w' => w'.cell? ⟨z, 1, none⟩ = some (.iface 115 (.pointer (some L)))) (first | exact kz | (simp only [far_cell ngz, drew_cell]; exact kz)) (first | fail)
            all_goals as_aux_lemma =>
              have HF : Hid (SObj ((((w6.setCell ⟨g, 0, none⟩ (.int .u8 0)).setCell ⟨g, 1, none⟩ (.int .u8 0)).setCell ⟨g, 2, none⟩ (.int .u8 0)).setCell ⟨g, 3, none⟩ (.int .u8 0)).drew g 55 [.int .u8 0, .int .u8 0, .int .u8 0, .int .u8 0] ∧ Only (fun k => k = g) w6 ((((w6.setCell ⟨g, 0, none⟩ (.int .u8 0)).setCell ⟨g, 1, none⟩ (.int .u8 0)).setCell ⟨g, 2, none⟩ (.int .u8 0)).setCell ⟨g, 3, none⟩ (.int .u8 0)).drew) := Lib.hid ⟨SObj.drewN (((((HGO.out.set 0 (.int .u8 0)).set 1 (.int .u8 0)).set 2 (.int .u8 0)).set 3 (.int .u8 0))) 1, ((((Only.setCell (S := fun k => k = g) w6 _ _ rfl).tr (Only.setCell _ _ _ rfl)).tr (Only.setCell _ _ _ rfl)).tr (Only.setCell _ _ _ rfl)).dr⟩
              generalize World.drew _ = wf at HF ⊢
              go_wp2
              refine bodyPost_ret (v := .tuple #[.agg #[.int .u8 0, .int .u8 0, .int .u8 0, .int .u8 0], .int .u32 0, .nilIface, errV L]) ?_ rfl ?_
              · exact results_c3 Tryd.results22 rfl (load_four HF.out.1)
              · exact HEX.out w6 wf 2 (chk) L HN6.out HF.out.2 (by exact HNO.out) (.inr ⟨rfl, (HN6.out.en.2.l.ne HN6.out.en.2.e (by decide)), _, _, HN6.out.en.2.l, by decide⟩)
          · rw [show (((t : Nat) : Int) == 0) = false from by rw [beq_eq_false_iff_ne]; omega]
            have HNP : Hid (nextM rest a tot chk true = if a - chk = 0 then .bad 2 chk else nextT rest a (t - 1) (chk + 1)) := Lib.hid (by obtain ⟨e1, e2, e3⟩ := HT.out; unfold nextM; rw [if_neg (by omega), if_pos rfl, if_neg (by omega), ← e1])
            have iT0 : (1 : Int) ≤ (t : Int) := by omega
            have iT1 : (t : Int) < 4294967296 := by have := HT.out.2.1; omega
            have e1 : ((t : Int) - 1) = ((t - 1 : Nat) : Int) := by omega
            have fz2 : w5.frozen? ⟨z, 2, none⟩ = false := HC1.out.zo.free 2
            have HC3 := Lib.hid (HC1.out.tot HSK.out (t - 1))
            go_upto_region 17 with fail
            (try rw [e1])
            clear jz2 fz2 e1 iT0 iT1 ht0
            generalize World.setCell _ _ _ = w6 at HC3 ⊢
            obtain ⟨u, hu⟩ : ∃ u, u = t - 1 := ⟨_, rfl⟩
            rw [← hu] at HC3 HNP ⊢
            have HU : Hid (u < 4294967296) := Lib.hid (by have := HT.out.2.1; omega)
            clear hu
            have kz0 : w6.cell? ⟨z, 0, none⟩ = some (.iface TT (.pointer (some ⟨q, 0, none⟩))) := HC3.out.zo.cell 0 rfl
            by_cases hA : a - chk = 0
            · have HNO : Hid (nextM rest a tot chk true = .bad 2 chk) := Lib.hid (by have := HNP.out; rwa [if_pos hA] at this)
              have HRF := Lib.hid (NSt.rd0 (HC3.out.drew 1) HSK.out HX.out.2.2.1 1 (by omega) (by omega) (by rw [← HX.out.2.1]; exact hA))
              clear hA
              go_region_held3 (fun w' => w'.cell? ⟨z, 0, none⟩ = some (.iface TT (.pointer (some ⟨q, 0, none⟩)))) (first | exact kz0 | exact qz0 | (simp only [drew_cell]; exact kz0) | (simp only [drew_cell]; exact qz0) | exact (HN7.out.err HSK.out _).zo.cell 0 rfl | (simp only [drew_cell]; exact (HN7.out.err HSK.out _).zo.cell 0 rfl)) (first | (refine HRF.out.mono ?_; rintro _ w7 ⟨rfl, hN⟩; obtain ⟨b7, hN⟩ := hN; have HN7 := Lib.hid hN; clear hN; have qz0 : w7.cell? ⟨z, 0, none⟩ = some (.iface TT (.pointer (some ⟨q, 0, none⟩))) := HN7.out.zo.cell 0 rfl; have fz1 : w7.frozen? ⟨z, 1, none⟩ = false := HN7.out.zo.free 1; have jz1 : w7.cell? ⟨z, 1, none⟩ = some .nilIface := HN7.out.zo.cell 1 rfl))
              have HN8 := Lib.hid (HN7.out.err HSK.out (.iface 115 (.pointer (some E))))
              clear kz0 qz0 fz1 jz1
              (try clear hHeld)
              generalize World.setCell _ _ _ = w8 at HN8 ⊢
              have jz1 : w8.cell? ⟨z, 1, none⟩ = some (.iface 115 (.pointer (some E))) := HN8.out.zo.cell 1 rfl
              have kE := HN8.out.en.2.e.var
              have qq := eql_err E
              go_upto_region 19 with fail
              go_quiet (fail)
              go_upto_if 119 with fail
              have HN9 := Lib.hid (HN8.out.drew nq)
              clear jz1 kE qq
              generalize World.drewN _ _ = w9 at HN9 ⊢
              go_upto_region 20 with fail
              have kg : w9.cell? ⟨5, 0, none⟩ = some (.iface 115 (.pointer (some P))) := HN9.out.en.2.p.var
              have HN10 := Lib.hid (HN9.out.err HSK.out (.iface 115 (.pointer (some P))))
              have kz1 : w9.cell? ⟨z, 1, none⟩ = some _ := HN9.out.zo.cell 1 rfl
              have fz1 : w9.frozen? ⟨z, 1, none⟩ = false := HN9.out.zo.free 1
              go_upto_region 21 with fail
              clear kg kz1 fz1
              generalize World.setCell _ _ _ = w10 at HN10 ⊢
              have jz1 : w10.cell? ⟨z, 1, none⟩ = some (.iface 115 (.pointer (some P))) := HN10.out.zo.cell 1 rfl
              rename_i hRet
              (repeat (rename_i hh; clear hh))
              (try (rename_i Ka; repeat (rename_i hh; clear hh)))
              (try (rename_i Kb; repeat (rename_i hh; clear hh)))
              have kz : w10.cell? ⟨z, 1, none⟩ = some (.iface 115 (.pointer (some P))) := HN10.out.zo.cell 1 rfl
              obtain ⟨y0, y1, y2, y3, hgo⟩ := HN10.out.go
              have gc0 : w10.cell? ⟨g, 0, none⟩ = some y0 := hgo.cell 0 rfl
              have gf0 : w10.frozen? ⟨g, 0, none⟩ = false := hgo.free 0
              have gc1 : w10.cell? ⟨g, 1, none⟩ = some y1 := hgo.cell 1 rfl
              have gf1 : w10.frozen? ⟨g, 1, none⟩ = false := hgo.free 1
              have gc2 : w10.cell? ⟨g, 2, none⟩ = some y2 := hgo.cell 2 rfl
              have gf2 : w10.frozen? ⟨g, 2, none⟩ = false := hgo.free 2
              have gc3 : w10.cell? ⟨g, 3, none⟩ = some y3 := hgo.cell 3 rfl
              have gf3 : w10.frozen? ⟨g, 3, none⟩ = false := hgo.free 3
              have HGO := Lib.hid hgo; clear hgo
              go_region_held3 (fun w' => w'.cell? ⟨z, 1, none⟩ = some (.iface 115 (.pointer (some P)))) (first | exact kz | (simp only [far_cell ngz, drew_cell]; exact kz)) (first | fail)
              all_goals as_aux_lemma =>
                have HF : Hid (SObj ((((w10.setCell ⟨g, 0, none⟩ (.int .u8 0)).setCell ⟨g, 1, none⟩ (.int .u8 0)).setCell ⟨g, 2, none⟩ (.int .u8 0)).setCell ⟨g, 3, none⟩ (.int .u8 0)).drew g 55 [.int .u8 0, .int .u8 0, .int .u8 0, .int .u8 0] ∧ Only (fun k => k = g) w10 ((((w10.setCell ⟨g, 0, none⟩ (.int .u8 0)).setCell ⟨g, 1, none⟩ (.int .u8 0)).setCell ⟨g, 2, none⟩ (.int .u8 0)).setCell ⟨g, 3, none⟩ (.int .u8 0)).drew) := Lib.hid ⟨SObj.drewN (((((HGO.out.set 0 (.int .u8 0)).set 1 (.int .u8 0)).set 2 (.int .u8 0)).set 3 (.int .u8 0))) 1, ((((Only.setCell (S := fun k => k = g) w10 _ _ rfl).tr (Only.setCell _ _ _ rfl)).tr (Only.setCell _ _ _ rfl)).tr (Only.setCell _ _ _ rfl)).dr⟩
                generalize World.drew _ = wf at HF ⊢
                go_wp2
                refine bodyPost_ret (v := .tuple #[.agg #[.int .u8 0, .int .u8 0, .int .u8 0, .int .u8 0], .int .u32 0, .nilIface, errV P]) ?_ rfl ?_
                · exact results_c3 Tryd.results22 rfl (load_four HF.out.1)
                · exact HEX.out w10 wf 2 (chk) P HN10.out HF.out.2 (by exact HNO.out) (.inr ⟨rfl, (HN10.out.en.2.p.ne HN10.out.en.2.e (by decide)), _, _, HN10.out.en.2.p, by decide⟩)
            · have HRF := Lib.hid (NSt.rdN (HC3.out.drew 1) HSK.out HX.out.2.2.1 1 (by omega) (by omega) (by rw [← HX.out.2.1]; omega))
              have HNO : Hid (nextM rest a tot chk true = nextT rest a u (chk + 1)) := Lib.hid (by have := HNP.out; rwa [if_neg hA] at this)
              clear hA
              go_region_held3 (fun w' => w'.cell? ⟨z, 0, none⟩ = some (.iface TT (.pointer (some ⟨q, 0, none⟩)))) (first | exact kz0 | exact qz0 | (simp only [drew_cell]; exact kz0) | (simp only [drew_cell]; exact qz0) | exact (HN7.out.err HSK.out _).zo.cell 0 rfl | (simp only [drew_cell]; exact (HN7.out.err HSK.out _).zo.cell 0 rfl)) (first | (refine HRF.out.mono ?_; rintro _ w7 ⟨rfl, hN⟩; have HN7 := Lib.hid hN; clear hN; have qz0 : w7.cell? ⟨z, 0, none⟩ = some (.iface TT (.pointer (some ⟨q, 0, none⟩))) := HN7.out.zo.cell 0 rfl; have fz1 : w7.frozen? ⟨z, 1, none⟩ = false := HN7.out.zo.free 1; have jz1 : w7.cell? ⟨z, 1, none⟩ = some .nilIface := HN7.out.zo.cell 1 rfl))
              have HN8 := Lib.hid (HN7.out.err HSK.out .nilIface)
              clear kz0 qz0 fz1 jz1
              generalize World.setCell _ _ _ = w8 at HN8 ⊢
              have jz1 : w8.cell? ⟨z, 1, none⟩ = some .nilIface := HN8.out.zo.cell 1 rfl
              go_wp2
              go_meet
              have HFN : ∃ (t2 c2 : Nat) (buf2 : List Value), Hid (nextM rest a tot chk true = nextT rest a t2 c2 ∧ t2 < 4294967296) ∧ Hid (NSt B w z g bp ca cn cc N cz E U M S L P H Ls rest (.iface TT (.pointer (some ⟨q, 0, none⟩))) .nilIface t2 0 (.pointer none) buf2 true c2 w8) := ⟨u, chk + 1, _, Lib.hid ⟨HNO.out, HU.out⟩, Lib.hid HN8.out⟩
              refine HFN
    case rest =>
      obtain ⟨t2, m2, buf2, HT2, HC2⟩ := hcut
      have jz2 : wc.cell? ⟨z, 2, none⟩ = some (.int .u32 t2) := HC2.out.zo.cell 2 rfl
      go_upto_if 133 with fail
      by_cases h0 : t2 = 0
      · rw [show (((t2 : Nat) : Int) == 0) = true from by rw [h0]; rfl]
        have HNO : Hid (nextM rest a tot chk pad = .bad 1 m2) := Lib.hid (by rw [HT2.out.1]; unfold nextT; rw [if_pos h0])
        clear jz2
        go_upto_region 23 with fail
        have kg : wc.cell? ⟨0, 0, none⟩ = some (.iface 115 (.pointer (some E))) := HC2.out.en.2.e.var
        have HN6 := Lib.hid (HC2.out.err HSK.out (.iface 115 (.pointer (some E))))
        have kz1 : wc.cell? ⟨z, 1, none⟩ = some _ := HC2.out.zo.cell 1 rfl
        have fz1 : wc.frozen? ⟨z, 1, none⟩ = false := HC2.out.zo.free 1
        go_upto_region 24 with fail
        clear kg kz1 fz1
        generalize World.setCell _ _ _ = w6 at HN6 ⊢
        have jz1 : w6.cell? ⟨z, 1, none⟩ = some (.iface 115 (.pointer (some E))) := HN6.out.zo.cell 1 rfl
        rename_i hRet
        (repeat (rename_i hh; clear hh))
        (try (rename_i Ka; repeat (rename_i hh; clear hh)))
        have kz : w6.cell? ⟨z, 1, none⟩ = some (.iface 115 (.pointer (some E))) := HN6.out.zo.cell 1 rfl
        obtain ⟨y0, y1, y2, y3, hgo⟩ := HN6.out.go
        have gc0 : w6.cell? ⟨g, 0, none⟩ = some y0 := hgo.cell 0 rfl
        have gf0 : w6.frozen? ⟨g, 0, none⟩ = false := hgo.free 0
        have gc1 : w6.cell? ⟨g, 1, none⟩ = some y1 := hgo.cell 1 rfl
        have gf1 : w6.frozen? ⟨g, 1, none⟩ = false := hgo.free 1
        have gc2 : w6.cell? ⟨g, 2, none⟩ = some y2 := hgo.cell 2 rfl
        have gf2 : w6.frozen? ⟨g, 2, none⟩ = false := hgo.free 2
        have gc3 : w6.cell? ⟨g, 3, none⟩ = some y3 := hgo.cell 3 rfl
        have gf3 : w6.frozen? ⟨g, 3, none⟩ = false := hgo.free 3
        have HGO := Lib.hid hgo; clear hgo
        go_region_held3 (fun w' => w'.cell? ⟨z, 1, none⟩ = some (.iface 115 (.pointer (some E)))) (first | exact kz | (simp only [far_cell ngz, drew_cell]; exact kz)) (first | fail)
        all_goals as_aux_lemma =>
          have HF : Hid (SObj ((((w6.setCell ⟨g, 0, none⟩ (.int .u8 0)).setCell ⟨g, 1, none⟩ (.int .u8 0)).setCell ⟨g, 2, none⟩ (.int .u8 0)).setCell ⟨g, 3, none⟩ (.int .u8 0)).drew g 55 [.int .u8 0, .int .u8 0, .int .u8 0, .int .u8 0] ∧ Only (fun k => k = g) w6 ((((w6.setCell ⟨g, 0, none⟩ (.int .u8 0)).setCell ⟨g, 1, none⟩ (.int .u8 0)).setCell ⟨g, 2, none⟩ (.int .u8 0)).setCell ⟨g, 3, none⟩ (.int .u8 0)).drew) := Lib.hid ⟨SObj.drewN (((((HGO.out.set 0 (.int .u8 0)).set 1 (.int .u8 0)).set 2 (.int .u8 0)).set 3 (.int .u8 0))) 1, ((((Only.setCell (S := fun k => k = g) w6 _ _ rfl).tr (Only.setCell _ _ _ rfl)).tr (Only.setCell _ _ _ rfl)).tr (Only.setCell _ _ _ rfl)).dr⟩
          generalize World.drew _ = wf at HF ⊢
          go_wp2
          refine bodyPost_ret (v := .tuple #[.agg #[.int .u8 0, .int .u8 0, .int .u8 0, .int .u8 0], .int .u32 0, .nilIface, errV E]) ?_ rfl ?_
          · exact results_c3 Tryd.results22 rfl (load_four HF.out.1)
          · exact HEX.out w6 wf 1 (m2) E HN6.out HF.out.2 (by exact HNO.out) (.inl ⟨rfl, rfl⟩)
      · rw [show (((t2 : Nat) : Int) == 0) = false from by rw [beq_eq_false_iff_ne]; omega]
        go_upto_if 147 with fail
        by_cases h8 : t2 < 8
        · rw [show decide (((t2 : Nat) : Int) < 8) = true from decide_eq_true (by omega)]
          have HNO : Hid (nextM rest a tot chk pad = .bad 2 m2) := Lib.hid (by rw [HT2.out.1]; unfold nextT; rw [if_neg h0, if_pos h8])
          clear jz2 h0 h8
          go_upto_region 26 with fail
          have kg : wc.cell? ⟨6, 0, none⟩ = some (.iface 115 (.pointer (some H))) := HC2.out.en.2.h.var
          have HN6 := Lib.hid (HC2.out.err HSK.out (.iface 115 (.pointer (some H))))
          have kz1 : wc.cell? ⟨z, 1, none⟩ = some _ := HC2.out.zo.cell 1 rfl
          have fz1 : wc.frozen? ⟨z, 1, none⟩ = false := HC2.out.zo.free 1
          go_upto_region 27 with fail
          clear kg kz1 fz1
          generalize World.setCell _ _ _ = w6 at HN6 ⊢
          have jz1 : w6.cell? ⟨z, 1, none⟩ = some (.iface 115 (.pointer (some H))) := HN6.out.zo.cell 1 rfl
          rename_i hRet
          (repeat (rename_i hh; clear hh))
          (try (rename_i Ka; repeat (rename_i hh; clear hh)))
          have kz : w6.cell? ⟨z, 1, none⟩ = some (.iface 115 (.pointer (some H))) := HN6.out.zo.cell 1 rfl
          obtain ⟨y0, y1, y2, y3, hgo⟩ := HN6.out.go
          have gc0 : w6.cell? ⟨g, 0, none⟩ = some y0 := hgo.cell 0 rfl
          have gf0 : w6.frozen? ⟨g, 0, none⟩ = false := hgo.free 0
          have gc1 : w6.cell? ⟨g, 1, none⟩ = some y1 := hgo.cell 1 rfl
          have gf1 : w6.frozen? ⟨g, 1, none⟩ = false := hgo.free 1
          have gc2 : w6.cell? ⟨g, 2, none⟩ = some y2 := hgo.cell 2 rfl
          have gf2 : w6.frozen? ⟨g, 2, none⟩ = false := hgo.free 2
          have gc3 : w6.cell? ⟨g, 3, none⟩ = some y3 := hgo.cell 3 rfl
          have gf3 : w6.frozen? ⟨g, 3, none⟩ = false := hgo.free 3
          have HGO := Lib.hid hgo; clear hgo
          go_region_held3 (fun w' => w'.cell? ⟨z, 1, none⟩ = some (.iface 115 (.pointer (some H)))) (first | exact kz | (simp only [far_cell ngz, drew_cell]; exact kz)) (first | fail)
          all_goals as_aux_lemma =>
            have HF : Hid (SObj ((((w6.setCell ⟨g, 0, none⟩ (.int .u8 0)).setCell ⟨g, 1, none⟩ (.int .u8 0)).setCell ⟨g, 2, none⟩ (.int .u8 0)).setCell ⟨g, 3, none⟩ (.int .u8 0)).drew g 55 [.int .u8 0, .int .u8 0, .int .u8 0, .int .u8 0] ∧ Only (fun k => k = g) w6 ((((w6.setCell ⟨g, 0, none⟩ (.int .u8 0)).setCell ⟨g, 1, none⟩ (.int .u8 0)).setCell ⟨g, 2, none⟩ (.int .u8 0)).setCell ⟨g, 3, none⟩ (.int .u8 0)).drew) := Lib.hid ⟨SObj.drewN (((((HGO.out.set 0 (.int .u8 0)).set 1 (.int .u8 0)).set 2 (.int .u8 0)).set 3 (.int .u8 0))) 1, ((((Only.setCell (S := fun k => k = g) w6 _ _ rfl).tr (Only.setCell _ _ _ rfl)).tr (Only.setCell _ _ _ rfl)).tr (Only.setCell _ _ _ rfl)).dr⟩
            generalize World.drew _ = wf at HF ⊢
            go_wp2
            refine bodyPost_ret (v := .tuple #[.agg #[.int .u8 0, .int .u8 0, .int .u8 0, .int .u8 0], .int .u32 0, .nilIface, errV H]) ?_ rfl ?_
            · exact results_c3 Tryd.results22 rfl (load_four HF.out.1)
            · exact HEX.out w6 wf 2 (m2) H HN6.out HF.out.2 (by exact HNO.out) (.inr ⟨rfl, (HN6.out.en.2.h.ne HN6.out.en.2.e (by decide)), _, _, HN6.out.en.2.h, by decide⟩)
        · rw [show decide (((t2 : Nat) : Int) < 8) = false from decide_eq_false (by omega)]
          have HNP : Hid (nextM rest a tot chk pad = if a - m2 < 8 then .bad 2 (m2 + (a - m2)) else if t2 - 8 < le32 (rest.drop m2) 4 then .bad 2 (m2 + 8) else .ok (m2 + 8) (t2 - 8) (le32 (rest.drop m2) 4)) := Lib.hid (by rw [HT2.out.1]; unfold nextT; rw [if_neg h0, if_neg h8])
          have iT0 : (8 : Int) ≤ (t2 : Int) := by omega
          have iT1 : (t2 : Int) < 4294967296 := by have := HT2.out.2; omega
          have e1 : ((t2 : Int) - 8) = ((t2 - 8 : Nat) : Int) := by omega
          have fz2 : wc.frozen? ⟨z, 2, none⟩ = false := HC2.out.zo.free 2
          have HC3 := Lib.hid (HC2.out.tot HSK.out (t2 - 8))
          go_upto_region 29 with fail
          (try rw [e1])
          clear jz2 fz2 e1 iT0 iT1 h0
          generalize World.setCell _ _ _ = w6 at HC3 ⊢
          obtain ⟨u, hu⟩ : ∃ u, u = t2 - 8 := ⟨_, rfl⟩
          rw [← hu] at HC3 HNP ⊢
          have HU : Hid (u < 4294967296) := Lib.hid (by have := HT2.out.2; omega)
          clear hu h8
          have kz0 : w6.cell? ⟨z, 0, none⟩ = some (.iface TT (.pointer (some ⟨q, 0, none⟩))) := HC3.out.zo.cell 0 rfl
          by_cases hA : a - m2 = 0
          · have HNO : Hid (nextM rest a tot chk pad = .bad 2 m2) := Lib.hid (by have := HNP.out; rw [if_pos (by omega), hA] at this; exact this)
            have HRF := Lib.hid (NSt.rd0 (HC3.out.drew 1) HSK.out HX.out.2.2.1 8 (by omega) (by omega) (by rw [← HX.out.2.1]; exact hA))
            clear hA
            go_region_held3 (fun w' => w'.cell? ⟨z, 0, none⟩ = some (.iface TT (.pointer (some ⟨q, 0, none⟩)))) (first | exact kz0 | exact qz0 | (simp only [drew_cell]; exact kz0) | (simp only [drew_cell]; exact qz0) | exact (HN7.out.err HSK.out _).zo.cell 0 rfl | (simp only [drew_cell]; exact (HN7.out.err HSK.out _).zo.cell 0 rfl)) (first | (refine HRF.out.mono ?_; rintro _ w7 ⟨rfl, hN⟩; obtain ⟨b7, hN⟩ := hN; have HN7 := Lib.hid hN; clear hN; have qz0 : w7.cell? ⟨z, 0, none⟩ = some (.iface TT (.pointer (some ⟨q, 0, none⟩))) := HN7.out.zo.cell 0 rfl; have fz1 : w7.frozen? ⟨z, 1, none⟩ = false := HN7.out.zo.free 1; have jz1 : w7.cell? ⟨z, 1, none⟩ = some .nilIface := HN7.out.zo.cell 1 rfl))
            have HN8 := Lib.hid (HN7.out.err HSK.out (.iface 115 (.pointer (some E))))
            clear kz0 qz0 fz1 jz1
            generalize World.setCell _ _ _ = w8 at HN8 ⊢
            have jz1 : w8.cell? ⟨z, 1, none⟩ = some (.iface 115 (.pointer (some E))) := HN8.out.zo.cell 1 rfl
            have kE := HN8.out.en.2.e.var
            have kU := HN8.out.en.2.u.var
            have q1 := eql_err E
            have q2 := eql_err U
            go_upto_region 31 with fail
            go_quiet (fail)
            go_upto_if 197 with fail
            have HN9 := Lib.hid (HN8.out.drew nq)
            clear jz1 kE kU q1 q2
            generalize World.drewN _ _ = w9 at HN9 ⊢
            go_upto_region 32 with fail
            have kg : w9.cell? ⟨6, 0, none⟩ = some (.iface 115 (.pointer (some H))) := HN9.out.en.2.h.var
            have HN10 := Lib.hid (HN9.out.err HSK.out (.iface 115 (.pointer (some H))))
            have kz1 : w9.cell? ⟨z, 1, none⟩ = some _ := HN9.out.zo.cell 1 rfl
            have fz1 : w9.frozen? ⟨z, 1, none⟩ = false := HN9.out.zo.free 1
            go_upto_region 33 with fail
            clear kg kz1 fz1
            generalize World.setCell _ _ _ = w10 at HN10 ⊢
            have jz1 : w10.cell? ⟨z, 1, none⟩ = some (.iface 115 (.pointer (some H))) := HN10.out.zo.cell 1 rfl
            rename_i hRet
            (repeat (rename_i hh; clear hh))
            (try (rename_i Ka; repeat (rename_i hh; clear hh)))
            have kz : w10.cell? ⟨z, 1, none⟩ = some (.iface 115 (.pointer (some H))) := HN10.out.zo.cell 1 rfl
            obtain ⟨y0, y1, y2, y3, hgo⟩ := HN10.out.go
            have gc0 : w10.cell? ⟨g, 0, none⟩ = some y0 := hgo.cell 0 rfl
            have gf0 : w10.frozen? ⟨g, 0, none⟩ = false := hgo.free 0
            have gc1 : w10.cell? ⟨g, 1, none⟩ = some y1 := hgo.cell 1 rfl
            have gf1 : w10.frozen? ⟨g, 1, none⟩ = false := hgo.free 1
            have gc2 : w10.cell? ⟨g, 2, none⟩ = some y2 := hgo.cell 2 rfl
            have gf2 : w10.frozen? ⟨g, 2, none⟩ = false := hgo.free 2
            have gc3 : w10.cell? ⟨g, 3, none⟩ = some y3 := hgo.cell 3 rfl
            have gf3 : w10.frozen? ⟨g, 3, none⟩ = false := hgo.free 3
            have HGO := Lib.hid hgo; clear hgo
            go_region_held3 (fun w' => w'.cell? ⟨z, 1, none⟩ = some (.iface 115 (.pointer (some H)))) (first | exact kz | (simp only [far_cell ngz, drew_cell]; exact kz)) (first | fail)
            all_goals as_aux_lemma =>
              have HF : Hid (SObj ((((w10.setCell ⟨g, 0, none⟩ (.int .u8 0)).setCell ⟨g, 1, none⟩ (.int .u8 0)).setCell ⟨g, 2, none⟩ (.int .u8 0)).setCell ⟨g, 3, none⟩ (.int .u8 0)).drew g 55 [.int .u8 0, .int .u8 0, .int .u8 0, .int .u8 0] ∧ Only (fun k => k = g) w10 ((((w10.setCell ⟨g, 0, none⟩ (.int .u8 0)).setCell ⟨g, 1, none⟩ (.int .u8 0)).setCell ⟨g, 2, none⟩ (.int .u8 0)).setCell ⟨g, 3, none⟩ (.int .u8 0)).drew) := Lib.hid ⟨SObj.drewN (((((HGO.out.set 0 (.int .u8 0)).set 1 (.int .u8 0)).set 2 (.int .u8 0)).set 3 (.int .u8 0))) 1, ((((Only.setCell (S := fun k => k = g) w10 _ _ rfl).tr (Only.setCell _ _ _ rfl)).tr (Only.setCell _ _ _ rfl)).tr (Only.setCell _ _ _ rfl)).dr⟩
              generalize World.drew _ = wf at HF ⊢
              go_wp2
              refine bodyPost_ret (v := .tuple #[.agg #[.int .u8 0, .int .u8 0, .int .u8 0, .int .u8 0], .int .u32 0, .nilIface, errV H]) ?_ rfl ?_
              · exact results_c3 Tryd.results22 rfl (load_four HF.out.1)
              · exact HEX.out w10 wf 2 (m2) H HN10.out HF.out.2 (by exact HNO.out) (.inr ⟨rfl, (HN10.out.en.2.h.ne HN10.out.en.2.e (by decide)), _, _, HN10.out.en.2.h, by decide⟩)
          · by_cases hB : a - m2 < 8
            · have HNO : Hid (nextM rest a tot chk pad = .bad 2 (m2 + (a - m2))) := Lib.hid (by have := HNP.out; rw [if_pos hB] at this; exact this)
              have HRF := Lib.hid (NSt.rdU (HC3.out.drew 1) HSK.out HX.out.2.2.1 8 (by omega) (by omega) (by rw [← HX.out.2.1]; exact hA) (by rw [← HX.out.2.1]; exact hB))
              rw [← HX.out.2.1] at HRF
              obtain ⟨d, hd⟩ : ∃ d, d = a - m2 := ⟨_, rfl⟩
              rw [← hd] at HRF HNO
              clear hA hB hd
              go_region_held3 (fun w' => w'.cell? ⟨z, 0, none⟩ = some (.iface TT (.pointer (some ⟨q, 0, none⟩)))) (first | exact kz0 | exact qz0 | (simp only [drew_cell]; exact kz0) | (simp only [drew_cell]; exact qz0) | exact (HN7.out.err HSK.out _).zo.cell 0 rfl | (simp only [drew_cell]; exact (HN7.out.err HSK.out _).zo.cell 0 rfl)) (first | (refine HRF.out.mono ?_; rintro _ w7 ⟨rfl, hN⟩; obtain ⟨b7, hN⟩ := hN; have HN7 := Lib.hid hN; clear hN; have qz0 : w7.cell? ⟨z, 0, none⟩ = some (.iface TT (.pointer (some ⟨q, 0, none⟩))) := HN7.out.zo.cell 0 rfl; have fz1 : w7.frozen? ⟨z, 1, none⟩ = false := HN7.out.zo.free 1; have jz1 : w7.cell? ⟨z, 1, none⟩ = some .nilIface := HN7.out.zo.cell 1 rfl))
              have HN8 := Lib.hid (HN7.out.err HSK.out (.iface 115 (.pointer (some U))))
              clear kz0 qz0 fz1 jz1
              generalize World.setCell _ _ _ = w8 at HN8 ⊢
              have jz1 : w8.cell? ⟨z, 1, none⟩ = some (.iface 115 (.pointer (some U))) := HN8.out.zo.cell 1 rfl
              have kE := HN8.out.en.2.e.var
              have kU := HN8.out.en.2.u.var
              have q1 := eql_err U
              have q2 : ∀ n, (binOp .eql 58 (.iface 115 (.pointer (some U))) (.iface 115 (.pointer (some E)))).run Tryd.prog (w8.drewN n) = .ok (.bool false) (w8.drewN n) := fun n => (HN8.out.drew n).en.2.u.eql (HN8.out.drew n).en.2.e (by decide)
              go_upto_region 31 with fail
              go_quiet (fail)
              go_upto_if 197 with fail
              have HN9 := Lib.hid (HN8.out.drew nq)
              clear jz1 kE kU q1 q2
              generalize World.drewN _ _ = w9 at HN9 ⊢
              go_upto_region 32 with fail
              have kg : w9.cell? ⟨6, 0, none⟩ = some (.iface 115 (.pointer (some H))) := HN9.out.en.2.h.var
              have HN10 := Lib.hid (HN9.out.err HSK.out (.iface 115 (.pointer (some H))))
              have kz1 : w9.cell? ⟨z, 1, none⟩ = some _ := HN9.out.zo.cell 1 rfl
              have fz1 : w9.frozen? ⟨z, 1, none⟩ = false := HN9.out.zo.free 1
              go_upto_region 33 with fail
              clear kg kz1 fz1
              generalize World.setCell _ _ _ = w10 at HN10 ⊢
              have jz1 : w10.cell? ⟨z, 1, none⟩ = some (.iface 115 (.pointer (some H))) := HN10.out.zo.cell 1 rfl
              rename_i hRet
              (repeat (rename_i hh; clear hh))
              (try (rename_i Ka; repeat (rename_i hh; clear hh)))
              have kz : w10.cell? ⟨z, 1, none⟩ = some (.iface 115 (.pointer (some H))) := HN10.out.zo.cell 1 rfl
              obtain ⟨y0, y1, y2, y3, hgo⟩ := HN10.out.go
              have gc0 : w10.cell? ⟨g, 0, none⟩ = some y0 := hgo.cell 0 rfl
              have gf0 : w10.frozen? ⟨g, 0, none⟩ = false := hgo.free 0
              have gc1 : w10.cell? ⟨g, 1, none⟩ = some y1 := hgo.cell 1 rfl
              have gf1 : w10.frozen? ⟨g, 1, none⟩ = false := hgo.free 1
              have gc2 : w10.cell? ⟨g, 2, none⟩ = some y2 := hgo.cell 2 rfl
              have gf2 : w10.frozen? ⟨g, 2, none⟩ = false := hgo.free 2
              have gc3 : w10.cell? ⟨g, 3, none⟩ = some y3 := hgo.cell 3 rfl
              have gf3 : w10.frozen? ⟨g, 3, none⟩ = false := hgo.free 3
              have HGO := Lib.hid hgo; clear hgo
              go_region_held3 (fun w' => w'.cell? ⟨z, 1, none⟩ = some (.iface 115 (.pointer (some H)))) (first | exact kz | (simp only [far_cell ngz, drew_cell]; exact kz)) (first | fail)
              all_goals as_aux_lemma =>
                have HF : Hid (SObj ((((w10.setCell ⟨g, 0, none⟩ (.int .u8 0)).setCell ⟨g, 1, none⟩ (.int .u8 0)).setCell ⟨g, 2, none⟩ (.int .u8 0)).setCell ⟨g, 3, none⟩ (.int .u8 0)).drew g 55 [.int .u8 0, .int .u8 0, .int .u8 0, .int .u8 0] ∧ Only (fun k => k = g) w10 ((((w10.setCell ⟨g, 0, none⟩ (.int .u8 0)).setCell ⟨g, 1, none⟩ (.int .u8 0)).setCell ⟨g, 2, none⟩ (.int .u8 0)).setCell ⟨g, 3, none⟩ (.int .u8 0)).drew) := Lib.hid ⟨SObj.drewN (((((HGO.out.set 0 (.int .u8 0)).set 1 (.int .u8 0)).set 2 (.int .u8 0)).set 3 (.int .u8 0))) 1, ((((Only.setCell (S := fun k => k = g) w10 _ _ rfl).tr (Only.setCell _ _ _ rfl)).tr (Only.setCell _ _ _ rfl)).tr (Only.setCell _ _ _ rfl)).dr⟩
                generalize World.drew _ = wf at HF ⊢
                go_wp2
                refine bodyPost_ret (v := .tuple #[.agg #[.int .u8 0, .int .u8 0, .int .u8 0, .int .u8 0], .int .u32 0, .nilIface, errV H]) ?_ rfl ?_
                · exact results_c3 Tryd.results22 rfl (load_four HF.out.1)
                · exact HEX.out w10 wf 2 ((m2 + d)) H HN10.out HF.out.2 (by exact HNO.out) (.inr ⟨rfl, (HN10.out.en.2.h.ne HN10.out.en.2.e (by decide)), _, _, HN10.out.en.2.h, by decide⟩)
            · have HRF := Lib.hid (NSt.rdN (HC3.out.drew 1) HSK.out HX.out.2.2.1 8 (by omega) (by omega) (by rw [← HX.out.2.1]; omega))
              have HNQ : Hid (nextM rest a tot chk pad = if u < le32 (rest.drop m2) 4 then .bad 2 (m2 + 8) else .ok (m2 + 8) u (le32 (rest.drop m2) 4)) := Lib.hid (by have := HNP.out; rwa [if_neg hB] at this)
              obtain ⟨rs, hrs⟩ : ∃ r, r = rest.drop m2 := ⟨_, rfl⟩
              rw [← hrs] at HNQ HRF
              have HRS : Hid (rs = rest.drop m2 ∧ 8 ≤ rs.length ∧ By rs) := Lib.hid ⟨hrs, by have h := av_le Ls rest.length; rw [← HX.out.2.1] at h; rw [hrs, List.length_drop]; omega, by rw [hrs]; exact HX.out.2.2.2.1.drop m2⟩
              clear hA hB hrs
              go_region_held3 (fun w' => w'.cell? ⟨z, 0, none⟩ = some (.iface TT (.pointer (some ⟨q, 0, none⟩)))) (first | exact kz0 | exact qz0 | (simp only [drew_cell]; exact kz0) | (simp only [drew_cell]; exact qz0) | exact (HN7.out.err HSK.out _).zo.cell 0 rfl | (simp only [drew_cell]; exact (HN7.out.err HSK.out _).zo.cell 0 rfl)) (first | (refine HRF.out.mono ?_; rintro _ w7 ⟨rfl, hN⟩; have HN7 := Lib.hid hN; clear hN; have qz0 : w7.cell? ⟨z, 0, none⟩ = some (.iface TT (.pointer (some ⟨q, 0, none⟩))) := HN7.out.zo.cell 0 rfl; have fz1 : w7.frozen? ⟨z, 1, none⟩ = false := HN7.out.zo.free 1; have jz1 : w7.cell? ⟨z, 1, none⟩ = some .nilIface := HN7.out.zo.cell 1 rfl))
              obtain ⟨x0, hx0⟩ : ∃ x, x = rs.getD 0 0 := ⟨_, rfl⟩
              obtain ⟨x1, hx1⟩ : ∃ x, x = rs.getD 1 0 := ⟨_, rfl⟩
              obtain ⟨x2, hx2⟩ : ∃ x, x = rs.getD 2 0 := ⟨_, rfl⟩
              obtain ⟨x3, hx3⟩ : ∃ x, x = rs.getD 3 0 := ⟨_, rfl⟩
              obtain ⟨x4, hx4⟩ : ∃ x, x = rs.getD 4 0 := ⟨_, rfl⟩
              obtain ⟨x5, hx5⟩ : ∃ x, x = rs.getD 5 0 := ⟨_, rfl⟩
              obtain ⟨x6, hx6⟩ : ∃ x, x = rs.getD 6 0 := ⟨_, rfl⟩
              obtain ⟨x7, hx7⟩ : ∃ x, x = rs.getD 7 0 := ⟨_, rfl⟩
              have HXS : Hid (splice buf2 0 (u8s (rs.take 8)) = [.int .u8 x0, .int .u8 x1, .int .u8 x2, .int .u8 x3, .int .u8 x4, .int .u8 x5, .int .u8 x6, .int .u8 x7]) := Lib.hid (by
                rw [hx0, hx1, hx2, hx3, hx4, hx5, hx6, hx7]
                exact splice8 buf2 rs HC2.out.b8 HRS.out.2.1)
              have b4 := HRS.out.2.2 4; rw [← hx4] at b4
              have b5 := HRS.out.2.2 5; rw [← hx5] at b5
              have b6 := HRS.out.2.2 6; rw [← hx6] at b6
              have b7 := HRS.out.2.2 7; rw [← hx7] at b7
              have HBB := Lib.hid (And.intro b4 (And.intro b5 (And.intro b6 b7))); clear b4 b5 b6 b7
              have HXE := Lib.hid (And.intro hx0 (And.intro hx1 (And.intro hx2 (And.intro hx3 (And.intro hx4 (And.intro hx5 (And.intro hx6 hx7))))))); clear hx0 hx1 hx2 hx3 hx4 hx5 hx6 hx7
              have HN8 : Hid (NSt B w z g bp ca cn cc N cz E U M S L P H Ls rest (.iface TT (.pointer (some ⟨q, 0, none⟩))) .nilIface u 0 (.pointer none) [.int .u8 x0, .int .u8 x1, .int .u8 x2, .int .u8 x3, .int .u8 x4, .int .u8 x5, .int .u8 x6, .int .u8 x7] pad (m2 + 8) (w7.setCell ⟨z, 1, none⟩ .nilIface)) := Lib.hid (by rw [← HXS.out]; exact HN7.out.err HSK.out .nilIface)
              clear kz0 qz0 fz1 jz1
              generalize World.setCell _ _ _ = w8 at HN8 ⊢
              have jz1 : w8.cell? ⟨z, 1, none⟩ = some .nilIface := HN8.out.zo.cell 1 rfl
              go_upto_region 34 with fail
              clear jz1
              have v0 : w8.cell? ⟨z, 5, none⟩ = some (.int .u8 x0) := HN8.out.zo.cell 5 rfl
              have v1 : w8.cell? ⟨z, 6, none⟩ = some (.int .u8 x1) := HN8.out.zo.cell 6 rfl
              have v2 : w8.cell? ⟨z, 7, none⟩ = some (.int .u8 x2) := HN8.out.zo.cell 7 rfl
              have v3 : w8.cell? ⟨z, 8, none⟩ = some (.int .u8 x3) := HN8.out.zo.cell 8 rfl
              have v4 : w8.cell? ⟨z, 9, none⟩ = some (.int .u8 x4) := HN8.out.zo.cell 9 rfl
              have v5 : w8.cell? ⟨z, 10, none⟩ = some (.int .u8 x5) := HN8.out.zo.cell 10 rfl
              have v6 : w8.cell? ⟨z, 11, none⟩ = some (.int .u8 x6) := HN8.out.zo.cell 11 rfl
              have v7 : w8.cell? ⟨z, 12, none⟩ = some (.int .u8 x7) := HN8.out.zo.cell 12 rfl
              obtain ⟨y0, y1, y2, y3, hgo⟩ := HN8.out.go
              have HGO := Lib.hid hgo; clear hgo
              have gf0 : w8.frozen? ⟨g, 0, none⟩ = false := HGO.out.free 0
              have gc0 : w8.cell? ⟨g, 0, none⟩ = some y0 := HGO.out.cell 0 rfl
              have gf1 : w8.frozen? ⟨g, 1, none⟩ = false := HGO.out.free 1
              have gc1 : w8.cell? ⟨g, 1, none⟩ = some y1 := HGO.out.cell 1 rfl
              have gf2 : w8.frozen? ⟨g, 2, none⟩ = false := HGO.out.free 2
              have gc2 : w8.cell? ⟨g, 2, none⟩ = some y2 := HGO.out.cell 2 rfl
              have gf3 : w8.frozen? ⟨g, 3, none⟩ = false := HGO.out.free 3
              have gc3 : w8.cell? ⟨g, 3, none⟩ = some y3 := HGO.out.cell 3 rfl
              go_region_held3 (fun w' => w'.cell? ⟨z, 5, none⟩ = some (.int .u8 x0) ∧ w'.cell? ⟨z, 6, none⟩ = some (.int .u8 x1) ∧ w'.cell? ⟨z, 7, none⟩ = some (.int .u8 x2) ∧ w'.cell? ⟨z, 8, none⟩ = some (.int .u8 x3)) (first | exact ⟨v0, v1, v2, v3⟩ | (simp only [far_cell ngz, drew_cell]; exact ⟨v0, v1, v2, v3⟩)) (first | fail)
              have HG9 : Hid (SObj ((((w8.setCell ⟨g, 0, none⟩ (.int .u8 x0)).setCell ⟨g, 1, none⟩ (.int .u8 x1)).setCell ⟨g, 2, none⟩ (.int .u8 x2)).setCell ⟨g, 3, none⟩ (.int .u8 x3)).drew g 55 [.int .u8 x0, .int .u8 x1, .int .u8 x2, .int .u8 x3] ∧ Only (fun k => k = g) w8 ((((w8.setCell ⟨g, 0, none⟩ (.int .u8 x0)).setCell ⟨g, 1, none⟩ (.int .u8 x1)).setCell ⟨g, 2, none⟩ (.int .u8 x2)).setCell ⟨g, 3, none⟩ (.int .u8 x3)).drew) := Lib.hid ⟨SObj.drewN (((((HGO.out.set 0 (.int .u8 x0)).set 1 (.int .u8 x1)).set 2 (.int .u8 x2)).set 3 (.int .u8 x3))) 1, ((((Only.setCell (S := fun k => k = g) w8 _ _ rfl).tr (Only.setCell _ _ _ rfl)).tr (Only.setCell _ _ _ rfl)).tr (Only.setCell _ _ _ rfl)).dr⟩
              generalize World.drew _ = w9 at HG9 ⊢
              have HN9 := Lib.hid (HN8.out.gset HSK.out HX.out.1 HG9.out.2 HG9.out.1)
              have HLE : Hid (((le32 rs 4 : Nat) : Int) = x4 + 256 * x5 + 65536 * x6 + 16777216 * x7 ∧ le32 rs 4 < 4294967296) := Lib.hid (by
                obtain ⟨h0, h1, h2, h3, h4, h5, h6, h7⟩ := HXE.out
                exact ⟨by rw [le32_int HRS.out.2.2, h4, h5, h6, h7], le32_lt HRS.out.2.2 4⟩)
              clear gc0 gc1 gc2 gc3 gf0 gf1 gf2 gf3 v0 v1 v2 v3 v4 v5 v6 v7
              go_wp2_with fail
              obtain ⟨⟨b4l, b4h⟩, ⟨b5l, b5h⟩, ⟨b6l, b6h⟩, ⟨b7l, b7h⟩⟩ := HBB.out
              refine (u32_any z 9 4 4 x4 x5 x6 x7 w9 (HN9.out.zo.cell 9 rfl) (HN9.out.zo.cell 10 rfl) (HN9.out.zo.cell 11 rfl) (HN9.out.zo.cell 12 rfl) (by omega) (by omega) b4l b4h b5l b5h b6l b6h b7l b7h).mono ?_
              rintro _ w10 ⟨rfl, nq, rfl⟩
              rw [← HLE.out.1]
              clear b4l b4h b5l b5h b6l b6h b7l b7h
              obtain ⟨len, hlen⟩ : ∃ l, l = le32 rs 4 := ⟨_, rfl⟩
              rw [← hlen] at HNQ ⊢
              have HLN : Hid (len = le32 rs 4 ∧ len < 4294967296) := Lib.hid ⟨hlen, by rw [hlen]; exact HLE.out.2⟩
              clear hlen
              have HN10 := Lib.hid ((HN9.out.drew nq).chk HSK.out len)
              have HG10 : Hid (SObj ((w9.drewN nq).setCell ⟨z, 3, none⟩ (.int .u32 len)) g 55 [.int .u8 x0, .int .u8 x1, .int .u8 x2, .int .u8 x3]) := Lib.hid ((HG9.out.1.drewN nq).far ⟨z, 3, none⟩ HSK.out.gz _)
              have fz3 : w9.frozen? ⟨z, 3, none⟩ = false := HN9.out.zo.free 3
              have jz3 : w9.cell? ⟨z, 3, none⟩ = some (.int .u32 0) := HN9.out.zo.cell 3 rfl
              go_upto_region 36 with fail
              clear fz3 jz3
              generalize World.setCell _ _ _ = w11 at HN10 HG10 ⊢
              have jz3 : w11.cell? ⟨z, 3, none⟩ = some (.int .u32 len) := HN10.out.zo.cell 3 rfl
              have jz2 : w11.cell? ⟨z, 2, none⟩ = some (.int .u32 u) := HN10.out.zo.cell 2 rfl
              go_quiet (fail)
              go_upto_if 244 with fail
              have HN12 := Lib.hid (HN10.out.drew nq)
              have HG12 := Lib.hid (HG10.out.drewN nq)
              clear jz2 jz3
              generalize World.drewN _ _ = w12 at HN12 HG12 ⊢
              by_cases hL : u < len
              · (first | rw [show decide (((u : Nat) : Int) < ((len : Nat) : Int)) = true from decide_eq_true (by omega)] | rw [show decide (u < len) = true from decide_eq_true hL])
                have HNO : Hid (nextM rest a tot chk pad = .bad 2 (m2 + 8)) := Lib.hid (by have := HNQ.out; rw [if_pos hL] at this; exact this)
                clear hL
                go_upto_region 37 with fail
                have kg : w12.cell? ⟨4, 0, none⟩ = some (.iface 115 (.pointer (some L))) := HN12.out.en.2.l.var
                have HN13 := Lib.hid (HN12.out.err HSK.out (.iface 115 (.pointer (some L))))
                have kz1 : w12.cell? ⟨z, 1, none⟩ = some _ := HN12.out.zo.cell 1 rfl
                have fz1 : w12.frozen? ⟨z, 1, none⟩ = false := HN12.out.zo.free 1
                go_upto_region 38 with fail
                clear kg kz1 fz1
                generalize World.setCell _ _ _ = w13 at HN13 ⊢
                have jz1 : w13.cell? ⟨z, 1, none⟩ = some (.iface 115 (.pointer (some L))) := HN13.out.zo.cell 1 rfl
                rename_i hRet
                (repeat (rename_i hh; clear hh))
                (try (rename_i Ka; repeat (rename_i hh; clear hh)))
                have kz : w13.cell? ⟨z, 1, none⟩ = some (.iface 115 (.pointer (some L))) := HN13.out.zo.cell 1 rfl
                obtain ⟨y0, y1, y2, y3, hgo⟩ := HN13.out.go
                have gc0 : w13.cell? ⟨g, 0, none⟩ = some y0 := hgo.cell 0 rfl
                have gf0 : w13.frozen? ⟨g, 0, none⟩ = false := hgo.free 0
                have gc1 : w13.cell? ⟨g, 1, none⟩ = some y1 := hgo.cell 1 rfl
                have gf1 : w13.frozen? ⟨g, 1, none⟩ = false := hgo.free 1
                have gc2 : w13.cell? ⟨g, 2, none⟩ = some y2 := hgo.cell 2 rfl
                have gf2 : w13.frozen? ⟨g, 2, none⟩ = false := hgo.free 2
                have gc3 : w13.cell? ⟨g, 3, none⟩ = some y3 := hgo.cell 3 rfl
                have gf3 : w13.frozen? ⟨g, 3, none⟩ = false := hgo.free 3
                have HGO := Lib.hid hgo; clear hgo
                go_region_held3 (fun w' => w'.cell? ⟨z, 1, none⟩ = some (.iface 115 (.pointer (some L)))) (first | exact kz | (simp only [far_cell ngz, drew_cell]; exact kz)) (first | fail)
                all_goals as_aux_lemma =>
                  have HF : Hid (SObj ((((w13.setCell ⟨g, 0, none⟩ (.int .u8 0)).setCell ⟨g, 1, none⟩ (.int .u8 0)).setCell ⟨g, 2, none⟩ (.int .u8 0)).setCell ⟨g, 3, none⟩ (.int .u8 0)).drew g 55 [.int .u8 0, .int .u8 0, .int .u8 0, .int .u8 0] ∧ Only (fun k => k = g) w13 ((((w13.setCell ⟨g, 0, none⟩ (.int .u8 0)).setCell ⟨g, 1, none⟩ (.int .u8 0)).setCell ⟨g, 2, none⟩ (.int .u8 0)).setCell ⟨g, 3, none⟩ (.int .u8 0)).drew) := Lib.hid ⟨SObj.drewN (((((HGO.out.set 0 (.int .u8 0)).set 1 (.int .u8 0)).set 2 (.int .u8 0)).set 3 (.int .u8 0))) 1, ((((Only.setCell (S := fun k => k = g) w13 _ _ rfl).tr (Only.setCell _ _ _ rfl)).tr (Only.setCell _ _ _ rfl)).tr (Only.setCell _ _ _ rfl)).dr⟩
                  generalize World.drew _ = wf at HF ⊢
                  go_wp2
                  refine bodyPost_ret (v := .tuple #[.agg #[.int .u8 0, .int .u8 0, .int .u8 0, .int .u8 0], .int .u32 0, .nilIface, errV L]) ?_ rfl ?_
                  · exact results_c3 Tryd.results22 rfl (load_four HF.out.1)
                  · exact HEX.out w13 wf 2 ((m2 + 8)) L HN13.out HF.out.2 (by exact HNO.out) (.inr ⟨rfl, (HN13.out.en.2.l.ne HN13.out.en.2.e (by decide)), _, _, HN13.out.en.2.l, by decide⟩)
              · (first | rw [show decide (((u : Nat) : Int) < ((len : Nat) : Int)) = false from decide_eq_false (by omega)] | rw [show decide (u < len) = false from decide_eq_false hL])
                have HNO : Hid (nextM rest a tot chk pad = .ok (m2 + 8) u len) := Lib.hid (by have := HNQ.out; rw [if_neg hL] at this; exact this)
                have HLU : Hid (len ≤ u) := Lib.hid (by omega)
                have jz3 : w12.cell? ⟨z, 3, none⟩ = some (.int .u32 len) := HN12.out.zo.cell 3 rfl
                have jz13 : w12.cell? ⟨z, 13, none⟩ = some (.bool pad) := HN12.out.zo.cell 13 (zC_at13 _ _ _ _ _ _ _ HN12.out.b8)
                have fz13 : w12.frozen? ⟨z, 13, none⟩ = false := HN12.out.zo.free 13
                clear hL
                go_upto_region 40 with fail
                rw [and_one len HLN.out.2]
                have HN13 := Lib.hid (HN12.out.pad HSK.out (decide (len % 2 = 1)))
                have HG13 : Hid (SObj (w12.setCell ⟨z, 13, none⟩ (.bool (decide (len % 2 = 1)))) g 55 [.int .u8 x0, .int .u8 x1, .int .u8 x2, .int .u8 x3]) := Lib.hid (HG12.out.far ⟨z, 13, none⟩ HSK.out.gz _)
                clear jz3 jz13 fz13
                generalize World.setCell _ _ _ = w13 at HN13 HG13 ⊢
                have jz4 : w13.cell? ⟨z, 4, none⟩ = some (.pointer none) := HN13.out.zo.cell 4 rfl
                have fz4 : w13.frozen? ⟨z, 4, none⟩ = false := HN13.out.zo.free 4
                have lz : z < w13.heap.size := HN13.out.zo.lt
                have nz : z ≠ w13.heap.size := by omega
                have HA14 := Lib.hid (HN13.out.cr HSK.out (.pointer (some ⟨w13.heap.size, 0, none⟩)))
                have HN14 := Lib.hid (HA14.out.other (Only.alloc (fun _ => False) _ (.cells #[.pointer (some ⟨z, 0, none⟩)] 95)) (fun _ h => h.elim))
                have HC14 : Hid (SObj ((w13.setCell ⟨z, 4, none⟩ (.pointer (some ⟨w13.heap.size, 0, none⟩))).alloc (.cells #[.pointer (some ⟨z, 0, none⟩)] 95)) w13.heap.size 95 [.pointer (some ⟨z, 0, none⟩)] ∧ w.heap.size ≤ w13.heap.size ∧ g < w13.heap.size) := Lib.hid ⟨by have := obj_new (w13.setCell ⟨z, 4, none⟩ (.pointer (some ⟨w13.heap.size, 0, none⟩))) 95 [.pointer (some ⟨z, 0, none⟩)]; simpa using this, HN13.out.on.size, HG13.out.lt⟩
                have HG14 : Hid (SObj ((w13.setCell ⟨z, 4, none⟩ (.pointer (some ⟨w13.heap.size, 0, none⟩))).alloc (.cells #[.pointer (some ⟨z, 0, none⟩)] 95)) g 55 [.int .u8 x0, .int .u8 x1, .int .u8 x2, .int .u8 x3]) := Lib.hid ((HG13.out.far ⟨z, 4, none⟩ HSK.out.gz _).alloc _)
                go_upto_region 41 with fail
                clear jz4 fz4 lz nz HA14
                obtain ⟨cb, hcb⟩ : ∃ x, x = w13.heap.size := ⟨_, rfl⟩
                rw [← hcb] at HN14 HC14 HG14 ⊢
                clear hcb
                generalize World.alloc _ _ = w14 at HN14 HC14 HG14 ⊢
                have jz3 : w14.cell? ⟨z, 3, none⟩ = some (.int .u32 len) := HN14.out.zo.cell 3 rfl
                have jz4 : w14.cell? ⟨z, 4, none⟩ = some (.pointer (some ⟨cb, 0, none⟩)) := HN14.out.zo.cell 4 rfl
                have gc0 : w14.cell? ⟨g, 0, none⟩ = some (.int .u8 x0) := HG14.out.cell 0 rfl
                have gf0 : w14.frozen? ⟨g, 0, none⟩ = false := HG14.out.free 0
                have gc1 : w14.cell? ⟨g, 1, none⟩ = some (.int .u8 x1) := HG14.out.cell 1 rfl
                have gf1 : w14.frozen? ⟨g, 1, none⟩ = false := HG14.out.free 1
                have gc2 : w14.cell? ⟨g, 2, none⟩ = some (.int .u8 x2) := HG14.out.cell 2 rfl
                have gf2 : w14.frozen? ⟨g, 2, none⟩ = false := HG14.out.free 2
                have gc3 : w14.cell? ⟨g, 3, none⟩ = some (.int .u8 x3) := HG14.out.cell 3 rfl
                have gf3 : w14.frozen? ⟨g, 3, none⟩ = false := HG14.out.free 3
                rename_i hRet
                (repeat (rename_i hh; clear hh))
                (try (rename_i Ka; (repeat (rename_i hh; clear hh))))
                have HS14 : Hid (SObj ((((w14.setCell ⟨g, 0, none⟩ (.int .u8 x0)).setCell ⟨g, 1, none⟩ (.int .u8 x1)).setCell ⟨g, 2, none⟩ (.int .u8 x2)).setCell ⟨g, 3, none⟩ (.int .u8 x3)) g 55 [.int .u8 x0, .int .u8 x1, .int .u8 x2, .int .u8 x3]) := Lib.hid (((((HG14.out.set 0 (.int .u8 x0)).set 1 (.int .u8 x1)).set 2 (.int .u8 x2)).set 3 (.int .u8 x3)))
                go_region_held3 (fun w' => w'.cell? ⟨z, 3, none⟩ = some (.int .u32 len) ∧ w'.cell? ⟨z, 4, none⟩ = some (.pointer (some ⟨cb, 0, none⟩)) ∧ w'.cell? ⟨g, 0, none⟩ = some (.int .u8 x0) ∧ w'.cell? ⟨g, 1, none⟩ = some (.int .u8 x1) ∧ w'.cell? ⟨g, 2, none⟩ = some (.int .u8 x2) ∧ w'.cell? ⟨g, 3, none⟩ = some (.int .u8 x3)) (first | exact ⟨jz3, jz4, gc0, gc1, gc2, gc3⟩ | (simp only [far_cell ngz, drew_cell]; exact ⟨jz3, jz4, HS14.out.cell 0 rfl, HS14.out.cell 1 rfl, HS14.out.cell 2 rfl, HS14.out.cell 3 rfl⟩)) (first | fail)
                all_goals as_aux_lemma =>
                  have HF : Hid (SObj ((((w14.setCell ⟨g, 0, none⟩ (.int .u8 x0)).setCell ⟨g, 1, none⟩ (.int .u8 x1)).setCell ⟨g, 2, none⟩ (.int .u8 x2)).setCell ⟨g, 3, none⟩ (.int .u8 x3)).drew g 55 [.int .u8 x0, .int .u8 x1, .int .u8 x2, .int .u8 x3] ∧ Only (fun k => k = g) w14 ((((w14.setCell ⟨g, 0, none⟩ (.int .u8 x0)).setCell ⟨g, 1, none⟩ (.int .u8 x1)).setCell ⟨g, 2, none⟩ (.int .u8 x2)).setCell ⟨g, 3, none⟩ (.int .u8 x3)).drew) := Lib.hid ⟨SObj.drewN (((((HG14.out.set 0 (.int .u8 x0)).set 1 (.int .u8 x1)).set 2 (.int .u8 x2)).set 3 (.int .u8 x3))) 1, ((((Only.setCell (S := fun k => k = g) w14 _ _ rfl).tr (Only.setCell _ _ _ rfl)).tr (Only.setCell _ _ _ rfl)).tr (Only.setCell _ _ _ rfl)).dr⟩
                  generalize World.drew _ = wf at HF ⊢
                  go_wp2
                  refine bodyPost_ret (v := .tuple #[.agg #[.int .u8 x0, .int .u8 x1, .int .u8 x2, .int .u8 x3], .int .u32 len, .iface 87 (.pointer (some ⟨cb, 0, none⟩)), .nilIface]) ?_ rfl ?_
                  · exact results_c3 Tryd.results22 rfl (load_four HF.out.1)
                  · have HN15 := HN14.out.gset HSK.out HX.out.1 HF.out.2 HF.out.1
                    rw [HNO.out]
                    refine ⟨HN15.pc, HN15.st, HN15.on, cb, _, HN15.b8, ?_, HC14.out.2.1, by rw [HX.out.2.2.1]; exact HN15.zo, HC14.out.1.only HF.out.2 (fun e => by have := HC14.out.2.2; omega), HLU.out, HU.out⟩
                    obtain ⟨h0, h1, h2, h3, h4⟩ := HXE.out
                    unfold four4
                    rw [show m2 + 8 - 8 = m2 by omega, ← HRS.out.1, h0, h1, h2, h3]
end Go.Proofs.YthipghkhdlnfiaaDoor
