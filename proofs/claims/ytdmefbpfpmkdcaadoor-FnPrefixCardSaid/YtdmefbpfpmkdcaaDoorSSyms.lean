/- The reference's Symbols: symbols by the code of lengths. -/
import Derived.Test.YtdmefbpfpmkdcaaDoorSMade
namespace Go.Proofs.YtdmefbpfpmkdcaaDoor
open Go.RowKit
set_option linter.unusedVariables false

theorem Arg.only' {S : Nat → Prop} {k : IntKind} {w w' : World} {a : Option Addr} {n : Nat} {f : Nat → Int} (h : Arg k w a n f) (ho : Only S w w') (hn : ∀ k, k < w.heap.size → ¬ S k) : Arg k w' a n f := h.only ho (fun h0 x hx => by
  obtain ⟨g1, o1, e, hg1, _⟩ := h h0
  rw [hx] at e; injection e with e; subst e
  exact hn _ hg1)

set_option maxRecDepth 100000 in
set_option maxHeartbeats 400000 in
theorem ssyms_any (C : List (Nat × Nat)) (I : List Nat) (la : Option Addr) (ln lc : Nat) (lf : Nat → Int) (a : Option Addr) (n c : Nat) (f : Nat → Int) (S m : Nat) (w : World) (hl : Arg .i64 w la ln lf) (hln : ln ≤ 4096) (hlf : ∀ i, i < ln → 0 ≤ lf i ∧ lf i ≤ 15)
    (ha : Arg .u8 w a n f) (hs : Strm f S n) (hmax : n ≤ 1048576) (hm : m ≤ 4096) (hC : Code C I) (hok : madeB (natF lf) ln = true)
    (hCK : ∀ w cs sa sc, CodeR w (hh (natF lf) ln) (sys (natF lf) ln 15) cs sa sc → CodeOK C w cs sa sc (sys (natF lf) ln 15).length) :
    Calls Tryd.prog 39 #[.slice la ln lc, .slice a n c, .int .i64 m] w fun e w' =>
      (∃ l kind a' c', e = .returned (.tuple #[.slice a' l.length c', .int .i64 (kind : Nat)]) ∧ Told C S n 0 m l kind ∧ Own .i64 w.heap.size w' a' l.length (listF l)) ∧ Below w.heap.size w w' := by
  have HM := Lib.hid (made_any la ln lc lf w hl hln hlf)
  have H := Lib.hid (And.intro ha (And.intro hs (And.intro hC (And.intro hok hCK))))
  clear hl hlf ha hs hC hok hCK
  go_enter Tryd.func39, Tryd.ntmps39
  go_wp2_with fail
  refine HM.out.mono ?_
  rintro _ w1 ⟨⟨cs, sa, sc, rfl, hcr, hfr⟩, hb1⟩
  obtain ⟨M, hM⟩ : ∃ x, x = (sys (natF lf) ln 15).length := ⟨_, rfl⟩
  have hok1 := H.out.2.2.1
  have hck := H.out.2.2.2.2 w1 cs sa sc hcr
  rw [← hM] at hfr hck
  have hsz := hck.size
  have hall : (cs.all (·.oneCell')) = true := by rw [hcr.cells]; exact cdCells_all _ _ _ _
  have HIN : Hid ((Tryd.prog.info? 86).map (·.size) = some cs.size) := Lib.hid (by rw [infoCode, hsz])
  have HAL := Lib.hid hall
  have H1 := Lib.hid (And.intro hck (And.intro hfr (And.intro hb1 hsz)))
  have hokb : madeB (natF lf) ln = true := H.out.2.2.2.1
  rw [hokb]
  clear hcr hfr hb1 hM hok1 hck hsz hall hokb
  have hzz : (cdCells (fun _ => 0) (.slice none 0 0)).toArray = #[.int .i64 0, .int .i64 0, .int .i64 0, .int .i64 0, .int .i64 0, .int .i64 0, .int .i64 0, .int .i64 0, .int .i64 0, .int .i64 0, .int .i64 0, .int .i64 0, .int .i64 0, .int .i64 0, .int .i64 0, .int .i64 0, .slice none 0 0] := rfl
  have hz := obj_new w1 86 (cdCells (fun _ => 0) (.slice none 0 0))
  rw [hzz] at hz
  have HT : Hid (World.there (w1.alloc (.cells #[.int .i64 0, .int .i64 0, .int .i64 0, .int .i64 0, .int .i64 0, .int .i64 0, .int .i64 0, .int .i64 0, .int .i64 0, .int .i64 0, .int .i64 0, .int .i64 0, .int .i64 0, .int .i64 0, .int .i64 0, .int .i64 0, .slice none 0 0] 86)) w1.heap.size 0 cs.size) := Lib.hid (there_of_obj hz (by rw [H1.out.2.2.2, cdCells_len]; exact Nat.le_refl _))
  have HW : Hid (SObj ((w1.alloc (.cells #[.int .i64 0, .int .i64 0, .int .i64 0, .int .i64 0, .int .i64 0, .int .i64 0, .int .i64 0, .int .i64 0, .int .i64 0, .int .i64 0, .int .i64 0, .int .i64 0, .int .i64 0, .int .i64 0, .int .i64 0, .int .i64 0, .slice none 0 0] 86)).setCells w1.heap.size 0 cs.toList) w1.heap.size 86 cs.toList ∧ Only (fun _ => False) w1 ((w1.alloc (.cells #[.int .i64 0, .int .i64 0, .int .i64 0, .int .i64 0, .int .i64 0, .int .i64 0, .int .i64 0, .int .i64 0, .int .i64 0, .int .i64 0, .int .i64 0, .int .i64 0, .int .i64 0, .int .i64 0, .int .i64 0, .int .i64 0, .slice none 0 0] 86)).setCells w1.heap.size 0 cs.toList)) := Lib.hid (by
    refine ⟨SObj.putAll cs.toList (cdCells (fun _ => 0) (.slice none 0 0)) [] 0 _ hz (by rw [cdCells_len]; simp [H1.out.2.2.2]) rfl, ?_⟩
    have h5 : Only (fun k => k = w1.heap.size) w1 ((w1.alloc (.cells #[.int .i64 0, .int .i64 0, .int .i64 0, .int .i64 0, .int .i64 0, .int .i64 0, .int .i64 0, .int .i64 0, .int .i64 0, .int .i64 0, .int .i64 0, .int .i64 0, .int .i64 0, .int .i64 0, .int .i64 0, .int .i64 0, .slice none 0 0] 86)).setCells w1.heap.size 0 cs.toList) := (Only.alloc _ _ _).tr (Only.setCells (S := fun k => k = w1.heap.size) rfl _ _ _)
    exact ⟨h5.os, h5.tape, h5.output, h5.size, fun k hk _ => h5.block k hk (by omega)⟩)
  clear hz hzz
  go_upto_region 2 with (first | (refine wpList_store_mid rfl 86 (.tmp 8) (.tmp 13) rfl w1.heap.size 0 cs rfl rfl HT.out HIN.out HAL.out ?_))
  obtain ⟨g8, hg8⟩ : ∃ x, x = w1.heap.size := ⟨_, rfl⟩
  rw [← hg8] at HW ⊢
  have HG := Lib.hid hg8
  generalize World.setCells _ _ _ _ = w2 at HW ⊢
  clear hg8 HT
  obtain ⟨w3, hw3⟩ : ∃ x, x = w2.alloc (.cells #[.slice a n c, .int .i64 0, .bool false, .bool false, .pointer none] 83) := ⟨_, rfl⟩
  have ho3 : Only (fun _ => False) w1 w3 := by rw [hw3]; exact HW.out.2.tr (Only.alloc _ _ _)
  have hbx : w3.heap[g8]? = some (.cells cs 86 (0, 0)) := by
    have h5 := HW.out.1.alloc (.cells #[.slice a n c, .int .i64 0, .bool false, .bool false, .pointer none] 83)
    rw [← hw3] at h5
    have h6 : w3.heap[g8]? = some (.cells cs.toList.toArray 86 (0, 0)) := h5
    rw [Array.toArray_toList] at h6
    exact h6
  have hw2s : w1.heap.size ≤ w2.heap.size := HW.out.2.size
  have hsb : SB w3 w2.heap.size a n c f S 0 false false := by
    have har : Arg .u8 w3 a n f := (H.out.1.below H1.out.2.2.1).only ho3 (fun _ _ _ h => h)
    refine ⟨by rw [hw3]; exact obj_new w2 83 [.slice a n c, .int .i64 0, .bool false, .bool false, .pointer none], har, fun h0 x hx e => ?_, H.out.2.1, hmax, Nat.zero_le _⟩
    obtain ⟨g1, o1, e1, hg1, _⟩ := H.out.1 h0
    rw [hx] at e1; injection e1 with e1; subst e1
    have := H1.out.2.2.1.size
    simp only at e
    omega
  have HB := Lib.hid hbx
  have HN := Lib.hid (some_any C I w2.heap.size a n c f S 0 m false cs sa sc M w3 H.out.2.2.1 hsb (H1.out.1.only ho3 (fun _ _ _ h => h)) (fun h0 x hx => by
    have h5 : x.block < w1.heap.size := by
      rcases H1.out.1 with ⟨c1, n1, e1, e2, e3, e4, e5⟩ | ⟨s1, h1, e1, e2, e3⟩
      · obtain ⟨g1, o1, e6, hg1, _⟩ := e5.row (by omega)
        rw [hx] at e6; injection e6 with e6; subst e6; exact hg1
      · obtain ⟨g1, o1, e6, hg1, _⟩ := e3.row (by simp)
        rw [hx] at e6; injection e6 with e6; subst e6; exact hg1
    have := ho3.size
    omega) hm)
  have HO3 := Lib.hid ho3
  clear ho3 hsb hbx
  go_upto_region 4 with fail
  go_wp2_with (first | (rw [← hw3]; refine wpList_load_row rfl 86 (.tmp 8) rfl g8 rfl 86 cs (0,0) _ HB.out Tryd.underlying86 rfl HIN.out ?_))
  rw [← hw3]
  have hlt3 : w2.heap.size < w3.heap.size := by rw [hw3]; simp
  clear hw3
  refine HN.out.mono ?_
  rintro _ w4 ⟨⟨l, kind, a', c', rfl, htold, hown⟩, ho4⟩
  have H4 := Lib.hid (And.intro htold (And.intro hown ho4))
  clear htold hown ho4
  go_wp2
  go_ret2
  have h5 := H1.out.2.2.1
  have h6 := h5.size
  have h7 := HO3.out.size
  exact ⟨⟨l, kind, a', c', rfl, H4.out.1, H4.out.2.1.mono (by omega)⟩, (h5.trans (HO3.out.below h6 (fun k hk => hk.elim))).trans (H4.out.2.2.below (by omega) (fun k hk => by omega))⟩
end Go.Proofs.YtdmefbpfpmkdcaaDoor
