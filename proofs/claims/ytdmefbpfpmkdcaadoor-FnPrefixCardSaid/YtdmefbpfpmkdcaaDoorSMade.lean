/- The reference's made: the code of lengths. -/
import Derived.Test.YtdmefbpfpmkdcaaDoorSSome
import Derived.Test.YtdmefbpfpmkdcaaDoorWhole
import Derived.Test.YtdmefbpfpmkdcaaDoorInRange
import Derived.Laws.ResultCell
namespace Go.Proofs.YtdmefbpfpmkdcaaDoor
open Go.RowKit
set_option linter.unusedVariables false

theorem cdCells_set (h : Nat → Nat) (v : Value) (l x : Nat) (hl : l < 16) : (cdCells h v).set l (.int .i64 (x : Int)) = cdCells (fun j => if j = l then x else h j) v := by
  unfold cdCells
  rw [List.set_append_left _ _ (by simpa using hl)]
  congr 1
  apply List.ext_getElem
  · simp
  · intro i h1 h2
    simp only [List.getElem_set, List.getElem_map, List.getElem_range]
    by_cases e : l = i
    · subst e; simp
    · simp [e, show ¬ i = l from fun h => e h.symm]
theorem cdCells_set16 (h : Nat → Nat) (v v' : Value) : (cdCells h v).set 16 v' = cdCells h v' := by
  unfold cdCells
  rw [List.set_append_right _ _ (by simp)]
  simp
theorem cdCells_congr {h h' : Nat → Nat} (v : Value) (e : ∀ l, l < 16 → h l = h' l) : cdCells h v = cdCells h' v := by
  unfold cdCells
  congr 1
  exact List.map_congr_left fun i hi => by rw [e i (List.mem_range.1 hi)]
theorem cdCells_len (h : Nat → Nat) (v : Value) : (cdCells h v).length = 17 := by simp [cdCells]

/-- The counts while the symbols of length q + 1 are gathered, s of them looked at. -/
def cntQ (c : Nat → Nat) (n q s l : Nat) : Nat := if l = 0 then 0 else if l ≤ q then cnt c l n else if l = q + 1 then cnt c l s else 0
theorem cntQ_next (c : Nat → Nat) (n q l : Nat) : cntQ c n q n l = cntQ c n (q + 1) 0 l := by
  unfold cntQ
  by_cases h0 : l = 0
  · rw [if_pos h0, if_pos h0]
  · rw [if_neg h0, if_neg h0]
    by_cases h1 : l ≤ q
    · rw [if_pos h1, if_pos (by omega)]
    · rw [if_neg h1]
      by_cases h2 : l = q + 1
      · rw [if_pos h2, if_pos (by omega)]
      · rw [if_neg h2, if_neg (by omega)]
        split <;> rfl
theorem cntQ_hit (c : Nat → Nat) (n q s : Nat) (hc : c s = q + 1) (l : Nat) : (if l = q + 1 then cntQ c n q s (q + 1) + 1 else cntQ c n q s l) = cntQ c n q (s + 1) l := by
  unfold cntQ
  by_cases h0 : l = 0
  · rw [if_neg (by omega), if_pos h0, if_pos h0]
  · by_cases h2 : l = q + 1
    · rw [if_pos h2, if_neg (by omega), if_neg (by omega), if_pos rfl, if_neg h0, if_neg (by omega), if_pos h2, h2, cnt, if_pos hc]
    · rw [if_neg h2, if_neg h0, if_neg h0]
      by_cases h1 : l ≤ q
      · rw [if_pos h1, if_pos h1]
      · rw [if_neg h1, if_neg h1, if_neg h2, if_neg h2]
theorem cntQ_miss (c : Nat → Nat) (n q s : Nat) (hc : ¬ c s = q + 1) (l : Nat) : cntQ c n q s l = cntQ c n q (s + 1) l := by
  unfold cntQ
  by_cases h0 : l = 0
  · rw [if_pos h0, if_pos h0]
  · rw [if_neg h0, if_neg h0]
    by_cases h1 : l ≤ q
    · rw [if_pos h1, if_pos h1]
    · rw [if_neg h1, if_neg h1]
      by_cases h2 : l = q + 1
      · rw [if_pos h2, if_pos h2, cnt, if_neg (by rw [h2]; exact hc)]; rfl
      · rw [if_neg h2, if_neg h2]
/-- Whether lengths make a code. -/
def madeB (c : Nat → Nat) (n : Nat) : Bool := if (sys c n 15).length = 0 then false else if (sys c n 15).length = 1 then true else decide (krf c n = 32768)
theorem En15 (c : Nat → Nat) (n : Nat) (h : ∀ i, i < n → c i ≤ 15) : En c n 15 = krf c n := by
  rw [krf_cnt c n h]
  have h2 := cur_end (hh c n)
  unfold En
  rw [h2]
  simp only [hh]
  simp

/-- What made has so far. -/
structure MK (w0 w : World) (g2 g4 B : Nat) (h : Nat → Nat) (l : List Nat) (v : Value) : Prop where
  obj : SObj w g4 86 (cdCells h v)
  row : w.ownsRow B 3 1 v l.length (cellsOf .i64 l.length (listF l))
  res : SObj w g2 86 (cdCells (fun _ => 0) (.slice none 0 0))
  bel : Below w0.heap.size w0 w
  big : B ≤ w.heap.size
theorem MK.ne {w0 w : World} {g2 g4 B : Nat} {h : Nat → Nat} {l : List Nat} {v : Value} (m : MK w0 w g2 g4 B h l v) (h2 : g2 < B) (h4 : g4 < B) : ∀ k, v.ownBlock = some k → k ≠ g2 ∧ k ≠ g4 := fun k hk => by
  have := (ownsRow_ty m.row hk).2.1
  omega

theorem MK.congr {w0 w : World} {g2 g4 B : Nat} {h h' : Nat → Nat} {l : List Nat} {v : Value} (m : MK w0 w g2 g4 B h l v) (e : ∀ j, j < 16 → h j = h' j) : MK w0 w g2 g4 B h' l v :=
  ⟨by rw [← cdCells_congr v e]; exact m.obj, m.row, m.res, m.bel, m.big⟩
theorem MK.count {w0 w : World} {g2 g4 B : Nat} {h : Nat → Nat} {l : List Nat} {v : Value} (m : MK w0 w g2 g4 B h l v) (h4 : g4 < B) (hne : ¬ g2 = g4) (hw : w0.heap.size ≤ g4) (j x : Nat) (hj : j < 16) :
    MK w0 (w.setCell ⟨g4, j, none⟩ (.int .i64 (x : Int))) g2 g4 B (fun i => if i = j then x else h i) l v := by
  have ho : Only (fun k => k = g4) w (w.setCell ⟨g4, j, none⟩ (.int .i64 (x : Int))) := Only.setCell _ _ _ rfl
  refine ⟨?_, ownsRow_only m.row ho (fun k hk e => by have := (ownsRow_ty m.row hk).2.1; omega), m.res.only ho hne, m.bel.trans (ho.below m.bel.size (fun k hk => by omega)), Nat.le_trans m.big ho.size⟩
  rw [← cdCells_set h v j x hj]
  exact m.obj.set j _
theorem MK.push {w0 w w3 : World} {g2 g4 B : Nat} {h : Nat → Nat} {l : List Nat} {v v' : Value} {s : Nat} {o : Go.Obj} (m : MK w0 w g2 g4 B h l v) (h2 : g2 < B) (h4 : g4 < B) (hne : ¬ g2 = g4) (hw : w0.heap.size ≤ g4) (hB : w0.heap.size ≤ B)
    (hown : w3.ownsRow B 3 1 v' (l.length + 1) (cellsOf .i64 l.length (listF l) ++ [.int .i64 (s : Int)])) (hgrow : (w.alloc o).grownBy w3 v.ownBlock) :
    MK w0 (w3.setCell ⟨g4, 16, none⟩ v') g2 g4 B h (l ++ [s]) v' := by
  have ho : Only (fun k => B ≤ k) w w3 := (Only.alloc _ w _).tr (Only.of_grown hgrow (fun k hk => (ownsRow_ty m.row hk).2.1))
  have ho2 : Only (fun k => k = g4) w3 (w3.setCell ⟨g4, 16, none⟩ v') := Only.setCell _ _ _ rfl
  rw [listF_snoc] at hown
  refine ⟨?_, ?_, (m.res.only ho (by omega)).only ho2 hne, (m.bel.trans (ho.below m.bel.size (fun k hk => by omega))).trans (ho2.below (Nat.le_trans m.bel.size ho.size) (fun k hk => by omega)), Nat.le_trans m.big (Nat.le_trans ho.size ho2.size)⟩
  · rw [← cdCells_set16 h v v']
    exact (m.obj.only ho (by omega)).set 16 _
  · rw [List.length_append, List.length_singleton]
    exact ownsRow_only hown ho2 (fun k hk e => by have := (ownsRow_ty hown hk).2.1; omega)

theorem there_of_obj {w : World} {g : Nat} {T : TypeId} {vs : List Value} (h : SObj w g T vs) {n : Nat} (hn : n ≤ vs.length) : w.there g 0 n := fun j hj => by
  rw [Nat.zero_add]
  refine ⟨?_, h.free j⟩
  rw [h.cell j (List.getElem?_eq_getElem (by omega))]
  rfl
theorem SObj.putAll {g : Nat} {T : TypeId} : ∀ (vs us pre : List Value) (o : Nat) (w : World), SObj w g T (pre ++ us) → us.length = vs.length → pre.length = o → SObj (w.setCells g o vs) g T (pre ++ vs)
  | [], us, pre, o, w, h, e, _ => by
    obtain rfl : us = [] := List.length_eq_zero_iff.1 e
    exact h
  | v :: r, [], _, _, _, _, e, _ => by simp at e
  | v :: r, u :: us, pre, o, w, h, e, ho => by
    have h1 := h.set o v
    rw [List.set_append_right _ _ (by omega), show o - pre.length = 0 by omega, List.set_cons_zero] at h1
    have := SObj.putAll r us (pre ++ [v]) (o + 1) (w.setCell ⟨g, o, none⟩ v) (by simpa using h1) (by simpa using e) (by simp [ho])
    have e2 : pre ++ [v] ++ r = pre ++ v :: r := by simp
    rw [e2] at this
    exact this
theorem Only.setCells {S : Nat → Prop} {b : Nat} (hb : S b) : ∀ (vs : List Value) (o : Nat) (w : World), Only S w (w.setCells b o vs)
  | [], _, w => Only.refl _ _
  | v :: r, o, w => (Only.setCell (S := S) w ⟨b, o, none⟩ v hb).tr (Only.setCells hb r (o + 1) (w.setCell ⟨b, o, none⟩ v))
theorem cdCells_all (h : Nat → Nat) (a : Option Addr) (n c : Nat) : (cdCells h (.slice a n c)).toArray.all (·.oneCell') = true := by
  refine Array.all_eq_true_iff_forall_mem.2 (fun v hv => ?_)
  have hv : v ∈ cdCells h (.slice a n c) := by simpa using hv
  unfold cdCells at hv
  rcases List.mem_append.1 hv with hv | hv
  · obtain ⟨i, _, rfl⟩ := List.mem_map.1 hv
    rfl
  · rw [List.mem_singleton] at hv; rw [hv]; rfl
/-- What is handed back. -/
theorem MK.fin {w0 w : World} {g2 g4 B : Nat} {h : Nat → Nat} {l : List Nat} {v : Value} (m : MK w0 w g2 g4 B h l v) (h2 : g2 < B) (hw : w0.heap.size ≤ g2) (hB : w0.heap.size ≤ B) : ∃ sa sc, v = .slice sa l.length sc ∧
    SObj (w.setCells g2 0 (cdCells h (.slice sa l.length sc))) g2 86 (cdCells h (.slice sa l.length sc)) ∧ CodeR (w.setCells g2 0 (cdCells h (.slice sa l.length sc))) h l (cdCells h (.slice sa l.length sc)).toArray sa sc ∧
    (0 < l.length → ∀ x, sa = some x → w0.heap.size ≤ x.block) ∧ Below w0.heap.size w0 (w.setCells g2 0 (cdCells h (.slice sa l.length sc))) := by
  obtain ⟨sa, sc, hv, hc, ho⟩ := own_of_cells m.row
  have hon : Only (fun k => k = g2) w (w.setCells g2 0 (cdCells h (.slice sa l.length sc))) := Only.setCells (S := fun k => k = g2) rfl _ _ _
  have hlt : 0 < l.length → ∀ x, sa = some x → B ≤ x.block := fun h0 x hx => by
    obtain ⟨g, e, hb, _⟩ := ho h0
    rw [hx] at e; injection e with e; subst e; exact hb
  refine ⟨sa, sc, hv, SObj.putAll _ (cdCells (fun _ => 0) (.slice none 0 0)) [] 0 w m.res (by rw [cdCells_len, cdCells_len]) rfl, ⟨rfl, ho.arg.only hon (fun h0 x hx e => by have := hlt h0 x hx; omega)⟩, fun h0 x hx => by have := hlt h0 x hx; omega, m.bel.trans (hon.below m.bel.size (fun k hk => by omega))⟩
theorem infoCode' (h : Nat → Nat) (v : Value) : (Tryd.prog.info? 86).map (·.size) = some (cdCells h v).length := by rw [infoCode, cdCells_len]
theorem sys_le (c : Nat → Nat) (n : Nat) (h : ∀ i, i < n → c i ≤ 15) : (sys c n 15).length ≤ n := by rw [sys_len]; exact bef_le c n 15 h (Nat.le_refl _)

set_option maxRecDepth 100000 in
set_option maxHeartbeats 400000 in
theorem made_any (a : Option Addr) (n cp : Nat) (f : Nat → Int) (w : World) (ha : Arg .i64 w a n f) (hn : n ≤ 4096) (hf : ∀ i, i < n → 0 ≤ f i ∧ f i ≤ 15) :
    Calls Tryd.prog 53 #[.slice a n cp] w fun e w' => (∃ cs sa sc, e = .returned (.tuple #[.agg cs, .bool (madeB (natF f) n)]) ∧ CodeR w' (hh (natF f) n) (sys (natF f) n 15) cs sa sc ∧ (0 < (sys (natF f) n 15).length → ∀ x, sa = some x → w.heap.size ≤ x.block)) ∧ Below w.heap.size w w' := by
  obtain ⟨i0, hi, hz0, hz1, hz2⟩ := info_parts infoInt
  have HI := Lib.hid (And.intro hi (And.intro hz0 (And.intro hz1 hz2)))
  have H := Lib.hid (And.intro ha hf)
  clear ha hf hi hz0 hz1 hz2
  obtain ⟨c, hc⟩ : ∃ c, c = natF f := ⟨_, rfl⟩
  rw [← hc]
  have hcf : ∀ i, i < n → f i = (c i : Int) ∧ c i ≤ 15 := fun i hi => by rw [hc]; have := H.out.2 i hi; unfold natF; omega
  go_enter Tryd.func53, Tryd.ntmps53
  go_upto_region 2 with fail
  generalize hw1 : World.alloc _ _ = w1
  obtain ⟨B, hB⟩ : ∃ B, B = w1.heap.size := ⟨_, rfl⟩
  have HM : Hid (MK w w1 w.heap.size (w.heap.size + 1) B (cntQ c n 0 0) [] (.slice none 0 0) ∧ w.heap.size + 1 < B) := by
    have e1 : cdCells (cntQ c n 0 0) (.slice none 0 0) = cdCells (fun _ => 0) (.slice none 0 0) := cdCells_congr _ (fun l hl => by unfold cntQ; split; rfl; split; omega; split; rfl; rfl)
    have hs : w.heap.size + 1 < w1.heap.size := by rw [← hw1]; simp
    refine Lib.hid ⟨⟨?_, World.ownsRow_nil _ _ _ _, ?_, ?_, Nat.le_of_eq hB⟩, by omega⟩
    · rw [e1, ← hw1]
      have h5 := obj_new (w.alloc (.cells (cdCells (fun _ => 0) (.slice none 0 0)).toArray 86)) 86 (cdCells (fun _ => 0) (.slice none 0 0))
      have e2 : (w.alloc (.cells (cdCells (fun _ => 0) (.slice none 0 0)).toArray 86)).heap.size = w.heap.size + 1 := by simp
      rw [e2] at h5
      exact h5
    · rw [← hw1]
      exact (obj_new w 86 (cdCells (fun _ => 0) (.slice none 0 0))).alloc _
    · rw [← hw1]
      exact ((Below.refl _ _).alloc (Nat.le_refl _) _).alloc (by simp) _
  obtain ⟨g2, hg2⟩ : ∃ g2, g2 = w.heap.size := ⟨_, rfl⟩
  obtain ⟨g4, hg4⟩ : ∃ g4, g4 = w.heap.size + 1 := ⟨_, rfl⟩
  have HG : Hid (g2 = w.heap.size ∧ g4 = w.heap.size + 1 ∧ g2 < B ∧ g4 < B ∧ B = w1.heap.size) := Lib.hid ⟨hg2, hg4, by have := HM.out.2; omega, by have := HM.out.2; omega, hB⟩
  rw [← hg4, ← hg2] at HM ⊢
  have hne : ¬ g2 = g4 := by omega
  have HC := Lib.hid (And.intro hc hcf)
  clear hw1 hB hg2 hg4 hc hcf
  go_wp2_with fail
  go_loopg [5] 16 (fun j s5 wr => ∃ q : Nat, s5 = .int .i64 ((q : Int) + 1) ∧ q ≤ 15 ∧ 16 ≤ j + q ∧ Hid (∃ v, MK w wr g2 g4 B (cntQ c n q 0) (sys c n q) v))
  case atStart => exact ⟨0, rfl, by omega, by omega, _, HM.out.1⟩
  case round =>
    obtain ⟨q, rfl, hq, hj, hR⟩ := hrel
    by_cases hq15 : q < 15
    · have hdq : decide ((q : Int) + 1 ≤ 15) = true := decide_eq_true (by omega)
      obtain ⟨G, hG⟩ : ∃ G, G = gk := ⟨_, rfl⟩
      have HGK := Lib.hid hG; clear hG
      go_wp2_with fail
      go_loopg [6] (n + 1) (fun j s6 wx => ∃ s : Nat, s6 = .int .i64 s ∧ s ≤ n ∧ n < j + s ∧ Hid (∃ v, MK w wx g2 g4 B (cntQ c n q s) (sys c n q ++ syl c (q + 1) s) v))
      case atStart => exact ⟨0, rfl, Nat.zero_le _, by omega, by obtain ⟨v, hv⟩ := hR.out; exact ⟨v, by rw [syl, List.append_nil]; exact hv⟩⟩
      case round =>
        obtain ⟨s, rfl, hs, hjs, hX⟩ := hrel
        by_cases hlt : s < n
        · obtain ⟨v, hv⟩ := hX.out
          obtain ⟨ga, oa, rfl, hga, ra⟩ := H.out.1 (by omega)
          have cx := (hv.bel.cell (p := ⟨ga, oa + s, none⟩) hga).trans (ra s hlt)
          rw [(HC.out.2 s hlt).1] at cx
          have hx15 := (HC.out.2 s hlt).2
          obtain ⟨x, hx⟩ : ∃ x, x = c s := ⟨_, rfl⟩
          rw [← hx] at cx hx15
          have HV := Lib.hid (And.intro hv hx)
          clear hv hX ra
          by_cases hxq : x = q + 1
          · obtain ⟨ct, hct⟩ : ∃ y, y = cntQ c n q s (q + 1) := ⟨_, rfl⟩
            have hct2 : ct ≤ 4096 := by
              rw [hct]; unfold cntQ
              rw [if_neg (by omega), if_neg (by omega), if_pos rfl]
              have := cnt_n c (q + 1) s; omega
            have cc := HV.out.1.obj.cell (q + 1) (cdCells_at _ _ (q + 1) (by omega))
            rw [← hct] at cc
            have fc := HV.out.1.obj.free (q + 1)
            have HCT := Lib.hid hct
            have hxq' : ((x : Int) == (q : Int) + 1) = true := by simp; omega
            clear hct hx
            go_upto_region 10 with fail
            generalize hw2 : World.setCell _ _ _ = w2
            have H2 : Hid (MK w w2 g2 g4 B (fun j => if j = q + 1 then ct + 1 else cntQ c n q s j) (sys c n q ++ syl c (q + 1) s) v) := Lib.hid (by
              rw [← hw2]
              exact HV.out.1.count HG.out.2.2.2.1 hne (by have := HG.out; omega) (q + 1) (ct + 1) (by omega))
            clear hw2 cc fc cx hxq'
            have c16 := H2.out.obj.cell 16 (cdCells_sym _ _)
            have f16 := H2.out.obj.free 16
            have hsz : B ≤ (w2.alloc (.cells #[.int .i64 s] 3)).heap.size := by have := H2.out.big; simp; omega
            obtain ⟨ls, hls⟩ : ∃ y, y = sys c n q ++ syl c (q + 1) s := ⟨_, rfl⟩
            rw [← hls] at H2
            have hll : ls.length ≤ 4096 := by
              rw [hls, List.length_append, sys_len, syl_len]
              have h1 := bef_le c n (q + 1) (fun i hi => (HC.out.2 i hi).2) (by omega)
              have h2 := cnt_le c (q + 1) (show s ≤ n by omega)
              rw [bef] at h1; omega
            have HLS := Lib.hid hls; clear hls
            obtain ⟨hi, hz0, hz1, hz2⟩ := HI.out
            go_wp2_with (at_builtin; refine wpList_append_own _ rfl _ _ 22 rfl B 3 i0 (.int .i64 0) 1 8 Tryd.underlying22 hi hz0 hz1 hz2 rfl (by decide) _ _ _ rfl (H2.out.row.alloc _) ⟨w2.heap.size, 0, none⟩ 1 1 [.int .i64 s] rfl rfl (cell_one_new _ _ _) (by simp [Value.oneCell']) (by unfold maxLen; omega) (by omega) hsz ?_)
            intro v' w3 hown3 hgrow _
            have hlt3 := hgrow.size
            obtain ⟨gq, cq, hvq, _, _⟩ := hown3.form (by omega)
            subst hvq
            have H3 := Lib.hid (H2.out.push HG.out.2.2.1 HG.out.2.2.2.1 hne (by have := HG.out; omega) (by have := HG.out; omega) hown3 hgrow)
            have ho3 := H2.out.obj.only ((Only.alloc (fun k => B ≤ k) w2 _).tr (Only.of_grown hgrow (fun k hk => (ownsRow_ty H2.out.row hk).2.1))) (by have := HG.out; omega)
            have c16 : w3.cell? ⟨g4, 16, none⟩ = some v := ho3.cell 16 (cdCells_sym _ _)
            have f16 : w3.frozen? ⟨g4, 16, none⟩ = false := ho3.free 16
            clear hown3 hgrow ho3
            go_wp2
            go_roundg (gk - 1)
            case measure => omega
            case rel =>
              refine ⟨s + 1, by go_num, by omega, by omega, .slice (some ⟨gq, 0, none⟩) (ls.length + 1) cq, ?_⟩
              rw [syl, if_pos (by have := HV.out.2; omega), ← List.append_assoc, ← HLS.out]
              exact H3.out.congr (fun l _ => by rw [HCT.out]; exact cntQ_hit c n q s (by have := HV.out.2; omega) l)
          · have hxq' : ((x : Int) == (q : Int) + 1) = false := by simp; omega
            go_wp2
            go_roundg (gk - 1)
            case measure => omega
            case rel =>
              refine ⟨s + 1, by go_num, by omega, by omega, v, ?_⟩
              have h5 := HV.out.1
              have h6 := HV.out.2
              rw [syl, if_neg (by omega), List.append_nil]
              exact h5.congr (fun l _ => cntQ_miss c n q s (by omega) l)
        · go_wp2
          go_roundg (G - 1)
          case measure => have := HGK.out; omega
          case rel =>
            obtain rfl : s = n := by omega
            refine ⟨q + 1, by go_num, by omega, by have := HGK.out; omega, ?_⟩
            obtain ⟨v, hv⟩ := hX.out
            exact ⟨v, hv.congr (fun l _ => cntQ_next c s q l)⟩
    · obtain rfl : q = 15 := by omega
      obtain ⟨v, hv⟩ := hR.out
      have hv := hv.congr (h' := hh c n) (fun l hl => by
        unfold cntQ hh
        by_cases h0 : l = 0
        · rw [if_pos h0, if_pos h0]
        · rw [if_neg h0, if_neg h0, if_pos (by omega)])
      obtain ⟨sa, sc, hvs, hfo, hfc, hfs, hfb⟩ := hv.fin HG.out.2.2.1 (by have := HG.out; omega) (by have := HG.out; omega)
      subst hvs
      obtain ⟨ls, hls⟩ : ∃ y, y = sys c n 15 := ⟨_, rfl⟩
      have hll : ls.length ≤ 4096 := by rw [hls]; have := sys_le c n (fun i hi => (HC.out.2 i hi).2); omega
      rw [← hls] at hv hfo hfc hfs hfb
      obtain ⟨M, hM⟩ : ∃ M, M = ls.length := ⟨_, rfl⟩
      rw [← hM] at hv hfo hfc hfs hfb hll
      have c16 := hv.obj.cell 16 (cdCells_sym _ _)
      have hcc : ∀ l, l < 16 → wr.cell? ⟨g4, l, none⟩ = some (.int .i64 (hh c n l : Int)) := fun l hl => hv.obj.cell l (cdCells_at _ _ l hl)
      obtain ⟨cs, hcs⟩ : ∃ y, y = cdCells (hh c n) (.slice sa M sc) := ⟨_, rfl⟩
      have hob := hv.obj
      rw [← hcs] at hob hfo hfc hfb
      have HCS := Lib.hid hcs
      have HOB := Lib.hid hob
      have HV := Lib.hid hv
      have HF := Lib.hid (And.intro hfo (And.intro hfc (And.intro hfs hfb)))
      have HCC := Lib.hid hcc
      have HLS := Lib.hid (And.intro hls hM)
      clear hR hv hcs hob hfo hfc hfs hfb hcc hls hM
      have HI6 : Hid ((Tryd.prog.info? 86).map (·.size) = some cs.length) := Lib.hid (by rw [HCS.out]; exact infoCode' _ _)
      have HI7 : Hid ((Tryd.prog.info? 86).map (·.size) = some cs.toArray.size) := Lib.hid (by rw [HCS.out, List.size_toArray]; exact infoCode' _ _)
      have HO6 : Hid (cs.toArray.all (·.oneCell') = true) := Lib.hid (by rw [HCS.out]; exact cdCells_all _ _ _ _)
      have HT6 : Hid (World.there wr g2 0 cs.toArray.size) := Lib.hid (there_of_obj HV.out.res (by rw [HCS.out, List.size_toArray, cdCells_len, cdCells_len]; exact Nat.le_refl _))
      have HR6 : Hid (World.rangeAt wr g4 0 cs) := Lib.hid (fun j v hv => by rw [Nat.zero_add]; exact HOB.out.cell j hv)
      by_cases hM0 : M = 0
      · have hm0 : ((M : Int) == 0) = true := by simp; omega
        go_wp2_with (first | (refine wpList_load_mid rfl 86 (.tmp 4) rfl g4 0 rfl cs _ HR6.out Tryd.underlying86 rfl HI6.out ?_) | (refine wpList_store_mid rfl 86 (.tmp 2) (.tmp 42) rfl g2 0 cs.toArray rfl rfl HT6.out HI7.out HO6.out ?_))
        (try rw [List.toList_toArray])
        generalize World.setCells _ _ _ _ = wf at HF ⊢
        refine bodyPost_ret (v := .tuple #[.agg cs.toArray, .bool (false)]) ?_ rfl ⟨⟨cs.toArray, sa, sc, ?_, ?_, ?_⟩, HF.out.2.2.2⟩
        · rw [results_cell_tmp Tryd.results53]
          have hl := run_loadVar_mid (P := Tryd.prog) wf g2 0 86 cs _ (fun j v hv => by rw [Nat.zero_add]; exact HF.out.1.cell j hv) Tryd.underlying86 rfl HI6.out
          simp [asAddr, hl]
        · have e : madeB c n = (false) := by unfold madeB; rw [← HLS.out.1, ← HLS.out.2, if_pos hM0]
          rw [e]
        · rw [← HLS.out.1]; exact HF.out.2.1
        · rw [← HLS.out.1, ← HLS.out.2]; exact HF.out.2.2.1
      · have hm0 : ((M : Int) == 0) = false := by simp; omega
        by_cases hM1 : M = 1
        · have hm1 : ((M : Int) == 1) = true := by simp; omega
          go_wp2_with (first | (refine wpList_load_mid rfl 86 (.tmp 4) rfl g4 0 rfl cs _ HR6.out Tryd.underlying86 rfl HI6.out ?_) | (refine wpList_store_mid rfl 86 (.tmp 2) (.tmp 47) rfl g2 0 cs.toArray rfl rfl HT6.out HI7.out HO6.out ?_))
          (try rw [List.toList_toArray])
          generalize World.setCells _ _ _ _ = wf at HF ⊢
          refine bodyPost_ret (v := .tuple #[.agg cs.toArray, .bool (true)]) ?_ rfl ⟨⟨cs.toArray, sa, sc, ?_, ?_, ?_⟩, HF.out.2.2.2⟩
          · rw [results_cell_tmp Tryd.results53]
            have hl := run_loadVar_mid (P := Tryd.prog) wf g2 0 86 cs _ (fun j v hv => by rw [Nat.zero_add]; exact HF.out.1.cell j hv) Tryd.underlying86 rfl HI6.out
            simp [asAddr, hl]
          · have e : madeB c n = (true) := by unfold madeB; rw [← HLS.out.1, ← HLS.out.2, if_neg hM0, if_pos hM1]
            rw [e]
          · rw [← HLS.out.1]; exact HF.out.2.1
          · rw [← HLS.out.1, ← HLS.out.2]; exact HF.out.2.2.1
        · have hm1 : ((M : Int) == 1) = false := by simp; omega
          go_wp2_with fail
          go_loopg [7, 8] 16 (fun j s7 s8 wx => ∃ q F : Nat, s7 = .int .i64 F ∧ s8 = .int .i64 ((q : Int) + 1) ∧ q ≤ 15 ∧ 16 ≤ j + q ∧ F ≤ 32768 ∧ wr = wx ∧ Hid (F + En c n q = 2 ^ q))
          case atStart => exact ⟨0, 1, rfl, rfl, by omega, by omega, by omega, rfl, rfl⟩
          case round =>
            obtain ⟨q, F, rfl, rfl, hq, hj, hF, rfl, hE⟩ := hrel
            by_cases hq15 : q < 15
            · have c1 := HCC.out (q + 1) (by omega)
              obtain ⟨ct, hct⟩ : ∃ y, y = cnt c (q + 1) n := ⟨_, rfl⟩
              have hct2 : ct ≤ 4096 := by rw [hct]; have := cnt_n c (q + 1) n; omega
              rw [show hh c n (q + 1) = ct by unfold hh; rw [if_neg (by omega), hct]] at c1
              have HE2 : Hid (En c n (q + 1) = 2 * En c n q + ct ∧ 2 ^ (q + 1) = 2 * 2 ^ q ∧ 2 ^ (q + 1) ≤ 32768) := Lib.hid ⟨by rw [En_succ, hct], Nat.pow_succ', (Nat.pow_le_pow_right (by decide) (by omega) : (2 : Nat) ^ (q + 1) ≤ 2 ^ 15)⟩
              clear hct
              by_cases hneg : 2 * F < ct
              · have hng : (2 * (F : Int) - (ct : Int) < 0) := by omega
                go_wp2_with (first | (refine wpList_load_mid rfl 86 (.tmp 4) rfl g4 0 rfl cs _ HR6.out Tryd.underlying86 rfl HI6.out ?_) | (refine wpList_store_mid rfl 86 (.tmp 2) (.tmp 61) rfl g2 0 cs.toArray rfl rfl HT6.out HI7.out HO6.out ?_))
                (try rw [List.toList_toArray])
                generalize World.setCells _ _ _ _ = wf at HF ⊢
                refine bodyPost_ret (v := .tuple #[.agg cs.toArray, .bool (false)]) ?_ rfl ⟨⟨cs.toArray, sa, sc, ?_, ?_, ?_⟩, HF.out.2.2.2⟩
                · rw [results_cell_tmp Tryd.results53]
                  have hl := run_loadVar_mid (P := Tryd.prog) wf g2 0 86 cs _ (fun j v hv => by rw [Nat.zero_add]; exact HF.out.1.cell j hv) Tryd.underlying86 rfl HI6.out
                  simp [asAddr, hl]
                · have e : madeB c n = (false) := by unfold madeB; rw [← HLS.out.1, ← HLS.out.2, if_neg hM0, if_neg hM1]; exact decide_eq_false (fun hk => by have h1 := (Whole.mk (c := c) (n := n) (fun i hi => (HC.out.2 i hi).2) hk (by omega)).En_le (show q + 1 ≤ 15 by omega); have h2 := HE2.out; have h3 := hE.out; omega)
                  rw [e]
                · rw [← HLS.out.1]; exact HF.out.2.1
                · rw [← HLS.out.1, ← HLS.out.2]; exact HF.out.2.2.1
              · have hng : ¬ (2 * (F : Int) - (ct : Int) < 0) := by omega
                go_wp2
                go_roundg (gk - 1)
                case measure => omega
                case rel => exact ⟨q + 1, 2 * F - ct, by go_num, by go_num, by omega, by omega, by have h2 := HE2.out; have h3 := hE.out; omega, rfl, Lib.hid (by have h2 := HE2.out; have h3 := hE.out; omega)⟩
            · obtain rfl : q = 15 := by omega
              go_wp2_with (first | (refine wpList_load_mid rfl 86 (.tmp 4) rfl g4 0 rfl cs _ HR6.out Tryd.underlying86 rfl HI6.out ?_) | (refine wpList_store_mid rfl 86 (.tmp 2) (.tmp 62) rfl g2 0 cs.toArray rfl rfl HT6.out HI7.out HO6.out ?_))
              (try rw [List.toList_toArray])
              generalize World.setCells _ _ _ _ = wf at HF ⊢
              refine bodyPost_ret (v := .tuple #[.agg cs.toArray, .bool ((F:Int)==0)]) ?_ rfl ⟨⟨cs.toArray, sa, sc, ?_, ?_, ?_⟩, HF.out.2.2.2⟩
              · rw [results_cell_tmp Tryd.results53]
                have hl := run_loadVar_mid (P := Tryd.prog) wf g2 0 86 cs _ (fun j v hv => by rw [Nat.zero_add]; exact HF.out.1.cell j hv) Tryd.underlying86 rfl HI6.out
                simp [asAddr, hl]
              · have e : madeB c n = ((F : Int) == 0) := by
                  have h1 := En15 c n (fun i hi => (HC.out.2 i hi).2)
                  have h3 := hE.out
                  have e15 : (2 : Nat) ^ 15 = 32768 := rfl
                  unfold madeB
                  rw [← HLS.out.1, ← HLS.out.2, if_neg hM0, if_neg hM1]
                  by_cases hz : F = 0
                  · rw [decide_eq_true (show krf c n = 32768 by omega), hz]; rfl
                  · rw [decide_eq_false (show ¬ krf c n = 32768 by omega)]
                    symm
                    simp
                    exact hz
                rw [e]
              · rw [← HLS.out.1]; exact HF.out.2.1
              · rw [← HLS.out.1, ← HLS.out.2]; exact HF.out.2.2.1
end Go.Proofs.YtdmefbpfpmkdcaaDoor
