/- The laws' codes: turned, canonical, put. -/
import Derived.Test.YtdmefbpfpmkdcaaDoorFnReadWrittenWalk
import Derived.Test.YtdmefbpfpmkdcaaDoorSSim
import Derived.Test.YtdmefbpfpmkdcaaDoorBuild
namespace Go.Proofs.YtdmefbpfpmkdcaaDoor
open Go.RowKit
set_option linter.unusedVariables false

theorem turn_val (v t i : Nat) (ht : t < 2 ^ i) (hi : i ≤ 14) : bits .or .i64 (wrap64 ((t : Int) * 2)) (bits .and .i64 ((v : Int) / 2 ^ i) 1) = ((t * 2 + v / 2 ^ i % 2 : Nat) : Int) ∧ t * 2 + v / 2 ^ i % 2 < 32768 := by
  have h1 : (2 : Nat) ^ i ≤ 2 ^ 14 := Nat.pow_le_pow_right (by decide) hi
  have e14 : (2 : Nat) ^ 14 = 16384 := rfl
  have e1 : (v : Int) / 2 ^ i = ((v / 2 ^ i : Nat) : Int) := by simp
  rw [e1, mask1, IntWalk.wrap64_in _ (by omega)]
  obtain ⟨b, hb⟩ : ∃ b, b = v / 2 ^ i % 2 := ⟨_, rfl⟩
  have e2 : ((v / 2 ^ i : Nat) : Int) % 2 = (b : Int) := by omega
  have e3 : (t : Int) * 2 = ((t * 2 : Nat) : Int) := by omega
  rw [e2, e3, i64_or_nat _ _ (by omega) (by omega), ← hb]
  have h5 := nat_join 1 (t * 2) b (by simp) (by omega)
  rw [h5]
  exact ⟨rfl, by omega⟩

set_option maxRecDepth 100000 in
set_option maxHeartbeats 400000 in
theorem turned_any (v n : Nat) (w : World) (hv : v ≤ 4294967295) (hn : n ≤ 15) :
    Calls Tryd.prog 40 #[.int .i64 v, .int .i64 n] w fun e w' => e = .returned (.int .i64 (trn v n)) ∧ w = w' := by
  go_enter Tryd.func40, Tryd.ntmps40
  go_wp2_with fail
  go_loopg [5, 6] (n + 1) (fun j s5 s6 wr => ∃ t i : Nat, s5 = .int .i64 t ∧ s6 = .int .i64 i ∧ i ≤ n ∧ n < j + i ∧ t < 32768 ∧ w = wr ∧ Hid (t = trn v i))
  case atStart => exact ⟨0, 0, rfl, rfl, Nat.zero_le _, by omega, by decide, rfl, rfl⟩
  case round =>
    obtain ⟨t, i, rfl, rfl, hi, hj, ht, rfl, hE⟩ := hrel
    by_cases hlt : i < n
    · obtain ⟨e1, e2⟩ := turn_val v t i (by rw [hE.out]; exact trn_lt v i) (by omega)
      obtain ⟨y, hy⟩ : ∃ y, y = t * 2 + v / 2 ^ i % 2 := ⟨_, rfl⟩
      rw [← hy] at e1 e2
      have HY := Lib.hid hy
      clear hy
      have e3 : wrap64 ((t : Int) * 2) = (t : Int) * 2 := IntWalk.wrap64_in _ (by omega)
      rw [e3] at e1
      clear e3
      go_wp2
      go_roundg (gk - 1)
      case measure => omega
      case rel => exact ⟨y, i + 1, rfl, by go_num, by omega, by omega, e2, rfl, Lib.hid (by rw [HY.out, trn, hE.out])⟩
    · go_wp2
      go_ret
      obtain rfl : i = n := by omega
      rw [hE.out]
      exact ⟨rfl, rfl⟩

/-- The turned codes that are laid behind the lengths up to q and, of length q + 1, the first s symbols. -/
def bitF (c : Nat → Nat) (n q s k : Nat) : Nat := if 0 < c k ∧ (c k ≤ q ∨ c k = q + 1 ∧ k < s) then trn (vOf c n k) (c k) else 0
theorem bitF_miss (c : Nat → Nat) (n q s k : Nat) (h : ¬ c s = q + 1) : bitF c n q s k = bitF c n q (s + 1) k := by
  unfold bitF
  by_cases e : 0 < c k ∧ (c k ≤ q ∨ c k = q + 1 ∧ k < s)
  · rw [if_pos e, if_pos ⟨e.1, by rcases e.2 with h | h; exact .inl h; exact .inr ⟨h.1, by omega⟩⟩]
  · rw [if_neg e, if_neg (fun h2 => e ⟨h2.1, ?_⟩)]
    rcases h2.2 with h3 | h3
    · exact .inl h3
    · refine .inr ⟨h3.1, ?_⟩
      rcases Nat.lt_or_ge k s with h4 | h4
      · exact h4
      · exfalso
        have : k = s := by omega
        rw [this] at h3
        exact h h3.1
theorem bitF_hit (c : Nat → Nat) (n q s k : Nat) (h : c s = q + 1) : (if k = s then trn (vOf c n s) (q + 1) else bitF c n q s k) = bitF c n q (s + 1) k := by
  unfold bitF
  by_cases e : k = s
  · subst e
    rw [if_pos rfl, if_pos ⟨by omega, .inr ⟨h, by omega⟩⟩, h]
  · rw [if_neg e]
    by_cases e2 : 0 < c k ∧ (c k ≤ q ∨ c k = q + 1 ∧ k < s)
    · rw [if_pos e2, if_pos ⟨e2.1, by rcases e2.2 with h | h; exact .inl h; exact .inr ⟨h.1, by omega⟩⟩]
    · rw [if_neg e2, if_neg (fun h2 => e2 ⟨h2.1, ?_⟩)]
      rcases h2.2 with h3 | h3
      · exact .inl h3
      · exact .inr ⟨h3.1, by omega⟩
theorem bitF_next (c : Nat → Nat) (n q k : Nat) (hk : k < n) : bitF c n q n k = bitF c n (q + 1) 0 k := by
  unfold bitF
  by_cases e : 0 < c k ∧ (c k ≤ q ∨ c k = q + 1 ∧ k < n)
  · rw [if_pos e, if_pos ⟨e.1, .inl (by omega)⟩]
  · rw [if_neg e, if_neg (fun h2 => e ⟨h2.1, ?_⟩)]
    rcases h2.2 with h3 | h3
    · by_cases h4 : c k ≤ q
      · exact .inl h4
      · exact .inr ⟨by omega, hk⟩
    · omega
theorem quiet_same {P : Program} {f : FuncId} {args : Array Value} {w : World} {n : Nat} {v : Value}
    (h : Calls P f args (w.drewN n) fun e w' => e = .returned v ∧ w.drewN n = w') : Calls P f args (w.drewN n) fun e w'' => e = .returned v ∧ ∃ m, w'' = w.drewN m :=
  h.mono fun _ _ ⟨he, hm⟩ => ⟨he, n, hm.symm⟩

/-- A function whose one result lies in memory. -/
theorem results_cell {P : Program} {fn : Func} {tmps : Array Value} {w : World} {a : Nat} {t : TypeId} {ad : Addr} {v : Value} (hr : fn.results = #[.cell a t]) (ha : tmps.getD a undef = .pointer (some ad)) (hl : (loadVar t ad).run P w = .ok v w) :
    (results fn tmps).run P w = .ok v w := by
  unfold results
  rw [hr]
  rw [Array.getD_eq_getD_getElem?] at ha
  simp [ha, asAddr, hl]

set_option maxRecDepth 100000 in
set_option maxHeartbeats 400000 in
theorem canonical_any (a : Option Addr) (n cp : Nat) (f : Nat → Int) (w : World) (ha : Arg .i64 w a n f) (hn : n ≤ 4096) (c : Nat → Nat) (hf : ∀ i, i < n → f i = (c i : Int)) (hw : Whole c n) (hu : 1 < used c n) :
    Calls Tryd.prog 22 #[.slice a n cp] w fun e w' => (∃ gb, e = .returned (.agg #[.slice a n cp, .slice (some ⟨gb, 0, none⟩) n n, .bool false]) ∧ SObj w' gb 3 (cellsOf .i64 n (fun k => (bitF c n 15 0 k : Int))) ∧ w.heap.size ≤ gb) ∧ Below w.heap.size w w' := by
  obtain ⟨i0, hi, hz0, hz1, hz2⟩ := info_parts infoInt
  have H := Lib.hid (And.intro ha (And.intro hf hw))
  clear ha hf hw
  go_enter Tryd.func22, Tryd.ntmps22
  go_upto_region 2 with (refine wpList_make_row _ rfl _ _ 22 rfl 3 i0 (.int .i64 0) Tryd.underlying22 hi hz0 hz1 rfl .i64 .i64 n rfl rfl (by rw [hz2]; omega) (by omega) ?_)
  rw [ints_made]
  clear hi hz0 hz1 hz2
  obtain ⟨g2, hg2⟩ : ∃ x, x = w.heap.size := ⟨_, rfl⟩
  rw [← hg2]
  obtain ⟨gr, hgr⟩ : ∃ x, x = g2 + 1 := ⟨_, rfl⟩
  rw [← hgr]
  obtain ⟨gx, hgx⟩ : ∃ x, x = gr + 1 := ⟨_, rfl⟩
  rw [← hgx]
  generalize hw1 : World.alloc _ _ = w1
  have H1 : Hid (SObj w1 gr 3 (cellsOf .i64 n (fun k => (bitF c n 0 0 k : Int))) ∧ SObj w1 gx 47 [.slice a n cp, .slice (some ⟨gr, 0, none⟩) n n, .bool false] ∧ SObj w1 g2 47 [.slice none 0 0, .slice none 0 0, .bool false] ∧ Only (fun _ => False) w w1) := Lib.hid (by
    rw [← hw1, hgx, hgr, hg2]
    have e2 : (w.alloc (.cells #[.slice none 0 0, .slice none 0 0, .bool false] 47)).heap.size = w.heap.size + 1 := by simp
    have e3 : ((w.alloc (.cells #[.slice none 0 0, .slice none 0 0, .bool false] 47)).alloc (.cells (cellsOf .i64 n (fun _ => 0)).toArray 3)).heap.size = w.heap.size + 1 + 1 := by simp
    refine ⟨?_, ?_, ?_, ((Only.alloc _ _ _).tr (Only.alloc _ _ _)).tr (Only.alloc _ _ _)⟩
    · rw [icells_congr (f := fun k => (bitF c n 0 0 k : Int)) (f' := fun _ => 0) (fun k _ => by unfold bitF; rw [if_neg (by omega)]; rfl)]
      have h5 := obj_new (w.alloc (.cells #[.slice none 0 0, .slice none 0 0, .bool false] 47)) 3 (cellsOf .i64 n (fun _ => 0))
      rw [e2] at h5
      exact h5.alloc _
    · have h5 := obj_new ((w.alloc (.cells #[.slice none 0 0, .slice none 0 0, .bool false] 47)).alloc (.cells (cellsOf .i64 n (fun _ => 0)).toArray 3)) 47 [.slice a n cp, .slice (some ⟨w.heap.size + 1, 0, none⟩) n n, .bool false]
      rw [e3] at h5
      exact h5
    · exact ((obj_new w 47 [.slice none 0 0, .slice none 0 0, .bool false]).alloc _).alloc _)
  have HG : Hid (g2 = w.heap.size ∧ gr = g2 + 1 ∧ gx = gr + 1) := Lib.hid ⟨hg2, hgr, hgx⟩
  have hn1 : ¬ gr = gx := by omega
  have hn2 : ¬ g2 = gr := by omega
  have hn3 : ¬ g2 = gx := by omega
  clear hw1 hg2 hgr hgx
  go_wp2_with fail
  go_loopg [4, 5, 6] 16 (fun j s4 s5 s6 wr => ∃ q U X : Nat, s4 = .int .i64 U ∧ s5 = .int .i64 X ∧ s6 = .int .i64 ((q : Int) + 1) ∧ q ≤ 15 ∧ 16 ≤ j + q ∧ U ≤ 4096 ∧ X ≤ 32768 ∧ Hid (U = bef c n q ∧ X = En c n q ∧ SObj wr gr 3 (cellsOf .i64 n (fun k => (bitF c n q 0 k : Int))) ∧ Only (fun k => k = gr) w1 wr))
  case atStart => exact ⟨0, 0, 0, rfl, rfl, rfl, by omega, by omega, by omega, by omega, rfl, rfl, H1.out.1, Only.refl _ _⟩
  case round =>
    obtain ⟨q, U, X, rfl, rfl, rfl, hq, hj, hU, hX, hR⟩ := hrel
    by_cases hq15 : q < 15
    · have hdq : decide ((q : Int) + 1 ≤ 15) = true := decide_eq_true (by omega)
      obtain ⟨G, hG⟩ : ∃ G, G = gk := ⟨_, rfl⟩
      have HGK := Lib.hid hG; clear hG
      go_wp2_with fail
      go_loopg [4, 5, 7] (n + 1) (fun j s4 s5 s7 wx => ∃ s U X : Nat, s4 = .int .i64 U ∧ s5 = .int .i64 X ∧ s7 = .int .i64 s ∧ s ≤ n ∧ n < j + s ∧ U ≤ 4096 ∧ X ≤ 32768 ∧ Hid (U = bef c n q + cnt c (q + 1) s ∧ X = 2 * En c n q + cnt c (q + 1) s ∧ SObj wx gr 3 (cellsOf .i64 n (fun k => (bitF c n q s k : Int))) ∧ Only (fun k => k = gr) w1 wx))
      case atStart =>
        refine ⟨0, U, 2 * X, rfl, by go_num, rfl, Nat.zero_le _, by omega, hU, ?_, by rw [hR.out.1]; rfl, by rw [hR.out.2.1]; rfl, hR.out.2.2.1, hR.out.2.2.2⟩
        have h5 := H.out.2.2.En_le (show q + 1 ≤ 15 by omega)
        have h6 : (2 : Nat) ^ (q + 1) ≤ 2 ^ 15 := Nat.pow_le_pow_right (by decide) (by omega)
        have e15 : (2 : Nat) ^ 15 = 32768 := rfl
        rw [En_succ] at h5
        have := hR.out.2.1
        omega
      case round =>
        obtain ⟨s, U1, X1, rfl, rfl, rfl, hs, hjs, hU1, hX1, hY⟩ := hrel
        by_cases hlt : s < n
        · obtain ⟨ga, oa, rfl, hga, ra⟩ := H.out.1 (by omega)
          have hbel : Below w.heap.size w wr := (H1.out.2.2.2.below (Nat.le_refl _) (fun _ h => h.elim)).trans (hY.out.2.2.2.below H1.out.2.2.2.size (fun k hk => by have := HG.out; omega))
          have cx := (hbel.cell (p := ⟨ga, oa + s, none⟩) hga).trans (ra s hlt)
          rw [H.out.2.1 s hlt] at cx
          have hx15 := H.out.2.2.le s hlt
          obtain ⟨x, hx⟩ : ∃ x, x = c s := ⟨_, rfl⟩
          rw [← hx] at cx hx15
          have HX := Lib.hid (And.intro hx hbel)
          clear hx ra hbel
          by_cases hxq : x = q + 1
          · have hxq' : ((x : Int) == (q : Int) + 1) = true := by simp; omega
            have hcl := cnt_le c (q + 1) (show s + 1 ≤ n by omega)
            rw [cnt, if_pos (by have := HX.out.1; omega)] at hcl
            have hb := bef_le c n (q + 1) H.out.2.2.le (by omega)
            rw [bef] at hb
            have he := H.out.2.2.En_le (show q + 1 ≤ 15 by omega)
            have h6 : (2 : Nat) ^ (q + 1) ≤ 2 ^ 15 := Nat.pow_le_pow_right (by decide) (by omega)
            have e15 : (2 : Nat) ^ 15 = 32768 := rfl
            rw [En_succ] at he
            have hU2 : U1 + 1 ≤ 4096 := by have := hY.out.1; omega
            have hX2 : X1 + 1 ≤ 32768 := by have := hY.out.2.1; omega
            have HT : Hid (∀ nq : Nat, Calls Tryd.prog 40 #[.int .i64 X1, .int .i64 ((q : Int) + 1)] (wr.drewN nq) fun e w' => e = .returned (.int .i64 (trn X1 (q + 1))) ∧ wr.drewN nq = w') := Lib.hid (fun nq => turned_any X1 (q + 1) (wr.drewN nq) (by omega) (by omega))
            have cb := (H1.out.2.1.only hY.out.2.2.2 (fun e => hn1 e.symm)).cell 1 rfl
            have co := hY.out.2.2.1.cell s (by simp [cellsOf, hlt] : (cellsOf .i64 n (fun k => (bitF c n q s k : Int)))[s]? = some (.int .i64 (bitF c n q s s : Int)))
            have fo := hY.out.2.2.1.free s
            clear hcl hb he h6 e15
            go_upto_region 11 with fail
            refine wp_region_quiet_tail 7 (by kernel_rfl) (by kernel_rfl) ?_
            simp only [List.take_succ_cons, List.take_zero, List.drop_succ_cons, List.drop_zero]
            repeat (go_big_quiet_step ((go_at_call 40; exact quiet_same (HT.out _))))
            refine wpQuiet_nil ?_
            intro wq hwq
            obtain ⟨nq, rfl⟩ := hwq
            go_wp2
            go_roundg (gk - 1)
            case measure => omega
            case rel =>
              have hs' : c s = q + 1 := by have := HX.out.1; omega
              refine ⟨s + 1, U1 + 1, X1 + 1, by go_num, by go_num, by go_num, by omega, by omega, hU2, hX2, by rw [cnt, if_pos hs']; have := hY.out.1; omega, by rw [cnt, if_pos hs']; have := hY.out.2.1; omega, ?_, (hY.out.2.2.2.dN nq).tr (Only.setCell _ _ _ rfl)⟩
              have h5 := (hY.out.2.2.1.drewN nq).set s (.int .i64 (trn X1 (q + 1) : Int))
              rw [icells_set, icells_congr (f' := fun k => (bitF c n q (s + 1) k : Int)) (fun k _ => ?_)] at h5
              · exact h5
              · have hv : X1 = vOf c n s := by rw [hY.out.2.1]; unfold vOf; rw [hs', cur_En]
                rw [← bitF_hit c n q s k hs', hv]
                split <;> rfl
          · have hxq' : ((x : Int) == (q : Int) + 1) = false := by simp; omega
            go_wp2
            go_roundg (gk - 1)
            case measure => omega
            case rel =>
              have hne : ¬ c s = q + 1 := by have := HX.out.1; omega
              refine ⟨s + 1, U1, X1, rfl, rfl, by go_num, by omega, by omega, hU1, hX1, by rw [cnt, if_neg hne]; exact hY.out.1, by rw [cnt, if_neg hne]; exact hY.out.2.1, ?_, hY.out.2.2.2⟩
              have h5 := hY.out.2.2.1
              rw [icells_congr (f' := fun k => (bitF c n q (s + 1) k : Int)) (fun k _ => by rw [bitF_miss c n q s k hne])] at h5
              exact h5
        · go_wp2
          go_roundg (G - 1)
          case measure => have := HGK.out; omega
          case rel =>
            obtain rfl : n = s := by omega
            refine ⟨q + 1, U1, X1, rfl, rfl, by go_num, by omega, by have := HGK.out; omega, hU1, hX1, by rw [bef]; exact hY.out.1, by rw [En_succ]; exact hY.out.2.1, ?_, hY.out.2.2.2⟩
            have h5 := hY.out.2.2.1
            rw [icells_congr (f' := fun k => (bitF c n (q + 1) 0 k : Int)) (fun k hk => by rw [bitF_next c n q k hk])] at h5
            exact h5
    · obtain rfl : q = 15 := by omega
      have hU1 : U = used c n := by
        rw [hR.out.1, ← codesL_used c n n, codesL_len c n n H.out.2.2.le]
        show 0 + cnt c 1 n + cnt c 2 n + cnt c 3 n + cnt c 4 n + cnt c 5 n + cnt c 6 n + cnt c 7 n + cnt c 8 n + cnt c 9 n + cnt c 10 n + cnt c 11 n + cnt c 12 n + cnt c 13 n + cnt c 14 n + cnt c 15 n = _
        omega
      have hUz : ((U : Int) == 1) = false := by simp; omega
      have hox := H1.out.2.1.only hR.out.2.2.2 (fun e => hn1 e.symm)
      have ho2 := H1.out.2.2.1.only hR.out.2.2.2 hn2
      have c0 := hox.cell 0 rfl
      have c1 := hox.cell 1 rfl
      have c2 := hox.cell 2 rfl
      have z2 := hox.free 2
      have d0 := ho2.cell 0 rfl
      have d1 := ho2.cell 1 rfl
      have d2 := ho2.cell 2 rfl
      have y0 := ho2.free 0
      have y1 := ho2.free 1
      have y2 := ho2.free 2
      have hb1 : Below w.heap.size w wr := (H1.out.2.2.2.below (Nat.le_refl _) (fun _ h => h.elim)).trans (hR.out.2.2.2.below H1.out.2.2.2.size (fun k hk => by have := HG.out; omega))
      have HF := Lib.hid (And.intro hox (And.intro ho2 hb1))
      clear hox ho2 hb1 hU1
      go_wp2
      generalize hwf : World.setCell _ _ _ = wf
      have HW : Hid (SObj wf g2 47 [.slice a n cp, .slice (some ⟨gr, 0, none⟩) n n, .bool false] ∧ SObj wf gr 3 (cellsOf .i64 n (fun k => (bitF c n 15 0 k : Int))) ∧ Below w.heap.size w wf) := Lib.hid (by
        have h5 := HG.out
        rw [← hwf]
        refine ⟨?_, ?_, ?_⟩
        · exact ((((HF.out.2.1.far ⟨gx, 2, none⟩ hn3 _).set 0 (.slice a n cp)).set 1 (.slice (some ⟨gr, 0, none⟩) n n)).set 2 (.bool false))
        · exact ((((hR.out.2.2.1.far ⟨gx, 2, none⟩ hn1 _).far ⟨g2, 0, none⟩ (fun e => hn2 e.symm) _).far ⟨g2, 1, none⟩ (fun e => hn2 e.symm) _).far ⟨g2, 2, none⟩ (fun e => hn2 e.symm) _)
        · refine HF.out.2.2.trans (Only.below (S := fun k => g2 ≤ k) ?_ HF.out.2.2.size (fun k hk => by omega))
          exact ((((Only.setCell (S := fun k => g2 ≤ k) wr ⟨gx, 2, none⟩ _ (by show g2 ≤ gx; omega)).tr (Only.setCell _ ⟨g2, 0, none⟩ _ (Nat.le_refl _))).tr (Only.setCell _ ⟨g2, 1, none⟩ _ (Nat.le_refl _))).tr (Only.setCell _ ⟨g2, 2, none⟩ _ (Nat.le_refl _))))
      refine bodyPost_ret (v := .agg #[.slice a n cp, .slice (some ⟨gr, 0, none⟩) n n, .bool false]) ?_ rfl ⟨⟨gr, rfl, HW.out.2.1, by have := HG.out; omega⟩, HW.out.2.2⟩
      exact results_cell Tryd.results22 rfl (run_loadVar_mid (P := Tryd.prog) wf g2 0 47 [.slice a n cp, .slice (some ⟨gr, 0, none⟩) n n, .bool false] _ (fun j v hv => by rw [Nat.zero_add]; exact HW.out.1.cell j hv) Tryd.underlying47 rfl (by kernel_rfl))
end Go.Proofs.YtdmefbpfpmkdcaaDoor
