/- The package's hTree.build: the tree of whole lengths. -/
import Derived.Test.YtdmefbpfpmkdcaaDoorISim
import Derived.Test.YtdmefbpfpmkdcaaDoorCodesW
import Derived.Test.YtdmefbpfpmkdcaaDoorWhole
namespace Go.Proofs.YtdmefbpfpmkdcaaDoor
open Go.RowKit
set_option linter.unusedVariables false

theorem codesL_used (c : Nat → Nat) (n : Nat) : ∀ m, (codesL c n m).length = used c m
  | 0 => rfl
  | m + 1 => by rw [codesL, List.length_append, codesL_used c n m, used]; split <;> simp
theorem used_mono (c : Nat → Nat) {i n : Nat} (h : i ≤ n) : used c i ≤ used c n := by
  induction h with
  | refl => exact Nat.le_refl _
  | step _ ih => exact Nat.le_trans ih (Nat.le_add_right _ _)

set_option maxRecDepth 100000 in
set_option maxHeartbeats 400000 in
theorem build_any (gh n cp : Nat) (a : Option Addr) (c : Nat → Nat) (w : World) (h : SObj w gh 74 (hCells (.slice none 0 0) (fun _ => 0))) (hr : RevT w) (hg : 4 ≠ gh)
    (ha : Arg .u32 w a n (fun i => (c i : Int))) (hfar : 0 < n → ∀ x, a = some x → x.block ≠ gh) (hw : Whole c n) (hu : 1 < used c n) (hn : n ≤ 4096) :
    Calls Tryd.prog 54 #[.pointer (some ⟨gh, 0, none⟩), .slice a n cp] w fun e w' => e = .returned .nilIface ∧ (∃ gn, TreeS (codesL c n n) (codesL c n n) w' gh gn ∧ w.heap.size ≤ gn) ∧ Only (fun k => k = gh) w w' := by
  have hgl := h.lt
  have hun := used_le c n
  have H := Lib.hid (And.intro h (And.intro hr (And.intro hg (And.intro ha (And.intro hfar hw)))))
  clear h hr hg ha hfar hw
  go_enter Tryd.func54, Tryd.ntmps54
  go_wp2_with fail
  go_loopg [5, 6, 16] (n + 1) (fun j s5 s6 s16 wr => ∃ i N La : Nat, s5 = .int .u32 N ∧ s6 = .int .u32 La ∧ s16 = .int .i64 i ∧ i ≤ n ∧ n < j + i ∧ N ≤ i ∧ La ≤ 4096 ∧ w = wr ∧ Hid (N = used c i))
  case atStart => exact ⟨0, 0, 0, rfl, rfl, rfl, Nat.zero_le _, by omega, Nat.le_refl _, by omega, rfl, rfl⟩
  case round =>
    obtain ⟨i, N, La, rfl, rfl, rfl, hi, hj, hN, hLa, hwr, hE⟩ := hrel
    obtain rfl := hwr.symm
    by_cases hlt : i < n
    · obtain ⟨ga, oa, rfl, hga, ra⟩ := H.out.2.2.2.1 (by omega)
      have cx : wr.cell? ⟨ga, oa + i, none⟩ = some (.int .u32 (c i : Int)) := ra i hlt
      have hx15 := H.out.2.2.2.2.2.le i hlt
      obtain ⟨x, hx⟩ : ∃ x, x = c i := ⟨_, rfl⟩
      rw [← hx] at cx hx15
      have HX := Lib.hid hx
      clear ra hx
      by_cases hx0 : x = 0
      · subst hx0
        go_wp2
        go_roundg (gk - 1)
        case measure => omega
        case rel => exact ⟨i + 1, N, La, rfl, rfl, by go_num, by omega, by omega, by omega, hLa, rfl, by rw [used, if_neg (by have := HX.out; omega)]; exact hE.out⟩
      · have hxz : ((x : Int) != 0) = true := by simp; omega
        go_wp2
        go_roundg (gk - 1)
        case measure => omega
        case rel => exact ⟨i + 1, N + 1, i, by go_num, rfl, by go_num, by omega, by omega, by omega, by omega, rfl, Lib.hid (by rw [used, if_pos (by have := HX.out; omega)]; have := hE.out; omega)⟩
    · obtain rfl : n = i := by omega
      have hN1 : 1 < N := by rw [hE.out]; exact hu
      have hNz : ((N : Int) == 0) = false := by simp; omega
      have hNo : ((N : Int) == 1) = false := by simp; omega
      have hm : 2 * (N : Int) - 1 = ((2 * N - 1 : Nat) : Int) := by omega
      have f0 := H.out.1.free 0
      have n0 := H.out.1.cell 0 rfl
      go_upto_region 12 with (refine wpList_make_nodes _ rfl _ _ rfl .i64 .u32 (2 * N - 1) rfl rfl (by omega) (by omega) ?_)
      obtain ⟨gn, hgn⟩ : ∃ x, x = wr.heap.size := ⟨_, rfl⟩
      generalize hw1 : World.alloc _ _ = w1
      have hcl : (codesL c n n).length = N := by rw [codesL_used, hE.out]
      have hm2 : 2 * (codesL c n n).length - 1 = 2 * N - 1 := by rw [hcl]
      have H1 : Hid (TreeS (codesL c n n) [] w1 gh gn ∧ Only (fun k => k = gh) wr w1) := Lib.hid (by
        rw [← hw1, hgn]
        refine ⟨⟨[], _, _, Built.start _, Lut.start, ?_, ?_⟩, (Only.setCell (S := fun k => k = gh) wr _ _ rfl).tr (Only.alloc _ _ _)⟩
        · rw [hm2]
          exact (H.out.1.set 0 _).alloc _
        · rw [hm2]
          have h5 := obj_new (wr.setCell ⟨gh, 0, none⟩ (.slice (some ⟨wr.heap.size, 0, none⟩) 1 (2 * N - 1))) 115 (ndCells (fun _ => (0, 0)) (2 * N - 1))
          have e2 : (wr.setCell ⟨gh, 0, none⟩ (.slice (some ⟨wr.heap.size, 0, none⟩) 1 (2 * N - 1))).heap.size = wr.heap.size := by simp
          rw [e2] at h5
          exact h5)
      have hgn1 : gn < w1.heap.size := by rw [← hw1, hgn]; simp
      rw [← hgn]
      have HGN := Lib.hid hgn
      have hhg : gh < gn := by omega
      have har : 0 < n → ∀ x, a = some x → ¬ x.block = gh := fun h0 x hx => H.out.2.2.2.2.1 h0 x hx
      have HA : Hid (Arg .u32 w1 a n (fun i => (c i : Int))) := Lib.hid (H.out.2.2.2.1.only H1.out.2 har)
      have HCO := Lib.hid (codes_any a n cp c w1 HA.out hn (by omega) (fun i hi => H.out.2.2.2.2.2.le i hi))
      clear hw1 hgn f0 n0 hm hm2 har
      go_wp2_with fail
      refine HCO.out.mono ?_
      rintro _ w2 ⟨⟨a2, c2, rfl, hown⟩, hb2⟩
      have hs2 := hb2.size
      have H2 : Hid (TreeS (codesL c n n) [] w2 gh gn ∧ Own .u32 w1.heap.size w2 a2 n (fun i => (codeF c n i : Int)) ∧ Below w1.heap.size w1 w2 ∧ Arg .u32 w2 a n (fun i => (c i : Int))) := Lib.hid (by
        obtain ⟨P, nd, lut, b1, b2, b3⟩ := H1.out.1
        exact ⟨⟨P, nd, lut, b1, b2, b3.obj.below hb2 (by omega), b3.nds.below hb2 hgn1⟩, hown, hb2, HA.out.below hb2⟩)
      clear hown hb2
      go_wp2_with fail
      go_loopg [59] (n + 1) (fun j s59 wx => ∃ i : Nat, s59 = .int .i64 i ∧ i ≤ n ∧ n < j + i ∧ Hid (TreeS (codesL c n n) (codesL c n i) wx gh gn ∧ Only (TwoT gh gn) w2 wx))
      case atStart => exact ⟨0, rfl, Nat.zero_le _, by omega, H2.out.1, Only.refl _ _⟩
      case round =>
        obtain ⟨i, rfl, hi, hj, hX⟩ := hrel
        by_cases hlt : i < n
        · have hax : Arg .u32 wr a n (fun i => (c i : Int)) := H2.out.2.2.2.only hX.out.2 (fun h0 x hx e => by
            obtain ⟨g1, o1, e1, hg1, _⟩ := H.out.2.2.2.1 h0
            have h5 := H.out.2.2.2.2.1 h0 x hx
            rw [hx] at e1; injection e1 with e1; subst e1
            have h6 := HGN.out
            rcases e with e | e
            · exact h5 e
            · simp only at e; omega)
          have hcx : Arg .u32 wr a2 n (fun i => (codeF c n i : Int)) := H2.out.2.1.arg.only hX.out.2 (fun h0 x hx e => by
            obtain ⟨g1, e1, hg1, _⟩ := H2.out.2.1 h0
            rw [hx] at e1; injection e1 with e1; subst e1
            rcases e with e | e <;> simp only at e <;> omega)
          obtain ⟨ga, oa, rfl, hga, ra⟩ := hax (by omega)
          obtain ⟨gc, oc, rfl, hgc, rc⟩ := hcx (by omega)
          have cx : wr.cell? ⟨ga, oa + i, none⟩ = some (.int .u32 (c i : Int)) := ra i hlt
          have ck : wr.cell? ⟨gc, oc + i, none⟩ = some (.int .u32 (codeF c n i : Int)) := rc i hlt
          have hx15 := H.out.2.2.2.2.2.le i hlt
          obtain ⟨x, hx⟩ : ∃ x, x = c i := ⟨_, rfl⟩
          rw [← hx] at cx hx15
          by_cases hx0 : x = 0
          · have HX := Lib.hid hx
            subst hx0
            clear hx ra rc ck
            go_wp2
            go_roundg (gk - 1)
            case measure => omega
            case rel => exact ⟨i + 1, by go_num, by omega, by omega, by rw [codesL, if_neg (by have := HX.out; omega), List.append_nil]; exact hX.out.1, hX.out.2⟩
          · obtain ⟨co, hco⟩ : ∃ y, y = codeOf c n i := ⟨_, rfl⟩
            have h32 : co < 4294967296 := by rw [hco]; exact code_32 c n i H.out.2.2.2.2.2.le H.out.2.2.2.2.2.krf hlt (by omega) hn
            rw [show codeF c n i = co by unfold codeF; rw [if_pos (by omega), hco]] at ck
            have hmem : (cod x co, i) ∈ codesL c n n := (mem_codesL c n _ i n).2 ⟨hlt, by omega, by rw [hx, hco]⟩
            have hno : ∀ t, (cod x co, t) ∉ codesL c n i := fun t h5 => by
              obtain ⟨g1, g2, g3⟩ := (mem_codesL c n _ t i).1 h5
              have h6 : (cod x co, t) ∈ codesL c n n := (mem_codesL c n _ t n).2 ⟨by omega, g2, g3⟩
              have := nodup_fst H.out.2.2.2.2.2.code.one hmem h6
              omega
            have happ : codesL c n (i + 1) = codesL c n i ++ [(cod x co, i)] := by rw [codesL, if_pos (by omega), ← hx, ← hco]
            have hgl3 := H.out.2.1.lt
            have hn1 := HGN.out
            have hrv : RevT wr := ((H.out.2.1.only H1.out.2 (fun e => H.out.2.2.1 e)).only (Only.of_below (S := fun _ => False) H2.out.2.2.1) (fun e => e)).only hX.out.2 (fun e => by rcases e with e | e; exact H.out.2.2.1 e; omega)
            have HI := Lib.hid (ins_any (codesL c n n) (inn c n 15) (codesL c n i) gh gn i x co wr H.out.2.2.2.2.2.code hX.out.1 hrv ⟨H.out.2.2.1, by omega⟩ hmem hno hx15 (by omega) h32 (by omega))
            have HH := Lib.hid happ
            clear hmem hno happ hrv hx hco ra rc hn1 hgl3
            go_wp2_with fail
            refine HI.out.mono ?_
            rintro _ w3 ⟨rfl, ht, ho⟩
            have H3 := Lib.hid (And.intro ht (hX.out.2.tr ho))
            clear ht ho cx ck
            go_wp2
            go_roundg (gk - 1)
            case measure => omega
            case rel => exact ⟨i + 1, by go_num, by omega, by omega, by rw [HH.out]; exact H3.out.1, H3.out.2⟩
        · go_wp2
          go_ret
          obtain rfl : n = i := by omega
          have hn1 := HGN.out
          exact ⟨rfl, ⟨gn, hX.out.1, by omega⟩, H1.out.2.trans ((Only.of_below (S := TwoT gh gn) H2.out.2.2.1).tr hX.out.2) (fun k hk hne e => by rcases e with e | e; exact hne e; omega)⟩
end Go.Proofs.YtdmefbpfpmkdcaaDoor
