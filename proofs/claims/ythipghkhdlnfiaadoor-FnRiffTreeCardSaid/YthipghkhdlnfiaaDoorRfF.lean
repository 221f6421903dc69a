/- Opening a file: NewReader. -/
import Derived.Test.YthipghkhdlnfiaaDoorRfE
namespace Go.Proofs.YthipghkhdlnfiaaDoor
open Go.RowKit
set_option linter.unusedVariables false

def le32 (l : List Int) (i : Nat) : Nat := (l.getD i 0 + 256 * l.getD (i + 1) 0 + 65536 * l.getD (i + 2) 0 + 16777216 * l.getD (i + 3) 0).toNat
def By (l : List Int) : Prop := ∀ i, 0 ≤ l.getD i 0 ∧ l.getD i 0 ≤ 255
theorem By.drop {l : List Int} (h : By l) (n : Nat) : By (l.drop n) := fun i => by
  have e : (l.drop n).getD i 0 = l.getD (n + i) 0 := by simp [List.getD, List.getElem?_drop]
  rw [e]; exact h _
theorem le32_lt {l : List Int} (h : By l) (i : Nat) : le32 l i < 4294967296 := by
  unfold le32
  have := h i; have := h (i + 1); have := h (i + 2); have := h (i + 3)
  omega
theorem le32_int {l : List Int} (h : By l) (i : Nat) : ((le32 l i : Nat) : Int) = l.getD i 0 + 256 * l.getD (i + 1) 0 + 65536 * l.getD (i + 2) 0 + 16777216 * l.getD (i + 3) 0 := by
  unfold le32
  have := h i; have := h (i + 1); have := h (i + 2); have := h (i + 3)
  omega
/-- Whether bytes begin as a file of chunks does. -/
def okHead (l : List Int) : Bool := decide (12 ≤ l.length ∧ l.getD 0 0 = 82 ∧ l.getD 1 0 = 73 ∧ l.getD 2 0 = 70 ∧ l.getD 3 0 = 70 ∧ 4 ≤ le32 l 4)
/-- A name of four bytes, from place i on. -/
def four4 (l : List Int) (i : Nat) : Value := .agg #[.int .u8 (l.getD i 0), .int .u8 (l.getD (i + 1) 0), .int .u8 (l.getD (i + 2) 0), .int .u8 (l.getD (i + 3) 0)]
def zero4 : Value := .agg #[.int .u8 0, .int .u8 0, .int .u8 0, .int .u8 0]
def NRP (B : Nat) (w : World) (bp : Nat) (ca : Option Addr) (cn cc N : Nat) (rest : List Int) (e : Ending) (w' : World) : Prop :=
  Only (fun k => k = bp) w w' ∧
    ((okHead rest = false ∧ ∃ a, (∃ gg s, Snt B w' gg a s ∧ s ≠ sE) ∧ e = .returned (.tuple #[zero4, .pointer none, errV a])) ∨
     (okHead rest = true ∧ ∃ z buf, buf.length = 8 ∧ e = .returned (.tuple #[four4 rest 8, .pointer (some ⟨z, 0, none⟩), .nilIface]) ∧ w.heap.size ≤ z ∧ Pcs B w' bp ca cn cc N (rest.drop 12) ∧ SObj w' z 89 (zC (lvV bp []) .nilIface (le32 rest 4 - 4) 0 (.pointer none) buf false)))

theorem nrp_m {B bp : Nat} {w wf : World} {ca : Option Addr} {cn cc N : Nat} {cz : Nat → Int} {E U M S L P H : Addr} {rest : List Int} (he : Env B w ca cn cc N cz E U M S L P H) (hBp : B ≤ bp) (ho : Only (fun k => k = bp) w wf) (h0 : okHead rest = false) :
    NRP B w bp ca cn cc N rest (.returned (.tuple #[.agg #[.int .u8 0, .int .u8 0, .int .u8 0, .int .u8 0], .pointer none, errV M])) wf :=
  ⟨ho, .inl ⟨h0, M, ⟨_, _, (he.only ho (fun k hk => by omega)).2.m, by decide⟩, rfl⟩⟩
theorem nrp_s {B bp : Nat} {w wf : World} {ca : Option Addr} {cn cc N : Nat} {cz : Nat → Int} {E U M S L P H : Addr} {rest : List Int} (he : Env B w ca cn cc N cz E U M S L P H) (hBp : B ≤ bp) (ho : Only (fun k => k = bp) w wf) (h0 : okHead rest = false) :
    NRP B w bp ca cn cc N rest (.returned (.tuple #[.agg #[.int .u8 0, .int .u8 0, .int .u8 0, .int .u8 0], .pointer none, errV S])) wf :=
  ⟨ho, .inl ⟨h0, S, ⟨_, _, (he.only ho (fun k hk => by omega)).2.s, by decide⟩, rfl⟩⟩

set_option maxRecDepth 100000 in
set_option maxHeartbeats 4000000 in
theorem newReader_any (B bp : Nat) (ca : Option Addr) (cn cc N : Nat) (cz : Nat → Int) (E U M S L P H : Addr) (hBp : B ≤ bp) (rest : List Int) (hby : By rest) (w : World)
    (he : Env B w ca cn cc N cz E U M S L P H) (hp : Pcs B w bp ca cn cc N rest) :
    Calls Tryd.prog 20 #[lvV bp []] w (NRP B w bp ca cn cc N rest) := by
  have HX := Lib.hid (And.intro he (And.intro hp hby)); clear he hp hby
  have HN : Hid (SObj ((w.alloc (.cells #[.int .u8 0, .int .u8 0, .int .u8 0, .int .u8 0] 55)).alloc (.cells #[.int .u8 0, .int .u8 0, .int .u8 0, .int .u8 0, .int .u8 0, .int .u8 0, .int .u8 0, .int .u8 0] 83)) w.heap.size 55 [.int .u8 0, .int .u8 0, .int .u8 0, .int .u8 0] ∧ Only (fun _ => False) w ((w.alloc (.cells #[.int .u8 0, .int .u8 0, .int .u8 0, .int .u8 0] 55)).alloc (.cells #[.int .u8 0, .int .u8 0, .int .u8 0, .int .u8 0, .int .u8 0, .int .u8 0, .int .u8 0, .int .u8 0] 83)) ∧ SObj ((w.alloc (.cells #[.int .u8 0, .int .u8 0, .int .u8 0, .int .u8 0] 55)).alloc (.cells #[.int .u8 0, .int .u8 0, .int .u8 0, .int .u8 0, .int .u8 0, .int .u8 0, .int .u8 0, .int .u8 0] 83)) (w.heap.size + 1) 83 zbuf) := Lib.hid (by
    refine ⟨(obj_new w _ [.int .u8 0, .int .u8 0, .int .u8 0, .int .u8 0]).alloc _, (Only.alloc _ _ _).tr (Only.alloc _ _ _), ?_⟩
    have := obj_new (w.alloc (.cells #[.int .u8 0, .int .u8 0, .int .u8 0, .int .u8 0] 55)) 83 zbuf
    have e : (w.alloc (.cells #[.int .u8 0, .int .u8 0, .int .u8 0, .int .u8 0] 55)).heap.size = w.heap.size + 1 := by simp
    rw [e] at this
    exact this)
  obtain ⟨g, hg⟩ : ∃ g, g = w.heap.size := ⟨_, rfl⟩
  have HG := Lib.hid hg
  clear hg
  show Calls Tryd.prog 20 #[.iface 61 (.pointer (some ⟨bp, 0, none⟩))] w _
  go_enter Tryd.func20, Tryd.ntmps20
  go_wp2_with fail
  generalize World.alloc _ _ = w2 at HN ⊢
  rw [← HG.out] at HN ⊢
  have HAP : Hid (Apart (g + 1) bp [] ∧ B ≤ g + 1 ∧ B ≤ g ∧ g ≠ bp ∧ bp < w.heap.size) := Lib.hid (by
    have e := HG.out
    have hB := HX.out.1.1.lt
    obtain ⟨_, _, _, o, _⟩ := HX.out.2.1
    have hb := SObj.lt o
    exact ⟨⟨by omega, fun M hM => by cases hM⟩, by omega, by omega, by omega, hb⟩)
  have HRF : Hid (Calls Tryd.prog 30 #[.iface 61 (.pointer (some ⟨bp, 0, none⟩)), .slice (some ⟨g + 1, 0, none⟩) 8 8] w2 (RF B w2 bp ca cn cc N [] rest (g + 1) 0 83 zbuf 8 E U)) := Lib.hid (by
    have he2 := HX.out.1.only HN.out.2.1 (fun _ h => h.elim)
    exact readFull_any B bp ca cn cc N cz E U (g + 1) 0 83 8 HAP.out.2.1 hBp (by omega) [] rest zbuf 8 w2 he2.1 he2.2.u (HX.out.2.1.only HN.out.2.1 (fun _ h => h.elim) (fun h => h)) trivial HN.out.2.2 HAP.out.1 (by omega) (by simp [zbuf]) (by omega))
  refine HRF.out.mono ?_
  rintro _ w3 ⟨K, hK, rfl, hP3, _, hZ3, hO3⟩
  have hK' : K = min 8 rest.length := hK
  have H3 : Hid (Pcs B w3 bp ca cn cc N (rest.drop K) ∧ SObj w3 (g + 1) 83 (splice zbuf 0 (u8s (rest.take K))) ∧ Only (fun k => k = bp) w w3 ∧ Env B w3 ca cn cc N cz E U M S L P H ∧ SObj w3 g 55 [.int .u8 0, .int .u8 0, .int .u8 0, .int .u8 0]) := Lib.hid (by
    have e := HG.out
    have ho0 : Only (fun k => k = bp) w w2 := HN.out.2.1.mono (fun _ h => h.elim)
    have ho : Only (fun k => k = bp) w w3 := ho0.trans hO3 (fun k hk hn h => by
      rcases h with h | h | ⟨M, hM, h⟩
      · omega
      · exact hn h
      · cases hM)
    refine ⟨hP3, hZ3, ho, HX.out.1.only ho (fun k hk => by omega), HN.out.1.only hO3 (fun h => ?_)⟩
    rcases h with h | h | ⟨M, hM, h⟩
    · omega
    · exact HAP.out.2.2.2.1 h
    · cases hM)
  have HKK := Lib.hid hK'
  clear hK hK' hP3 hZ3 hO3 HRF
  by_cases hk : K = 8
  · subst hk
    have e0 : rfE E U 8 8 = .nilIface := by unfold rfE; rw [if_pos rfl]
    rw [e0]
    clear e0
    have hl8 : 8 ≤ rest.length := by have := HKK.out; omega
    obtain ⟨x0, hx0⟩ : ∃ x, x = rest.getD 0 0 := ⟨_, rfl⟩
    obtain ⟨x1, hx1⟩ : ∃ x, x = rest.getD 1 0 := ⟨_, rfl⟩
    obtain ⟨x2, hx2⟩ : ∃ x, x = rest.getD 2 0 := ⟨_, rfl⟩
    obtain ⟨x3, hx3⟩ : ∃ x, x = rest.getD 3 0 := ⟨_, rfl⟩
    obtain ⟨x4, hx4⟩ : ∃ x, x = rest.getD 4 0 := ⟨_, rfl⟩
    obtain ⟨x5, hx5⟩ : ∃ x, x = rest.getD 5 0 := ⟨_, rfl⟩
    obtain ⟨x6, hx6⟩ : ∃ x, x = rest.getD 6 0 := ⟨_, rfl⟩
    obtain ⟨x7, hx7⟩ : ∃ x, x = rest.getD 7 0 := ⟨_, rfl⟩
    have HXS : Hid (splice zbuf 0 (u8s (rest.take 8)) = [.int .u8 x0, .int .u8 x1, .int .u8 x2, .int .u8 x3, .int .u8 x4, .int .u8 x5, .int .u8 x6, .int .u8 x7]) := Lib.hid (by
      rw [hx0, hx1, hx2, hx3, hx4, hx5, hx6, hx7]
      match rest, hl8 with
      | a :: b :: c :: d :: e :: f :: h :: i :: r, _ => rfl)
    have b4 := HX.out.2.2 4; rw [← hx4] at b4; obtain ⟨b4l, b4h⟩ := b4
    have b5 := HX.out.2.2 5; rw [← hx5] at b5; obtain ⟨b5l, b5h⟩ := b5
    have b6 := HX.out.2.2 6; rw [← hx6] at b6; obtain ⟨b6l, b6h⟩ := b6
    have b7 := HX.out.2.2 7; rw [← hx7] at b7; obtain ⟨b7l, b7h⟩ := b7
    have HXE := Lib.hid (And.intro hx0 (And.intro hx1 (And.intro hx2 (And.intro hx3 (And.intro hx4 (And.intro hx5 (And.intro hx6 hx7))))))); clear hx0 hx1 hx2 hx3 hx4 hx5 hx6 hx7
    have HZ : Hid (SObj w3 (g + 1) 83 [.int .u8 x0, .int .u8 x1, .int .u8 x2, .int .u8 x3, .int .u8 x4, .int .u8 x5, .int .u8 x6, .int .u8 x7]) := Lib.hid (by rw [← HXS.out]; exact H3.out.2.1)
    have v0 : w3.cell? ⟨g + 1, 0, none⟩ = some (.int .u8 x0) := HZ.out.cell 0 rfl
    have v1 : w3.cell? ⟨g + 1, 1, none⟩ = some (.int .u8 x1) := HZ.out.cell 1 rfl
    have v2 : w3.cell? ⟨g + 1, 2, none⟩ = some (.int .u8 x2) := HZ.out.cell 2 rfl
    have v3 : w3.cell? ⟨g + 1, 3, none⟩ = some (.int .u8 x3) := HZ.out.cell 3 rfl
    have v4 : w3.cell? ⟨g + 1, 4, none⟩ = some (.int .u8 x4) := HZ.out.cell 4 rfl
    have v5 : w3.cell? ⟨g + 1, 5, none⟩ = some (.int .u8 x5) := HZ.out.cell 5 rfl
    have v6 : w3.cell? ⟨g + 1, 6, none⟩ = some (.int .u8 x6) := HZ.out.cell 6 rfl
    have v7 : w3.cell? ⟨g + 1, 7, none⟩ = some (.int .u8 x7) := HZ.out.cell 7 rfl
    have c0 : w3.cell? ⟨g, 0, none⟩ = some (.int .u8 0) := H3.out.2.2.2.2.cell 0 rfl
    have f0 : w3.frozen? ⟨g, 0, none⟩ = false := H3.out.2.2.2.2.free 0
    have c1 : w3.cell? ⟨g, 1, none⟩ = some (.int .u8 0) := H3.out.2.2.2.2.cell 1 rfl
    have f1 : w3.frozen? ⟨g, 1, none⟩ = false := H3.out.2.2.2.2.free 1
    have c2 : w3.cell? ⟨g, 2, none⟩ = some (.int .u8 0) := H3.out.2.2.2.2.cell 2 rfl
    have f2 : w3.frozen? ⟨g, 2, none⟩ = false := H3.out.2.2.2.2.free 2
    have c3 : w3.cell? ⟨g, 3, none⟩ = some (.int .u8 0) := H3.out.2.2.2.2.cell 3 rfl
    have f3 : w3.frozen? ⟨g, 3, none⟩ = false := H3.out.2.2.2.2.free 3
    have kM := H3.out.2.2.2.1.2.m.var
    have nM : g ≠ 2 := by have := HX.out.1.2.m.gb; have := HX.out.1.1.lt; have := HG.out; omega
    have HFIN : Hid (∀ wf, okHead rest = false → Only (fun k => k = g) w3 wf → NRP B w bp ca cn cc N rest (.returned (.tuple #[.agg #[.int .u8 0, .int .u8 0, .int .u8 0, .int .u8 0], .pointer none, errV M])) wf) := Lib.hid (fun wf h0 ho => by
      have e := HG.out
      exact nrp_m HX.out.1 hBp (H3.out.2.2.1.trans ho (fun k hk hn h => by omega)) h0)
    by_cases y0 : x0 = 82
    · subst y0
      by_cases y1 : x1 = 73
      · subst y1
        by_cases y2 : x2 = 70
        · subst y2
          by_cases y3 : x3 = 70
          · subst y3
            have HOK : Hid (okHead rest = decide (12 ≤ rest.length ∧ 4 ≤ le32 rest 4)) := Lib.hid (by
              obtain ⟨h0, h1, h2, h3, h4⟩ := HXE.out
              unfold okHead
              rw [← h0, ← h1, ← h2, ← h3]
              simp)
            have HLE : Hid (((le32 rest 4 : Nat) : Int) = x4 + 256 * x5 + 65536 * x6 + 16777216 * x7) := Lib.hid (by
              obtain ⟨h0, h1, h2, h3, h4, h5, h6, h7⟩ := HXE.out
              rw [le32_int HX.out.2.2, h4, h5, h6, h7])
            clear c0 c1 c2 c3 f0 f1 f2 f3 kM nM
            go_wp2_with fail
            refine (u32_any (g + 1) 4 4 4 x4 x5 x6 x7 w3 v4 v5 v6 v7 (by omega) (by omega) b4l b4h b5l b5h b6l b6h b7l b7h).mono ?_
            rintro _ w4 ⟨rfl, nq, rfl⟩
            rw [← HLE.out]
            have HD : Hid (Pcs B (w3.drewN nq) bp ca cn cc N (rest.drop 8) ∧ Only (fun k => k = bp) w (w3.drewN nq) ∧ Env B (w3.drewN nq) ca cn cc N cz E U M S L P H ∧ SObj (w3.drewN nq) g 55 [.int .u8 0, .int .u8 0, .int .u8 0, .int .u8 0] ∧ g < (w3.drewN nq).heap.size) := Lib.hid ⟨H3.out.1, H3.out.2.2.1.dN nq, H3.out.2.2.2.1.only (Only.drewN (fun _ => False) w3 nq) (fun _ h => h.elim), H3.out.2.2.2.2.drewN nq, SObj.lt H3.out.2.2.2.2⟩
            generalize World.drewN w3 nq = w4 at HD ⊢
            clear v0 v1 v2 v3 v4 v5 v6 v7
            obtain ⟨ln, hln⟩ : ∃ n, n = le32 rest 4 := ⟨_, rfl⟩
            have hl32 : ln < 4294967296 := by rw [hln]; exact le32_lt HX.out.2.2 4
            rw [← hln]
            have HLN := Lib.hid hln; clear hln
            go_wp2_with fail
            refine (newList_any B bp ca cn cc N cz E U M S L P H hBp [] (rest.drop 8) ln hl32 w4 HD.out.2.2.1 HD.out.1 trivial).mono ?_
            rintro e5 w5 ⟨K5, hK5, hP5, _, hO5, hR5⟩
            have HK5 : Hid (K5 = (if ln < 4 then 0 else min 4 (rest.length - 8))) := Lib.hid (by rw [hK5]; simp [av])
            have HG5 : Hid (Pcs B w5 bp ca cn cc N ((rest.drop 8).drop K5) ∧ SObj w5 g 55 [.int .u8 0, .int .u8 0, .int .u8 0, .int .u8 0] ∧ Only (fun k => k = bp) w w5) := Lib.hid (by
              have hng : ¬ RW bp [] g := fun h => by
                rcases h with h | ⟨M', hM, h⟩
                · exact HAP.out.2.2.2.1 h
                · cases hM
              refine ⟨hP5, HD.out.2.2.2.1.only hO5 hng, HD.out.2.1.tr (hO5.mono (fun k hk => ?_))⟩
              rcases hk with hk | ⟨M', hM, hk⟩
              · exact hk
              · cases hM)
            clear hK5 hP5 hO5
            have z0 : w5.cell? ⟨g, 0, none⟩ = some (.int .u8 0) := HG5.out.2.1.cell 0 rfl
            have z1 : w5.cell? ⟨g, 1, none⟩ = some (.int .u8 0) := HG5.out.2.1.cell 1 rfl
            have z2 : w5.cell? ⟨g, 2, none⟩ = some (.int .u8 0) := HG5.out.2.1.cell 2 rfl
            have z3 : w5.cell? ⟨g, 3, none⟩ = some (.int .u8 0) := HG5.out.2.1.cell 3 rfl
            have y0 : w5.frozen? ⟨g, 0, none⟩ = false := HG5.out.2.1.free 0
            have y1 : w5.frozen? ⟨g, 1, none⟩ = false := HG5.out.2.1.free 1
            have y2 : w5.frozen? ⟨g, 2, none⟩ = false := HG5.out.2.1.free 2
            have y3 : w5.frozen? ⟨g, 3, none⟩ = false := HG5.out.2.1.free 3
            by_cases hbad : ln < 4 ∨ K5 < 4
            · rw [if_pos hbad] at hR5
              subst hR5
              have HB5 : Hid (okHead rest = false) := Lib.hid (by
                rw [HOK.out]
                refine decide_eq_false (fun h => ?_)
                have h1 := HLN.out
                have h2 := HK5.out
                rw [if_neg (by omega)] at h2
                omega)
              clear hbad
              unfold errV
              go_wp2
              refine bodyPost_ret (v := .tuple #[.agg #[.int .u8 0, .int .u8 0, .int .u8 0, .int .u8 0], .pointer none, errV S]) ?_ rfl (nrp_s HX.out.1 hBp (HG5.out.2.2.trans ((((Only.setCell (S := fun k => k = g) w5 _ _ rfl).tr (Only.setCell _ _ _ rfl)).tr (Only.setCell _ _ _ rfl)).tr (Only.setCell _ _ _ rfl)) (fun k hk hn h => by have := HG.out; omega)) HB5.out)
              exact results_c2 Tryd.results20 rfl (load_four (((HG5.out.2.1.set 0 _).set 1 _).set 2 _ |>.set 3 _))
            · rw [if_neg hbad] at hR5
              obtain ⟨z, buf, hb8, he5, hz5, ho5⟩ := hR5
              obtain ⟨d0, hd0⟩ : ∃ d, d = (rest.drop 8).getD 0 0 := ⟨_, rfl⟩
              obtain ⟨d1, hd1⟩ : ∃ d, d = (rest.drop 8).getD 1 0 := ⟨_, rfl⟩
              obtain ⟨d2, hd2⟩ : ∃ d, d = (rest.drop 8).getD 2 0 := ⟨_, rfl⟩
              obtain ⟨d3, hd3⟩ : ∃ d, d = (rest.drop 8).getD 3 0 := ⟨_, rfl⟩
              rw [← hd0, ← hd1, ← hd2, ← hd3] at he5
              subst he5
              have HDD : Hid (four4 rest 8 = .agg #[.int .u8 d0, .int .u8 d1, .int .u8 d2, .int .u8 d3]) := Lib.hid (by
                rw [hd0, hd1, hd2, hd3]
                unfold four4
                simp [List.getD, List.getElem?_drop])
              clear hd0 hd1 hd2 hd3
              have HB5 : Hid (okHead rest = true ∧ K5 = 4) := Lib.hid (by
                have h1 := HLN.out
                have h2 := HK5.out
                rw [if_neg (by omega)] at h2
                exact ⟨by rw [HOK.out]; exact decide_eq_true (by omega), by omega⟩)
              have HZ5 : Hid (SObj w5 z 89 (zC (lvV bp []) .nilIface (ln - 4) 0 (.pointer none) buf false) ∧ buf.length = 8 ∧ w.heap.size ≤ z ∧ z ≠ g) := Lib.hid ⟨ho5, hb8, by have := HD.out.2.1.size; omega, by have := HD.out.2.2.2.2; omega⟩
              clear hbad ho5 hb8 hz5
              go_wp2
              refine bodyPost_ret (v := .tuple #[.agg #[.int .u8 d0, .int .u8 d1, .int .u8 d2, .int .u8 d3], .pointer (some ⟨z, 0, none⟩), .nilIface]) ?_ rfl ⟨HG5.out.2.2.trans ((((Only.setCell (S := fun k => k = g) w5 _ _ rfl).tr (Only.setCell _ _ _ rfl)).tr (Only.setCell _ _ _ rfl)).tr (Only.setCell _ _ _ rfl)) (fun k hk hn h => by have := HG.out; omega), .inr ⟨HB5.out.1, z, buf, HZ5.out.2.1, by rw [HDD.out], HZ5.out.2.2.1, ?_, ?_⟩⟩
              · exact results_c2 Tryd.results20 rfl (load_four (((HG5.out.2.1.set 0 _).set 1 _).set 2 _ |>.set 3 _))
              · have := HG5.out.1
                rw [HB5.out.2, List.drop_drop] at this
                exact this.only ((((Only.setCell (S := fun k => k = g) w5 _ _ rfl).tr (Only.setCell _ _ _ rfl)).tr (Only.setCell _ _ _ rfl)).tr (Only.setCell _ _ _ rfl)) (fun k hk => by have := HAP.out.2.2.1; omega) (fun e => HAP.out.2.2.2.1 e.symm)
              · rw [← HLN.out]
                have hne := HZ5.out.2.2.2
                exact (((HZ5.out.1.far ⟨g, 0, none⟩ hne _).far ⟨g, 1, none⟩ hne _).far ⟨g, 2, none⟩ hne _).far ⟨g, 3, none⟩ hne _
          · as_aux_lemma =>
            have e3a : (x3 == 70) = false := by rw [beq_eq_false_iff_ne]; exact y3
            have e3b : (x3 != 70) = true := by rw [bne_iff_ne]; exact y3
            have HOK : Hid (okHead rest = false) := Lib.hid (decide_eq_false (fun h => y3 (by rw [HXE.out.2.2.2.1]; exact h.2.2.2.2.1)))
            clear y3
            go_wp2_with fail
            go_region_held3 (fun w' => w'.cell? ⟨2, 0, none⟩ = some (.iface 115 (.pointer (some M)))) (first | exact kM | (simp only [far_cell nM, drew_cell]; exact kM)) (first | fail)
            all_goals
              have HF : Hid (SObj ((((w3.setCell ⟨g, 0, none⟩ (.int .u8 0)).setCell ⟨g, 1, none⟩ (.int .u8 0)).setCell ⟨g, 2, none⟩ (.int .u8 0)).setCell ⟨g, 3, none⟩ (.int .u8 0)).drew g 55 [.int .u8 0, .int .u8 0, .int .u8 0, .int .u8 0] ∧ Only (fun k => k = g) w3 ((((w3.setCell ⟨g, 0, none⟩ (.int .u8 0)).setCell ⟨g, 1, none⟩ (.int .u8 0)).setCell ⟨g, 2, none⟩ (.int .u8 0)).setCell ⟨g, 3, none⟩ (.int .u8 0)).drew) := Lib.hid ⟨((((H3.out.2.2.2.2.set 0 _).set 1 _).set 2 _).set 3 _), ((((Only.setCell (S := fun k => k = g) w3 _ _ rfl).tr (Only.setCell _ _ _ rfl)).tr (Only.setCell _ _ _ rfl)).tr (Only.setCell _ _ _ rfl)).dr⟩
              generalize World.drew _ = wf at HF ⊢
              go_wp2
              refine bodyPost_ret (v := .tuple #[.agg #[.int .u8 0, .int .u8 0, .int .u8 0, .int .u8 0], .pointer none, errV M]) ?_ rfl (HFIN.out _ HOK.out HF.out.2)
              exact results_c2 Tryd.results20 rfl (load_four HF.out.1)
        · as_aux_lemma =>
          have e2a : (x2 == 70) = false := by rw [beq_eq_false_iff_ne]; exact y2
          have e2b : (x2 != 70) = true := by rw [bne_iff_ne]; exact y2
          have HOK : Hid (okHead rest = false) := Lib.hid (decide_eq_false (fun h => y2 (by rw [HXE.out.2.2.1]; exact h.2.2.2.1)))
          clear y2
          go_wp2_with fail
          go_region_held3 (fun w' => w'.cell? ⟨2, 0, none⟩ = some (.iface 115 (.pointer (some M)))) (first | exact kM | (simp only [far_cell nM, drew_cell]; exact kM)) (first | fail)
          all_goals
            have HF : Hid (SObj ((((w3.setCell ⟨g, 0, none⟩ (.int .u8 0)).setCell ⟨g, 1, none⟩ (.int .u8 0)).setCell ⟨g, 2, none⟩ (.int .u8 0)).setCell ⟨g, 3, none⟩ (.int .u8 0)).drew g 55 [.int .u8 0, .int .u8 0, .int .u8 0, .int .u8 0] ∧ Only (fun k => k = g) w3 ((((w3.setCell ⟨g, 0, none⟩ (.int .u8 0)).setCell ⟨g, 1, none⟩ (.int .u8 0)).setCell ⟨g, 2, none⟩ (.int .u8 0)).setCell ⟨g, 3, none⟩ (.int .u8 0)).drew) := Lib.hid ⟨((((H3.out.2.2.2.2.set 0 _).set 1 _).set 2 _).set 3 _), ((((Only.setCell (S := fun k => k = g) w3 _ _ rfl).tr (Only.setCell _ _ _ rfl)).tr (Only.setCell _ _ _ rfl)).tr (Only.setCell _ _ _ rfl)).dr⟩
            generalize World.drew _ = wf at HF ⊢
            go_wp2
            refine bodyPost_ret (v := .tuple #[.agg #[.int .u8 0, .int .u8 0, .int .u8 0, .int .u8 0], .pointer none, errV M]) ?_ rfl (HFIN.out _ HOK.out HF.out.2)
            exact results_c2 Tryd.results20 rfl (load_four HF.out.1)
      · as_aux_lemma =>
        have e1a : (x1 == 73) = false := by rw [beq_eq_false_iff_ne]; exact y1
        have e1b : (x1 != 73) = true := by rw [bne_iff_ne]; exact y1
        have HOK : Hid (okHead rest = false) := Lib.hid (decide_eq_false (fun h => y1 (by rw [HXE.out.2.1]; exact h.2.2.1)))
        clear y1
        go_wp2_with fail
        go_region_held3 (fun w' => w'.cell? ⟨2, 0, none⟩ = some (.iface 115 (.pointer (some M)))) (first | exact kM | (simp only [far_cell nM, drew_cell]; exact kM)) (first | fail)
        all_goals
          have HF : Hid (SObj ((((w3.setCell ⟨g, 0, none⟩ (.int .u8 0)).setCell ⟨g, 1, none⟩ (.int .u8 0)).setCell ⟨g, 2, none⟩ (.int .u8 0)).setCell ⟨g, 3, none⟩ (.int .u8 0)).drew g 55 [.int .u8 0, .int .u8 0, .int .u8 0, .int .u8 0] ∧ Only (fun k => k = g) w3 ((((w3.setCell ⟨g, 0, none⟩ (.int .u8 0)).setCell ⟨g, 1, none⟩ (.int .u8 0)).setCell ⟨g, 2, none⟩ (.int .u8 0)).setCell ⟨g, 3, none⟩ (.int .u8 0)).drew) := Lib.hid ⟨((((H3.out.2.2.2.2.set 0 _).set 1 _).set 2 _).set 3 _), ((((Only.setCell (S := fun k => k = g) w3 _ _ rfl).tr (Only.setCell _ _ _ rfl)).tr (Only.setCell _ _ _ rfl)).tr (Only.setCell _ _ _ rfl)).dr⟩
          generalize World.drew _ = wf at HF ⊢
          go_wp2
          refine bodyPost_ret (v := .tuple #[.agg #[.int .u8 0, .int .u8 0, .int .u8 0, .int .u8 0], .pointer none, errV M]) ?_ rfl (HFIN.out _ HOK.out HF.out.2)
          exact results_c2 Tryd.results20 rfl (load_four HF.out.1)
    · as_aux_lemma =>
      have e0a : (x0 == 82) = false := by rw [beq_eq_false_iff_ne]; exact y0
      have e0b : (x0 != 82) = true := by rw [bne_iff_ne]; exact y0
      have HOK : Hid (okHead rest = false) := Lib.hid (decide_eq_false (fun h => y0 (by rw [HXE.out.1]; exact h.2.1)))
      clear y0
      go_wp2_with fail
      go_region_held3 (fun w' => w'.cell? ⟨2, 0, none⟩ = some (.iface 115 (.pointer (some M)))) (first | exact kM | (simp only [far_cell nM, drew_cell]; exact kM)) (first | fail)
      all_goals
        have HF : Hid (SObj ((((w3.setCell ⟨g, 0, none⟩ (.int .u8 0)).setCell ⟨g, 1, none⟩ (.int .u8 0)).setCell ⟨g, 2, none⟩ (.int .u8 0)).setCell ⟨g, 3, none⟩ (.int .u8 0)).drew g 55 [.int .u8 0, .int .u8 0, .int .u8 0, .int .u8 0] ∧ Only (fun k => k = g) w3 ((((w3.setCell ⟨g, 0, none⟩ (.int .u8 0)).setCell ⟨g, 1, none⟩ (.int .u8 0)).setCell ⟨g, 2, none⟩ (.int .u8 0)).setCell ⟨g, 3, none⟩ (.int .u8 0)).drew) := Lib.hid ⟨((((H3.out.2.2.2.2.set 0 _).set 1 _).set 2 _).set 3 _), ((((Only.setCell (S := fun k => k = g) w3 _ _ rfl).tr (Only.setCell _ _ _ rfl)).tr (Only.setCell _ _ _ rfl)).tr (Only.setCell _ _ _ rfl)).dr⟩
        generalize World.drew _ = wf at HF ⊢
        go_wp2
        refine bodyPost_ret (v := .tuple #[.agg #[.int .u8 0, .int .u8 0, .int .u8 0, .int .u8 0], .pointer none, errV M]) ?_ rfl (HFIN.out _ HOK.out HF.out.2)
        exact results_c2 Tryd.results20 rfl (load_four HF.out.1)
  · have HK : Hid (K < 8 ∧ rfE E U 8 K = if K = 0 then errV E else errV U) := Lib.hid ⟨by have := HKK.out; omega, by unfold rfE errV; rw [if_neg hk]⟩
    rw [HK.out.2]
    have kE := H3.out.2.2.2.1.2.e.var
    have kU := H3.out.2.2.2.1.2.u.var
    have kM := H3.out.2.2.2.1.2.m.var
    have q1 := eql_err E w3
    have q2 := eql_err U w3
    have q3 := H3.out.2.2.2.1.2.u.eql H3.out.2.2.2.1.2.e (by decide)
    have c0 : w3.cell? ⟨g, 0, none⟩ = some (.int .u8 0) := H3.out.2.2.2.2.cell 0 rfl
    have c1 : w3.cell? ⟨g, 1, none⟩ = some (.int .u8 0) := H3.out.2.2.2.2.cell 1 rfl
    have c2 : w3.cell? ⟨g, 2, none⟩ = some (.int .u8 0) := H3.out.2.2.2.2.cell 2 rfl
    have c3 : w3.cell? ⟨g, 3, none⟩ = some (.int .u8 0) := H3.out.2.2.2.2.cell 3 rfl
    have f0 : w3.frozen? ⟨g, 0, none⟩ = false := H3.out.2.2.2.2.free 0
    have f1 : w3.frozen? ⟨g, 1, none⟩ = false := H3.out.2.2.2.2.free 1
    have f2 : w3.frozen? ⟨g, 2, none⟩ = false := H3.out.2.2.2.2.free 2
    have f3 : w3.frozen? ⟨g, 3, none⟩ = false := H3.out.2.2.2.2.free 3
    have HFIN : Hid (∀ wf, Only (fun k => k = g) w3 wf → NRP B w bp ca cn cc N rest (.returned (.tuple #[.agg #[.int .u8 0, .int .u8 0, .int .u8 0, .int .u8 0], .pointer none, errV M])) wf) := Lib.hid (fun wf ho => by
      have e := HG.out
      refine nrp_m HX.out.1 hBp (H3.out.2.2.1.trans ho (fun k hk hn h => by omega)) ?_
      unfold okHead
      refine decide_eq_false (fun h => ?_)
      have := HKK.out; have := HK.out.1; omega)
    clear hk
    by_cases hk0 : K = 0
    · rw [if_pos hk0]
      clear hk0
      unfold errV
      go_wp2
      refine bodyPost_ret (v := .tuple #[.agg #[.int .u8 0, .int .u8 0, .int .u8 0, .int .u8 0], .pointer none, errV M]) ?_ rfl (HFIN.out _ ((((Only.setCell (S := fun k => k = g) w3 _ _ rfl).tr (Only.setCell _ _ _ rfl)).tr (Only.setCell _ _ _ rfl)).tr (Only.setCell _ _ _ rfl)))
      exact results_c2 Tryd.results20 rfl (load_four (((H3.out.2.2.2.2.set 0 _).set 1 _).set 2 _ |>.set 3 _))
    · rw [if_neg hk0]
      clear hk0
      unfold errV
      go_wp2
      refine bodyPost_ret (v := .tuple #[.agg #[.int .u8 0, .int .u8 0, .int .u8 0, .int .u8 0], .pointer none, errV M]) ?_ rfl (HFIN.out _ ((((Only.setCell (S := fun k => k = g) w3 _ _ rfl).tr (Only.setCell _ _ _ rfl)).tr (Only.setCell _ _ _ rfl)).tr (Only.setCell _ _ _ rfl)))
      exact results_c2 Tryd.results20 rfl (load_four (((H3.out.2.2.2.2.set 0 _).set 1 _).set 2 _ |>.set 3 _))
end Go.Proofs.YthipghkhdlnfiaaDoor
