/- Opening files and lists: NewListReader, NewReader. -/
import Derived.Test.YthipghkhdlnfiaaDoorRfU
import Derived.RegionTactic
import Derived.BigRegion
import Derived.ChangeAlike
import Derived.Deep.MidRow
namespace Go.Proofs.YthipghkhdlnfiaaDoor
open Go.RowKit
set_option linter.unusedVariables false

/-- The sentinels that the readers of chunks name. -/
structure Sns (B : Nat) (w : World) (E U M S L P H : Addr) : Prop where
  e : Snt B w 0 E sE
  u : Snt B w 1 U sU
  m : Snt B w 2 M sM
  s : Snt B w 3 S sS
  l : Snt B w 4 L sL
  p : Snt B w 5 P sP
  h : Snt B w 6 H sH
theorem Sns.only {B : Nat} {w w' : World} {E U M S L P H : Addr} {R : Nat → Prop} (h : Sns B w E U M S L P H) (hB : B ≤ w.heap.size) (ho : Only R w w') (hs : ∀ k, R k → B ≤ k) : Sns B w' E U M S L P H :=
  ⟨h.e.only hB ho hs, h.u.only hB ho hs, h.m.only hB ho hs, h.s.only hB ho hs, h.l.only hB ho hs, h.p.only hB ho hs, h.h.only hB ho hs⟩
def errV (a : Addr) : Value := .iface 115 (.pointer (some a))
/-- What is given meanwhile: the cuts, the sentinels. -/
def Env (B : Nat) (w : World) (ca : Option Addr) (cn cc N : Nat) (cz : Nat → Int) (E U M S L P H : Addr) : Prop := Gvn B w ca cn cc N cz E ∧ Sns B w E U M S L P H
theorem Env.only {B : Nat} {w w' : World} {ca : Option Addr} {cn cc N : Nat} {cz : Nat → Int} {E U M S L P H : Addr} {R : Nat → Prop} (h : Env B w ca cn cc N cz E U M S L P H) (ho : Only R w w') (hs : ∀ k, R k → B ≤ k) : Env B w' ca cn cc N cz E U M S L P H :=
  ⟨h.1.only ho hs, h.2.only h.1.lt ho hs⟩
theorem Pcs.only {R : Nat → Prop} {B : Nat} {w w' : World} {bp : Nat} {ca : Option Addr} {cn cc N : Nat} {rest : List Int} (h : Pcs B w bp ca cn cc N rest) (ho : Only R w w') (hs : ∀ k, R k → B ≤ k) (hn : ¬ R bp) : Pcs B w' bp ca cn cc N rest := by
  obtain ⟨a, c, t, p1, p2, p3, p4⟩ := h
  exact ⟨a, c, t, p1.only ho hn, p2.only ho (fun h0 p hp e => by have := p3 h0 p hp; have := hs _ e; omega), p3, p4⟩

theorem drew_cell (w : World) (a : Addr) : w.drew.cell? a = w.cell? a := rfl
theorem far_cell {w : World} {b c : Nat} (h : b ≠ c) (i j : Nat) (v : Value) : (w.setCell ⟨b, i, none⟩ v).cell? ⟨c, j, none⟩ = w.cell? ⟨c, j, none⟩ := World.cell?_setCell_other _ _ _ _ (by intro e; injection e with e; exact h e)
theorem results_c2 {P : Program} {fn : Func} {tmps : Array Value} {w : World} {a b c : Nat} {t : TypeId} {ad : Addr} {v : Value} (hr : fn.results = #[.cell a t, .tmp b, .tmp c]) (ha : tmps.getD a undef = .pointer (some ad)) (hl : (loadVar t ad).run P w = .ok v w) :
    (results fn tmps).run P w = .ok (.tuple #[v, tmps.getD b undef, tmps.getD c undef]) w := by
  unfold results
  rw [hr]
  rw [Array.getD_eq_getD_getElem?] at ha
  simp [ha, asAddr, hl]
theorem results_c3 {P : Program} {fn : Func} {tmps : Array Value} {w : World} {a b c d : Nat} {t : TypeId} {ad : Addr} {v : Value} (hr : fn.results = #[.cell a t, .tmp b, .tmp c, .tmp d]) (ha : tmps.getD a undef = .pointer (some ad)) (hl : (loadVar t ad).run P w = .ok v w) :
    (results fn tmps).run P w = .ok (.tuple #[v, tmps.getD b undef, tmps.getD c undef, tmps.getD d undef]) w := by
  unfold results
  rw [hr]
  rw [Array.getD_eq_getD_getElem?] at ha
  simp [ha, asAddr, hl]
/-- The four bytes of a name, as a result that lies in memory. -/
theorem load_four {w : World} {g : Nat} {x0 x1 x2 x3 : Value} (h : SObj w g 55 [x0, x1, x2, x3]) : (loadVar 55 ⟨g, 0, none⟩).run Tryd.prog w = .ok (.agg #[x0, x1, x2, x3]) w :=
  run_loadVar_mid (P := Tryd.prog) w g 0 55 [x0, x1, x2, x3] _ (fun j v hv => by rw [Nat.zero_add]; exact h.cell j hv) Tryd.underlying55 rfl (by kernel_rfl)
theorem zC_splice (v err : Value) (tot chk : Nat) (cr : Value) (buf : List Value) (pad : Bool) (o : Nat) (cs : List Value) (hb : buf.length = 8) (hc : o + cs.length ≤ 8) : splice (zC v err tot chk cr buf pad) (5 + o) cs = zC v err tot chk cr (splice buf o cs) pad := by
  unfold zC splice
  have e : ∀ (A : List Value) (n : Nat), A.length = 5 → n ≤ 8 → (A ++ buf ++ [Value.bool pad]).take (5 + n) = A ++ buf.take n ∧ (A ++ buf ++ [Value.bool pad]).drop (5 + n) = buf.drop n ++ [Value.bool pad] := by
    intro A n hA hn
    constructor
    · rw [List.take_append_of_le_length (by simp; omega), List.take_append, hA, List.take_of_length_le (by omega), show 5 + n - 5 = n by omega]
    · rw [List.drop_append_of_le_length (by simp; omega), List.drop_append, hA, List.drop_of_length_le (by omega), show 5 + n - 5 = n by omega, List.nil_append]
  rw [(e _ o rfl (by omega)).1, show 5 + o + cs.length = 5 + (o + cs.length) by omega, (e _ (o + cs.length) rfl hc).2]
  simp
def zbuf : List Value := [.int .u8 0, .int .u8 0, .int .u8 0, .int .u8 0, .int .u8 0, .int .u8 0, .int .u8 0, .int .u8 0]
/-- What NewListReader tells, and leaves: a new reader of chunks at block z. -/
def NLP (B : Nat) (w : World) (bp : Nat) (ca : Option Addr) (cn cc N : Nat) (Ls : List Lv) (rest : List Int) (len : Nat) (S : Addr) (e : Ending) (w' : World) : Prop :=
  ∃ K, K = (if len < 4 then 0 else min 4 (av Ls rest.length)) ∧ Pcs B w' bp ca cn cc N (rest.drop K) ∧ Stk w' B bp (Ls.map (dec K)) ∧ Only (RW bp Ls) w w' ∧
    if len < 4 ∨ K < 4 then e = .returned (.tuple #[.agg #[.int .u8 0, .int .u8 0, .int .u8 0, .int .u8 0], .pointer none, errV S])
    else ∃ z buf, buf.length = 8 ∧ e = .returned (.tuple #[.agg #[.int .u8 (rest.getD 0 0), .int .u8 (rest.getD 1 0), .int .u8 (rest.getD 2 0), .int .u8 (rest.getD 3 0)], .pointer (some ⟨z, 0, none⟩), .nilIface]) ∧ w.heap.size ≤ z ∧ SObj w' z 89 (zC (lvV bp Ls) .nilIface (len - 4) 0 (.pointer none) buf false)

set_option maxRecDepth 100000 in
set_option maxHeartbeats 4000000 in
theorem newList_any (B bp : Nat) (ca : Option Addr) (cn cc N : Nat) (cz : Nat → Int) (E U M S L P H : Addr) (hBp : B ≤ bp) (Ls : List Lv) (rest : List Int) (len : Nat) (hlen : len < 4294967296) (w : World)
    (he : Env B w ca cn cc N cz E U M S L P H) (hp : Pcs B w bp ca cn cc N rest) (hs : Stk w B bp Ls) :
    Calls Tryd.prog 24 #[.int .u32 len, lvV bp Ls] w (NLP B w bp ca cn cc N Ls rest len S) := by
  by_cases h4 : len < 4
  · have hl : (len : Int) < 4 := by omega
    have hld : decide ((len : Int) < 4) = true := decide_eq_true hl
    have kS := he.2.s.var
    have HX := Lib.hid (And.intro he (And.intro hp hs)); clear he hp hs
    obtain ⟨V, hV⟩ : ∃ V, V = lvV bp Ls := ⟨_, rfl⟩
    rw [← hV]
    clear hV
    go_enter Tryd.func24, Tryd.ntmps24
    go_upto_region 2 with fail
    obtain ⟨g, hg⟩ : ∃ g, g = w.heap.size := ⟨_, rfl⟩
    have HN : Hid (SObj (w.alloc (.cells #[.int .u8 0, .int .u8 0, .int .u8 0, .int .u8 0] 55)) g 55 [.int .u8 0, .int .u8 0, .int .u8 0, .int .u8 0] ∧ Only (fun _ => False) w (w.alloc (.cells #[.int .u8 0, .int .u8 0, .int .u8 0, .int .u8 0] 55))) := Lib.hid (by rw [hg]; exact ⟨obj_new _ _ _, Only.alloc _ _ _⟩)
    rw [← hg]
    generalize World.alloc _ _ = w1 at HN ⊢
    have kS : w1.cell? ⟨3, 0, none⟩ = some (.iface 115 (.pointer (some S))) := (HX.out.1.only HN.out.2 (fun _ h => h.elim)).2.s.var
    have nS : g ≠ 3 := by have := HX.out.1.2.s.gb; have := HX.out.1.1.lt; omega
    have c0 : w1.cell? ⟨g, 0, none⟩ = some (.int .u8 0) := HN.out.1.cell 0 rfl
    have c1 : w1.cell? ⟨g, 1, none⟩ = some (.int .u8 0) := HN.out.1.cell 1 rfl
    have c2 : w1.cell? ⟨g, 2, none⟩ = some (.int .u8 0) := HN.out.1.cell 2 rfl
    have c3 : w1.cell? ⟨g, 3, none⟩ = some (.int .u8 0) := HN.out.1.cell 3 rfl
    have f0 : w1.frozen? ⟨g, 0, none⟩ = false := HN.out.1.free 0
    have f1 : w1.frozen? ⟨g, 1, none⟩ = false := HN.out.1.free 1
    have f2 : w1.frozen? ⟨g, 2, none⟩ = false := HN.out.1.free 2
    have f3 : w1.frozen? ⟨g, 3, none⟩ = false := HN.out.1.free 3
    have HG := Lib.hid hg; clear hg
    go_region_held3 (fun w' => w'.cell? ⟨3, 0, none⟩ = some (.iface 115 (.pointer (some S)))) (first | exact kS | (simp only [far_cell nS, drew_cell]; exact kS)) (first | fail)
    all_goals
      have HF : Hid (SObj ((((w1.setCell ⟨g, 0, none⟩ (.int .u8 0)).setCell ⟨g, 1, none⟩ (.int .u8 0)).setCell ⟨g, 2, none⟩ (.int .u8 0)).setCell ⟨g, 3, none⟩ (.int .u8 0)).drew g 55 [.int .u8 0, .int .u8 0, .int .u8 0, .int .u8 0] ∧ Only (fun _ => False) w ((((w1.setCell ⟨g, 0, none⟩ (.int .u8 0)).setCell ⟨g, 1, none⟩ (.int .u8 0)).setCell ⟨g, 2, none⟩ (.int .u8 0)).setCell ⟨g, 3, none⟩ (.int .u8 0)).drew) := Lib.hid ⟨((((HN.out.1.set 0 _).set 1 _).set 2 _).set 3 _), HN.out.2.trans ((((Only.setCell (S := fun k => k = g) w1 _ _ rfl).tr (Only.setCell _ _ _ rfl)).tr (Only.setCell _ _ _ rfl)).tr (Only.setCell _ _ _ rfl)).dr (fun k hk _ e => by have := HG.out; omega)⟩
      generalize World.drew _ = wf at HF ⊢
      go_wp2
      refine bodyPost_ret (v := .tuple #[.agg #[.int .u8 0, .int .u8 0, .int .u8 0, .int .u8 0], .pointer none, errV S]) ?_ rfl ?_
      · exact results_c2 Tryd.results24 rfl (load_four HF.out.1)
      · refine ⟨0, by rw [if_pos h4], (HX.out.2.1.only HF.out.2 (fun _ h => h.elim) (fun h => h)), ?_, HF.out.2.mono (fun _ h => h.elim), ?_⟩
        · rw [dec_zero]; exact HX.out.2.2.only HF.out.2 (fun _ _ => ⟨fun h => h, fun h => h⟩)
        · rw [if_pos (.inl h4)]
  · have hl : ¬ (len : Int) < 4 := by omega
    have hld : decide ((len : Int) < 4) = false := decide_eq_false hl
    have l32 : (len : Int) < 4294967296 := by omega
    have l4 : (4 : Int) ≤ (len : Int) := by omega
    have HX := Lib.hid (And.intro he (And.intro hp hs)); clear he hp hs
    obtain ⟨TT, q, _, hV, _⟩ := lv_shape bp Ls
    rw [hV]
    obtain ⟨g, hg⟩ : ∃ g, g = w.heap.size := ⟨_, rfl⟩
    have HN : Hid (SObj ((w.alloc (.cells #[.int .u8 0, .int .u8 0, .int .u8 0, .int .u8 0] 55)).alloc (.cells #[.iface TT (.pointer (some ⟨q, 0, none⟩)), .nilIface, .int .u32 0, .int .u32 0, .pointer none, .int .u8 0, .int .u8 0, .int .u8 0, .int .u8 0, .int .u8 0, .int .u8 0, .int .u8 0, .int .u8 0, .bool false] 89)) w.heap.size 55 [.int .u8 0, .int .u8 0, .int .u8 0, .int .u8 0] ∧ Only (fun _ => False) w ((w.alloc (.cells #[.int .u8 0, .int .u8 0, .int .u8 0, .int .u8 0] 55)).alloc (.cells #[.iface TT (.pointer (some ⟨q, 0, none⟩)), .nilIface, .int .u32 0, .int .u32 0, .pointer none, .int .u8 0, .int .u8 0, .int .u8 0, .int .u8 0, .int .u8 0, .int .u8 0, .int .u8 0, .int .u8 0, .bool false] 89)) ∧ SObj ((w.alloc (.cells #[.int .u8 0, .int .u8 0, .int .u8 0, .int .u8 0] 55)).alloc (.cells #[.iface TT (.pointer (some ⟨q, 0, none⟩)), .nilIface, .int .u32 0, .int .u32 0, .pointer none, .int .u8 0, .int .u8 0, .int .u8 0, .int .u8 0, .int .u8 0, .int .u8 0, .int .u8 0, .int .u8 0, .bool false] 89)) (w.heap.size + 1) 89 [.iface TT (.pointer (some ⟨q, 0, none⟩)), .nilIface, .int .u32 0, .int .u32 0, .pointer none, .int .u8 0, .int .u8 0, .int .u8 0, .int .u8 0, .int .u8 0, .int .u8 0, .int .u8 0, .int .u8 0, .bool false]) := Lib.hid (by
      refine ⟨(obj_new w _ [.int .u8 0, .int .u8 0, .int .u8 0, .int .u8 0]).alloc _, (Only.alloc _ _ _).tr (Only.alloc _ _ _), ?_⟩
      have := obj_new (w.alloc (.cells #[.int .u8 0, .int .u8 0, .int .u8 0, .int .u8 0] 55)) 89 [.iface TT (.pointer (some ⟨q, 0, none⟩)), .nilIface, .int .u32 0, .int .u32 0, .pointer none, .int .u8 0, .int .u8 0, .int .u8 0, .int .u8 0, .int .u8 0, .int .u8 0, .int .u8 0, .int .u8 0, .bool false]
      simpa using this)
    have HV := Lib.hid hV; clear hV
    have HG := Lib.hid hg
    clear hg
    go_enter Tryd.func24, Tryd.ntmps24
    go_upto_region 4 with fail
    generalize World.alloc _ _ = w2 at HN ⊢
    rw [← HG.out] at HN ⊢
    have HN : Hid (SObj w2 g 55 [.int .u8 0, .int .u8 0, .int .u8 0, .int .u8 0] ∧ Only (fun _ => False) w w2 ∧ SObj w2 (g + 1) 89 (zC (.iface TT (.pointer (some ⟨q, 0, none⟩))) .nilIface 0 0 (.pointer none) zbuf false)) := Lib.hid ⟨HN.out.1, HN.out.2.1, HN.out.2.2⟩
    have HAP : Hid (Apart (g + 1) bp Ls ∧ B ≤ g + 1 ∧ B ≤ g ∧ g ≠ bp ∧ ∀ M ∈ Ls, g ≠ M.z ∧ g ≠ M.c) := Lib.hid (by
      have e := HG.out
      have hB := HX.out.1.1.lt
      obtain ⟨_, _, _, o, _⟩ := HX.out.2.1
      have hb := SObj.lt o
      have hz : ∀ M ∈ Ls, M.z < w.heap.size ∧ M.c < w.heap.size := fun M hM => by
        obtain ⟨_, _, ⟨c1, f1, g1⟩, ⟨c2, f2, g2⟩⟩ := HX.out.2.2.ge M hM
        exact ⟨(Array.getElem?_eq_some_iff.1 g1).1, (Array.getElem?_eq_some_iff.1 g2).1⟩
      exact ⟨⟨by omega, fun M hM => by have := hz M hM; omega⟩, by omega, by omega, by omega, fun M hM => by have := hz M hM; omega⟩)
    have HRF : Hid (Calls Tryd.prog 30 #[.iface TT (.pointer (some ⟨q, 0, none⟩)), .slice (some ⟨g + 1, 5, none⟩) 4 8] w2 (RF B w2 bp ca cn cc N Ls rest (g + 1) 5 89 (zC (.iface TT (.pointer (some ⟨q, 0, none⟩))) .nilIface 0 0 (.pointer none) zbuf false) 4 E U)) := Lib.hid (by
      have he2 := HX.out.1.only HN.out.2.1 (fun _ h => h.elim)
      have := readFull_any B bp ca cn cc N cz E U (g + 1) 5 89 8 HAP.out.2.1 hBp (by omega) Ls rest (zC (.iface TT (.pointer (some ⟨q, 0, none⟩))) .nilIface 0 0 (.pointer none) zbuf false) 4 w2 he2.1 he2.2.u (HX.out.2.1.only HN.out.2.1 (fun _ h => h.elim) (fun h => h)) (HX.out.2.2.only HN.out.2.1 (fun _ _ => ⟨fun h => h, fun h => h⟩)) HN.out.2.2 HAP.out.1 (by omega) (by simp [zC, zbuf]) (by omega)
      rw [HV.out] at this
      exact this)
    go_wp2_with fail
    refine HRF.out.mono ?_
    rintro _ w3 ⟨K, hK, rfl, hP3, hS3, hZ3, hO3⟩
    have hK4 : K ≤ 4 := by omega
    have hKr : K ≤ rest.length := by have := av_le Ls rest.length; omega
    have eC : splice (zC (.iface TT (.pointer (some ⟨q, 0, none⟩))) .nilIface 0 0 (.pointer none) zbuf false) 5 (u8s (rest.take K)) = zC (.iface TT (.pointer (some ⟨q, 0, none⟩))) .nilIface 0 0 (.pointer none) (splice zbuf 0 (u8s (rest.take K))) false := zC_splice _ _ _ _ _ _ _ 0 _ rfl (by rw [u8s_length, List.length_take]; omega)
    rw [eC] at hZ3
    have H3 : Hid (K = min 4 (av Ls rest.length) ∧ Pcs B w3 bp ca cn cc N (rest.drop K) ∧ Stk w3 B bp (Ls.map (dec K)) ∧ SObj w3 (g + 1) 89 (zC (.iface TT (.pointer (some ⟨q, 0, none⟩))) .nilIface 0 0 (.pointer none) (splice zbuf 0 (u8s (rest.take K))) false) ∧ Only (RW bp Ls) w w3 ∧ Env B w3 ca cn cc N cz E U M S L P H ∧ SObj w3 g 55 [.int .u8 0, .int .u8 0, .int .u8 0, .int .u8 0]) := Lib.hid (by
      have e := HG.out
      have ho0 : Only (RW bp Ls) w w2 := HN.out.2.1.mono (fun _ h => h.elim)
      have ho : Only (RW bp Ls) w w3 := ho0.trans hO3 (fun k hk hn h => by
        rcases h with h | h
        · omega
        · exact hn h)
      have hge : ∀ k, RW bp Ls k → B ≤ k := fun k hk => RW.ge HX.out.2.2 hBp hk
      refine ⟨hK, hP3, hS3, hZ3, ho, HX.out.1.only ho hge, HN.out.1.only hO3 (fun h => ?_)⟩
      rcases h with h | h | ⟨M, hM, h⟩
      · omega
      · exact HAP.out.2.2.2.1 h
      · exact (HAP.out.2.2.2.2 M hM).1 h)
    have HB2 : Hid (g = w.heap.size) := HG
    clear hK hP3 hS3 hZ3 hO3 eC HRF
    by_cases hk : K = 4
    · subst hk
      have e0 : rfE E U 4 4 = .nilIface := by unfold rfE; rw [if_pos rfl]
      rw [e0]
      clear e0
      obtain ⟨x0, hx0⟩ : ∃ x, x = rest.getD 0 0 := ⟨_, rfl⟩
      obtain ⟨x1, hx1⟩ : ∃ x, x = rest.getD 1 0 := ⟨_, rfl⟩
      obtain ⟨x2, hx2⟩ : ∃ x, x = rest.getD 2 0 := ⟨_, rfl⟩
      obtain ⟨x3, hx3⟩ : ∃ x, x = rest.getD 3 0 := ⟨_, rfl⟩
      have HXS : Hid (splice zbuf 0 (u8s (rest.take 4)) = [.int .u8 x0, .int .u8 x1, .int .u8 x2, .int .u8 x3, .int .u8 0, .int .u8 0, .int .u8 0, .int .u8 0]) := Lib.hid (by
        rw [hx0, hx1, hx2, hx3]
        match rest, hKr with
        | a :: b :: c :: d :: r, _ => rfl)
      have HXE := Lib.hid (And.intro hx0 (And.intro hx1 (And.intro hx2 hx3))); clear hx0 hx1 hx2 hx3
      have HZ : Hid (SObj w3 (g + 1) 89 [.iface TT (.pointer (some ⟨q, 0, none⟩)), .nilIface, .int .u32 0, .int .u32 0, .pointer none, .int .u8 x0, .int .u8 x1, .int .u8 x2, .int .u8 x3, .int .u8 0, .int .u8 0, .int .u8 0, .int .u8 0, .bool false]) := Lib.hid (by
        have := H3.out.2.2.2.1
        rw [HXS.out] at this
        exact this)
      have z2 : w3.cell? ⟨g + 1, 2, none⟩ = some (.int .u32 0) := HZ.out.cell 2 rfl
      have y2 : w3.frozen? ⟨g + 1, 2, none⟩ = false := HZ.out.free 2
      go_upto_region 10 with fail
      have HZ2 : Hid (SObj (w3.setCell ⟨g + 1, 2, none⟩ (.int .u32 ((len : Int) - 4))) (g + 1) 89 [.iface TT (.pointer (some ⟨q, 0, none⟩)), .nilIface, .int .u32 ((len : Int) - 4), .int .u32 0, .pointer none, .int .u8 x0, .int .u8 x1, .int .u8 x2, .int .u8 x3, .int .u8 0, .int .u8 0, .int .u8 0, .int .u8 0, .bool false] ∧ SObj (w3.setCell ⟨g + 1, 2, none⟩ (.int .u32 ((len : Int) - 4))) g 55 [.int .u8 0, .int .u8 0, .int .u8 0, .int .u8 0] ∧ Only (fun k => k = g + 1) w3 (w3.setCell ⟨g + 1, 2, none⟩ (.int .u32 ((len : Int) - 4)))) := Lib.hid ⟨HZ.out.set 2 _, H3.out.2.2.2.2.2.2.far ⟨g + 1, 2, none⟩ (by simp) _, Only.setCell _ _ _ rfl⟩
      clear z2 y2
      generalize World.setCell w3 _ _ = w4 at HZ2 ⊢
      have b0 : w4.cell? ⟨g + 1, 5, none⟩ = some (.int .u8 x0) := HZ2.out.1.cell 5 rfl
      have b1 : w4.cell? ⟨g + 1, 6, none⟩ = some (.int .u8 x1) := HZ2.out.1.cell 6 rfl
      have b2 : w4.cell? ⟨g + 1, 7, none⟩ = some (.int .u8 x2) := HZ2.out.1.cell 7 rfl
      have b3 : w4.cell? ⟨g + 1, 8, none⟩ = some (.int .u8 x3) := HZ2.out.1.cell 8 rfl
      have n0 : g ≠ g + 1 := by omega
      have c0 : w4.cell? ⟨g, 0, none⟩ = some (.int .u8 0) := HZ2.out.2.1.cell 0 rfl
      have c1 : w4.cell? ⟨g, 1, none⟩ = some (.int .u8 0) := HZ2.out.2.1.cell 1 rfl
      have c2 : w4.cell? ⟨g, 2, none⟩ = some (.int .u8 0) := HZ2.out.2.1.cell 2 rfl
      have c3 : w4.cell? ⟨g, 3, none⟩ = some (.int .u8 0) := HZ2.out.2.1.cell 3 rfl
      have f0 : w4.frozen? ⟨g, 0, none⟩ = false := HZ2.out.2.1.free 0
      have f1 : w4.frozen? ⟨g, 1, none⟩ = false := HZ2.out.2.1.free 1
      have f2 : w4.frozen? ⟨g, 2, none⟩ = false := HZ2.out.2.1.free 2
      have f3 : w4.frozen? ⟨g, 3, none⟩ = false := HZ2.out.2.1.free 3
      go_region_held3 (fun w' => w'.cell? ⟨g + 1, 5, none⟩ = some (.int .u8 x0) ∧ w'.cell? ⟨g + 1, 6, none⟩ = some (.int .u8 x1) ∧ w'.cell? ⟨g + 1, 7, none⟩ = some (.int .u8 x2) ∧ w'.cell? ⟨g + 1, 8, none⟩ = some (.int .u8 x3)) (first | exact ⟨b0, b1, b2, b3⟩ | (simp only [far_cell n0, drew_cell]; exact ⟨b0, b1, b2, b3⟩)) (first | fail)
      all_goals
        have HF : Hid (SObj ((((w4.setCell ⟨g, 0, none⟩ (.int .u8 x0)).setCell ⟨g, 1, none⟩ (.int .u8 x1)).setCell ⟨g, 2, none⟩ (.int .u8 x2)).setCell ⟨g, 3, none⟩ (.int .u8 x3)).drew g 55 [.int .u8 x0, .int .u8 x1, .int .u8 x2, .int .u8 x3] ∧ Only (fun k => k = g) w4 ((((w4.setCell ⟨g, 0, none⟩ (.int .u8 x0)).setCell ⟨g, 1, none⟩ (.int .u8 x1)).setCell ⟨g, 2, none⟩ (.int .u8 x2)).setCell ⟨g, 3, none⟩ (.int .u8 x3)).drew) := Lib.hid ⟨((((HZ2.out.2.1.set 0 _).set 1 _).set 2 _).set 3 _), ((((Only.setCell (S := fun k => k = g) w4 _ _ rfl).tr (Only.setCell _ _ _ rfl)).tr (Only.setCell _ _ _ rfl)).tr (Only.setCell _ _ _ rfl)).dr⟩
        generalize World.drew _ = wf at HF ⊢
        go_wp2
        refine bodyPost_ret (v := .tuple #[.agg #[.int .u8 x0, .int .u8 x1, .int .u8 x2, .int .u8 x3], .pointer (some ⟨g + 1, 0, none⟩), .nilIface]) ?_ rfl ?_
        · exact results_c2 Tryd.results24 rfl (load_four HF.out.1)
        · have e := HB2.out
          have ho : Only (fun k => w.heap.size ≤ k) w3 wf := (HZ2.out.2.2.mono (fun k hk => by show w.heap.size ≤ k; omega)).tr (HF.out.2.mono (fun k hk => by show w.heap.size ≤ k; omega))
          have hge : ∀ M ∈ Ls, M.z < w.heap.size ∧ M.c < w.heap.size := fun M hM => by
            obtain ⟨_, _, ⟨c1, f1, g1⟩, ⟨c2, f2, g2⟩⟩ := HX.out.2.2.ge M hM
            exact ⟨(Array.getElem?_eq_some_iff.1 g1).1, (Array.getElem?_eq_some_iff.1 g2).1⟩
          have hbp : bp < w.heap.size := by obtain ⟨_, _, _, o, _⟩ := HX.out.2.1; exact SObj.lt o
          have hB := HX.out.1.1.lt
          refine ⟨4, by rw [if_neg h4]; exact H3.out.1, H3.out.2.1.only ho (fun k hk => by have : w.heap.size ≤ k := hk; omega) (by show ¬ w.heap.size ≤ bp; omega), H3.out.2.2.1.only ho (fun M hM => ?_), ?_, ?_⟩
          · obtain ⟨M', hM', rfl⟩ := List.mem_map.1 hM
            have := hge M' hM'
            exact ⟨by show ¬ w.heap.size ≤ M'.z; omega, by show ¬ w.heap.size ≤ M'.c; omega⟩
          · exact H3.out.2.2.2.2.1.trans ho (fun k hk _ h => by have : w.heap.size ≤ k := h; omega)
          · rw [if_neg (by omega)]
            refine ⟨g + 1, [.int .u8 x0, .int .u8 x1, .int .u8 x2, .int .u8 x3, .int .u8 0, .int .u8 0, .int .u8 0, .int .u8 0], rfl, by rw [← HXE.out.1, ← HXE.out.2.1, ← HXE.out.2.2.1, ← HXE.out.2.2.2], by omega, ?_⟩
            have := HZ2.out.1.only HF.out.2 (fun e => by omega)
            rw [HV.out, zC, show ((len - 4 : Nat) : Int) = (len : Int) - 4 by omega]
            exact this
    · have HK : Hid (K < 4 ∧ rfE E U 4 K = if K = 0 then errV E else errV U) := Lib.hid ⟨by omega, by unfold rfE errV; rw [if_neg hk]⟩
      rw [HK.out.2]
      have e := HB2.out
      have nS : g ≠ 3 := by have := HX.out.1.2.s.gb; have := HX.out.1.1.lt; omega
      have kE := H3.out.2.2.2.2.2.1.2.e.var
      have kU := H3.out.2.2.2.2.2.1.2.u.var
      have kS := H3.out.2.2.2.2.2.1.2.s.var
      have q1 := eql_err E w3
      have q2 := eql_err U w3
      have q3 := H3.out.2.2.2.2.2.1.2.u.eql H3.out.2.2.2.2.2.1.2.e (by decide)
      have c0 : w3.cell? ⟨g, 0, none⟩ = some (.int .u8 0) := H3.out.2.2.2.2.2.2.cell 0 rfl
      have c1 : w3.cell? ⟨g, 1, none⟩ = some (.int .u8 0) := H3.out.2.2.2.2.2.2.cell 1 rfl
      have c2 : w3.cell? ⟨g, 2, none⟩ = some (.int .u8 0) := H3.out.2.2.2.2.2.2.cell 2 rfl
      have c3 : w3.cell? ⟨g, 3, none⟩ = some (.int .u8 0) := H3.out.2.2.2.2.2.2.cell 3 rfl
      have f0 : w3.frozen? ⟨g, 0, none⟩ = false := H3.out.2.2.2.2.2.2.free 0
      have f1 : w3.frozen? ⟨g, 1, none⟩ = false := H3.out.2.2.2.2.2.2.free 1
      have f2 : w3.frozen? ⟨g, 2, none⟩ = false := H3.out.2.2.2.2.2.2.free 2
      have f3 : w3.frozen? ⟨g, 3, none⟩ = false := H3.out.2.2.2.2.2.2.free 3
      have HFIN : Hid (∀ wf, SObj wf g 55 [.int .u8 0, .int .u8 0, .int .u8 0, .int .u8 0] → Only (fun k => k = g) w3 wf → NLP B w bp ca cn cc N Ls rest len S (.returned (.tuple #[.agg #[.int .u8 0, .int .u8 0, .int .u8 0, .int .u8 0], .pointer none, errV S])) wf) := Lib.hid (fun wf h1 ho => by
        have hbp : bp < w.heap.size := by obtain ⟨_, _, _, o, _⟩ := HX.out.2.1; exact SObj.lt o
        have hB := HX.out.1.1.lt
        refine ⟨K, by rw [if_neg h4]; exact H3.out.1, H3.out.2.1.only ho (fun k hk => by omega) (by omega), H3.out.2.2.1.only ho (fun M hM => ?_), H3.out.2.2.2.2.1.trans ho (fun k hk _ h => by omega), ?_⟩
        · obtain ⟨M', hM', rfl⟩ := List.mem_map.1 hM
          have := HAP.out.2.2.2.2 M' hM'
          exact ⟨fun e => this.1 e.symm, fun e => this.2 e.symm⟩
        · rw [if_pos (.inr HK.out.1)])
      clear e hk
      by_cases hk0 : K = 0
      · rw [if_pos hk0]
        clear hk0
        unfold errV
        go_wp2
        refine bodyPost_ret (v := .tuple #[.agg #[.int .u8 0, .int .u8 0, .int .u8 0, .int .u8 0], .pointer none, errV S]) ?_ rfl (HFIN.out _ (((H3.out.2.2.2.2.2.2.set 0 _).set 1 _).set 2 _ |>.set 3 _) ((((Only.setCell (S := fun k => k = g) w3 _ _ rfl).tr (Only.setCell _ _ _ rfl)).tr (Only.setCell _ _ _ rfl)).tr (Only.setCell _ _ _ rfl)))
        exact results_c2 Tryd.results24 rfl (load_four (((H3.out.2.2.2.2.2.2.set 0 _).set 1 _).set 2 _ |>.set 3 _))
      · rw [if_neg hk0]
        clear hk0
        unfold errV
        go_wp2
        refine bodyPost_ret (v := .tuple #[.agg #[.int .u8 0, .int .u8 0, .int .u8 0, .int .u8 0], .pointer none, errV S]) ?_ rfl (HFIN.out _ (((H3.out.2.2.2.2.2.2.set 0 _).set 1 _).set 2 _ |>.set 3 _) ((((Only.setCell (S := fun k => k = g) w3 _ _ rfl).tr (Only.setCell _ _ _ rfl)).tr (Only.setCell _ _ _ rfl)).tr (Only.setCell _ _ _ rfl)))
        exact results_c2 Tryd.results24 rfl (load_four (((H3.out.2.2.2.2.2.2.set 0 _).set 1 _).set 2 _ |>.set 3 _))
end Go.Proofs.YthipghkhdlnfiaaDoor
