/- impl's Riff: the walk. -/
import Derived.Test.YthipghkhdlnfiaaDoorRfN
import Derived.Test.YthipghkhdlnfiaaDoorRfH
import Derived.Test.YthipghkhdlnfiaaDoorRfQ
import Derived.Deep.LoopGhost
namespace Go.Proofs.YthipghkhdlnfiaaDoor
open Go.RowKit
set_option linter.unusedVariables false
set_option linter.unusedSimpArgs false

/-- Chunks in a row of the call's own. -/
def OutM (B : Nat) (w : World) (ov : Value) (l : List Ck) : Prop := ∃ ds, w.ownsRow B 43 7 ov l.length (ckCells l ds) ∧ Datas w B l ds
def KindM (B : Nat) (w : World) (kv : Value) (l : List Nat) : Prop := w.ownsRow B 3 1 kv l.length (l.map fun k => Value.int .i64 (k : Nat))
/-- What Riff tells, and leaves. -/
def RiffP (B : Nat) (w : World) (bs : List Int) (ps : List (Int × Int)) (e : Ending) (w' : World) : Prop :=
  ∃ ov kv, e = .returned (.tuple #[(if okHead bs then four4 bs 8 else zero4), ov, kv]) ∧ OutM B w' ov (riffM bs ps).1 ∧ KindM B w' kv (riffM bs ps).2 ∧ Below B w w'
/-- The steps as they come in: two integers each. -/
def Steps (w : World) (a : Option Addr) (ps : List (Int × Int)) : Prop := 0 < ps.length → ∃ g o, a = some ⟨g, o, none⟩ ∧ g < w.heap.size ∧ ∀ i, i < ps.length → w.cell? ⟨g, o + i * 2, none⟩ = some (.int .i64 (ps.getD i (0, 0)).1) ∧ w.cell? ⟨g, o + i * 2 + 1, none⟩ = some (.int .i64 (ps.getD i (0, 0)).2)
def ckZero : Value := .agg #[.int .u8 0, .int .u8 0, .int .u8 0, .int .u8 0, .int .i64 0, .slice none 0 0, .int .i64 0]
theorem ckZero_size : ckZero.cells.size = 7 := by simp [ckZero, Value.cells]
def ptZero : Value := .agg #[.pointer none, .nilIface]
theorem ptZero_size : ptZero.cells.size = 2 := by simp [ptZero, Value.cells]
theorem take_one (ps : List (Int × Int)) (i : Nat) (h : i < ps.length) : ps.take (i + 1) = ps.take i ++ [((ps.getD i (0, 0)).1, (ps.getD i (0, 0)).2)] := by
  rw [List.take_succ_eq_append_getElem h]
  have e : ps.getD i (0, 0) = ps[i] := by simp [List.getD, List.getElem?_eq_getElem h]
  rw [e]
theorem below3 {w w7 : World} {a b c : Addr} {x y z : Value} (h : Below w.drew.heap.size w.drew w7) (ha : w.cell? a = some x) (hb : w.cell? b = some y) (hc : w.cell? c = some z) : w7.cell? a = some x ∧ w7.cell? b = some y ∧ w7.cell? c = some z := by
  have hl : ∀ (p : Addr) (v : Value), w.cell? p = some v → w7.cell? p = some v := fun p v hv => by
    have hs := World.block_lt_of_cell? w p hv
    rw [World.cell?_of_block (w := w.drew) (h.block p.block hs)]; exact hv
  exact ⟨hl _ _ ha, hl _ _ hb, hl _ _ hc⟩
theorem ixw (m N : Nat) (h : m ≤ 1099511627776) (hN : N ≤ 16777216) : IntKind.i64.wrap (((m + 1 : Nat) : Int) - 1) = (m : Int) ∧ IntKind.i64.wrap ((m : Int) + 1 - 1) = (m : Int) ∧ IntKind.i64.wrap (m : Int) = (m : Int) ∧ IntKind.i64.wrap ((N : Int) + 1) = (N : Int) + 1 ∧ (0 : Int) ≤ (m : Int) ∧ (m : Int) < (m : Int) + 1 ∧ (m : Int).toNat = m := by
  refine ⟨?_, ?_, IntWalk.i64_in _ (by omega), IntWalk.i64_in _ (by omega), by omega, by omega, by omega⟩
  · rw [IntWalk.i64_in _ (by omega)]; omega
  · rw [IntWalk.i64_in _ (by omega)]; omega
theorem only4 (w : World) (b : Nat) (x0 x1 x2 x3 : Value) : Only (fun j => j = b) w ((((w.setCell ⟨b, 0, none⟩ x0).setCell ⟨b, 1, none⟩ x1).setCell ⟨b, 2, none⟩ x2).setCell ⟨b, 3, none⟩ x3) :=
  (((Only.setCell (S := fun j => j = b) w _ _ rfl).tr (Only.setCell _ _ _ rfl)).tr (Only.setCell _ _ _ rfl)).tr (Only.setCell _ _ _ rfl)
theorem ix_last (g m ln oc : Nat) (h : ln = m + 1) (hm : m ≤ 1099511627776) (w : World) : (Instr.indexAt 27 (.slice (some ⟨g, 0, none⟩) ln oc) (.int .i64 (IntKind.i64.wrap ((ln : Int) - 1)))).run Tryd.prog w = .ok (.pointer (some ⟨g, m * 7, none⟩)) w := by
  rw [show IntKind.i64.wrap ((ln : Int) - 1) = (m : Int) from by rw [IntWalk.i64_in _ (by omega)]; omega]
  subst h
  have h0 : (0 : Int) ≤ (m : Int) := by omega
  have h1 : ¬ ((m : Int) + 1 ≤ (m : Int)) := by omega
  go_simp
theorem news_new (w : World) (T : TypeId) (vs : List Value) : ∀ j u, vs[j]? = some u → (w.alloc (.cells vs.toArray T)).cell? ((⟨w.heap.size, 0, none⟩ : Addr).add j) = some u := fun j u h => by
  rw [Addr.add_lit, Nat.zero_add]; exact (obj_new w T vs).cell j h
/-- What holds behind the step itself. -/
def SwP (c : Cx) (N : Nat) (st : St) (p : Int × Int) (w : World) (B fb : Nat) (x0 x1 x2 x3 : Int) (kv av ov : Value) (k : Nat) (wx : World) : Prop :=
  k = (opM N st p).2 ∧ ∃ Ls z ev r cr buf dv ds, RM c wx (opM N st p).1 Ls z ev r cr buf dv av ov kv ds ∧ Only (fun k => B ≤ k) w wx ∧ SObj wx fb 55 [.int .u8 x0, .int .u8 x1, .int .u8 x2, .int .u8 x3] ∧ SObj wx B 26 [.int .u8 0, .int .u8 0, .int .u8 0, .int .u8 0]

set_option maxRecDepth 100000 in
set_option maxHeartbeats 8000000 in
theorem riff_any (w : World) (a : Option Addr) (cap : Nat) (bs : List Int) (ca : Option Addr) (cn cc : Nat) (cz : Nat → Int) (sa : Option Addr) (sc : Nat) (ps : List (Int × Int)) (E U M S L P H : Addr)
    (he : Env w.heap.size w ca cn cc bs.length cz E U M S L P H) (hb : Arg .u8 w a bs.length (fun i => bs.getD i 0)) (hby : By bs) (h40 : bs.length ≤ 16777216) (hcap : bs.length ≤ cap) (hcap2 : cap ≤ 9223372036854775807)
    (hs : Steps w sa ps) (hsl : ps.length ≤ 1099511627776) (hsw : ∀ i, -9223372036854775808 ≤ (ps.getD i (0, 0)).1 ∧ (ps.getD i (0, 0)).1 ≤ 9223372036854775807 ∧ -9223372036854775808 ≤ (ps.getD i (0, 0)).2 ∧ (ps.getD i (0, 0)).2 ≤ 9223372036854775807) :
    Calls Tryd.prog 8 #[.slice a bs.length cap, .slice ca cn cc, .slice sa ps.length sc] w (RiffP w.heap.size w bs ps) := by
  obtain ⟨B, hB⟩ : ∃ B, B = w.heap.size := ⟨_, rfl⟩
  rw [← hB] at he ⊢
  have HX := Lib.hid (And.intro he (And.intro hb (And.intro hby (And.intro hs (And.intro hsw hB)))))
  clear he hb hby hs hsw hB
  go_enter Tryd.func8, Tryd.ntmps8
  go_wp2_with fail
  have H0 : Hid (SObj ((w.alloc (.cells #[.int .u8 0, .int .u8 0, .int .u8 0, .int .u8 0] 26)).alloc (.cells #[.slice a bs.length cap, .slice ca cn cc, .int .i64 0] 63)) w.heap.size 26 [.int .u8 0, .int .u8 0, .int .u8 0, .int .u8 0] ∧ SObj ((w.alloc (.cells #[.int .u8 0, .int .u8 0, .int .u8 0, .int .u8 0] 26)).alloc (.cells #[.slice a bs.length cap, .slice ca cn cc, .int .i64 0] 63)) (w.heap.size + 1) 63 [.slice a bs.length cap, .slice ca cn cc, .int .i64 0] ∧ Only (fun _ => False) w ((w.alloc (.cells #[.int .u8 0, .int .u8 0, .int .u8 0, .int .u8 0] 26)).alloc (.cells #[.slice a bs.length cap, .slice ca cn cc, .int .i64 0] 63))) := Lib.hid (by
    refine ⟨(obj_new w _ [.int .u8 0, .int .u8 0, .int .u8 0, .int .u8 0]).alloc _, ?_, (Only.alloc _ _ _).tr (Only.alloc _ _ _)⟩
    have := obj_new (w.alloc (.cells #[.int .u8 0, .int .u8 0, .int .u8 0, .int .u8 0] 26)) 63 [.slice a bs.length cap, .slice ca cn cc, .int .i64 0]
    rw [show (w.alloc (.cells #[.int .u8 0, .int .u8 0, .int .u8 0, .int .u8 0] 26)).heap.size = w.heap.size + 1 by simp] at this
    exact this)
  rw [← HX.out.2.2.2.2.2] at H0 ⊢
  generalize World.alloc _ _ = w0 at H0 ⊢
  have HP : Hid (Pcs B w0 (B + 1) ca cn cc bs.length bs ∧ Env B w0 ca cn cc bs.length cz E U M S L P H ∧ Only (fun k => B ≤ k) w w0) := Lib.hid (by
    obtain ⟨h1, h2, h3, h4, h5, h6⟩ := HX.out
    refine ⟨⟨a, cap, 0, H0.out.2.1, h2.only H0.out.2.2 (fun _ _ _ h => h), fun h0 p hp => ?_, hcap, hcap2, by omega, by omega⟩, h1.only H0.out.2.2 (fun _ h => h.elim), H0.out.2.2.mono (fun _ h => h.elim)⟩
    obtain ⟨g, o, h7, h8, _⟩ := h2 h0
    rw [h7] at hp; injection hp with hp
    rw [← hp, h6]; exact h8)
  refine (newReader_any B (B + 1) ca cn cc bs.length cz E U M S L P H (by omega) bs HX.out.2.2.1 w0 HP.out.2.1 HP.out.1).mono ?_
  rintro e w2 ⟨ho2, h2 | h2⟩
  · obtain ⟨hbad, er, ⟨gg, t, hsn, hst⟩, rfl⟩ := h2
    have H2 := Lib.hid (And.intro ho2 (And.intro hbad (And.intro hsn hst)))
    clear ho2 hbad hsn hst
    unfold zero4 errV
    go_wp2_with fail
    have H3 : Hid (Only (fun k => k = B + 1) w0 (w2.alloc (.cells #[.int .u8 0, .int .u8 0, .int .u8 0, .int .u8 0] 55)) ∧ SObj (w2.alloc (.cells #[.int .u8 0, .int .u8 0, .int .u8 0, .int .u8 0] 55)) w2.heap.size 55 [.int .u8 0, .int .u8 0, .int .u8 0, .int .u8 0] ∧ Snt B (w2.alloc (.cells #[.int .u8 0, .int .u8 0, .int .u8 0, .int .u8 0] 55)) gg er t ∧ B < w2.heap.size) := Lib.hid (by
      have hlt := HP.out.2.1.1.lt
      have h1 := H2.out.1.size
      have h0 := H0.out.2.1.lt
      exact ⟨H2.out.1.tr (Only.alloc _ _ _), obj_new w2 _ [.int .u8 0, .int .u8 0, .int .u8 0, .int .u8 0], H2.out.2.2.1.only (by omega) (Only.alloc (fun _ => False) _ _) (fun _ h => h.elim), by omega⟩)
    obtain ⟨fb, hfb⟩ : ∃ x, x = w2.heap.size := ⟨_, rfl⟩
    rw [← hfb] at H3 ⊢
    clear hfb
    generalize World.alloc _ _ = w3 at H3 ⊢
    have HE3 : Hid (Env B w3 ca cn cc bs.length cz E U M S L P H ∧ SObj w3 B 26 [.int .u8 0, .int .u8 0, .int .u8 0, .int .u8 0]) := Lib.hid ⟨HP.out.2.1.only H3.out.1 (fun k hk => by omega), H0.out.1.only H3.out.1 (by omega)⟩
    refine (kindOf_other B E er gg t w3 HE3.out.1.2.e H3.out.2.2.1 H2.out.2.2.2).mono ?_
    rintro _ w4 ⟨rfl, rfl⟩
    have c0 : w3.cell? ⟨fb, 0, none⟩ = some (.int .u8 0) := H3.out.2.1.cell 0 rfl
    have c1 : w3.cell? ⟨fb, 1, none⟩ = some (.int .u8 0) := H3.out.2.1.cell 1 rfl
    have c2 : w3.cell? ⟨fb, 2, none⟩ = some (.int .u8 0) := H3.out.2.1.cell 2 rfl
    have c3 : w3.cell? ⟨fb, 3, none⟩ = some (.int .u8 0) := H3.out.2.1.cell 3 rfl
    have d0 : w3.cell? ⟨B, 0, none⟩ = some (.int .u8 0) := HE3.out.2.cell 0 rfl
    have d1 : w3.cell? ⟨B, 1, none⟩ = some (.int .u8 0) := HE3.out.2.cell 1 rfl
    have d2 : w3.cell? ⟨B, 2, none⟩ = some (.int .u8 0) := HE3.out.2.cell 2 rfl
    have d3 : w3.cell? ⟨B, 3, none⟩ = some (.int .u8 0) := HE3.out.2.cell 3 rfl
    have f0 : w3.frozen? ⟨B, 0, none⟩ = false := HE3.out.2.free 0
    have f1 : w3.frozen? ⟨B, 1, none⟩ = false := HE3.out.2.free 1
    have f2 : w3.frozen? ⟨B, 2, none⟩ = false := HE3.out.2.free 2
    have f3 : w3.frozen? ⟨B, 3, none⟩ = false := HE3.out.2.free 3
    have l1 : fb < w3.heap.size := H3.out.2.1.lt
    have l2 : B < w3.heap.size := HE3.out.2.lt
    have HW : Hid (SObj ((((((w3.setCell ⟨B, 0, none⟩ (.int .u8 0)).setCell ⟨B, 1, none⟩ (.int .u8 0)).setCell ⟨B, 2, none⟩ (.int .u8 0)).setCell ⟨B, 3, none⟩ (.int .u8 0)).alloc (.cells #[.int .i64 2] 3)).alloc (.cells #[.int .i64 2] 3)) B 26 [.int .u8 0, .int .u8 0, .int .u8 0, .int .u8 0] ∧ SObj ((((((w3.setCell ⟨B, 0, none⟩ (.int .u8 0)).setCell ⟨B, 1, none⟩ (.int .u8 0)).setCell ⟨B, 2, none⟩ (.int .u8 0)).setCell ⟨B, 3, none⟩ (.int .u8 0)).alloc (.cells #[.int .i64 2] 3)).alloc (.cells #[.int .i64 2] 3)) (w3.heap.size + 1) 3 [.int .i64 2] ∧ Only (fun k => k = B) w3 ((((((w3.setCell ⟨B, 0, none⟩ (.int .u8 0)).setCell ⟨B, 1, none⟩ (.int .u8 0)).setCell ⟨B, 2, none⟩ (.int .u8 0)).setCell ⟨B, 3, none⟩ (.int .u8 0)).alloc (.cells #[.int .i64 2] 3)).alloc (.cells #[.int .i64 2] 3))) := Lib.hid (by
      refine ⟨((((((HE3.out.2.set 0 (.int .u8 0)).set 1 (.int .u8 0)).set 2 (.int .u8 0)).set 3 (.int .u8 0)).alloc _).alloc _), ?_, ((((((Only.setCell (S := fun k => k = B) w3 _ _ rfl).tr (Only.setCell _ _ _ rfl)).tr (Only.setCell _ _ _ rfl)).tr (Only.setCell _ _ _ rfl)).tr (Only.alloc _ _ _)).tr (Only.alloc _ _ _))⟩
      have := obj_new (((((w3.setCell ⟨B, 0, none⟩ (.int .u8 0)).setCell ⟨B, 1, none⟩ (.int .u8 0)).setCell ⟨B, 2, none⟩ (.int .u8 0)).setCell ⟨B, 3, none⟩ (.int .u8 0)).alloc (.cells #[.int .i64 2] 3)) 3 [.int .i64 2]
      rw [show (((((w3.setCell ⟨B, 0, none⟩ (.int .u8 0)).setCell ⟨B, 1, none⟩ (.int .u8 0)).setCell ⟨B, 2, none⟩ (.int .u8 0)).setCell ⟨B, 3, none⟩ (.int .u8 0)).alloc (.cells #[.int .i64 2] 3)).heap.size = w3.heap.size + 1 by simp] at this
      exact this)
    go_wp2
    generalize World.alloc (World.alloc _ _) _ = w5 at HW ⊢
    refine bodyPost_ret (v := .tuple #[.agg #[.int .u8 0, .int .u8 0, .int .u8 0, .int .u8 0], .slice none 0 0, .slice (some ⟨w3.heap.size + 1, 0, none⟩) 1 1]) ?_ rfl ?_
    · exact results_c2 Tryd.results8 rfl (load_form HW.out.1)
    · have hr : riffM bs ps = ([], [2]) := by unfold riffM; rw [H2.out.2.1]; rfl
      have hbw : B = w.heap.size := HX.out.2.2.2.2.2
      refine ⟨.slice none 0 0, .slice (some ⟨w3.heap.size + 1, 0, none⟩) 1 1, ?_, ⟨[], ?_, ?_⟩, ?_, ?_⟩
      · rw [H2.out.2.1]; rfl
      · rw [hr]; exact World.ownsRow_nil _ _ _ _
      · rw [hr]; trivial
      · rw [hr]
        exact own_of_block (by omega) HW.out.2.1 (Nat.le_refl _) (by unfold maxLen; omega) rfl rfl rfl
      · exact (((HP.out.2.2.tr (H3.out.1.mono (fun k hk => by show B ≤ k; omega))).tr (HW.out.2.2.mono (fun k hk => by show B ≤ k; omega)))).below (by omega) (fun k hk => hk)
  · obtain ⟨hok, z, buf, hb8, rfl, hz, hpc, hzo⟩ := h2
    have H2 := Lib.hid (And.intro ho2 (And.intro hok (And.intro hb8 (And.intro hz (And.intro hpc hzo)))))
    clear ho2 hok hb8 hz hpc hzo
    unfold four4
    obtain ⟨x0, hx0⟩ : ∃ x, x = bs.getD 8 0 := ⟨_, rfl⟩
    obtain ⟨x1, hx1⟩ : ∃ x, x = bs.getD (8 + 1) 0 := ⟨_, rfl⟩
    obtain ⟨x2, hx2⟩ : ∃ x, x = bs.getD (8 + 2) 0 := ⟨_, rfl⟩
    obtain ⟨x3, hx3⟩ : ∃ x, x = bs.getD (8 + 3) 0 := ⟨_, rfl⟩
    rw [← hx0, ← hx1, ← hx2, ← hx3]
    have HXX := Lib.hid (And.intro hx0 (And.intro hx1 (And.intro hx2 hx3)))
    clear hx0 hx1 hx2 hx3
    go_wp2_with fail
    have H3 : Hid (Only (fun k => k = B + 1) w0 (w2.alloc (.cells #[.int .u8 x0, .int .u8 x1, .int .u8 x2, .int .u8 x3] 55)) ∧ SObj (w2.alloc (.cells #[.int .u8 x0, .int .u8 x1, .int .u8 x2, .int .u8 x3] 55)) w2.heap.size 55 [.int .u8 x0, .int .u8 x1, .int .u8 x2, .int .u8 x3] ∧ Pcs B (w2.alloc (.cells #[.int .u8 x0, .int .u8 x1, .int .u8 x2, .int .u8 x3] 55)) (B + 1) ca cn cc bs.length (bs.drop 12) ∧ SObj (w2.alloc (.cells #[.int .u8 x0, .int .u8 x1, .int .u8 x2, .int .u8 x3] 55)) z 89 (zC (lvV (B + 1) []) .nilIface (le32 bs 4 - 4) 0 (.pointer none) buf false) ∧ B < w2.heap.size) := Lib.hid (by
      have hlt := HP.out.2.1.1.lt
      have h1 := H2.out.1.size
      have h0 := H0.out.2.1.lt
      exact ⟨H2.out.1.tr (Only.alloc _ _ _), obj_new w2 _ [.int .u8 x0, .int .u8 x1, .int .u8 x2, .int .u8 x3], H2.out.2.2.2.2.1.only (Only.alloc (fun _ => False) _ _) (fun _ h => h.elim) (fun h => h), H2.out.2.2.2.2.2.alloc _, by omega⟩)
    obtain ⟨fb, hfb⟩ : ∃ x, x = w2.heap.size := ⟨_, rfl⟩
    rw [← hfb] at H3 ⊢
    clear hfb
    generalize World.alloc _ _ = w3 at H3 ⊢
    refine (kindOf_nil w3).mono ?_
    rintro _ w4 ⟨rfl, rfl⟩
    have H5 : Hid (SObj ((w3.alloc (.cells #[.int .i64 0] 3)).alloc (.cells #[.pointer (some ⟨z, 0, none⟩), .nilIface] 69)) w3.heap.size 3 [.int .i64 0] ∧ SObj ((w3.alloc (.cells #[.int .i64 0] 3)).alloc (.cells #[.pointer (some ⟨z, 0, none⟩), .nilIface] 69)) (w3.heap.size + 1) 69 [.pointer (some ⟨z, 0, none⟩), .nilIface] ∧ Only (fun _ => False) w3 ((w3.alloc (.cells #[.int .i64 0] 3)).alloc (.cells #[.pointer (some ⟨z, 0, none⟩), .nilIface] 69))) := Lib.hid (by
      refine ⟨(obj_new w3 3 [.int .i64 0]).alloc _, ?_, (Only.alloc _ _ _).tr (Only.alloc _ _ _)⟩
      have := obj_new (w3.alloc (.cells #[.int .i64 0] 3)) 69 [.pointer (some ⟨z, 0, none⟩), .nilIface]
      rw [show (w3.alloc (.cells #[.int .i64 0] 3)).heap.size = w3.heap.size + 1 by simp] at this
      exact this)
    go_wp2
    obtain ⟨zb, hzb⟩ : ∃ x, x = w3.heap.size + 1 := ⟨_, rfl⟩
    rw [← hzb] at H5 ⊢
    obtain ⟨kb, hkb⟩ : ∃ x, x = w3.heap.size := ⟨_, rfl⟩
    rw [← hkb] at H5 ⊢
    have HKB : Hid (zb = w3.heap.size + 1 ∧ kb = w3.heap.size) := Lib.hid ⟨hzb, hkb⟩
    clear hzb hkb
    generalize World.alloc (World.alloc _ _) _ = w5 at H5 ⊢
    obtain ⟨c, hc⟩ : ∃ c : Cx, c = ⟨B, B + 1, ca, cn, cc, bs.length, cz, E, U, M, S, L, P, H, zb⟩ := ⟨_, rfl⟩
    have HRM : Hid (RM c w5 (start bs) [] z .nilIface ⟨le32 bs 4 - 4, 0, false⟩ (.pointer none) buf .nilIface (.slice none 0 0) (.slice none 0 0) (.slice (some ⟨kb, 0, none⟩) 1 1) [] ∧ Only (fun k => B ≤ k) w w5 ∧ SObj w5 fb 55 [.int .u8 x0, .int .u8 x1, .int .u8 x2, .int .u8 x3] ∧ SObj w5 B 26 [.int .u8 0, .int .u8 0, .int .u8 0, .int .u8 0] ∧ c.B = B ∧ c.zb = zb ∧ c.N = bs.length ∧ fb ≠ B) := Lib.hid (by
      obtain ⟨h1, h2, h3, h4, h5⟩ := H3.out
      obtain ⟨g1, g2, g3⟩ := H5.out
      obtain ⟨k1, k2⟩ := HKB.out
      have hf : ∀ k, (fun _ : Nat => False) k → B ≤ k := fun _ h => h.elim
      have hbw : B = w.heap.size := HX.out.2.2.2.2.2
      have hl := le32_lt HX.out.2.2.1 4
      have hB3 : B < w3.heap.size := by have := h2.lt; have := H0.out.2.1.lt; have := h1.size; omega
      have ho5 : Only (fun k => B ≤ k) w w5 := (HP.out.2.2.tr (h1.mono (fun k hk => by show B ≤ k; omega))).tr (g3.mono (fun _ h => h.elim))
      have hzz : w0.heap.size ≤ z := H2.out.2.2.2.1
      have h0s := H0.out.2.1.lt
      subst hc
      refine ⟨⟨?_, by show B ≤ B + 1; omega, HX.out.2.2.1.drop 12, by show (bs.drop 12).length ≤ _; rw [List.length_drop]; omega, h3.only g3 hf (fun h => h), trivial, rfl, h4.only g3 (fun h => h), H2.out.2.2.1, by show B ≤ z; omega, (fun _ hq => by cases hq), g2, by show B ≤ zb; omega, ?_, (fun h => absurd rfl h), (fun _ => rfl), (fun h => by cases h), World.ownsRow_nil _ _ _ _, World.ownsRow_nil _ _ _ _, trivial, ?_, (fun _ h => by cases h), (fun _ h => by cases h)⟩, ho5, h2.only g3 (fun h => h), (H0.out.1.only h1 (by omega)).only g3 (fun h => h), rfl, rfl, rfl, ?_⟩
      · exact HX.out.1.only ho5 (fun k hk => hk)
      · intro _
        exact ⟨rfl, rfl, Nat.zero_le _, by show le32 bs 4 - 4 < _; omega, fun h => absurd h (Nat.lt_irrefl 0)⟩
      · exact own_of_block (by show B ≤ kb; omega) g1 (Nat.le_refl _) (by unfold maxLen; omega) rfl rfl rfl
      · intro e
        have t1 := h2.ty
        rw [e] at t1
        exact absurd (t1.inj (H0.out.1.only h1 (by omega)).ty) (by decide))
    have HC := Lib.hid hc
    clear hc
    have hN : (0 : Int) ≤ (bs.length : Int) + 1 := by omega
    go_loopg [12, 13, 14, 47] (ps.length + 1) (fun g s12 s13 s14 s47 wr => ∃ i : Nat, i ≤ ps.length ∧ ps.length - i + 1 ≤ g ∧ s47 = .int .i64 i ∧ Hid (∃ Ls z ev r cr buf dv ds, RM c wr (runM bs.length (start bs) (ps.take i)) Ls z ev r cr buf dv s14 s13 s12 ds ∧ Only (fun k => B ≤ k) w wr ∧ SObj wr fb 55 [.int .u8 x0, .int .u8 x1, .int .u8 x2, .int .u8 x3] ∧ SObj wr B 26 [.int .u8 0, .int .u8 0, .int .u8 0, .int .u8 0]))
    case atStart =>
      exact ⟨0, by omega, by omega, rfl, Lib.hid ⟨[], z, _, _, _, buf, _, [], HRM.out.1, HRM.out.2.1, HRM.out.2.2.1, HRM.out.2.2.2.1⟩⟩
    case round =>
      obtain ⟨i, hi, hgk, rfl, HR⟩ := hrel
      have HG := Lib.hid hgk; clear hgk
      obtain ⟨Ls, z1, ev, r, cr, buf1, dv, ds, hrm, hon, hfo, hfb⟩ := HR.out
      have HM := Lib.hid (And.intro hrm (And.intro hon (And.intro hfo hfb)))
      clear hrm hon hfo hfb HR
      obtain ⟨st, hst⟩ : ∃ st, st = runM bs.length (start bs) (ps.take i) := ⟨_, rfl⟩
      rw [← hst] at HM
      have HST := Lib.hid hst; clear hst
      obtain ⟨aa, ac, hav⟩ := row_shape HM.out.1.ar
      obtain ⟨oa, oc, hov⟩ := row_shape HM.out.1.ou
      obtain ⟨ka, kc, hkv⟩ := row_shape HM.out.1.ki
      subst hav hov hkv
      have HNL : Hid (Ls.length ≤ 1099511627776 ∧ st.out.length ≤ 1099511627776 ∧ st.kinds.length ≤ 1099511627777) := Lib.hid (by
        have b := runM_bounds bs.length (ps.take i) (start bs)
        rw [← HST.out, List.length_take] at b
        have e : Ls.length = st.outer.length := by rw [← HM.out.1.sr, List.length_map]
        have k0 : (start bs).kinds.length = 1 := rfl
        have k1 : (start bs).out.length = 0 := rfl
        have k2 : (start bs).outer.length = 0 := rfl
        omega)
      by_cases hlt : i < ps.length
      · have hd1 : decide ((i : Int) < (ps.length : Int)) = true := decide_eq_true (by omega)
        obtain ⟨op, hop⟩ : ∃ x, x = (ps.getD i (0, 0)).1 := ⟨_, rfl⟩
        obtain ⟨n, hn⟩ : ∃ x, x = (ps.getD i (0, 0)).2 := ⟨_, rfl⟩
        have hw := HX.out.2.2.2.2.1 i
        rw [← hop, ← hn] at hw
        obtain ⟨hw1, hw2, hw3, hw4⟩ := hw
        obtain ⟨sb, so, hsa, hsb, hsc⟩ := HX.out.2.2.2.1 (by omega)
        obtain ⟨hc1, hc2⟩ := hsc i hlt
        rw [← hop] at hc1
        rw [← hn] at hc2
        have q1 : wr.cell? ⟨sb, so + i * 2, none⟩ = some (.int .i64 op) := by
          rw [World.cell?_of_block (w := w) (HM.out.2.1.block sb hsb (by have := HX.out.2.2.2.2.2; show ¬ B ≤ sb; omega))]; exact hc1
        have q2 : wr.cell? ⟨sb, so + i * 2 + 1, none⟩ = some (.int .i64 n) := by
          rw [World.cell?_of_block (w := w) (HM.out.2.1.block sb hsb (by have := HX.out.2.2.2.2.2; show ¬ B ≤ sb; omega))]; exact hc2
        have HOP := Lib.hid (And.intro hop hn)
        clear hop hn hc1 hc2 hsc hsb
        subst hsa
        have H6 : Hid (RM c (wr.alloc (.cells #[.int .i64 op, .int .i64 n] 34)) st Ls z1 ev r cr buf1 dv (.slice aa Ls.length ac) (.slice oa st.out.length oc) (.slice ka st.kinds.length kc) ds ∧ SObj (wr.alloc (.cells #[.int .i64 op, .int .i64 n] 34)) wr.heap.size 34 [.int .i64 op, .int .i64 n] ∧ Only (fun k => B ≤ k) w (wr.alloc (.cells #[.int .i64 op, .int .i64 n] 34)) ∧ SObj (wr.alloc (.cells #[.int .i64 op, .int .i64 n] 34)) fb 55 [.int .u8 x0, .int .u8 x1, .int .u8 x2, .int .u8 x3] ∧ SObj (wr.alloc (.cells #[.int .i64 op, .int .i64 n] 34)) B 26 [.int .u8 0, .int .u8 0, .int .u8 0, .int .u8 0]) := Lib.hid ⟨HM.out.1.keep (es := []) (Only.alloc (fun _ => False) _ _) (fun _ h => h.elim) (fun _ h => h.elim) (by simp), obj_new wr 34 [.int .i64 op, .int .i64 n], HM.out.2.1.tr (Only.alloc _ _ _), HM.out.2.2.1.alloc _, HM.out.2.2.2.alloc _⟩
        go_upto_block 2 with fail
        obtain ⟨tb, htb⟩ : ∃ x, x = wr.heap.size := ⟨_, rfl⟩
        rw [← htb] at H6 ⊢
        clear htb
        generalize World.alloc _ _ = w6 at H6 ⊢
        clear q1 q2
        go_cut [13, 14, 18] from 51 to 151 (fun s13 s14 s18 wx => ∃ k : Nat, s18 = .int .i64 k ∧ Hid (SwP c bs.length st (op, n) w B fb x0 x1 x2 x3 (.slice ka st.kinds.length kc) s14 s13 k wx))
        case first =>
          have HCZ : Hid (c.zb = zb ∧ c.B = B ∧ c.N = bs.length ∧ B ≤ zb) := Lib.hid ⟨HRM.out.2.2.2.2.2.1, HRM.out.2.2.2.2.1, HRM.out.2.2.2.2.2.2.1, by have := H6.out.1.zB; rw [HRM.out.2.2.2.2.2.1, HRM.out.2.2.2.2.1] at this; exact this⟩
          have kt0 : w6.cell? ⟨tb, 0, none⟩ = some (.int .i64 op) := H6.out.2.1.cell 0 rfl
          have kt1 : w6.cell? ⟨tb, 1, none⟩ = some (.int .i64 n) := H6.out.2.1.cell 1 rfl
          have kz0 : w6.cell? ⟨zb, 0, none⟩ = some (.pointer (some ⟨z1, 0, none⟩)) := by have := H6.out.1.nv.cell 0 rfl; rwa [HCZ.out.1] at this
          have kz1 : w6.cell? ⟨zb, 1, none⟩ = some dv := by have := H6.out.1.nv.cell 1 rfl; rwa [HCZ.out.1] at this
          have fz1 : w6.frozen? ⟨zb, 1, none⟩ = false := by have := H6.out.1.nv.free 1; rwa [HCZ.out.1] at this
          by_cases h0 : op = 0
          · subst h0
            by_cases hbad : st.bad = 0
            · skip
              have HFI := Lib.hid (H6.out.1.fine hbad)
              obtain ⟨hev, hr, _⟩ := HFI.out
              subst hev
              subst hr
              have HBAD := Lib.hid hbad
              clear hbad
              obtain ⟨o, ho⟩ : ∃ o, o = nextM st.rest st.av st.now.tot st.now.chk st.now.pad := ⟨_, rfl⟩
              have HNX : Hid (Calls Tryd.prog 22 #[.pointer (some ⟨z1, 0, none⟩)] w6 (NxP c.B w6 z1 c.bp c.ca c.cn c.cc c.N c.E Ls st.rest o)) := Lib.hid (by
                obtain ⟨_, _, f3, f4, f5⟩ := HFI.out
                have e : av Ls st.rest.length = st.av := by rw [av_rs, H6.out.1.sr]; rfl
                rw [ho, ← e]
                exact next_any c.B c.bp c.ca c.cn c.cc c.N c.cz c.E c.U c.M c.S c.L c.P c.H H6.out.1.bb Ls st.rest H6.out.1.by_ H6.out.1.r40 z1 st.now.tot st.now.chk cr buf1 st.now.pad w6 H6.out.1.env H6.out.1.pc H6.out.1.st H6.out.1.b8 H6.out.1.zo H6.out.1.bz f3 f4 H6.out.1.zl f5)
              have HO := Lib.hid ho.symm
              clear ho
              cases o with
              | bad k cns =>
                go_wp2_with fail
                refine HNX.out.mono ?_
                rintro _ w7 ⟨p1, p2, p3, er, tot', chk', cr', buf', pad', b8, hk, rfl, hzo⟩
                have HP7 := Lib.hid (And.intro p1 (And.intro p2 (And.intro p3 (And.intro b8 (And.intro hk hzo)))))
                clear p1 p2 p3 b8 hk hzo
                have HE7 : Hid (c.env w7) := Lib.hid (H6.out.1.env.only HP7.out.2.2.1 H6.out.1.geNext)
                obtain ⟨gg, t, hsn, hkk⟩ : ∃ gg t, Snt c.B w7 gg er t ∧ (k = 1 ∧ er = c.E ∨ k = 2 ∧ t ≠ sE) := by
                  rcases HP7.out.2.2.2.2.1 with ⟨k1, k2⟩ | ⟨k1, k2, gg, t, k3, k4⟩
                  · exact ⟨_, _, by rw [k2]; exact HE7.out.2.e, .inl ⟨k1, k2⟩⟩
                  · exact ⟨gg, t, k3, .inr ⟨k1, k4⟩⟩
                have HK := Lib.hid hkk
                clear hkk
                have H7 : Hid (c.env w7 ∧ Snt c.B w7 gg er t ∧ SObj w7 c.zb 69 [.pointer (some ⟨z1, 0, none⟩), dv] ∧ SObj w7 fb 55 [.int .u8 x0, .int .u8 x1, .int .u8 x2, .int .u8 x3] ∧ SObj w7 B 26 [.int .u8 0, .int .u8 0, .int .u8 0, .int .u8 0]) := Lib.hid ⟨HE7.out, hsn, H6.out.1.tyNext.sobj HP7.out.2.2.1 H6.out.1.nv (by decide), H6.out.1.tyNext.sobj HP7.out.2.2.1 H6.out.2.2.2.1 (by decide), H6.out.1.tyNext.sobj HP7.out.2.2.1 H6.out.2.2.2.2 (by decide)⟩
                clear hsn
                have HFIN : Hid (∀ (w9 : World) (k' : Nat), k = k' → (SObj w9 c.zb 69 [.pointer (some ⟨z1, 0, none⟩), .nilIface] ∧ Only (fun j => j = c.zb) w7 w9 ∧ SObj w9 fb 55 [.int .u8 x0, .int .u8 x1, .int .u8 x2, .int .u8 x3] ∧ SObj w9 B 26 [.int .u8 0, .int .u8 0, .int .u8 0, .int .u8 0]) → SwP c bs.length st ((0 : Int), n) w B fb x0 x1 x2 x3 (.slice ka st.kinds.length kc) (.slice aa Ls.length ac) (.slice oa st.out.length oc) k' w9) := Lib.hid (fun w9 k' hk h9 => by
                  obtain ⟨p1, p2, p3, b8, hkk, hzo⟩ := HP7.out
                  have := H6.out.1.next_bad HBAD.out (r' := ⟨tot', chk', pad'⟩) HO.out p1 p2 p3 b8 hkk hzo h9.2.1 h9.1
                  refine ⟨?_, _, z1, _, _, _, _, _, ds, this.1, (H6.out.2.2.1.tr (p3.mono (fun j hj => by have := H6.out.1.geNext j hj; rw [HCZ.out.2.1] at this; exact this))).tr (h9.2.1.mono (fun j hj => by rw [hj, HCZ.out.1]; exact HCZ.out.2.2.2)), h9.2.2.1, h9.2.2.2⟩
                  show k' = (opNext st).2
                  rw [this.2, hk])

                unfold zero4 errV
                go_wp2_with fail
                have H8 : Hid (Only (fun _ => False) w7 (w7.alloc (.cells #[.int .u8 0, .int .u8 0, .int .u8 0, .int .u8 0] 55))) := Lib.hid (Only.alloc _ _ _)
                generalize World.alloc _ _ = w8 at H8 ⊢
                have HE8 : Hid (c.env w8 ∧ Snt c.B w8 gg er t) := Lib.hid ⟨H7.out.1.only H8.out (fun _ h => h.elim), H7.out.2.1.only H7.out.1.1.lt H8.out (fun _ h => h.elim)⟩
                have HV8 : Hid (SObj w8 c.zb 69 [.pointer (some ⟨z1, 0, none⟩), dv]) := Lib.hid (H7.out.2.2.1.only H8.out (fun h => h))
                have gz1 : w8.cell? ⟨zb, 1, none⟩ = some dv := by have := HV8.out.cell 1 rfl; rwa [HCZ.out.1] at this
                have yz1 : w8.frozen? ⟨zb, 1, none⟩ = false := by have := HV8.out.free 1; rwa [HCZ.out.1] at this
                have H9 : Hid (SObj (w8.setCell ⟨zb, 1, none⟩ .nilIface) c.zb 69 [.pointer (some ⟨z1, 0, none⟩), .nilIface] ∧ Only (fun j => j = c.zb) w7 (w8.setCell ⟨zb, 1, none⟩ .nilIface) ∧ SObj (w8.setCell ⟨zb, 1, none⟩ .nilIface) fb 55 [.int .u8 x0, .int .u8 x1, .int .u8 x2, .int .u8 x3] ∧ SObj (w8.setCell ⟨zb, 1, none⟩ .nilIface) B 26 [.int .u8 0, .int .u8 0, .int .u8 0, .int .u8 0]) := Lib.hid (by
                  have ho : Only (fun j => j = c.zb) w7 (w8.setCell ⟨zb, 1, none⟩ .nilIface) := (H8.out.mono (fun _ h => h.elim)).tr (Only.setCell _ _ _ (HCZ.out.1.symm))
                  have ht := TyIn.one H7.out.2.2.1
                  refine ⟨?_, ho, ht.sobj ho H7.out.2.2.2.1 (by decide), ht.sobj ho H7.out.2.2.2.2 (by decide)⟩
                  have := HV8.out.set 1 .nilIface
                  rw [HCZ.out.1] at this ⊢
                  exact this)
                clear kz0 kz1 fz1
                rcases HK.out with ⟨k1, k2⟩ | ⟨k1, k2⟩
                · subst k2
                  have HK1 := Lib.hid k1
                  clear k1
                  refine (kindOf_eof c.B c.E w8 HE8.out.1.2.e).mono ?_
                  rintro _ w' ⟨rfl, rfl⟩
                  go_wp2
                  generalize World.setCell _ _ _ = w9 at H9 ⊢
                  go_meet
                  exact ⟨1, rfl, Lib.hid (HFIN.out w9 1 HK1.out H9.out)⟩
                · have HK1 := Lib.hid (And.intro k1 k2)
                  clear k1 k2
                  refine (kindOf_other c.B c.E er gg t w8 HE8.out.1.2.e HE8.out.2 HK1.out.2).mono ?_
                  rintro _ w' ⟨rfl, rfl⟩
                  go_wp2
                  generalize World.setCell _ _ _ = w9 at H9 ⊢
                  go_meet
                  exact ⟨2, rfl, Lib.hid (HFIN.out w9 2 HK1.out.1 H9.out)⟩
              | ok cns t len =>
                go_wp2_with fail
                refine HNX.out.mono ?_
                rintro _ w7 ⟨p1, p2, p3, q, buf', b8, rfl, hq, hzo, hqo, hl, ht⟩
                have HP7 := Lib.hid (And.intro p1 (And.intro p2 (And.intro p3 (And.intro b8 (And.intro hq (And.intro hzo (And.intro hqo (And.intro hl ht))))))))
                have HIL : Hid ((0 : Int) ≤ (len : Int) ∧ (len : Int) < 4294967296) := Lib.hid ⟨by omega, by omega⟩
                clear p1 p2 p3 b8 hq hzo hqo hl ht
                unfold four4
                obtain ⟨y0, hy0⟩ : ∃ y, y = (st.rest.drop (cns - 8)).getD 0 0 := ⟨_, rfl⟩
                obtain ⟨y1, hy1⟩ : ∃ y, y = (st.rest.drop (cns - 8)).getD (0 + 1) 0 := ⟨_, rfl⟩
                obtain ⟨y2, hy2⟩ : ∃ y, y = (st.rest.drop (cns - 8)).getD (0 + 2) 0 := ⟨_, rfl⟩
                obtain ⟨y3, hy3⟩ : ∃ y, y = (st.rest.drop (cns - 8)).getD (0 + 3) 0 := ⟨_, rfl⟩
                rw [← hy0, ← hy1, ← hy2, ← hy3]
                have HY := Lib.hid (And.intro hy0 (And.intro hy1 (And.intro hy2 hy3)))
                clear hy0 hy1 hy2 hy3
                have H7 : Hid (c.env w7 ∧ SObj w7 c.zb 69 [.pointer (some ⟨z1, 0, none⟩), dv] ∧ SObj w7 fb 55 [.int .u8 x0, .int .u8 x1, .int .u8 x2, .int .u8 x3] ∧ SObj w7 B 26 [.int .u8 0, .int .u8 0, .int .u8 0, .int .u8 0]) := Lib.hid ⟨H6.out.1.env.only HP7.out.2.2.1 H6.out.1.geNext, H6.out.1.tyNext.sobj HP7.out.2.2.1 H6.out.1.nv (by decide), H6.out.1.tyNext.sobj HP7.out.2.2.1 H6.out.2.2.2.1 (by decide), H6.out.1.tyNext.sobj HP7.out.2.2.1 H6.out.2.2.2.2 (by decide)⟩
                go_wp2_with fail
                have H8 : Hid (Only (fun _ => False) w7 (w7.alloc (.cells #[.int .u8 y0, .int .u8 y1, .int .u8 y2, .int .u8 y3] 55)) ∧ SObj (w7.alloc (.cells #[.int .u8 y0, .int .u8 y1, .int .u8 y2, .int .u8 y3] 55)) w7.heap.size 55 [.int .u8 y0, .int .u8 y1, .int .u8 y2, .int .u8 y3]) := Lib.hid ⟨Only.alloc _ _ _, obj_new w7 _ [.int .u8 y0, .int .u8 y1, .int .u8 y2, .int .u8 y3]⟩
                obtain ⟨nb, hnb⟩ : ∃ x, x = w7.heap.size := ⟨_, rfl⟩
                rw [← hnb] at H8 ⊢
                clear hnb
                generalize World.alloc _ _ = w8 at H8 ⊢
                have HV8 : Hid (SObj w8 c.zb 69 [.pointer (some ⟨z1, 0, none⟩), dv]) := Lib.hid (H7.out.2.1.only H8.out.1 (fun h => h))
                have gz1 : w8.cell? ⟨zb, 1, none⟩ = some dv := by have := HV8.out.cell 1 rfl; rwa [HCZ.out.1] at this
                have yz1 : w8.frozen? ⟨zb, 1, none⟩ = false := by have := HV8.out.free 1; rwa [HCZ.out.1] at this
                have H9 : Hid (SObj (w8.setCell ⟨zb, 1, none⟩ (.iface 87 (.pointer (some ⟨q, 0, none⟩)))) c.zb 69 [.pointer (some ⟨z1, 0, none⟩), .iface 87 (.pointer (some ⟨q, 0, none⟩))] ∧ Only (fun j => j = c.zb) w7 (w8.setCell ⟨zb, 1, none⟩ (.iface 87 (.pointer (some ⟨q, 0, none⟩)))) ∧ SObj (w8.setCell ⟨zb, 1, none⟩ (.iface 87 (.pointer (some ⟨q, 0, none⟩)))) fb 55 [.int .u8 x0, .int .u8 x1, .int .u8 x2, .int .u8 x3] ∧ SObj (w8.setCell ⟨zb, 1, none⟩ (.iface 87 (.pointer (some ⟨q, 0, none⟩)))) B 26 [.int .u8 0, .int .u8 0, .int .u8 0, .int .u8 0] ∧ SObj (w8.setCell ⟨zb, 1, none⟩ (.iface 87 (.pointer (some ⟨q, 0, none⟩)))) nb 55 [.int .u8 y0, .int .u8 y1, .int .u8 y2, .int .u8 y3]) := Lib.hid (by
                  have ho : Only (fun j => j = c.zb) w7 (w8.setCell ⟨zb, 1, none⟩ (.iface 87 (.pointer (some ⟨q, 0, none⟩)))) := (H8.out.1.mono (fun _ h => h.elim)).tr (Only.setCell _ _ _ (HCZ.out.1.symm))
                  have ht := TyIn.one H7.out.2.1
                  have ht8 := TyIn.one HV8.out
                  refine ⟨?_, ho, ht.sobj ho H7.out.2.2.1 (by decide), ht.sobj ho H7.out.2.2.2 (by decide), ht8.sobj (Only.setCell _ _ _ (HCZ.out.1.symm)) H8.out.2 (by decide)⟩
                  have := HV8.out.set 1 (.iface 87 (.pointer (some ⟨q, 0, none⟩)))
                  rw [HCZ.out.1] at this ⊢
                  exact this)
                clear kz0 kz1 fz1 kt0 kt1
                refine (kindOf_nil w8).mono ?_
                rintro _ w' ⟨rfl, rfl⟩
                go_upto_region 16 with fail
                generalize World.setCell _ _ _ = w9 at H9 ⊢
                clear gz1 yz1
                go_upto_region 17 with fail
                obtain ⟨il0, il1⟩ := HIL.out
                have d0 : w9.cell? ⟨nb, 0, none⟩ = some (.int .u8 y0) := H9.out.2.2.2.2.cell 0 rfl
                have d1 : w9.cell? ⟨nb, 1, none⟩ = some (.int .u8 y1) := H9.out.2.2.2.2.cell 1 rfl
                have d2 : w9.cell? ⟨nb, 2, none⟩ = some (.int .u8 y2) := H9.out.2.2.2.2.cell 2 rfl
                have d3 : w9.cell? ⟨nb, 3, none⟩ = some (.int .u8 y3) := H9.out.2.2.2.2.cell 3 rfl
                have hown := Lib.hid (H6.out.1.rk_next HP7.out.2.2.1 H9.out.2.1).1
                obtain ⟨i0, hi, hz0, hz1, hz2⟩ := info_parts (show (Tryd.prog.info? 43).map (fun i => (i.zero, i.size, i.bytes)) = some (some ckZero, 7, 48) by kernel_rfl)
                have hml : Hid (st.out.length + 1 ≤ maxLen) := Lib.hid (by have := HNL.out.2.1; unfold maxLen; omega)
                have hmb : Hid ((st.out.length + 1) * 48 ≤ 140737488355328) := Lib.hid (by have := HNL.out.2.1; omega)
                have hbw : Hid (c.B ≤ w9.heap.size) := Lib.hid hown.out.env.1.lt
                go_wp2_with (at_builtin; refine wpList_append_own _ rfl _ _ 27 rfl c.B 43 i0 ckZero 7 48 Tryd.underlying27 hi hz0 hz1 hz2 ckZero_size (by decide) _ _ _ rfl (hown.out.ou.alloc _) ⟨w9.heap.size, 0, none⟩ 1 1 [.int .u8 y0, .int .u8 y1, .int .u8 y2, .int .u8 y3, .int .i64 len, .slice none 0 0, .int .i64 2] rfl rfl (news_new w9 43 [.int .u8 y0, .int .u8 y1, .int .u8 y2, .int .u8 y3, .int .i64 len, .slice none 0 0, .int .i64 2]) (by simp [Value.oneCell']) hml.out hmb.out (by simp; have := hbw.out; omega) ?_; intro ov' w11 hown11 hgr11 _; have H11 := Lib.hid (And.intro hown11 hgr11); clear hown11 hgr11)
                go_meet
                refine ⟨0, rfl, Lib.hid ?_⟩
                have ho3 : Only (fun j => Value.ownBlock (.slice oa st.out.length oc) = some j) w9 w11 := (Only.alloc (fun j => Value.ownBlock (.slice oa st.out.length oc) = some j) w9 (.cells #[.int .u8 y0, .int .u8 y1, .int .u8 y2, .int .u8 y3, .int .i64 len, .slice none 0 0, .int .i64 2] 43)).tr (Only.of_grown H11.out.2 (fun k hk => hk))
                have ht3 : TyIn w9 (fun j => Value.ownBlock (.slice oa st.out.length oc) = some j) [43] := TyIn.own hown.out.ou
                obtain ⟨p1, p2, p3, b8, hq, hzo, hqo, hl, ht⟩ := HP7.out
                obtain ⟨e0, e1, e2, e3⟩ := HY.out
                have := H6.out.1.next_ok HBAD.out HO.out p1 p2 p3 b8 hq hzo hqo hl ht H9.out.2.1 H9.out.1 ho3 (by
                  have := H11.out.1
                  rw [e0, e1, e2, e3] at this
                  exact this)
                refine ⟨?_, _, z1, _, _, _, _, _, _, this.1, ((H6.out.2.2.1.tr (p3.mono (fun j hj => by have := H6.out.1.geNext j hj; rw [HCZ.out.2.1] at this; exact this))).tr (H9.out.2.1.mono (fun j hj => by rw [hj, HCZ.out.1]; exact HCZ.out.2.2.2))).tr (ho3.mono (fun j hj => by have := (ownsRow_ty hown.out.ou hj).2.1; rw [HCZ.out.2.1] at this; exact this)), ht3.sobj ho3 H9.out.2.2.1 (by decide), ht3.sobj ho3 H9.out.2.2.2.1 (by decide)⟩
                show 0 = (opNext st).2
                rw [this.2]
            · skip
              obtain ⟨er, gg, t, hev, hsn, hk⟩ := H6.out.1.err hbad
              subst hev
              have HSN := Lib.hid (And.intro hsn hbad)
              have HK := Lib.hid hk
              clear hsn hk hbad
              go_wp2_with fail
              refine (nextErr_any z1 (lvV c.bp Ls) er r.tot r.chk cr buf1 r.pad w6 H6.out.1.zo).mono ?_
              rintro _ w7 ⟨rfl, ho7⟩
              have H7 : Hid (c.env w7 ∧ Snt c.B w7 gg er t ∧ SObj w7 c.zb 69 [.pointer (some ⟨z1, 0, none⟩), dv] ∧ SObj w7 fb 55 [.int .u8 x0, .int .u8 x1, .int .u8 x2, .int .u8 x3] ∧ SObj w7 B 26 [.int .u8 0, .int .u8 0, .int .u8 0, .int .u8 0]) := Lib.hid ⟨H6.out.1.env.only ho7 (fun _ h => h.elim), HSN.out.1.only H6.out.1.env.1.lt ho7 (fun _ h => h.elim), H6.out.1.nv.only ho7 (fun h => h), H6.out.2.2.2.1.only ho7 (fun h => h), H6.out.2.2.2.2.only ho7 (fun h => h)⟩
              have HO7 := Lib.hid ho7
              clear ho7
              have HFIN : Hid (∀ (w9 : World) (k : Nat), st.bad = k → (SObj w9 c.zb 69 [.pointer (some ⟨z1, 0, none⟩), .nilIface] ∧ Only (fun j => j = c.zb) w7 w9 ∧ SObj w9 fb 55 [.int .u8 x0, .int .u8 x1, .int .u8 x2, .int .u8 x3] ∧ SObj w9 B 26 [.int .u8 0, .int .u8 0, .int .u8 0, .int .u8 0]) → SwP c bs.length st ((0 : Int), n) w B fb x0 x1 x2 x3 (.slice ka st.kinds.length kc) (.slice aa Ls.length ac) (.slice oa st.out.length oc) k w9) := Lib.hid (fun w9 k hk h9 => by
                have ho : Only (fun j => j = c.zb) w6 w9 := (HO7.out.mono (fun _ h => h.elim)).tr h9.2.1
                have := H6.out.1.next_had HSN.out.2 ho h9.1
                refine ⟨?_, Ls, z1, _, _, _, _, _, ds, this.1, H6.out.2.2.1.tr (ho.mono (fun j hj => by rw [hj, HCZ.out.1]; exact HCZ.out.2.2.2)), h9.2.2.1, h9.2.2.2⟩
                show k = (opNext st).2
                rw [this.2, hk])

              unfold zero4 errV
              go_wp2_with fail
              have H8 : Hid (Only (fun _ => False) w7 (w7.alloc (.cells #[.int .u8 0, .int .u8 0, .int .u8 0, .int .u8 0] 55))) := Lib.hid (Only.alloc _ _ _)
              generalize World.alloc _ _ = w8 at H8 ⊢
              have HE8 : Hid (c.env w8 ∧ Snt c.B w8 gg er t) := Lib.hid ⟨H7.out.1.only H8.out (fun _ h => h.elim), H7.out.2.1.only H7.out.1.1.lt H8.out (fun _ h => h.elim)⟩
              have HV8 : Hid (SObj w8 c.zb 69 [.pointer (some ⟨z1, 0, none⟩), dv]) := Lib.hid (H7.out.2.2.1.only H8.out (fun h => h))
              have gz1 : w8.cell? ⟨zb, 1, none⟩ = some dv := by have := HV8.out.cell 1 rfl; rwa [HCZ.out.1] at this
              have yz1 : w8.frozen? ⟨zb, 1, none⟩ = false := by have := HV8.out.free 1; rwa [HCZ.out.1] at this
              have H9 : Hid (SObj (w8.setCell ⟨zb, 1, none⟩ .nilIface) c.zb 69 [.pointer (some ⟨z1, 0, none⟩), .nilIface] ∧ Only (fun j => j = c.zb) w7 (w8.setCell ⟨zb, 1, none⟩ .nilIface) ∧ SObj (w8.setCell ⟨zb, 1, none⟩ .nilIface) fb 55 [.int .u8 x0, .int .u8 x1, .int .u8 x2, .int .u8 x3] ∧ SObj (w8.setCell ⟨zb, 1, none⟩ .nilIface) B 26 [.int .u8 0, .int .u8 0, .int .u8 0, .int .u8 0]) := Lib.hid (by
                have ho : Only (fun j => j = c.zb) w7 (w8.setCell ⟨zb, 1, none⟩ .nilIface) := (H8.out.mono (fun _ h => h.elim)).tr (Only.setCell _ _ _ (HCZ.out.1.symm))
                have ht := TyIn.one H7.out.2.2.1
                refine ⟨?_, ho, ht.sobj ho H7.out.2.2.2.1 (by decide), ht.sobj ho H7.out.2.2.2.2 (by decide)⟩
                have := HV8.out.set 1 .nilIface
                rw [HCZ.out.1] at this ⊢
                exact this)
              clear kz0 kz1 fz1
              rcases HK.out with ⟨k1, k2⟩ | ⟨k1, k2⟩
              · subst k2
                have HK1 := Lib.hid k1
                clear k1
                refine (kindOf_eof c.B c.E w8 HE8.out.1.2.e).mono ?_
                rintro _ w' ⟨rfl, rfl⟩
                go_wp2
                generalize World.setCell _ _ _ = w9 at H9 ⊢
                go_meet
                exact ⟨1, rfl, Lib.hid (HFIN.out w9 1 HK1.out H9.out)⟩
              · have HK1 := Lib.hid (And.intro k1 k2)
                clear k1 k2
                refine (kindOf_other c.B c.E er gg t w8 HE8.out.1.2.e HE8.out.2 HK1.out.2).mono ?_
                rintro _ w' ⟨rfl, rfl⟩
                go_wp2
                generalize World.setCell _ _ _ = w9 at H9 ⊢
                go_meet
                exact ⟨2, rfl, Lib.hid (HFIN.out w9 2 HK1.out.1 H9.out)⟩
          · by_cases h1 : op = 1
            · subst h1
              clear h0
              by_cases hd : st.dat = true
              · skip
                obtain ⟨q, hdv, _, _, hstk⟩ := H6.out.1.stk hd
                subst hdv
                obtain ⟨pre, k0, ds', d, bd, g, ocap, cur, hout, hds, hov, hgB, hgo, hc5, hc6, hc4, hbd, hbw, hown, hdl, hcp1, hcp2, haft⟩ := H6.out.1.lastCk hd
                injection hov with ho1 ho2 ho3
                subst ho1 ho3
                obtain ⟨m, hm⟩ : ∃ m, m = pre.length := ⟨_, rfl⟩
                rw [← hm] at ho2
                rw [ho2]
                have hm40 : m ≤ 1099511627776 := by have := HNL.out.2.1; omega
                have HLC := Lib.hid (And.intro hstk (And.intro hout (And.intro hds (And.intro hgB (And.intro hgo (And.intro hc5 (And.intro hc6 (And.intro hbd (And.intro hbw (And.intro hown (And.intro hdl haft)))))))))))
                have HMM := Lib.hid (And.intro ho2 hm)
                have HDT := Lib.hid hd
                clear hstk hout hds hgB hgo hc5 hc6 hc4 hbd hbw hown hdl hcp1 hcp2 haft ho2 hm hd fz1
                have eo : Hid (opM bs.length st ((1 : Int), n) = (opRead bs.length n st, 0)) := Lib.hid (by
                  unfold opM
                  rw [if_neg (by show ¬ (1 : Int) = 0; decide), if_pos ⟨rfl, HDT.out⟩])
                by_cases hn : n ≤ 0
                · have HC : Hid (∀ wd, Calls Tryd.prog 23 #[.agg #[.pointer (some ⟨z1, 0, none⟩), .iface 87 (.pointer (some ⟨q, 0, none⟩))], .pointer (some ⟨g, m * 7, none⟩), .int .i64 n, .int .i64 ((bs.length : Int) + 1)] wd (fun e w' => e = .returned (.tuple #[]) ∧ Below wd.heap.size wd w')) := Lib.hid (fun wd => by
                    have := partRead_none n (bs.length + 1) (.pointer (some ⟨z1, 0, none⟩)) (.iface 87 (.pointer (some ⟨q, 0, none⟩))) ⟨g, m * 7, none⟩ hn wd
                    rwa [show (((bs.length + 1 : Nat)) : Int) = (bs.length : Int) + 1 from by omega] at this)
                  have HFN : Hid (∀ (nq : Nat) (w7 : World), Below (w6.drewN nq).heap.size (w6.drewN nq) w7 → SwP c bs.length st ((1 : Int), n) w B fb x0 x1 x2 x3 (.slice ka st.kinds.length kc) (.slice aa Ls.length ac) (.slice (some ⟨g, 0, none⟩) (m + 1) oc) 0 w7) := Lib.hid (fun nq w7 hb => by
                    have ho : Only (fun _ => False) w6 w7 := Only.tr (Only.drewN _ w6 nq) (Only.of_below hb)
                    have hk := H6.out.1.keep (es := []) ho (fun _ h => h.elim) (fun _ h => h.elim) (by simp)
                    have e2 : opRead bs.length n st = st := by unfold opRead; rw [if_pos hn]
                    rw [← HMM.out.1]
                    exact ⟨by rw [eo.out], Ls, z1, _, _, _, _, _, ds, by rw [eo.out, e2]; exact hk, H6.out.2.2.1.tr (ho.mono (fun _ h => h.elim)), H6.out.2.2.2.1.only ho (fun h => h), H6.out.2.2.2.2.only ho (fun h => h)⟩)
                  clear hn
                  obtain ⟨iw1, iw2, iw3, iw4, in0, in1, in2⟩ := ixw m bs.length hm40 h40
                  go_wp2_with fail
                  refine wp_region_quiet_tail 11 (by kernel_rfl) (by kernel_rfl) ?_
                  simp only [List.take_succ_cons, List.take_zero, List.drop_succ_cons, List.drop_zero]
                  repeat (go_big_quiet_step (fail))
                  refine wpQuiet_nil ?_
                  intro wq hwq
                  obtain ⟨nq, rfl⟩ := hwq
                  clear iw1 iw2 iw3 iw4 in1 in2
                  go_wp2_with fail
                  refine (HC.out _).mono ?_
                  rintro _ w7 ⟨rfl, hb⟩
                  have HB7 := Lib.hid hb
                  clear hb
                  go_wp2
                  go_meet
                  exact ⟨0, rfl, Lib.hid (HFN.out _ w7 HB7.out)⟩
                · obtain ⟨nn, hnn⟩ := Int.eq_ofNat_of_zero_le (show 0 ≤ n by omega)
                  have HC : Hid (∀ nq, Calls Tryd.prog 23 #[.agg #[.pointer (some ⟨z1, 0, none⟩), .iface 87 (.pointer (some ⟨q, 0, none⟩))], .pointer (some ⟨g, m * 7, none⟩), .int .i64 n, .int .i64 ((bs.length : Int) + 1)] (w6.drewN nq) (PRP c.B bd (w6.drewN nq) c.bp c.ca c.cn c.cc c.N ⟨z1, q, st.now.tot, st.now.chk, st.now.pad⟩ Ls st.rest g (7 * pre.length) cur d k0.data k0.fin (min n.toNat (bs.length + 1)))) := Lib.hid (fun nq => by
                    obtain ⟨hstk, hout, hds, hgB, hgo, hc5, hc6, hbd, hbw, hown, hdl, haft⟩ := HLC.out
                    have hd1 : Only (fun _ => False) w6 (w6.drewN nq) := Only.drewN _ w6 nq
                    have := partRead_any c.B bd c.bp c.ca c.cn c.cc c.N c.cz c.E c.U c.M c.S c.L c.P c.H H6.out.1.bb ⟨z1, q, st.now.tot, st.now.chk, st.now.pad⟩ Ls st.rest (w6.drewN nq) (H6.out.1.env.only hd1 (fun _ h => h.elim)) (H6.out.1.pc.only hd1 (fun _ h => h.elim) (fun h => h)) (hstk.only hd1 (fun _ _ => ⟨fun h => h, fun h => h⟩)) g (7 * pre.length) cur d k0.data k0.fin (hgo.drewN nq) hc5 hc6 (ownsRow_only hown hd1 (fun _ _ h => h)) hbd hbw hgB (.pointer (some ⟨z1, 0, none⟩)) nn (bs.length + 1) (min n.toNat (bs.length + 1)) (by omega) (by omega) (by omega) (by omega) (by omega) hdl
                    rw [show 7 * pre.length = m * 7 by have := HMM.out.2; omega, ← hnn, show (((bs.length + 1 : Nat)) : Int) = (bs.length : Int) + 1 from by omega] at this
                    rw [show 7 * pre.length = m * 7 by have := HMM.out.2; omega]
                    exact this)
                  have HRD : Hid (∀ (nq : Nat) (e : Ending) (w7 : World), PRP c.B bd (w6.drewN nq) c.bp c.ca c.cn c.cc c.N ⟨z1, q, st.now.tot, st.now.chk, st.now.pad⟩ Ls st.rest g (7 * pre.length) cur d k0.data k0.fin (min n.toNat (bs.length + 1)) e w7 → e = .returned (.tuple #[]) ∧ SwP c bs.length st ((1 : Int), n) w B fb x0 x1 x2 x3 (.slice ka st.kinds.length kc) (.slice aa Ls.length ac) (.slice (some ⟨g, 0, none⟩) (m + 1) oc) 0 w7) := Lib.hid (fun nq e w7 hp => by
                    obtain ⟨hstk, hout, hds, hgB, hgo, hc5, hc6, hbd, hbw, hown, hdl, haft⟩ := HLC.out
                    obtain ⟨dv', a1, a2, a3, a4, a5, a6⟩ := hp
                    obtain ⟨he, ⟨R, r1, r2, r3⟩, K, r', buf', ds2, hrm⟩ := H6.out.1.read HDT.out hn rfl hout (by rw [HMM.out.1, HMM.out.2]) hgB hgo hbd hbw hown haft ⟨dv', a1, a2, a3, a4, a5, Only.tr (Only.drewN _ w6 nq) a6⟩
                    rw [← HMM.out.1]
                    exact ⟨he, ⟨by rw [eo.out], _, z1, _, _, _, _, _, ds2, by rw [eo.out]; exact hrm, H6.out.2.2.1.tr (r1.mono (fun j hj => by have := r2 j hj; rw [HCZ.out.2.1] at this; exact this)), r3.sobj r1 H6.out.2.2.2.1 (by decide), r3.sobj r1 H6.out.2.2.2.2 (by decide)⟩⟩)
                  clear hn hnn
                  obtain ⟨iw1, iw2, iw3, iw4, in0, in1, in2⟩ := ixw m bs.length hm40 h40
                  go_wp2_with fail
                  refine wp_region_quiet_tail 11 (by kernel_rfl) (by kernel_rfl) ?_
                  simp only [List.take_succ_cons, List.take_zero, List.drop_succ_cons, List.drop_zero]
                  repeat (go_big_quiet_step (fail))
                  refine wpQuiet_nil ?_
                  intro wq hwq
                  obtain ⟨nq, rfl⟩ := hwq
                  clear iw1 iw2 iw3 iw4 in1 in2
                  go_wp2_with fail
                  refine (HC.out _).mono ?_
                  rintro e7 w7 hp
                  obtain ⟨he7, hsw⟩ := HRD.out _ e7 w7 hp
                  clear hp
                  subst he7
                  have HS7 := Lib.hid hsw
                  clear hsw
                  go_wp2
                  go_meet
                  exact ⟨0, rfl, HS7⟩
              · skip
                have hdv := H6.out.1.dat0 (by simpa using hd)
                subst hdv
                have HFI : Hid (opM bs.length st ((1 : Int), n) = (st, 3)) := Lib.hid (by
                  unfold opM
                  rw [if_neg (by show ¬ (1 : Int) = 0; decide), if_neg (fun h => hd h.2), if_neg (fun h => hd h.2), if_neg (by show ¬ (1 : Int) = 3; decide)])
                clear hd

                go_wp2
                go_meet
                exact ⟨3, rfl, Lib.hid ⟨by rw [HFI.out], _, z1, _, _, _, _, _, ds, by rw [HFI.out]; exact H6.out.1, H6.out.2.2.1, H6.out.2.2.2.1, H6.out.2.2.2.2⟩⟩
            · by_cases h2 : op = 2
              · subst h2
                clear h0 h1
                by_cases hd : st.dat = true
                · skip
                  obtain ⟨q, hdv, _, _, hstk⟩ := H6.out.1.stk hd
                  subst hdv
                  obtain ⟨pre, k0, ds', d, bd, g, ocap, cur, hout, hds, hov, hgB, hgo, hc5, hc6, hc4, hbd, hbw, hown, hdl, hcp1, hcp2, haft⟩ := H6.out.1.lastCk hd
                  injection hov with ho1 ho2 ho3
                  subst ho1 ho3
                  obtain ⟨m, hm⟩ : ∃ m, m = pre.length := ⟨_, rfl⟩
                  rw [← hm] at ho2
                  have hm40 : m ≤ 1099511627776 := by have := HNL.out.2.1; omega
                  obtain ⟨len, hlen⟩ : ∃ x, x = k0.len := ⟨_, rfl⟩
                  have hll : lastLen st.out = len := by rw [hout, lastLen_snoc, hlen]
                  have hl32 : len < 4294967296 := by rw [hlen]; exact H6.out.1.ln k0 (by rw [hout]; simp)
                  rw [← hlen, show 7 * pre.length + 4 = m * 7 + 4 by omega] at hc4
                  have HLC := Lib.hid (And.intro hstk (And.intro hgo (And.intro hc4 (And.intro hll (And.intro hl32 ho2)))))
                  have HIL : Hid ((0 : Int) ≤ (len : Int) ∧ (len : Int) < 4294967296) := Lib.hid ⟨by omega, by omega⟩
                  have HCV : Hid (IntKind.u32.wrap (len : Int) = (len : Int)) := Lib.hid (IntWalk.u32_in _ (by omega))
                  have HDT := Lib.hid hd
                  clear hstk hout hds hgB hgo hc5 hc6 hc4 hbd hbw hown hdl hcp1 hcp2 haft hm hd fz1 hlen hll hl32
                  have eo : Hid (opM bs.length st ((2 : Int), n) = opInto st) := Lib.hid (by
                    unfold opM
                    rw [if_neg (by show ¬ (2 : Int) = 0; decide), if_neg (fun h => absurd h.1 (by show ¬ (2 : Int) = 1; decide)), if_pos ⟨rfl, HDT.out⟩])
                  obtain ⟨ln, hln⟩ : ∃ x, x = st.out.length := ⟨_, rfl⟩
                  rw [← hln]
                  rw [← hln] at ho2
                  have hix := ix_last g m ln oc ho2 hm40
                  have HLN := Lib.hid (And.intro hln ho2)
                  clear hln ho2 hm40
                  have kc4 : w6.cell? ⟨g, m * 7 + 4, none⟩ = some (.int .i64 len) := HLC.out.2.1.cell (m * 7 + 4) HLC.out.2.2.1
                  have HNV : Hid (∀ w7, Only (fun k => k = z1 ∨ RW c.bp Ls k) w6 w7 → (∀ (w8 : World) (R : Nat → Prop), Only R w7 w8 → (∀ j, R j → OfTy w7 55 j) → SObj w8 zb 69 [.pointer (some ⟨z1, 0, none⟩), .iface 87 (.pointer (some ⟨q, 0, none⟩))] ∧ w8.cell? ⟨g, m * 7 + 4, none⟩ = some (.int .i64 len))) := Lib.hid (fun w7 ho w8 R ho2 hR => by
                    have ht := H6.out.1.tyNext
                    have h1 := ht.sobj ho H6.out.1.nv (by decide)
                    have h2 := ht.sobj ho HLC.out.2.1 (by decide)
                    have ht2 : TyIn w7 R [55] := fun j hj => ⟨_, by simp, hR j hj⟩
                    rw [HCZ.out.1] at h1
                    exact ⟨ht2.sobj ho2 h1 (by decide), (ht2.sobj ho2 h2 (by decide)).cell _ HLC.out.2.2.1⟩)
                  have HNN : Hid (¬ (w6.heap.size = z1 ∨ RW c.bp Ls w6.heap.size)) := Lib.hid (fun h => by
                    rcases h with h | h | ⟨Q, hQ, h⟩
                    · have := H6.out.1.zo.lt; omega
                    · obtain ⟨_, _, _, o, _⟩ := H6.out.1.pc
                      have := SObj.lt o; omega
                    · have := (H6.out.1.st.ge Q hQ).2.2.1.lt; omega)
                  have kpA : Hid ((w6.alloc (.cells #[.int .u8 0, .int .u8 0, .int .u8 0, .int .u8 0] 55)).drew.cell? ⟨zb, 1, none⟩ = some (.iface 87 (.pointer (some ⟨q, 0, none⟩))) ∧ (w6.alloc (.cells #[.int .u8 0, .int .u8 0, .int .u8 0, .int .u8 0] 55)).drew.cell? ⟨g, m * 7 + 4, none⟩ = some (.int .i64 len)) := Lib.hid (by
                    have h1 := H6.out.1.nv
                    rw [HCZ.out.1] at h1
                    exact ⟨(h1.alloc _).drew.cell 1 rfl, (HLC.out.2.1.alloc _).drew.cell _ HLC.out.2.2.1⟩)
                  have HNB : Hid (SObj ((w6.alloc (.cells #[.int .u8 0, .int .u8 0, .int .u8 0, .int .u8 0] 55)).drew) w6.heap.size 55 [.int .u8 0, .int .u8 0, .int .u8 0, .int .u8 0]) := Lib.hid (obj_new w6 _ [.int .u8 0, .int .u8 0, .int .u8 0, .int .u8 0]).drew
                  have hd1 : Hid (Only (fun _ => False) w6 w6.drew) := Lib.hid (Only.drewN _ w6 1)
                  have hd2 : Hid (Only (fun _ => False) w6 ((w6.alloc (.cells #[.int .u8 0, .int .u8 0, .int .u8 0, .int .u8 0] 55)).drew)) := Lib.hid (Only.alloc (fun _ => False) w6 _).dr
                  have HNL2 : Hid (∀ wd, Only (fun _ => False) w6 wd → Calls Tryd.prog 24 #[.int .u32 len, .iface 87 (.pointer (some ⟨q, 0, none⟩))] wd (NLP c.B wd c.bp c.ca c.cn c.cc c.N (⟨z1, q, st.now.tot, st.now.chk, st.now.pad⟩ :: Ls) st.rest len c.S)) := Lib.hid (fun wd ho =>
                    newList_any c.B c.bp c.ca c.cn c.cc c.N c.cz c.E c.U c.M c.S c.L c.P c.H H6.out.1.bb (⟨z1, q, st.now.tot, st.now.chk, st.now.pad⟩ :: Ls) st.rest len HLC.out.2.2.2.2.1 wd (H6.out.1.env.only ho (fun _ h => h.elim)) (H6.out.1.pc.only ho (fun _ h => h.elim) (fun h => h)) (HLC.out.1.only ho (fun _ _ => ⟨fun h => h, fun h => h⟩)))
                  by_cases hbad : len < 4 ∨ st.avNow < 4
                  · have HC : Hid (∀ wd, Only (fun _ => False) w6 wd → Calls Tryd.prog 24 #[.int .u32 len, .iface 87 (.pointer (some ⟨q, 0, none⟩))] wd (fun e w7 => e = .returned (.tuple #[.agg #[.int .u8 0, .int .u8 0, .int .u8 0, .int .u8 0], .pointer none, errV c.S]) ∧ Only (fun k => k = z1 ∨ RW c.bp Ls k) w6 w7 ∧ (∀ vs, SObj wd w6.heap.size 55 vs → SObj w7 w6.heap.size 55 vs) ∧ ∃ Ls' r' buf', RM c w7 (opInto st).1 Ls' z1 .nilIface r' cr buf' (.iface 87 (.pointer (some ⟨q, 0, none⟩))) (.slice aa Ls.length ac) (.slice (some ⟨g, 0, none⟩) st.out.length oc) (.slice ka st.kinds.length kc) ds ∧ (opInto st).2 = 2)) := Lib.hid (fun wd ho => by
                      refine (HNL2.out wd ho).mono ?_
                      rintro e w7 ⟨K, hK, p1, p2, p3, hr⟩
                      have eA := H6.out.1.avNow q
                      rw [eA] at hK
                      have hK4 : len < 4 ∨ K < 4 := by
                        rcases hbad with h | h
                        · exact .inl h
                        · right; rw [hK]; split <;> omega
                      rw [if_pos hK4] at hr
                      have p3' := rw_cons (Only.tr (ho.mono (fun _ h => h.elim)) p3)
                      obtain ⟨buf', hrm⟩ := H6.out.1.took HDT.out rfl p1 p2 (Only.tr (ho.mono (fun _ h => h.elim)) p3)
                      refine ⟨hr, p3', fun vs hv => hv.only (rw_cons p3) HNN.out, Ls.map (dec K), st.now.dec K, buf', ?_⟩
                      unfold opInto
                      by_cases h4 : lastLen st.out < 4
                      · rw [if_pos h4]
                        rw [HLC.out.2.2.2.1] at h4
                        rw [if_pos h4] at hK
                        rw [hK] at hrm
                        rw [St.take_zero] at hrm
                        rw [hK]
                        exact ⟨hrm, rfl⟩
                      · rw [if_neg h4]
                        rw [HLC.out.2.2.2.1] at h4
                        have hA : st.avNow < 4 := hbad.resolve_left h4
                        rw [if_pos hA]
                        rw [if_neg h4] at hK
                        have hK2 : K = st.avNow := by omega
                        rw [hK2] at hrm ⊢
                        exact ⟨hrm, rfl⟩)
                    clear hbad HNL2
                    unfold errV at HC
                    have HCA := Lib.hid (HC.out _ hd1.out)
                    have HCB := Lib.hid (HC.out _ hd2.out)
                    go_wp2_with fail
                    go_region_held3 (fun w' => w'.cell? ⟨zb, 1, none⟩ = some (.iface 87 (.pointer (some ⟨q, 0, none⟩))) ∧ w'.cell? ⟨g, m * 7 + 4, none⟩ = some (.int .i64 len)) (first | with_reducible exact ⟨kz1, kc4⟩ | (simp only [drew_cell]; with_reducible exact ⟨kz1, kc4⟩) | with_reducible exact kpA.out | with_reducible exact kk | with_reducible exact kkA | with_reducible exact kkB | (simp only [drew_cell]; with_reducible exact kkA) | (simp only [drew_cell]; with_reducible exact kkB)) (first | (go_at_call 24; rw [HCV.out]; (with_reducible refine HCA.out.mono ?_); rintro _ w7 ⟨rfl, ho7, hnb7, hx7⟩; have HKK := Lib.hid (HNV.out w7 ho7); have kk : w7.cell? ⟨zb, 1, none⟩ = some (.iface 87 (.pointer (some ⟨q, 0, none⟩))) ∧ w7.cell? ⟨g, m * 7 + 4, none⟩ = some (.int .i64 len) := ⟨(HKK.out w7 (fun _ => False) (Only.refl _ _) (fun _ h => h.elim)).1.cell 1 rfl, (HKK.out w7 (fun _ => False) (Only.refl _ _) (fun _ h => h.elim)).2⟩; have kkA : (w7.alloc (.cells #[.int .u8 0, .int .u8 0, .int .u8 0, .int .u8 0] 55)).cell? ⟨zb, 1, none⟩ = some (.iface 87 (.pointer (some ⟨q, 0, none⟩))) ∧ (w7.alloc (.cells #[.int .u8 0, .int .u8 0, .int .u8 0, .int .u8 0] 55)).cell? ⟨g, m * 7 + 4, none⟩ = some (.int .i64 len) := ⟨(HKK.out _ (fun _ => False) (Only.alloc _ w7 _) (fun _ h => h.elim)).1.cell 1 rfl, (HKK.out _ (fun _ => False) (Only.alloc _ w7 _) (fun _ h => h.elim)).2⟩; clear hnb7; have HX7 := Lib.hid (And.intro ho7 hx7); clear ho7 hx7) | (go_at_call 24; rw [HCV.out]; (with_reducible refine HCB.out.mono ?_); rintro _ w7 ⟨rfl, ho7, hnb7, hx7⟩; have HKK := Lib.hid (HNV.out w7 ho7); have kk : w7.cell? ⟨zb, 1, none⟩ = some (.iface 87 (.pointer (some ⟨q, 0, none⟩))) ∧ w7.cell? ⟨g, m * 7 + 4, none⟩ = some (.int .i64 len) := ⟨(HKK.out w7 (fun _ => False) (Only.refl _ _) (fun _ h => h.elim)).1.cell 1 rfl, (HKK.out w7 (fun _ => False) (Only.refl _ _) (fun _ h => h.elim)).2⟩; have HB7 := Lib.hid (hnb7 _ HNB.out); clear hnb7; have n0 : w7.cell? ⟨w6.heap.size, 0, none⟩ = some (.int .u8 0) := HB7.out.cell 0 rfl; have fn0 : w7.frozen? ⟨w6.heap.size, 0, none⟩ = false := HB7.out.free 0; have n1 : w7.cell? ⟨w6.heap.size, 1, none⟩ = some (.int .u8 0) := HB7.out.cell 1 rfl; have fn1 : w7.frozen? ⟨w6.heap.size, 1, none⟩ = false := HB7.out.free 1; have n2 : w7.cell? ⟨w6.heap.size, 2, none⟩ = some (.int .u8 0) := HB7.out.cell 2 rfl; have fn2 : w7.frozen? ⟨w6.heap.size, 2, none⟩ = false := HB7.out.free 2; have n3 : w7.cell? ⟨w6.heap.size, 3, none⟩ = some (.int .u8 0) := HB7.out.cell 3 rfl; have fn3 : w7.frozen? ⟨w6.heap.size, 3, none⟩ = false := HB7.out.free 3; have kkB : ((((w7.setCell ⟨w6.heap.size, 0, none⟩ (.int .u8 0)).setCell ⟨w6.heap.size, 1, none⟩ (.int .u8 0)).setCell ⟨w6.heap.size, 2, none⟩ (.int .u8 0)).setCell ⟨w6.heap.size, 3, none⟩ (.int .u8 0)).cell? ⟨zb, 1, none⟩ = some (.iface 87 (.pointer (some ⟨q, 0, none⟩))) ∧ ((((w7.setCell ⟨w6.heap.size, 0, none⟩ (.int .u8 0)).setCell ⟨w6.heap.size, 1, none⟩ (.int .u8 0)).setCell ⟨w6.heap.size, 2, none⟩ (.int .u8 0)).setCell ⟨w6.heap.size, 3, none⟩ (.int .u8 0)).cell? ⟨g, m * 7 + 4, none⟩ = some (.int .i64 len) := ⟨(HKK.out _ _ (only4 w7 w6.heap.size (.int .u8 0) (.int .u8 0) (.int .u8 0) (.int .u8 0)) (fun j hj => by rw [hj]; exact HB7.out.ty)).1.cell 1 rfl, (HKK.out _ _ (only4 w7 w6.heap.size (.int .u8 0) (.int .u8 0) (.int .u8 0) (.int .u8 0)) (fun j hj => by rw [hj]; exact HB7.out.ty)).2⟩; have HX7 := Lib.hid (And.intro ho7 hx7); clear ho7 hx7))
                    all_goals
                      (first
                        | (have H8 : Hid (∃ R, Only R w7 ((((w7.setCell ⟨w6.heap.size, 0, none⟩ (.int .u8 0)).setCell ⟨w6.heap.size, 1, none⟩ (.int .u8 0)).setCell ⟨w6.heap.size, 2, none⟩ (.int .u8 0)).setCell ⟨w6.heap.size, 3, none⟩ (.int .u8 0)) ∧ TyIn w7 R [55] ∧ ∀ k, R k → w6.heap.size ≤ k) := Lib.hid ⟨_, only4 w7 w6.heap.size _ _ _ _, TyIn.one HB7.out, fun k hk => by rw [hk]; exact Nat.le_refl _⟩
                           generalize ((((w7.setCell ⟨w6.heap.size, 0, none⟩ (.int .u8 0)).setCell ⟨w6.heap.size, 1, none⟩ (.int .u8 0)).setCell ⟨w6.heap.size, 2, none⟩ (.int .u8 0)).setCell ⟨w6.heap.size, 3, none⟩ (.int .u8 0)) = w8 at H8 ⊢
                           clear n0 n1 n2 n3 fn0 fn1 fn2 fn3 kkB)
                        | (have H8 : Hid (∃ R, Only R w7 (w7.alloc (.cells #[.int .u8 0, .int .u8 0, .int .u8 0, .int .u8 0] 55)) ∧ TyIn w7 R [55] ∧ ∀ k, R k → w6.heap.size ≤ k) := Lib.hid ⟨fun _ => False, Only.alloc _ w7 _, fun _ h => h.elim, fun _ h => h.elim⟩
                           generalize (w7.alloc (.cells #[.int .u8 0, .int .u8 0, .int .u8 0, .int .u8 0] 55)) = w8 at H8 ⊢
                           clear kkA))
                      clear kk kz0 kz1 kt0 kt1 kc4
                      have HM8 : Hid (c.env w8 ∧ SwP c bs.length st ((2 : Int), n) w B fb x0 x1 x2 x3 (.slice ka st.kinds.length kc) (.slice aa Ls.length ac) (.slice (some ⟨g, 0, none⟩) ln oc) 2 w8) := Lib.hid (by
                        obtain ⟨R, r1, r2, r3⟩ := H8.out
                        obtain ⟨Ls', r', buf', hrm, h2⟩ := HX7.out.2
                        have hB : ∀ k, R k → c.B ≤ k := fun k hk => by have := r3 k hk; have := H6.out.1.env.1.lt; omega
                        have hk := hrm.keep r1 hB r2 (by decide)
                        have ht := H6.out.1.tyNext
                        have hf1 := (ht.sobj HX7.out.1 H6.out.2.2.2.1 (by decide)).only r1 (fun hr => by have := r3 _ hr; have := H6.out.2.2.2.1.lt; omega)
                        have hf2 := (ht.sobj HX7.out.1 H6.out.2.2.2.2 (by decide)).only r1 (fun hr => by have := r3 _ hr; have := H6.out.2.2.2.2.lt; omega)
                        rw [← HLN.out.1] at hk
                        exact ⟨hk.env, by rw [eo.out, h2], Ls', z1, _, _, _, _, _, ds, by rw [eo.out]; exact hk, (H6.out.2.2.1.tr (HX7.out.1.mono (fun j hj => by have := H6.out.1.geNext j hj; rw [HCZ.out.2.1] at this; exact this))).tr (r1.mono (fun j hj => by have := hB j hj; rw [HCZ.out.2.1] at this; exact this)), hf1, hf2⟩)
                      go_wp2_with fail
                      refine (kindOf_other c.B c.E c.S _ sS w8 HM8.out.1.2.e HM8.out.1.2.s (by decide)).mono ?_
                      rintro _ w' ⟨rfl, rfl⟩
                      go_wp2
                      go_meet
                      exact ⟨2, rfl, Lib.hid HM8.out.2⟩
                  · have h4 : ¬ len < 4 := fun h => hbad (.inl h)
                    have hA : ¬ st.avNow < 4 := fun h => hbad (.inr h)
                    have HC : Hid (∀ wd, Only (fun _ => False) w6 wd → Calls Tryd.prog 24 #[.int .u32 len, .iface 87 (.pointer (some ⟨q, 0, none⟩))] wd (fun e w7 => ∃ (z' : Nat) (buf' : List Value) (y0 y1 y2 y3 : Int), e = .returned (.tuple #[.agg #[.int .u8 y0, .int .u8 y1, .int .u8 y2, .int .u8 y3], .pointer (some ⟨z', 0, none⟩), .nilIface]) ∧ Only (fun k => k = z1 ∨ RW c.bp Ls k) w6 w7 ∧ (∀ vs, SObj wd w6.heap.size 55 vs → SObj w7 w6.heap.size 55 vs) ∧ buf'.length = 8 ∧ w6.heap.size ≤ z' ∧ c.pcs w7 (st.rest.drop 4) ∧ Stk w7 c.B c.bp ((⟨z1, q, st.now.tot, st.now.chk, st.now.pad⟩ :: Ls).map (dec 4)) ∧ Only (RW c.bp (⟨z1, q, st.now.tot, st.now.chk, st.now.pad⟩ :: Ls)) w6 w7 ∧ SObj w7 z' 89 (zC (lvV c.bp (⟨z1, q, st.now.tot, st.now.chk, st.now.pad⟩ :: Ls)) .nilIface (len - 4) 0 (.pointer none) buf' false))) := Lib.hid (fun wd ho => by
                      refine (HNL2.out wd ho).mono ?_
                      rintro e w7 ⟨K, hK, p1, p2, p3, hr⟩
                      have eA := H6.out.1.avNow q
                      rw [eA, if_neg h4] at hK
                      have hK4 : K = 4 := by omega
                      rw [if_neg (by omega)] at hr
                      obtain ⟨z', buf', b8, he, hz, hzo⟩ := hr
                      subst hK4
                      have p3a := Only.tr (ho.mono (fun _ h => h.elim)) p3
                      exact ⟨z', buf', _, _, _, _, he, rw_cons p3a, (fun vs hv => hv.only (rw_cons p3) HNN.out), b8, Nat.le_trans ho.size hz, p1, p2, p3a, hzo⟩)
                    have HBD := Lib.hid (And.intro h4 hA)
                    clear hbad h4 hA HNL2
                    have HCA := Lib.hid (HC.out _ hd1.out)
                    have HCB := Lib.hid (HC.out _ hd2.out)
                    go_wp2_with fail
                    go_region_held3 (fun w' => w'.cell? ⟨zb, 1, none⟩ = some (.iface 87 (.pointer (some ⟨q, 0, none⟩))) ∧ w'.cell? ⟨g, m * 7 + 4, none⟩ = some (.int .i64 len)) (first | with_reducible exact ⟨kz1, kc4⟩ | (simp only [drew_cell]; with_reducible exact ⟨kz1, kc4⟩) | with_reducible exact kpA.out | with_reducible exact kk | with_reducible exact kkA | with_reducible exact kkY | with_reducible exact kkB | (simp only [drew_cell]; with_reducible exact kkA) | (simp only [drew_cell]; with_reducible exact kkY) | (simp only [drew_cell]; with_reducible exact kkB)) (first | (go_at_call 24; rw [HCV.out]; (with_reducible refine HCA.out.mono ?_); rintro _ w7 ⟨z', buf', y0, y1, y2, y3, rfl, ho7, hnb7, hx7⟩; have HKK := Lib.hid (HNV.out w7 ho7); have kk : w7.cell? ⟨zb, 1, none⟩ = some (.iface 87 (.pointer (some ⟨q, 0, none⟩))) ∧ w7.cell? ⟨g, m * 7 + 4, none⟩ = some (.int .i64 len) := ⟨(HKK.out w7 (fun _ => False) (Only.refl _ _) (fun _ h => h.elim)).1.cell 1 rfl, (HKK.out w7 (fun _ => False) (Only.refl _ _) (fun _ h => h.elim)).2⟩; have kkA : (w7.alloc (.cells #[.int .u8 0, .int .u8 0, .int .u8 0, .int .u8 0] 55)).cell? ⟨zb, 1, none⟩ = some (.iface 87 (.pointer (some ⟨q, 0, none⟩))) ∧ (w7.alloc (.cells #[.int .u8 0, .int .u8 0, .int .u8 0, .int .u8 0] 55)).cell? ⟨g, m * 7 + 4, none⟩ = some (.int .i64 len) := ⟨(HKK.out _ (fun _ => False) (Only.alloc _ w7 _) (fun _ h => h.elim)).1.cell 1 rfl, (HKK.out _ (fun _ => False) (Only.alloc _ w7 _) (fun _ h => h.elim)).2⟩; have kkY : (w7.alloc (.cells #[.int .u8 y0, .int .u8 y1, .int .u8 y2, .int .u8 y3] 55)).cell? ⟨zb, 1, none⟩ = some (.iface 87 (.pointer (some ⟨q, 0, none⟩))) ∧ (w7.alloc (.cells #[.int .u8 y0, .int .u8 y1, .int .u8 y2, .int .u8 y3] 55)).cell? ⟨g, m * 7 + 4, none⟩ = some (.int .i64 len) := ⟨(HKK.out _ (fun _ => False) (Only.alloc _ w7 _) (fun _ h => h.elim)).1.cell 1 rfl, (HKK.out _ (fun _ => False) (Only.alloc _ w7 _) (fun _ h => h.elim)).2⟩; clear hnb7; have HX7 := Lib.hid (And.intro ho7 hx7); clear ho7 hx7) | (go_at_call 24; rw [HCV.out]; (with_reducible refine HCB.out.mono ?_); rintro _ w7 ⟨z', buf', y0, y1, y2, y3, rfl, ho7, hnb7, hx7⟩; have HKK := Lib.hid (HNV.out w7 ho7); have kk : w7.cell? ⟨zb, 1, none⟩ = some (.iface 87 (.pointer (some ⟨q, 0, none⟩))) ∧ w7.cell? ⟨g, m * 7 + 4, none⟩ = some (.int .i64 len) := ⟨(HKK.out w7 (fun _ => False) (Only.refl _ _) (fun _ h => h.elim)).1.cell 1 rfl, (HKK.out w7 (fun _ => False) (Only.refl _ _) (fun _ h => h.elim)).2⟩; have HB7 := Lib.hid (hnb7 _ HNB.out); clear hnb7; have n0 : w7.cell? ⟨w6.heap.size, 0, none⟩ = some (.int .u8 0) := HB7.out.cell 0 rfl; have fn0 : w7.frozen? ⟨w6.heap.size, 0, none⟩ = false := HB7.out.free 0; have n1 : w7.cell? ⟨w6.heap.size, 1, none⟩ = some (.int .u8 0) := HB7.out.cell 1 rfl; have fn1 : w7.frozen? ⟨w6.heap.size, 1, none⟩ = false := HB7.out.free 1; have n2 : w7.cell? ⟨w6.heap.size, 2, none⟩ = some (.int .u8 0) := HB7.out.cell 2 rfl; have fn2 : w7.frozen? ⟨w6.heap.size, 2, none⟩ = false := HB7.out.free 2; have n3 : w7.cell? ⟨w6.heap.size, 3, none⟩ = some (.int .u8 0) := HB7.out.cell 3 rfl; have fn3 : w7.frozen? ⟨w6.heap.size, 3, none⟩ = false := HB7.out.free 3; have kkB : ((((w7.setCell ⟨w6.heap.size, 0, none⟩ (.int .u8 y0)).setCell ⟨w6.heap.size, 1, none⟩ (.int .u8 y1)).setCell ⟨w6.heap.size, 2, none⟩ (.int .u8 y2)).setCell ⟨w6.heap.size, 3, none⟩ (.int .u8 y3)).cell? ⟨zb, 1, none⟩ = some (.iface 87 (.pointer (some ⟨q, 0, none⟩))) ∧ ((((w7.setCell ⟨w6.heap.size, 0, none⟩ (.int .u8 y0)).setCell ⟨w6.heap.size, 1, none⟩ (.int .u8 y1)).setCell ⟨w6.heap.size, 2, none⟩ (.int .u8 y2)).setCell ⟨w6.heap.size, 3, none⟩ (.int .u8 y3)).cell? ⟨g, m * 7 + 4, none⟩ = some (.int .i64 len) := ⟨(HKK.out _ _ (only4 w7 w6.heap.size (.int .u8 y0) (.int .u8 y1) (.int .u8 y2) (.int .u8 y3)) (fun j hj => by rw [hj]; exact HB7.out.ty)).1.cell 1 rfl, (HKK.out _ _ (only4 w7 w6.heap.size (.int .u8 y0) (.int .u8 y1) (.int .u8 y2) (.int .u8 y3)) (fun j hj => by rw [hj]; exact HB7.out.ty)).2⟩; have HX7 := Lib.hid (And.intro ho7 hx7); clear ho7 hx7))
                    all_goals
                      (first
                        | (have H8 : Hid (∃ R, Only R w7 ((((w7.setCell ⟨w6.heap.size, 0, none⟩ (.int .u8 y0)).setCell ⟨w6.heap.size, 1, none⟩ (.int .u8 y1)).setCell ⟨w6.heap.size, 2, none⟩ (.int .u8 y2)).setCell ⟨w6.heap.size, 3, none⟩ (.int .u8 y3)) ∧ TyIn w7 R [55] ∧ ∀ k, R k → w6.heap.size ≤ k) := Lib.hid ⟨_, only4 w7 w6.heap.size _ _ _ _, TyIn.one HB7.out, fun k hk => by rw [hk]; exact Nat.le_refl _⟩
                           generalize ((((w7.setCell ⟨w6.heap.size, 0, none⟩ (.int .u8 y0)).setCell ⟨w6.heap.size, 1, none⟩ (.int .u8 y1)).setCell ⟨w6.heap.size, 2, none⟩ (.int .u8 y2)).setCell ⟨w6.heap.size, 3, none⟩ (.int .u8 y3)) = w8 at H8 ⊢
                           clear n0 n1 n2 n3 fn0 fn1 fn2 fn3 kkB)
                        | (have H8 : Hid (∃ R, Only R w7 (w7.alloc (.cells #[.int .u8 y0, .int .u8 y1, .int .u8 y2, .int .u8 y3] 55)) ∧ TyIn w7 R [55] ∧ ∀ k, R k → w6.heap.size ≤ k) := Lib.hid ⟨fun _ => False, Only.alloc _ w7 _, fun _ h => h.elim, fun _ h => h.elim⟩
                           generalize (w7.alloc (.cells #[.int .u8 y0, .int .u8 y1, .int .u8 y2, .int .u8 y3] 55)) = w8 at H8 ⊢
                           clear kkA kkY))
                      clear kk kz0 kz1 kt0 kt1 kc4
                      have HM8 : Hid (c.pcs w8 (st.rest.drop 4) ∧ Stk w8 c.B c.bp ((⟨z1, q, st.now.tot, st.now.chk, st.now.pad⟩ :: Ls).map (dec 4)) ∧ Only (RW c.bp (⟨z1, q, st.now.tot, st.now.chk, st.now.pad⟩ :: Ls)) w6 w8 ∧ SObj w8 z' 89 (zC (lvV c.bp (⟨z1, q, st.now.tot, st.now.chk, st.now.pad⟩ :: Ls)) .nilIface (len - 4) 0 (.pointer none) buf' false) ∧ SObj w8 c.zb 69 [.pointer (some ⟨z1, 0, none⟩), .iface 87 (.pointer (some ⟨q, 0, none⟩))] ∧ (SObj w8 fb 55 [.int .u8 x0, .int .u8 x1, .int .u8 x2, .int .u8 x3] ∧ SObj w8 B 26 [.int .u8 0, .int .u8 0, .int .u8 0, .int .u8 0]) ∧ w8.ownsRow (c.zb + 1) 69 2 (.slice aa Ls.length ac) Ls.length (arCells Ls) ∧ c.env w8) := Lib.hid (by
                        obtain ⟨R, r1, r2, r3⟩ := H8.out
                        obtain ⟨o7, b8, hz', p1, p2, p3, hzo⟩ := HX7.out
                        have hB : ∀ k, R k → c.B ≤ k := fun k hk => by have := r3 k hk; have := H6.out.1.env.1.lt; omega
                        have ht := H6.out.1.tyNext
                        have p38 : Only (RW c.bp (⟨z1, q, st.now.tot, st.now.chk, st.now.pad⟩ :: Ls)) w6 w8 := p3.trans r1 (fun k hk _ hr => by have := r3 k hr; omega)
                        have hf1 := (ht.sobj o7 H6.out.2.2.2.1 (by decide)).only r1 (fun hr => by have := r3 _ hr; have := H6.out.2.2.2.1.lt; omega)
                        have hf2 := (ht.sobj o7 H6.out.2.2.2.2 (by decide)).only r1 (fun hr => by have := r3 _ hr; have := H6.out.2.2.2.2.lt; omega)
                        have rk := (H6.out.1.rk_next (rw_cons p38) (Only.refl _ w8)).1
                        refine ⟨p1.only r1 hB (fun hr => ?_), p2.only r1 (fun Q hQ => ⟨fun hr => ?_, fun hr => ?_⟩), p38, r2.sobj r1 hzo (by decide), r2.sobj r1 (ht.sobj o7 H6.out.1.nv (by decide)) (by decide), ⟨hf1, hf2⟩, rk.ar, rk.env⟩
                        · obtain ⟨_, _, _, o, _⟩ := p1
                          obtain ⟨e, he, h2⟩ := r2 _ hr
                          rw [h2.inj o.ty] at he
                          exact absurd he (by decide)
                        · obtain ⟨e, he, h2⟩ := r2 _ hr
                          rw [h2.inj (p2.ge Q hQ).2.2.1] at he
                          exact absurd he (by decide)
                        · obtain ⟨e, he, h2⟩ := r2 _ hr
                          rw [h2.inj (p2.ge Q hQ).2.2.2] at he
                          exact absurd he (by decide))
                      go_wp2_with fail
                      refine (kindOf_nil w8).mono ?_
                      rintro _ w' ⟨rfl, rfl⟩
                      go_upto_region 24 with fail
                      have gz0 : w8.cell? ⟨zb, 0, none⟩ = some (.pointer (some ⟨z1, 0, none⟩)) := by have := HM8.out.2.2.2.2.1.cell 0 rfl; rwa [HCZ.out.1] at this
                      have gz1 : w8.cell? ⟨zb, 1, none⟩ = some (.iface 87 (.pointer (some ⟨q, 0, none⟩))) := by have := HM8.out.2.2.2.2.1.cell 1 rfl; rwa [HCZ.out.1] at this
                      obtain ⟨i0, hi0, hz0, hz1, hz2⟩ := info_parts (show (Tryd.prog.info? 69).map (fun i => (i.zero, i.size, i.bytes)) = some (some ptZero, 2, 24) by kernel_rfl)
                      have hml : Hid (Ls.length + 1 ≤ maxLen) := Lib.hid (by have := HNL.out.1; unfold maxLen; omega)
                      have hmb : Hid ((Ls.length + 1) * 24 ≤ 140737488355328) := Lib.hid (by have := HNL.out.1; omega)
                      have hbw : Hid (c.zb + 1 ≤ w8.heap.size) := Lib.hid (HM8.out.2.2.2.2.1.lt)
                      have HAR : Hid (∀ (w10 : World), (w8.alloc (.cells #[.pointer (some ⟨z1, 0, none⟩), .iface 87 (.pointer (some ⟨q, 0, none⟩))] 69)).grownBy w10 (Value.ownBlock (.slice aa Ls.length ac)) → Only (fun j => Value.ownBlock (.slice aa Ls.length ac) = some j) w8 w10 ∧ SObj w10 zb 69 [.pointer (some ⟨z1, 0, none⟩), .iface 87 (.pointer (some ⟨q, 0, none⟩))]) := Lib.hid (fun w10 hg => by
                        have ho : Only (fun j => Value.ownBlock (.slice aa Ls.length ac) = some j) w8 w10 := (Only.alloc _ w8 _).tr (Only.of_grown hg (fun k hk => hk))
                        refine ⟨ho, ?_⟩
                        have h := HM8.out.2.2.2.2.1.only ho (fun hr => by have := (ownsRow_ty HM8.out.2.2.2.2.2.2.1 hr).2.1; omega)
                        rw [HCZ.out.1] at h
                        exact h)
                      go_wp2_with (at_builtin; refine wpList_append_own _ rfl _ _ 65 rfl (c.zb + 1) 69 i0 ptZero 2 24 Tryd.underlying65 hi0 hz0 hz1 hz2 ptZero_size (by decide) _ _ _ rfl (HM8.out.2.2.2.2.2.2.1.alloc _) ⟨w8.heap.size, 0, none⟩ 1 1 [.pointer (some ⟨z1, 0, none⟩), .iface 87 (.pointer (some ⟨q, 0, none⟩))] rfl rfl (news_new w8 69 [.pointer (some ⟨z1, 0, none⟩), .iface 87 (.pointer (some ⟨q, 0, none⟩))]) (by simp [Value.oneCell']) hml.out hmb.out (by simp; have := hbw.out; omega) ?_; intro av' w10 hown10 hgr10 _; have HG10 := Lib.hid (HAR.out w10 hgr10); have HO10 := Lib.hid hown10; clear hown10 hgr10 gz0 gz1; have jz0 : w10.cell? ⟨zb, 0, none⟩ = some (.pointer (some ⟨z1, 0, none⟩)) := HG10.out.2.cell 0 rfl; have jz1 : w10.cell? ⟨zb, 1, none⟩ = some (.iface 87 (.pointer (some ⟨q, 0, none⟩))) := HG10.out.2.cell 1 rfl; have yz0 : w10.frozen? ⟨zb, 0, none⟩ = false := HG10.out.2.free 0; have yz1 : w10.frozen? ⟨zb, 1, none⟩ = false := HG10.out.2.free 1)
                      have H11 : Hid (SObj ((w10.setCell ⟨zb, 0, none⟩ (.pointer (some ⟨z', 0, none⟩))).setCell ⟨zb, 1, none⟩ .nilIface) c.zb 69 [.pointer (some ⟨z', 0, none⟩), .nilIface] ∧ Only (fun j => j = c.zb) w10 ((w10.setCell ⟨zb, 0, none⟩ (.pointer (some ⟨z', 0, none⟩))).setCell ⟨zb, 1, none⟩ .nilIface)) := Lib.hid (by
                        have h := (HG10.out.2.set 0 (.pointer (some ⟨z', 0, none⟩))).set 1 .nilIface
                        rw [HCZ.out.1]
                        exact ⟨h, (Only.setCell (S := fun j => j = zb) w10 _ _ rfl).tr (Only.setCell _ _ _ rfl)⟩)
                      generalize ((w10.setCell ⟨zb, 0, none⟩ (.pointer (some ⟨z', 0, none⟩))).setCell ⟨zb, 1, none⟩ .nilIface) = w11 at H11 ⊢
                      go_meet
                      refine ⟨0, rfl, Lib.hid ?_⟩
                      obtain ⟨o7, b8, hz', p1, p2, p3, hzo⟩ := HX7.out
                      obtain ⟨m1, m2, m3, m4, m5, ⟨m6, m7⟩, m8, m9⟩ := HM8.out
                      have hll := HLC.out.2.2.2.1
                      have hta : TyIn w8 (fun j => Value.ownBlock (.slice aa Ls.length ac) = some j) [69] := TyIn.own m8
                      have htb : TyIn w10 (fun j => j = c.zb) [69] := by
                        have := TyIn.one HG10.out.2
                        rw [← HCZ.out.1] at this
                        exact this
                      have hin := H6.out.1.into HDT.out rfl (by rw [hll]; exact HBD.out.1) HBD.out.2 m1 m2 m3 b8 hz' (by rw [hll]; exact m4) (by rw [hll]; exact HLC.out.2.2.2.2.1) HG10.out.1 HO10.out H11.out.2 H11.out.1
                      have hBa : ∀ j, Value.ownBlock (.slice aa Ls.length ac) = some j → B ≤ j := fun j hj => by have := (ownsRow_ty m8 hj).2.1; have := HCZ.out; omega
                      rw [← HLN.out.1] at hin
                      exact ⟨by rw [eo.out, hin.2], _, z', _, _, _, _, _, ds, by rw [eo.out]; exact hin.1, ((H6.out.2.2.1.tr ((rw_cons m3).mono (fun j hj => by have := H6.out.1.geNext j hj; rw [HCZ.out.2.1] at this; exact this))).tr (HG10.out.1.mono hBa)).tr (H11.out.2.mono (fun j hj => by rw [hj, HCZ.out.1]; exact HCZ.out.2.2.2)), htb.sobj H11.out.2 (hta.sobj HG10.out.1 m6 (by decide)) (by decide), htb.sobj H11.out.2 (hta.sobj HG10.out.1 m7 (by decide)) (by decide)⟩
                · skip
                  have hdv := H6.out.1.dat0 (by simpa using hd)
                  subst hdv
                  have HFI : Hid (opM bs.length st ((2 : Int), n) = (st, 3)) := Lib.hid (by
                    unfold opM
                    rw [if_neg (by show ¬ (2 : Int) = 0; decide), if_neg (fun h => hd h.2), if_neg (fun h => hd h.2), if_neg (by show ¬ (2 : Int) = 3; decide)])
                  clear hd

                  go_wp2
                  go_meet
                  exact ⟨3, rfl, Lib.hid ⟨by rw [HFI.out], _, z1, _, _, _, _, _, ds, by rw [HFI.out]; exact H6.out.1, H6.out.2.2.1, H6.out.2.2.2.1, H6.out.2.2.2.2⟩⟩
              · by_cases h3 : op = 3
                · subst h3
                  clear h0 h1 h2
                  cases hL : Ls with
                  | nil =>
                    have hLs : Ls = [] := hL
                    subst hLs
                    have HFI : Hid (opM bs.length st ((3 : Int), n) = (st, 3)) := Lib.hid (by
                      have e : st.outer = [] := by rw [← H6.out.1.sr]; rfl
                      unfold opM
                      rw [if_neg (by show ¬ (3 : Int) = 0; decide), if_neg (fun h => absurd h.1 (by show ¬ (3 : Int) = 1; decide)), if_neg (fun h => absurd h.1 (by show ¬ (3 : Int) = 2; decide)), if_pos rfl]
                      unfold opBack
                      rw [e])
                    clear hL

                    go_wp2
                    go_meet
                    exact ⟨3, rfl, Lib.hid ⟨by rw [HFI.out], _, z1, _, _, _, _, _, ds, by rw [HFI.out]; exact H6.out.1, H6.out.2.2.1, H6.out.2.2.2.1, H6.out.2.2.2.2⟩⟩
                  | cons L Ls =>
                    subst hL
                    obtain ⟨ga, gc, gcur, hav, hgB, hgo, hg1, hg2, hg3, hg4⟩ := own_block H6.out.1.ar (by simp)
                    obtain ⟨m, hm⟩ : ∃ m, m = Ls.length := ⟨_, rfl⟩
                    have hlm : (L :: Ls).length = m + 1 := by rw [hm]; rfl
                    rw [hlm] at hav
                    injection hav with hav1 hav2 hav3
                    subst hav1 hav3
                    have HA : Hid (SObj w6 ga 69 gcur ∧ m = Ls.length ∧ gcur[m * 2]? = some (.pointer (some ⟨L.z, 0, none⟩)) ∧ gcur[m * 2 + 1]? = some (.iface 87 (.pointer (some ⟨L.c, 0, none⟩)))) := Lib.hid (by
                      have e2 : arCells (L :: Ls) = arCells Ls ++ [.pointer (some ⟨L.z, 0, none⟩), .iface 87 (.pointer (some ⟨L.c, 0, none⟩))] := by
                        unfold arCells
                        rw [List.reverse_cons, List.flatMap_append]
                        rfl
                      have hal := arCells_length Ls
                      rw [e2, hlm] at hg4
                      have hat : ∀ j, j < 2 → gcur[m * 2 + j]? = ([.pointer (some ⟨L.z, 0, none⟩), .iface 87 (.pointer (some ⟨L.c, 0, none⟩))] : List Value)[j]? := fun j hj => by
                        have : (gcur.take ((m + 1) * 2))[m * 2 + j]? = gcur[m * 2 + j]? := by rw [List.getElem?_take, if_pos (by omega)]
                        rw [← this, hg4, List.getElem?_append_right (by omega), hal]
                        congr 1; omega
                      exact ⟨hgo, hm, hat 0 (by omega), hat 1 (by omega)⟩)
                    have HLM := Lib.hid hlm
                    have hmc : m ≤ ac := by rw [hlm] at hg1; omega
                    have hmd : m < ac := by rw [hlm] at hg1; omega
                    clear hgB hgo hg1 hg2 hg3 hg4 hlm hav2
                    have hm40 : m ≤ 1099511627776 := by have := HNL.out.1; rw [HLM.out] at this; omega
                    rw [HLM.out]
                    clear hm
                    have im : (((m + 1 : Nat) : Int)) - 1 = (m : Int) := by omega
                    have p0 : decide ((0 : Int) < (m : Int) + 1) = true := decide_eq_true (by omega)
                    have p1 : (0 : Int) < (m : Int) + 1 := by omega
                    have p2 : decide (0 < m + 1) = true := decide_eq_true (by omega)
                    have a0 : w6.cell? ⟨ga, m * 2, none⟩ = some (.pointer (some ⟨L.z, 0, none⟩)) := HA.out.1.cell (m * 2) HA.out.2.2.1
                    have a1 : w6.cell? ⟨ga, m * 2 + 1, none⟩ = some (.iface 87 (.pointer (some ⟨L.c, 0, none⟩))) := HA.out.1.cell (m * 2 + 1) HA.out.2.2.2
                    have fz0 : w6.frozen? ⟨zb, 0, none⟩ = false := by have := H6.out.1.nv.free 0; rwa [HCZ.out.1] at this
                    have H7 : Hid (SObj ((w6.setCell ⟨zb, 0, none⟩ (.pointer (some ⟨L.z, 0, none⟩))).setCell ⟨zb, 1, none⟩ (.iface 87 (.pointer (some ⟨L.c, 0, none⟩)))) c.zb 69 [.pointer (some ⟨L.z, 0, none⟩), .iface 87 (.pointer (some ⟨L.c, 0, none⟩))] ∧ Only (fun j => j = c.zb) w6 ((w6.setCell ⟨zb, 0, none⟩ (.pointer (some ⟨L.z, 0, none⟩))).setCell ⟨zb, 1, none⟩ (.iface 87 (.pointer (some ⟨L.c, 0, none⟩))))) := Lib.hid (by
                      have h := (H6.out.1.nv.set 0 (.pointer (some ⟨L.z, 0, none⟩))).set 1 (.iface 87 (.pointer (some ⟨L.c, 0, none⟩)))
                      rw [HCZ.out.1] at h ⊢
                      exact ⟨h, (Only.setCell (S := fun j => j = zb) w6 _ _ rfl).tr (Only.setCell _ _ _ rfl)⟩)
                    go_upto_region 28 with fail
                    generalize World.setCell _ _ _ = w7 at H7 ⊢
                    clear kz0 kz1 fz1 fz0 a0 a1 p0 p1 p2
                    have kz1 : w7.cell? ⟨zb, 1, none⟩ = some (.iface 87 (.pointer (some ⟨L.c, 0, none⟩))) := by have := H7.out.1.cell 1 rfl; rwa [HCZ.out.1] at this
                    have fz1 : w7.frozen? ⟨zb, 1, none⟩ = false := by have := H7.out.1.free 1; rwa [HCZ.out.1] at this
                    have H8 : Hid (SObj (w7.setCell ⟨zb, 1, none⟩ .nilIface) c.zb 69 [.pointer (some ⟨L.z, 0, none⟩), .nilIface] ∧ Only (fun j => j = c.zb) w6 (w7.setCell ⟨zb, 1, none⟩ .nilIface)) := Lib.hid (by
                      have h := H7.out.1.set 1 .nilIface
                      have h2 := H7.out.2
                      rw [HCZ.out.1] at h h2 ⊢
                      exact ⟨h, h2.tr (Only.setCell _ _ _ rfl)⟩)
                    go_wp2
                    generalize World.setCell _ _ _ = w8 at H8 ⊢
                    go_meet
                    refine ⟨0, rfl, Lib.hid ?_⟩
                    have ht := TyIn.one H6.out.1.nv
                    have hRM := H6.out.1
                    rw [HLM.out] at hRM
                    have hm2 := HA.out.2.1
                    subst hm2
                    obtain ⟨buf', hb⟩ := hRM.back (g := ga) rfl H8.out.2 H8.out.1
                    have eo : opM bs.length st ((3 : Int), n) = opBack st := by
                      unfold opM
                      rw [if_neg (by show ¬ (3 : Int) = 0; decide), if_neg (fun h => absurd h.1 (by show ¬ (3 : Int) = 1; decide)), if_neg (fun h => absurd h.1 (by show ¬ (3 : Int) = 2; decide)), if_pos rfl]
                    exact ⟨by rw [eo, hb.2], Ls, L.z, _, _, _, _, _, ds, by rw [eo]; exact hb.1, H6.out.2.2.1.tr (H8.out.2.mono (fun j hj => by rw [hj, HCZ.out.1]; exact HCZ.out.2.2.2)), ht.sobj H8.out.2 H6.out.2.2.2.1 (by decide), ht.sobj H8.out.2 H6.out.2.2.2.2 (by decide)⟩
                · skip
                  have e0 : (op == 0) = false := by rw [beq_eq_false_iff_ne]; exact h0
                  have e1 : (op == 1) = false := by rw [beq_eq_false_iff_ne]; exact h1
                  have e2 : (op == 2) = false := by rw [beq_eq_false_iff_ne]; exact h2
                  have e3 : (op == 3) = false := by rw [beq_eq_false_iff_ne]; exact h3
                  have HFI : Hid (opM bs.length st (op, n) = (st, 3)) := Lib.hid (by
                    unfold opM
                    rw [if_neg h0, if_neg (fun h => h1 h.1), if_neg (fun h => h2 h.1), if_neg h3])
                  clear h0 h1 h2 h3

                  go_wp2
                  go_meet
                  exact ⟨3, rfl, Lib.hid ⟨by rw [HFI.out], _, z1, _, _, _, _, _, ds, by rw [HFI.out]; exact H6.out.1, H6.out.2.2.1, H6.out.2.2.2.1, H6.out.2.2.2.2⟩⟩
        case rest =>
          obtain ⟨k, rfl, HSW⟩ := hcut
          obtain ⟨hk, Ls2, z2, ev2, r2, cr2, buf2, dv2, ds2, hrm, hon, hfo, hfb⟩ := HSW.out
          have HM2 := Lib.hid (And.intro hk (And.intro hrm (And.intro hon (And.intro hfo hfb))))
          clear hk hrm hon hfo hfb HSW
          have hki : Hid (wc.ownsRow c.B 3 1 (.slice ka st.kinds.length kc) st.kinds.length (st.kinds.map fun k => Value.int .i64 (k : Nat))) := Lib.hid (by have := HM2.out.2.1.ki; rwa [(opM_bounds bs.length st (op, n)).1] at this)
          obtain ⟨i0, hi0, hz0, hz1, hz2⟩ := info_parts (show (Tryd.prog.info? 3).map (fun i => (i.zero, i.size, i.bytes)) = some (some (.int .i64 0), 1, 8) by kernel_rfl)
          have hml : Hid (st.kinds.length + 1 ≤ maxLen) := Lib.hid (by have := HNL.out.2.2; unfold maxLen; omega)
          have hmb : Hid ((st.kinds.length + 1) * 8 ≤ 140737488355328) := Lib.hid (by have := HNL.out.2.2; omega)
          have hbw : Hid (c.B ≤ wc.heap.size) := Lib.hid HM2.out.2.1.env.1.lt
          have hi1 : (i : Int) + 1 ≤ 1099511627777 := by omega
          have hi2 : (0 : Int) ≤ (i : Int) := by omega
          go_wp2_with (at_builtin; refine wpList_append_own _ rfl _ _ 23 rfl c.B 3 i0 (.int .i64 0) 1 8 Tryd.underlying23 hi0 hz0 hz1 hz2 rfl (by decide) _ _ _ rfl (hki.out.alloc _) ⟨wc.heap.size, 0, none⟩ 1 1 [.int .i64 k] rfl rfl (news_new wc 3 [.int .i64 k]) (by simp [Value.oneCell']) hml.out hmb.out (by simp; have := hbw.out; omega) ?_; intro kv' w11 hown11 hgr11 _; have H11 := Lib.hid (And.intro hown11 hgr11); clear hown11 hgr11)
          go_roundg (gk - 1)
          case measure => have := HG.out; omega
          case rel =>
            have ho3 : Only (fun j => Value.ownBlock (.slice ka st.kinds.length kc) = some j) wc w11 := (Only.alloc (fun j => Value.ownBlock (.slice ka st.kinds.length kc) = some j) wc (.cells #[.int .i64 k] 3)).tr (Only.of_grown H11.out.2 (fun k hk => hk))
            have ht3 : TyIn wc (fun j => Value.ownBlock (.slice ka st.kinds.length kc) = some j) [3] := TyIn.own hki.out
            have hkb := (opM_bounds bs.length st (op, n)).1
            have hrk := HM2.out.2.1.kind (k := k) (kv' := kv') ho3 (by rw [hkb]; exact H11.out.1)
            have eS : runM bs.length (start bs) (ps.take (i + 1)) = (opM bs.length st (op, n)).1.kind k := by
              have e1 : ps.take (i + 1) = ps.take i ++ [(op, n)] := by
                rw [HOP.out.1, HOP.out.2]; exact take_one ps i hlt
              rw [e1, runM_snoc, ← HST.out, HM2.out.1]; rfl
            refine ⟨i + 1, by omega, by have := HG.out; omega, by go_num, Lib.hid ⟨Ls2, z2, ev2, r2, cr2, buf2, dv2, ds2, ?_, HM2.out.2.2.1.tr (ho3.mono (fun j hj => ?_)), ht3.sobj ho3 HM2.out.2.2.2.1 (by decide), ht3.sobj ho3 HM2.out.2.2.2.2 (by decide)⟩⟩
            · rw [eS]; exact hrk
            · have := (ownsRow_ty hki.out hj).2.1; rw [HRM.out.2.2.2.2.1] at this; exact this
      · skip
        obtain rfl : i = ps.length := by omega
        have hd1 : decide ((ps.length : Int) < (ps.length : Int)) = false := decide_eq_false (by omega)
        have c0 : wr.cell? ⟨fb, 0, none⟩ = some (.int .u8 x0) := HM.out.2.2.1.cell 0 rfl
        have c1 : wr.cell? ⟨fb, 1, none⟩ = some (.int .u8 x1) := HM.out.2.2.1.cell 1 rfl
        have c2 : wr.cell? ⟨fb, 2, none⟩ = some (.int .u8 x2) := HM.out.2.2.1.cell 2 rfl
        have c3 : wr.cell? ⟨fb, 3, none⟩ = some (.int .u8 x3) := HM.out.2.2.1.cell 3 rfl
        have d0 : wr.cell? ⟨B, 0, none⟩ = some (.int .u8 0) := HM.out.2.2.2.cell 0 rfl
        have d1 : wr.cell? ⟨B, 1, none⟩ = some (.int .u8 0) := HM.out.2.2.2.cell 1 rfl
        have d2 : wr.cell? ⟨B, 2, none⟩ = some (.int .u8 0) := HM.out.2.2.2.cell 2 rfl
        have d3 : wr.cell? ⟨B, 3, none⟩ = some (.int .u8 0) := HM.out.2.2.2.cell 3 rfl
        have f0 : wr.frozen? ⟨B, 0, none⟩ = false := HM.out.2.2.2.free 0
        have f1 : wr.frozen? ⟨B, 1, none⟩ = false := HM.out.2.2.2.free 1
        have f2 : wr.frozen? ⟨B, 2, none⟩ = false := HM.out.2.2.2.free 2
        have f3 : wr.frozen? ⟨B, 3, none⟩ = false := HM.out.2.2.2.free 3
        have HF : Hid (SObj ((((wr.setCell ⟨B, 0, none⟩ (.int .u8 x0)).setCell ⟨B, 1, none⟩ (.int .u8 x1)).setCell ⟨B, 2, none⟩ (.int .u8 x2)).setCell ⟨B, 3, none⟩ (.int .u8 x3)) B 26 [.int .u8 x0, .int .u8 x1, .int .u8 x2, .int .u8 x3] ∧ Only (fun k => k = B) wr ((((wr.setCell ⟨B, 0, none⟩ (.int .u8 x0)).setCell ⟨B, 1, none⟩ (.int .u8 x1)).setCell ⟨B, 2, none⟩ (.int .u8 x2)).setCell ⟨B, 3, none⟩ (.int .u8 x3)) ∧ TyIn wr (fun k => k = B) [26]) := Lib.hid ⟨(((HM.out.2.2.2.set 0 (.int .u8 x0)).set 1 (.int .u8 x1)).set 2 (.int .u8 x2)).set 3 (.int .u8 x3), (((Only.setCell (S := fun k => k = B) wr _ _ rfl).tr (Only.setCell _ _ _ rfl)).tr (Only.setCell _ _ _ rfl)).tr (Only.setCell _ _ _ rfl), TyIn.one HM.out.2.2.2⟩
        go_wp2
        generalize World.setCell _ _ _ = wf at HF ⊢
        refine bodyPost_ret (v := .tuple #[.agg #[.int .u8 x0, .int .u8 x1, .int .u8 x2, .int .u8 x3], .slice oa st.out.length oc, .slice ka st.kinds.length kc]) ?_ rfl ?_
        · exact results_c2 Tryd.results8 rfl (load_form HF.out.1)
        · have hM := HM.out.1.keep HF.out.2.1 (fun k hk => by rw [hk, HRM.out.2.2.2.2.1]; exact Nat.le_refl B) HF.out.2.2 (by decide)
          have hr : riffM bs ps = (st.out, st.kinds) := by
            unfold riffM
            rw [H2.out.2.1, HST.out, List.take_of_length_le (Nat.le_refl _)]; rfl
          have hcB : c.B = B := HRM.out.2.2.2.2.1
          obtain ⟨e0, e1, e2, e3⟩ := HXX.out
          refine ⟨.slice oa st.out.length oc, .slice ka st.kinds.length kc, ?_, ⟨ds, ?_, ?_⟩, ?_, ?_⟩
          · rw [H2.out.2.1, e0, e1, e2, e3]; rfl
          · rw [hr, ← hcB]; exact hM.ou
          · rw [hr, ← hcB]; exact hM.da
          · rw [hr, ← hcB]; exact hM.ki
          · exact (HM.out.2.1.tr (HF.out.2.1.mono (fun k hk => by show B ≤ k; omega))).below (by have := HX.out.2.2.2.2.2; omega) (fun k hk => hk)
end Go.Proofs.YthipghkhdlnfiaaDoor
