/- Riff's contract, as the laws take it: what is told, read as lists. -/
import Derived.Test.YthipghkhdlnfiaaDoorRiffArg
import Derived.Test.YthipghkhdlnfiaaDoorRfV
import Derived.Test.YthipghkhdlnfiaaDoorChk
import Derived.Test.YthipghkhdlnfiaaDoorIntsEq
namespace Go.Proofs.YthipghkhdlnfiaaDoor
open Go.RowKit
set_option linter.unusedVariables false

theorem ckCells_get : ∀ (ks : List Ck) (ds : List Value) (i j : Nat) (k : Ck) (d : Value), ks[i]? = some k → ds[i]? = some d → j < 7 → (ckCells ks ds)[i * 7 + j]? = (ckCell k d)[j]?
  | k0 :: ks, d0 :: ds, 0, j, k, d, hk, hd, hj => by
    obtain rfl : k0 = k := by simpa using hk
    obtain rfl : d0 = d := by simpa using hd
    show (ckCell k0 d0 ++ ckCells ks ds)[0 * 7 + j]? = _
    rw [Nat.zero_mul, Nat.zero_add, List.getElem?_append_left (by simp [ckCell]; omega)]
  | k0 :: ks, d0 :: ds, i + 1, j, k, d, hk, hd, hj => by
    show (ckCell k0 d0 ++ ckCells ks ds)[(i + 1) * 7 + j]? = _
    have hl : (ckCell k0 d0).length = 7 := rfl
    rw [List.getElem?_append_right (by omega), hl, show (i + 1) * 7 + j - 7 = i * 7 + j by omega]
    exact ckCells_get ks ds i j k d (by simpa using hk) (by simpa using hd) hj
  | [], _, _, _, _, _, hk, _, _ => by simp at hk
  | _ :: _, [], _, _, _, _, _, hd, _ => by simp at hd
theorem Datas.get {w : World} : ∀ {lo : Nat} {ks : List Ck} {ds : List Value} (i : Nat) (k : Ck), Datas w lo ks ds → ks[i]? = some k → ∃ d b, ds[i]? = some d ∧ w.ownsRow b 5 1 d k.data.length (u8s k.data)
  | lo, k0 :: ks, d0 :: ds, 0, k, h, hk => by
    obtain rfl : k0 = k := by simpa using hk
    exact ⟨d0, lo, rfl, h.1⟩
  | lo, k0 :: ks, d0 :: ds, i + 1, k, h, hk => by
    obtain ⟨_, hi, _, _, _, h5⟩ := h
    obtain ⟨d, b, h1, h2⟩ := h5.get i k (by simpa using hk)
    exact ⟨d, b, by simpa using h1, h2⟩
  | _, [], [], _, _, _, hk => by simp at hk
  | _, [], _ :: _, _, _, h, _ => h.elim
  | _, _ :: _, [], _, _, h, _ => h.elim
/-- What is read of chunk i: its cells' address, its data. -/
theorem OutM.get {B : Nat} {w : World} {ov : Value} {l : List Ck} (h : OutM B w ov l) (i : Nat) (k : Ck) (hk : l[i]? = some k) : ∃ g cap d b, ov = .slice (some ⟨g, 0, none⟩) l.length cap ∧ (∀ j v, (ckCell k d)[j]? = some v → w.cell? ⟨g, i * 7 + j, none⟩ = some v) ∧ w.ownsRow b 5 1 d k.data.length (u8s k.data) := by
  obtain ⟨ds, h1, h2⟩ := h
  have hi : i < l.length := (List.getElem?_eq_some_iff.1 hk).1
  obtain ⟨g, cap, cur, hv, hB, ho, h3, h4, h5, h6⟩ := own_block h1 (by omega)
  obtain ⟨d, b, hd, hown⟩ := h2.get i k hk
  refine ⟨g, cap, d, b, hv, fun j v hj => ?_, hown⟩
  have hj7 : j < 7 := by
    have := (List.getElem?_eq_some_iff.1 hj).1
    simpa [ckCell] using this
  refine ho.cell (i * 7 + j) ?_
  have e : (cur.take (l.length * 7))[i * 7 + j]? = cur[i * 7 + j]? := by
    rw [List.getElem?_take, if_pos (by have : (i + 1) * 7 ≤ l.length * 7 := Nat.mul_le_mul_right 7 hi; omega)]
  rw [← e, h6, ckCells_get l ds i j k d hk hd hj7]
  exact hj
/-- The form that Riff tells. -/
def fq (bs : List Int) (i : Nat) : Int := if okHead bs then bs.getD (8 + i) 0 else 0
theorem fq_val (bs : List Int) : (if okHead bs then four4 bs 8 else zero4) = .agg #[.int .u8 (fq bs 0), .int .u8 (fq bs 1), .int .u8 (fq bs 2), .int .u8 (fq bs 3)] := by
  unfold fq four4 zero4
  split <;> rfl
theorem OutM.cks {B : Nat} {w : World} {ov : Value} {l : List Ck} (h : OutM B w ov l) : ∃ a c, ov = .slice a l.length c ∧ l.length ≤ maxLen ∧ Cks w a l ∧ ∀ k ∈ l, k.data.length ≤ 9223372036854775807 := by
  obtain ⟨ds, h1, h2⟩ := h
  obtain ⟨a, c, hv⟩ := row_shape h1
  have hlen : l.length ≤ maxLen := by
    rcases h1.2 with ⟨_, h0⟩ | ⟨g, cap, cur, _, _, _, h3, h4, _⟩
    · unfold maxLen; omega
    · omega
  have hall : ∀ (i : Nat) (k : Ck), l[i]? = some k → ∃ d b, w.ownsRow b 5 1 d k.data.length (u8s k.data) := fun i k hk => by
    obtain ⟨d, b, _, h⟩ := h2.get i k hk
    exact ⟨d, b, h⟩
  refine ⟨a, c, hv, hlen, fun h0 => ?_, fun k hk => ?_⟩
  · obtain ⟨g, cap, cur, hv2, _⟩ := own_block h1 h0
    rw [hv] at hv2
    injection hv2 with e1 e2 e3
    refine ⟨g, 0, e1, fun i k hk => ?_⟩
    obtain ⟨g', cap', d, b, hv3, hc, hd⟩ := OutM.get ⟨ds, h1, h2⟩ i k hk
    rw [hv] at hv3
    injection hv3 with e4 e5 e6
    rw [e1] at e4
    injection e4 with e4
    injection e4 with e4
    subst e4
    obtain ⟨da, dc, hdv, _, hdarg⟩ := arg_own hd
    refine ⟨da, dc, ?_, ?_, ?_, ?_, ?_, ?_, ?_, hdarg⟩
    · have := hc 0 _ rfl; simpa using this
    · have := hc 1 _ rfl; simpa using this
    · have := hc 2 _ rfl; simpa using this
    · have := hc 3 _ rfl; simpa using this
    · have := hc 4 _ rfl; simpa using this
    · have := hc 5 d rfl; rw [hdv] at this; simpa using this
    · have := hc 6 _ rfl; simpa using this
  · obtain ⟨i, hi⟩ := List.getElem?_of_mem hk
    obtain ⟨d, b, h⟩ := hall i k hi
    rcases h.2 with ⟨_, h0⟩ | ⟨g, cap, cur, _, _, _, h3, h4, _⟩
    · omega
    · unfold maxLen at h4; omega
theorem CkAt.below {w w' : World} {g o : Nat} {k : Ck} (h : CkAt w g o k) (hb : Below w.heap.size w w') : CkAt w' g o k := by
  obtain ⟨d, c, h0, h1, h2, h3, h4, h5, h6, h7⟩ := h
  have hl : ∀ (p : Addr) (v : Value), w.cell? p = some v → w'.cell? p = some v := fun p v hv => by
    rw [World.cell?_of_block (w := w) (hb.block p.block (World.block_lt_of_cell? w p hv))]; exact hv
  exact ⟨d, c, hl _ _ h0, hl _ _ h1, hl _ _ h2, hl _ _ h3, hl _ _ h4, hl _ _ h5, hl _ _ h6, h7.below hb⟩
theorem Cks.below {w w' : World} {a : Option Addr} {l : List Ck} (h : Cks w a l) (hb : Below w.heap.size w w') : Cks w' a l := fun h0 => by
  obtain ⟨g, o, ha, h1⟩ := h h0
  exact ⟨g, o, ha, fun i k hk => (h1 i k hk).below hb⟩
theorem CkAt.dn {w : World} {g o : Nat} {k : Ck} (h : CkAt w g o k) (d : Nat) : CkAt (w.drewN d) g o k := h
theorem Cks.dn {w : World} {a : Option Addr} {l : List Ck} (h : Cks w a l) (d : Nat) : Cks (w.drewN d) a l := h
theorem below_dn {B : Nat} {w w' : World} (h : Below B w w') (d : Nat) : Below B w (w'.drewN d) := ⟨h.os, h.tape, h.output, h.size, h.block⟩
/-- What the laws take of Riff. -/
def RQ (w : World) (bs : List Int) (ps : List (Int × Int)) (E U M S L P H : Addr) (e : Ending) (w' : World) : Prop :=
  ∃ oa oc ka kc, e = .returned (.tuple #[.agg #[.int .u8 (fq bs 0), .int .u8 (fq bs 1), .int .u8 (fq bs 2), .int .u8 (fq bs 3)], .slice oa (riffM bs ps).1.length oc, .slice ka (riffM bs ps).2.length kc]) ∧
    Cks w' oa (riffM bs ps).1 ∧ (riffM bs ps).1.length ≤ 9223372036854775807 ∧ (∀ k ∈ (riffM bs ps).1, k.data.length ≤ 9223372036854775807) ∧
    Arg .i64 w' ka (riffM bs ps).2.length (fun i => (((riffM bs ps).2.getD i 0 : Nat) : Int)) ∧ (riffM bs ps).2.length ≤ 9223372036854775807 ∧ Below w.heap.size w w' ∧ Sn w' E U M S L P H
theorem riff_q (w : World) (a0 : Option Addr) (len0 cap0 : Nat) (l : List Int) (a1 : Option Addr) (len1 cap1 : Nat) (cz : Nat → Int) (a2 : Option Addr) (len2 cap2 : Nat) (ps : List (Int × Int)) (E U M S L P H : Addr) (hs : Sn w E U M S L P H)
    (harg : Arg .u8 w a0 len0 (fun i => l.getD i 0)) (hby : By l) (hl : l.length = len0) (hlm : len0 ≤ 16777216) (hlc : len0 ≤ cap0) (hcm : cap0 ≤ maxLen)
    (hcarg : Arg .i64 w a1 len1 cz) (hcw : ∀ i, -9223372036854775808 ≤ cz i ∧ cz i ≤ 9223372036854775807) (hcm1 : len1 ≤ 1048576)
    (hst : Steps w a2 ps) (hpl : ps.length = len2) (hpm : len2 ≤ 16777216) (hpw : ∀ i, -9223372036854775808 ≤ (ps.getD i (0, 0)).1 ∧ (ps.getD i (0, 0)).1 ≤ 9223372036854775807 ∧ -9223372036854775808 ≤ (ps.getD i (0, 0)).2 ∧ (ps.getD i (0, 0)).2 ≤ 9223372036854775807) :
    Hid (Calls Tryd.prog 8 #[.slice a0 len0 cap0, .slice a1 len1 cap1, .slice a2 len2 cap2] w (RQ w l ps E U M S L P H)) := Lib.hid (by
  subst hl hpl
  refine (riff_any _ a0 cap0 l a1 len1 cap1 cz a2 cap2 ps E U M S L P H (hs.env hcarg hcw (by omega) (by omega)) harg hby hlm hlc (by unfold maxLen at hcm; omega) hst (by omega) hpw).mono ?_
  rintro _ w5 ⟨ov, kv, rfl, hou, hki, hb5⟩
  obtain ⟨oa, oc, hov, ho1, ho2, ho3⟩ := hou.cks
  subst hov
  have hki2 : w5.ownsRow w.heap.size 3 1 kv (riffM l ps).2.length (((riffM l ps).2.map fun k => ((k : Nat) : Int)).map (Value.int .i64)) := by
    rw [List.map_map]; exact hki
  obtain ⟨ka, kc, hkv, _, hkarg⟩ := arg_own hki2
  subst hkv
  have hkl : (riffM l ps).2.length ≤ maxLen := by
    rcases hki2.2 with ⟨_, h0⟩ | ⟨g, cap, cur, _, _, _, h3, h4, _⟩
    · unfold maxLen; omega
    · omega
  rw [fq_val]
  unfold maxLen at ho1 hkl
  exact ⟨oa, oc, ka, kc, rfl, ho2, by omega, ho3, hkarg.congr (fun i hi => by simp [List.getD]; cases (riffM l ps).2[i]? <;> rfl), by omega, hb5, hs.later hb5⟩)
/-- Pairs of numbers, as steps. -/
def stepsOf (f : Nat → Int) (n : Nat) : List (Int × Int) := (List.range n).map fun i => (f (i * 2), f (i * 2 + 1))
theorem steps_of {w : World} {a : Option Addr} {n : Nat} {f : Nat → Int} (h : Arg .i64 w a (n * 2) f) : Steps w a (stepsOf f n) := fun h0 => by
  have hl : (stepsOf f n).length = n := by simp [stepsOf]
  rw [hl] at h0
  obtain ⟨g, o, ha, hg, hr⟩ := h (by omega)
  refine ⟨g, o, ha, hg, fun i hi => ?_⟩
  rw [hl] at hi
  have e : (stepsOf f n).getD i (0, 0) = (f (i * 2), f (i * 2 + 1)) := by simp [stepsOf, List.getD, hi]
  rw [e]
  exact ⟨hr (i * 2) (by omega), hr (i * 2 + 1) (by omega)⟩
theorem steps_wf {f : Nat → Int} {n : Nat} (h : ∀ i, -9223372036854775808 ≤ f i ∧ f i ≤ 9223372036854775807) (i : Nat) : -9223372036854775808 ≤ ((stepsOf f n).getD i (0, 0)).1 ∧ ((stepsOf f n).getD i (0, 0)).1 ≤ 9223372036854775807 ∧ -9223372036854775808 ≤ ((stepsOf f n).getD i (0, 0)).2 ∧ ((stepsOf f n).getD i (0, 0)).2 ≤ 9223372036854775807 := by
  by_cases hi : i < n
  · have e : (stepsOf f n).getD i (0, 0) = (f (i * 2), f (i * 2 + 1)) := by simp [stepsOf, List.getD, hi]
    rw [e]
    have h1 := h (i * 2); have h2 := h (i * 2 + 1)
    exact ⟨h1.1, h1.2, h2.1, h2.2⟩
  · have e : (stepsOf f n).getD i (0, 0) = (0, 0) := by simp [stepsOf, List.getD, hi]
    rw [e]; decide
theorem Steps.below {w w' : World} {a : Option Addr} {ps : List (Int × Int)} (h : Steps w a ps) (hb : Below w.heap.size w w') : Steps w' a ps := fun h0 => by
  obtain ⟨g, o, ha, hg, hr⟩ := h h0
  refine ⟨g, o, ha, Nat.lt_of_lt_of_le hg hb.size, fun i hi => ?_⟩
  obtain ⟨h1, h2⟩ := hr i hi
  exact ⟨by rw [World.cell?_of_block (w := w) (hb.block g hg)]; exact h1, by rw [World.cell?_of_block (w := w) (hb.block g hg)]; exact h2⟩
theorem i64_one {n : Int} (h : (Lit.int .i64 n).wf = true) : -9223372036854775808 ≤ n ∧ n ≤ 9223372036854775807 := by
  simp [Lit.wf, IntKind.min, IntKind.max, IntKind.signed, IntKind.bits] at h
  omega
end Go.Proofs.YthipghkhdlnfiaaDoor
