/- newBools and spec.Bools. -/
import Derived.Test.YthmkmemocjnleaaDoorBoolS
import Derived.Test.YthmkmemocjnleaaDoorCommon
namespace Go.Proofs.YthmkmemocjnleaaDoor
open Go.RowKit
set_option linter.unusedVariables false

theorem first_byte (zs : List Int) (hz : Bytes zs) : shiftsS zs 8 0 0 = zs.getD 0 0 := by
  have hx := hz 0
  simp only [shiftsS, bitAt, Nat.reduceAdd, Nat.reduceDiv, Nat.reduceMod, Nat.reduceSub, Nat.zero_add]
  generalize zs.getD 0 0 = x at *
  simp only [Int.reducePow]
  omega

set_option maxRecDepth 100000 in
set_option maxHeartbeats 800000 in
theorem newBools_any (ao : Option Addr) (n c : Nat) (zs : List Int) (w : World) (hl : zs.length = n) (hrow : Arg .u8 w ao n (fun i => zs.getD i 0)) (hz : Bytes zs) (h255 : zs.getD 0 0 ≠ 255) (hn : n ≤ 1048576) :
    Calls Tryd.prog 35 #[.slice ao n c] w fun e w' => e = .returned (.pointer (some ⟨w.heap.size, 0, none⟩)) ∧ (∃ over, Sd w' w.heap.size ao n c zs (ss0 zs).pos (ss0 zs).v (ss0 zs).z over) ∧ Below w.heap.size w w' := by
  have H0 := Lib.hid (And.intro hl (And.intro hrow (And.intro hz h255))); clear hl hrow hz h255
  go_enter Tryd.func35, Tryd.ntmps35
  go_wp2
  have hsd : Hid (Sd (w.alloc (.cells #[.slice ao n c, .int .i64 0, .int .i64 0, .int .i64 255, .int .i64 (-8 * (n : Int) - 8)] 131)) w.heap.size ao n c zs 0 0 255 (-8 * (n : Int) - 8) ∧ Below w.heap.size w (w.alloc (.cells #[.slice ao n c, .int .i64 0, .int .i64 0, .int .i64 255, .int .i64 (-8 * (n : Int) - 8)] 131))) := Lib.hid ⟨{
    obj := obj_new w 131 [.slice ao n c, .int .i64 0, .int .i64 0, .int .i64 255, .int .i64 (-8 * (n : Int) - 8)]
    len := H0.out.1
    row := H0.out.2.1.alloc _
    far := fun h0 a ha => by
      obtain ⟨g, o, e, hlt, _⟩ := H0.out.2.1 h0
      rw [ha] at e; injection e with e; subst e
      exact Nat.ne_of_lt hlt
    bytes := H0.out.2.2.1
    max := hn }, (Below.refl _ _).alloc (Nat.le_refl _) _⟩
  go_loopw [4] (fun i wr => ∃ p : Nat, p ≤ 8 ∧ i = .int .i64 p ∧ Hid (Sd wr w.heap.size ao n c zs p (shiftsS zs p 0 0) 255 (-8 * (n : Int) - 8) ∧ Below w.heap.size w wr)) (fun i _ => 8 - (intOf i).toNat)
  case atStart => exact ⟨0, by omega, rfl, by simpa [shiftsS] using hsd⟩
  case round =>
    obtain ⟨p, hp, rfl, hR⟩ := hrel
    by_cases hlt : p < 8
    · have hr := shiftsS_range zs p 0 1 0 (by decide) (by decide)
      have hpw : (1 : Int) * 2 ^ p ≤ 256 := by
        have : ∀ p : Nat, p ≤ 8 → (1 : Int) * 2 ^ p ≤ 256 := by decide
        exact this p hp
      clear hsd
      go_wp2_with fail
      refine (shiftS_any w.heap.size ao n c zs p (shiftsS zs p 0 0) 255 (-8 * (n : Int) - 8) wr hR.out.1 hr.1 (by omega) (by omega)).mono ?_
      rintro _ w2 ⟨rfl, hd, hg⟩
      have HW : Hid (Sd w2 w.heap.size ao n c zs (p + 1) (shiftsS zs (p + 1) 0 0) 255 (-8 * (n : Int) - 8) ∧ Below w.heap.size w w2) := Lib.hid ⟨by rw [shiftsS_succ, Nat.zero_add]; exact hd, hR.out.2.grown hg (Nat.le_of_lt (SObj.lt hR.out.1.obj)) (fun k hk => by injection hk with hk; omega)⟩
      clear hd hg hr hpw
      go_wp2
      go_roundw
      case rel => exact ⟨p + 1, by omega, by go_num, HW.out⟩
      case measure => simp [intOf]; omega
    · obtain rfl : p = 8 := by omega
      have hx := H0.out.2.2.1 0
      have h255 := H0.out.2.2.2
      rw [first_byte zs H0.out.2.2.1] at hR
      obtain ⟨x, hx0⟩ : ∃ x, x = zs.getD 0 0 := ⟨_, rfl⟩
      rw [← hx0] at hR hx h255
      have hx254 : x < 255 := by omega
      have HX := Lib.hid hx0
      have c2 := SObj.cell hR.out.1.obj 2 rfl
      have c3 := SObj.cell hR.out.1.obj 3 rfl
      clear hsd hx0 h255
      go_wp2
      go_quiet (fail)
      go_wp2
      go_ret
      refine ⟨rfl, ⟨-8 * (n : Int) - 8, ?_⟩, below_drewN hR.out.2 _⟩
      have hsd : Sd (wr.drewN nq) w.heap.size ao n c zs 8 x 255 (-8 * (n : Int) - 8) := Sd.below hR.out.1 (below_drewN (Below.refl wr.heap.size wr) nq)
      rw [HX.out] at hsd
      exact hsd

theorem isOver_any (g : Nat) (ao : Option Addr) (n c pos : Nat) (v z over : Int) (w : World) (h : ST w g ao n c pos v z over) :
    Calls Tryd.prog 38 #[.pointer (some ⟨g, 0, none⟩)] w fun e w' => e = .returned (.bool (decide (0 < over))) ∧ w' = w := by
  have c4 := SObj.cell h 4 rfl
  clear h
  go_enter Tryd.func38, Tryd.ntmps38
  go_wp2
  go_ret
  exact ⟨rfl, rfl⟩

theorem within_any (x lo hi : Int) (w : World) (h0 : lo ≤ x) (h1 : x ≤ hi) :
    Calls Tryd.prog 37 #[.int .i64 x, .int .i64 lo, .int .i64 hi] w fun e w' => e = .returned (.int .i64 x) ∧ w' = w := by
  go_enter Tryd.func37, Tryd.ntmps37
  go_wp2
  · go_ret
    exact ⟨by first | rfl | (congr 2; done) | (congr 2; omega), rfl⟩
  · go_ret
    exact ⟨by obtain rfl : x = lo := by omega
              rfl, rfl⟩

/-- The states of the reference's decoder. -/
def stS (zs : List Int) (q : Nat → Int) : Nat → SS
  | 0 => ss0 zs
  | k + 1 => (stepS zs (stS zs q k) (q k)).2
def outS (zs : List Int) (q : Nat → Int) (k : Nat) : Bool := (stepS zs (stS zs q k) (q k)).1
theorem stS_ok (zs : List Int) (q : Nat → Int) (hz : Bytes zs) (h255 : zs.getD 0 0 ≠ 255) (hq : ∀ i, 0 ≤ q i ∧ q i ≤ 255) (k : Nat) : OKS zs (stS zs q k) ∧ (stS zs q k).pos ≤ 8 + 7 * k := by
  induction k with
  | zero => exact ⟨ss0_ok zs hz h255, by simp [stS, ss0]⟩
  | succ k ih =>
    have := stepS_ok zs _ ih.1 (q k) (hq k).1 (hq k).2
    exact ⟨this.1, by simp only [stS]; omega⟩

/-- As long as the package's decoder has bytes, both read the same. -/
theorem stP_ok (zs : List Int) (q : Nat → Int) (hz : Bytes zs) (h255 : zs.getD 0 0 ≠ 255) (hq : ∀ i, 0 ≤ q i ∧ q i ≤ 255) (k : Nat) : OKP zs (stP zs q k) := by
  induction k with
  | zero => exact ds0_ok zs
  | succ k ih => exact stepP_ok zs _ ih hz h255 (q k) (hq k).1 (hq k).2
theorem goP_eof (r : Nat) (m b nb prob : Int) (eof : Bool) : (goP r m b nb prob eof).2.eof = eof := by unfold goP; split <;> rfl
/-- An end once met stays. -/
theorem stepP_eof (zs : List Int) (d : DS) (p : Int) (h : (stepP zs d p).2.eof = false) : d.eof = false ∧ ¬ (d.nb < 8 ∧ zs.length ≤ d.r) := by
  unfold stepP at h
  by_cases h1 : d.nb < 8
  · rw [if_pos h1] at h
    by_cases h2 : zs.length ≤ d.r
    · rw [if_pos h2] at h; exact absurd h (by simp)
    · rw [if_neg h2, goP_eof] at h; exact ⟨h, fun h => h2 h.2⟩
  · rw [if_neg h1, goP_eof] at h; exact ⟨h, fun h => h1 h.1⟩
theorem both (zs : List Int) (q : Nat → Int) (hz : Bytes zs) (h255 : zs.getD 0 0 ≠ 255) (hq : ∀ i, 0 ≤ q i ∧ q i ≤ 255) (k : Nat) : (stP zs q k).eof = false → Rel zs (stP zs q k) (stS zs q k) ∧ ∀ i, i < k → outP zs q i = outS zs q i := by
  induction k with
  | zero => exact fun _ => ⟨rel0 zs hz, fun i hi => absurd hi (by omega)⟩
  | succ k ih =>
    intro he
    obtain ⟨e1, e2⟩ := stepP_eof zs _ _ he
    obtain ⟨r1, r2⟩ := ih e1
    obtain ⟨s1, s2⟩ := step_rel zs _ _ (stP_ok zs q hz h255 hq k) hz h255 r1 e2 (q k) (hq k).1 (hq k).2
    exact ⟨s2, fun i hi => by
      by_cases h : i < k
      · exact r2 i h
      · obtain rfl : i = k := by omega
        exact s1⟩

set_option maxRecDepth 100000 in
set_option maxHeartbeats 800000 in
theorem BoolsS_any (ao : Option Addr) (n c : Nat) (zs : List Int) (pa : Option Addr) (pn pc : Nat) (q : Nat → Int) (w : World) (hl : zs.length = n) (hrow : Arg .u8 w ao n (fun i => zs.getD i 0)) (hz : Bytes zs) (h255 : zs.getD 0 0 ≠ 255) (hn : n ≤ 1048576)
    (hp : Arg .i64 w pa pn q) (hq : ∀ i, 0 ≤ q i ∧ q i ≤ 255) (hpn : pn ≤ 4096) :
    Calls Tryd.prog 13 #[.slice ao n c, .slice pa pn pc] w fun e w' => (∃ a c' b, e = .returned (.tuple #[.slice a pn c', .bool b]) ∧ OwnB w.heap.size w' a pn (outS zs q)) ∧ Below w.heap.size w w' := by
  obtain ⟨i0, hi, hz0, hz1, hz2⟩ := info_parts infoBool
  have hok := Lib.hid (stS_ok zs q hz h255 hq)
  have hfar : Hid (0 < n → ∀ a, ao = some a → a.block < w.heap.size + 1) := Lib.hid (fun h0 a ha => by
    obtain ⟨g, o, e, hlt, _⟩ := hrow h0
    rw [ha] at e; injection e with e; subst e
    exact Nat.lt_succ_of_lt hlt)
  have H0 := Lib.hid (And.intro hl (And.intro hrow (And.intro hz (And.intro h255 (And.intro hp hq))))); clear hl hrow hz h255 hp hq
  go_enter Tryd.func13, Tryd.ntmps13
  go_wp2_with fail
  refine (newBools_any ao n c zs w H0.out.1 H0.out.2.1 H0.out.2.2.1 H0.out.2.2.2.1 hn).mono ?_
  rintro _ w1 ⟨rfl, ⟨over, ho⟩, hb⟩
  have H1 := Lib.hid (And.intro ho hb); clear ho hb
  go_wp2
  go_loopw [7, 8] (fun v i wr => ∃ p : Nat, p ≤ pn ∧ i = .int .i64 p ∧ wr.ownsRow (w.heap.size + 1) 4 1 v p (cellsB p (outS zs q)) ∧ Hid ((∃ ov, Sd wr w.heap.size ao n c zs (stS zs q p).pos (stS zs q p).v (stS zs q p).z ov) ∧ Below w.heap.size w wr)) (fun _ i _ => pn - (intOf i).toNat)
  case atStart => exact ⟨0, by omega, rfl, World.ownsRow_nil _ _ _ _, ⟨_, H1.out.1⟩, H1.out.2⟩
  case round =>
    obtain ⟨p, hp, rfl, hown, hR⟩ := hrel
    obtain ⟨ov, hsd⟩ := hR.out.1
    have HR := Lib.hid (And.intro hsd hR.out.2); clear hsd hR
    by_cases hlt : p < pn
    · obtain ⟨ga, oa, rfl, hga, ra⟩ := H0.out.2.2.2.2.1 (by omega)
      have hc : wr.cell? ⟨ga, oa + p, none⟩ = some (.int .i64 (q p)) := (HR.out.2.cell (p := ⟨ga, oa + p, none⟩) hga).trans (ra p hlt)
      have hq := H0.out.2.2.2.2.2 p
      go_wp2_with fail
      refine (within_any (q p) 0 255 wr hq.1 hq.2).mono ?_
      rintro _ _ ⟨rfl, rfl⟩
      go_wp2_with fail
      refine (boolS_any w.heap.size ao n c zs (stS zs q p) ov (q p) _ HR.out.1 (hok.out p).1 hq.1 hq.2 (by have := (hok.out p).2; omega)).mono ?_
      rintro _ w2 ⟨rfl, ⟨ov2, hd⟩, hg⟩
      have hsz : w.heap.size + 1 ≤ w2.heap.size := SObj.lt hd.obj
      have HW := Lib.hid (And.intro hd hg)
      have hown2 : w2.ownsRow (w.heap.size + 1) 4 1 u7 p (cellsB p (outS zs q)) := hown.kept hg (.inr (fun e => by have := hown.lt _ e; omega))
      have hob : Hid (Below w.heap.size w w2) := Lib.hid (HR.out.2.grown hg (Nat.le_of_lt (SObj.lt HR.out.1.obj)) (fun k hk => by injection hk with hk; omega))
      clear hd hg hown hc
      go_wp2_with (at_builtin; refine wpList_append_own _ rfl _ _ 27 rfl (w.heap.size + 1) 4 i0 (.bool false) 1 1 Tryd.underlying27 hi hz0 hz1 hz2 rfl (by decide) _ _ _ rfl (hown2.alloc _) ⟨w2.heap.size, 0, none⟩ 1 1 [.bool (outS zs q p)] rfl rfl (cell_one_new _ _ _) (by simp [Value.oneCell']) (by unfold maxLen; omega) (by omega) (by simp; omega) ?_)
      intro v' w3 hown3 hgrow _
      have R1 : w3.ownsRow (w.heap.size + 1) 4 1 v' (p + 1) (cellsB (p + 1) (outS zs q)) := by rw [cellsB_succ]; exact hown3
      have R2 : Sd w3 w.heap.size ao n c zs (stS zs q (p + 1)).pos (stS zs q (p + 1)).v (stS zs q (p + 1)).z ov2 := (HW.out.1.below ((Below.refl _ _).alloc (Nat.le_refl _) _)).grown hgrow (w.heap.size + 1) (fun k hk => by have := (hown2.lt k hk).1; omega) hfar.out
      have R3 : Below w.heap.size w w3 := (hob.out.alloc (by omega) _).grown hgrow (by simp; omega) (fun k hk => by have := (hown2.lt k hk).1; omega)
      clear hown3 hgrow hown2 hob HW
      go_wp2
      go_roundw
      case rel => exact ⟨p + 1, by omega, by go_num, R1, ⟨_, R2⟩, R3⟩
      case measure => simp [intOf]; omega
    · obtain rfl : p = pn := by omega
      go_wp2_with fail
      refine (isOver_any w.heap.size ao n c _ _ _ _ wr HR.out.1.obj).mono ?_
      rintro _ _ ⟨rfl, rfl⟩
      go_wp2
      go_ret2
      obtain ⟨a, c', rfl, ho⟩ := ownB_of_cells hown
      exact ⟨⟨_, _, _, rfl, fun h0 => by obtain ⟨g, e1, e2, e3⟩ := ho h0; exact ⟨g, e1, by omega, e3⟩⟩, HR.out.2⟩
end Go.Proofs.YthmkmemocjnleaaDoor
