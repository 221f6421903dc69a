/- impl.Bools. -/
import Derived.Test.YthmkmemocjnleaaDoorBoolA
import Derived.Test.YthmkmemocjnleaaDoorBoolW2
namespace Go.Proofs.YthmkmemocjnleaaDoor
open Go.RowKit
set_option linter.unusedVariables false

def cellsB (n : Nat) (F : Nat → Bool) : List Value := (List.range n).map fun i => Value.bool (F i)
theorem cellsB_succ (n : Nat) (F : Nat → Bool) : cellsB (n + 1) F = cellsB n F ++ [.bool (F n)] := by simp [cellsB, List.range_succ]
theorem cellsB_length (n : Nat) (F : Nat → Bool) : (cellsB n F).length = n := by simp [cellsB]
/-- A row of truths in a block of the call's own. -/
def OwnB (B : Nat) (w : World) (a : Option Addr) (n : Nat) (F : Nat → Bool) : Prop :=
  0 < n → ∃ g, a = some ⟨g, 0, none⟩ ∧ B ≤ g ∧ g < w.heap.size ∧ ∀ i, i < n → w.cell? ⟨g, i, none⟩ = some (.bool (F i))
theorem OwnB.below {B : Nat} {w w' : World} {a : Option Addr} {n : Nat} {F : Nat → Bool} (h : OwnB B w a n F) (hb : Below w.heap.size w w') : OwnB B w' a n F := fun hn => by
  obtain ⟨g, h1, h2, h3, h4⟩ := h hn
  exact ⟨g, h1, h2, Nat.lt_of_lt_of_le h3 hb.size, fun i hi => by rw [hb.cell (p := ⟨g, i, none⟩) h3]; exact h4 i hi⟩
theorem ownB_of_cells {w : World} {B : Nat} {e : TypeId} {v : Value} {n : Nat} {F : Nat → Bool} (h : w.ownsRow B e 1 v n (cellsB n F)) :
    ∃ a c, v = .slice a n c ∧ OwnB B w a n F := by
  rcases h.2 with ⟨rfl, h0⟩ | ⟨g, cap, cur, rfl, hb, hg, _⟩
  · subst h0; exact ⟨none, 0, rfl, fun h => absurd h (by omega)⟩
  · refine ⟨_, cap, rfl, fun _ => ⟨g, rfl, hb, (Array.getElem?_eq_some_iff.1 hg).1, fun i hi => ?_⟩⟩
    have := h.cellAt i (by simpa [cellsB] using hi)
    simpa [cellsB, hi] using this

/-- The states of the package's decoder, decision by decision. -/
def stP (zs : List Int) (q : Nat → Int) : Nat → DS
  | 0 => ds0
  | k + 1 => (stepP zs (stP zs q k) (q k)).2
def outP (zs : List Int) (q : Nat → Int) (k : Nat) : Bool := (stepP zs (stP zs q k) (q k)).1

theorem infoBool : (Tryd.prog.info? 4).map (fun i => (i.zero, i.size, i.bytes)) = some (some (.bool false), 1, 1) := by kernel_rfl

/-- What the decoder begins with. -/
theorem rd0 {w w' : World} {ao : Option Addr} {n c : Nat} {zs : List Int} (ht : Tabs w) (h2 : 2 ≤ w.heap.size) (hl : zs.length = n) (hrow : Arg .u8 w ao n (fun i => zs.getD i 0)) (hz : Bytes zs) (h255 : zs.getD 0 0 ≠ 255) (hn : n ≤ 1048576)
    (ho : PTd w' w.heap.size ao n c ds0) (hb : Below w.heap.size w w') : Rd w' w.heap.size ao n c zs ds0 where
  tabs := fun i hi => by
    have k : ∀ b, b < 2 → b < w.heap.size := fun b hb => by omega
    exact ⟨by rw [hb.cell (k _ (Nat.lt_of_le_of_lt (Nat.le_refl _) (by decide +revert)))]; exact (ht i hi).1, by rw [hb.cell (k _ (Nat.lt_of_le_of_lt (Nat.le_refl _) (by decide +revert)))]; exact (ht i hi).2⟩
  two := h2
  obj := ho
  len := hl
  row := hrow.below hb
  far := fun h0 a ha => by
    obtain ⟨g, o, e, hlt, _⟩ := hrow h0
    rw [ha] at e; injection e with e; subst e
    exact Nat.ne_of_lt hlt
  ok := ds0_ok zs
  bytes := hz
  first := h255
  max := by omega

set_option maxRecDepth 100000 in
set_option maxHeartbeats 800000 in
theorem Bools_any (ao : Option Addr) (n c : Nat) (zs : List Int) (pa : Option Addr) (pn pc : Nat) (q : Nat → Int) (w : World) (ht : Tabs w) (h2 : 2 ≤ w.heap.size) (hl : zs.length = n) (hrow : Arg .u8 w ao n (fun i => zs.getD i 0)) (hz : Bytes zs) (h255 : zs.getD 0 0 ≠ 255) (hn : n ≤ 1048576)
    (hp : Arg .i64 w pa pn q) (hq : ∀ i, 0 ≤ q i ∧ q i ≤ 255) (hpn : pn ≤ 4096) :
    Calls Tryd.prog 12 #[.slice ao n c, .slice pa pn pc] w fun e w' => (∃ a c', e = .returned (.tuple #[.slice a pn c', .bool (stP zs q pn).eof]) ∧ OwnB w.heap.size w' a pn (outP zs q)) ∧ Below w.heap.size w w' := by
  obtain ⟨i0, hi, hz0, hz1, hz2⟩ := info_parts infoBool
  have H0 := Lib.hid (And.intro ht (And.intro hl (And.intro hrow (And.intro hz (And.intro h255 (And.intro hp hq)))))); clear ht hl hrow hz h255 hp hq
  go_enter Tryd.func12, Tryd.ntmps12
  go_wp2_with fail
  refine (bools_new ao n c w).mono ?_
  rintro _ w1 ⟨rfl, ho, hb⟩
  have H1 := Lib.hid (And.intro (rd0 H0.out.1 h2 H0.out.2.1 H0.out.2.2.1 H0.out.2.2.2.1 H0.out.2.2.2.2.1 hn ho hb) hb); clear ho hb
  go_wp2
  have hfar : Hid (0 < n → ∀ a, ao = some a → a.block < w.heap.size + 1) := Lib.hid (fun h0 a ha => by
    obtain ⟨g, o, e, hlt, _⟩ := H0.out.2.2.1 h0
    rw [ha] at e; injection e with e; subst e
    exact Nat.lt_succ_of_lt hlt)
  go_loopw [7, 14] (fun v i wr => ∃ p : Nat, p ≤ pn ∧ i = .int .i64 p ∧ wr.ownsRow (w.heap.size + 1) 4 1 v p (cellsB p (outP zs q)) ∧ Hid (Rd wr w.heap.size ao n c zs (stP zs q p) ∧ Below w.heap.size w wr)) (fun _ i _ => pn - (intOf i).toNat)
  case atStart => exact ⟨0, by omega, rfl, World.ownsRow_nil _ _ _ _, H1.out.1, H1.out.2⟩
  case round =>
    obtain ⟨p, hp, rfl, hown, hR⟩ := hrel
    by_cases hlt : p < pn
    · obtain ⟨ga, oa, rfl, hga, ra⟩ := H0.out.2.2.2.2.2.1 (by omega)
      have hc : wr.cell? ⟨ga, oa + p, none⟩ = some (.int .i64 (q p)) := (hR.out.2.cell (p := ⟨ga, oa + p, none⟩) hga).trans (ra p hlt)
      have hq := H0.out.2.2.2.2.2.2 p
      go_wp2_with fail
      refine (DoorBit_any w.heap.size ao n c zs (stP zs q p) (q p) wr hR.out.1 hq.1 hq.2).mono ?_
      rintro _ w2 ⟨rfl, hd, hg⟩
      have hsz : w.heap.size + 1 ≤ w2.heap.size := hd.obj.lt
      have HW := Lib.hid (And.intro hd hg)
      have hown2 : w2.ownsRow (w.heap.size + 1) 4 1 u7 p (cellsB p (outP zs q)) := hown.kept hg (.inr (fun e => by have := hown.lt _ e; omega))
      have hob : Hid (Below w.heap.size w w2) := Lib.hid (hR.out.2.grown hg (Nat.le_of_lt hR.out.1.obj.lt) (fun k hk => by injection hk with hk; omega))
      clear hd hg hown hc
      go_wp2_with (at_builtin; refine wpList_append_own _ rfl _ _ 27 rfl (w.heap.size + 1) 4 i0 (.bool false) 1 1 Tryd.underlying27 hi hz0 hz1 hz2 rfl (by decide) _ _ _ rfl (hown2.alloc _) ⟨w2.heap.size, 0, none⟩ 1 1 [.bool (outP zs q p)] rfl rfl (cell_one_new _ _ _) (by simp [Value.oneCell']) (by unfold maxLen; omega) (by omega) (by simp; omega) ?_)
      intro v' w3 hown3 hgrow _
      have R1 : w3.ownsRow (w.heap.size + 1) 4 1 v' (p + 1) (cellsB (p + 1) (outP zs q)) := by rw [cellsB_succ]; exact hown3
      have R2 : Rd w3 w.heap.size ao n c zs (stP zs q (p + 1)) := (HW.out.1.below ((Below.refl _ _).alloc (Nat.le_refl _) _)).grown hgrow (w.heap.size + 1) (by omega) (fun k hk => by have := (hown2.lt k hk).1; omega) hfar.out
      have R3 : Below w.heap.size w w3 := (hob.out.alloc (by omega) _).grown hgrow (by simp; omega) (fun k hk => by have := (hown2.lt k hk).1; omega)
      clear hown3 hgrow hown2 hob HW
      go_wp2
      go_roundw
      case rel => exact ⟨p + 1, by omega, by go_num, R1, R2, R3⟩
      case measure => simp [intOf]; omega
    · obtain rfl : p = pn := by omega
      go_wp2_with fail
      refine (DoorEnded_any w.heap.size ao n c _ wr hR.out.1.obj).mono ?_
      rintro _ _ ⟨rfl, rfl⟩
      go_wp2
      go_ret2
      obtain ⟨a, c', rfl, ho⟩ := ownB_of_cells hown
      exact ⟨⟨_, _, rfl, fun h0 => by obtain ⟨g, e1, e2, e3⟩ := ho h0; exact ⟨g, e1, by omega, e3⟩⟩, hR.out.2⟩
end Go.Proofs.YthmkmemocjnleaaDoor
