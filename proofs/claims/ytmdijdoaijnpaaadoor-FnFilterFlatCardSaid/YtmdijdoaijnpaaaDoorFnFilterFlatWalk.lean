/- The walk of FnFilterFlat. Printed by wip/gen_fnff.py. -/
import Derived.Test.YtmdijdoaijnpaaaDoorFlatW
import Derived.Test.YtmdijdoaijnpaaaDoorEdge
import Derived.Test.YtmdijdoaijnpaaaDoorBytesEq
import Derived.Test.YtmdijdoaijnpaaaDoorOpenI
import Derived.Deep.OwnRows
namespace Go.Proofs.YtmdijdoaijnpaaaDoor
open Go.RowKit
set_option linter.unusedVariables false

/-- The boxes of both arrays. -/
structure BX (w w' : World) (p q : Nat → Int) : Prop where
  b0 : SObj w' w.heap.size 28 (cellsOf .i64 3 p)
  b1 : SObj w' (w.heap.size + 1) 28 (cellsOf .i64 3 q)
  bel : Below w.heap.size w w'
  two : w.heap.size + 2 ≤ w'.heap.size
theorem BX.below {w w' w'' : World} {p q : Nat → Int} (h : BX w w' p q) (hb : Below w'.heap.size w' w'') : BX w w'' p q :=
  ⟨h.b0.below hb (by have := h.two; omega), h.b1.below hb (by have := h.two; omega), h.bel.trans (hb.mono (by have := h.two; omega)), Nat.le_trans h.two hb.size⟩
theorem BX.start (w : World) (p q : Nat → Int) : BX w ((w.alloc (.cells #[.int .i64 (p 0), .int .i64 (p 1), .int .i64 (p 2)] 28)).alloc (.cells #[.int .i64 (q 0), .int .i64 (q 1), .int .i64 (q 2)] 28)) p q := by
  refine ⟨(obj_new w 28 (cellsOf .i64 3 p)).alloc _, ?_, ((Below.refl _ _).alloc (Nat.le_refl _) _).alloc (by simp) _, by simp⟩
  have := obj_new (w.alloc (.cells #[.int .i64 (p 0), .int .i64 (p 1), .int .i64 (p 2)] 28)) 28 (cellsOf .i64 3 q)
  simp only [World.size_alloc] at this
  exact this
theorem BX.arg {w w' : World} {p q : Nat → Int} (h : BX w w' p q) : Arg .i64 w' (some ⟨w.heap.size, 0, none⟩) 3 p := fun _ =>
  ⟨w.heap.size, 0, rfl, h.b0.lt, fun i hi => by rw [Nat.zero_add]; exact h.b0.cell i (by simp [cellsOf, hi])⟩
/-- .. and the row of values. -/
structure FX (w w' : World) (p q : Nat → Int) (g n : Nat) (f : Nat → Int) : Prop where
  bx : BX w w' p q
  row : Row .u8 w' g 0 n f
  fre : Wr w' g 0 n
  lo : w.heap.size + 2 ≤ g
  hi : g < w'.heap.size
theorem FX.below {w w' w'' : World} {p q : Nat → Int} {g n : Nat} {f : Nat → Int} (h : FX w w' p q g n f) (hb : Below w'.heap.size w' w'') : FX w w'' p q g n f :=
  ⟨h.bx.below hb, h.row.below hb h.hi, h.fre.below hb h.hi, h.lo, Nat.lt_of_lt_of_le h.hi hb.size⟩
theorem FX.set {w w' : World} {p q : Nat → Int} {g n : Nat} {f : Nat → Int} (h : FX w w' p q g n f) (i : Nat) (hi : i < n) (v : Int) : FX w (w'.setCell ⟨g, i, none⟩ (.int .u8 v)) p q g n (upd f i v) :=
  ⟨⟨h.bx.b0.far _ (by have := h.lo; simp; omega) _, h.bx.b1.far _ (by have := h.lo; simp; omega) _, h.bx.bel.setCell (by have := h.lo; simp; omega) _, by rw [size_setCell]; exact h.bx.two⟩,
    by simpa using h.row.set i hi v, h.fre.set _ _, h.lo, by rw [size_setCell]; exact h.hi⟩
theorem FX.arg {w w' : World} {p q : Nat → Int} {g n : Nat} {f : Nat → Int} (h : FX w w' p q g n f) : Arg .u8 w' (some ⟨g, 0, none⟩) n f := fun _ => ⟨g, 0, rfl, h.hi, h.row⟩
theorem FX.start {w w' : World} {p q : Nat → Int} (h : BX w w' p q) (n : Nat) (e : TypeId) : FX w (w'.alloc (.cells (madeCells #[.int .u8 0] n) e)) p q w'.heap.size n (fun _ => 0) := by
  refine ⟨h.below ((Below.refl _ _).alloc (Nat.le_refl _) _), fun i hi => ?_, fun i hi => frozen_of_row _ _ _ _ _ (heap_alloc_new w' _), h.two, by simp⟩
  rw [Nat.zero_add, cell_of_row _ _ i _ _ _ (heap_alloc_new w' _)]
  simp [madeCells, hi, Nat.mod_one]
def fillTo (v : Int) (p j : Nat) : Int := if j < p then v else 0
theorem fillTo_step (v : Int) (p j : Nat) : upd (fillTo v p) p v j = fillTo v (p + 1) j := by
  unfold upd fillTo
  by_cases h : j = p
  · subst h; rw [if_pos rfl, if_pos (by omega)]
  · rw [if_neg h]
    by_cases h2 : j < p
    · rw [if_pos h2, if_pos (by omega)]
    · rw [if_neg h2, if_neg (by omega)]
theorem FX.congr {w w' : World} {p q : Nat → Int} {g n : Nat} {f f' : Nat → Int} (h : FX w w' p q g n f) (he : ∀ i, i < n → f i = f' i) : FX w w' p q g n f' :=
  ⟨h.bx, h.row.congr he, h.fre, h.lo, h.hi⟩

set_option maxRecDepth 100000 in
set_option maxHeartbeats 4000000 in
theorem fnFF_neg (w : World) (ht : Tabs w) (a0 v : Int) (v0 : 0 ≤ v) (v1 : v ≤ 255) (z2 z3 : Nat → Int) (inner : Bool) (hn : a0 < 0) :
    Calls Tryd.prog 5 #[.int .i64 a0, .int .u8 v, .agg #[.int .i64 (z2 0), .int .i64 (z2 1), .int .i64 (z2 2)], .agg #[.int .i64 (z3 0), .int .i64 (z3 1), .int .i64 (z3 2)], .bool inner] w fun e w' => e = .returned (.bool true) ∧ Below w.heap.size w w' := by
  have h2 := ht.two
  have H := Lib.hid ht
  have HB := Lib.hid (BX.start w z2 z3)
  clear ht
  have nb : decide (a0 < 0) = true := by simpa using hn
  go_enter Tryd.func5, Tryd.ntmps5
  go_wp2_with fail
  generalize World.alloc _ _ = w1 at HB ⊢
  go_wp2_with fail
  refine (readBool_any _ (H.out.below h2 HB.out.bel) (by have := HB.out.bel.size; omega)).mono ?_
  rintro _ w9 ⟨rfl, hb⟩
  have HB9 := Lib.hid (HB.out.bel.trans (hb.mono HB.out.bel.size)); clear hb
  go_wp2
  go_ret
  exact ⟨rfl, HB9.out⟩

set_option maxRecDepth 100000 in
set_option maxHeartbeats 4000000 in
theorem fnFF_big (w : World) (ht : Tabs w) (a0 v : Int) (v0 : 0 ≤ v) (v1 : v ≤ 255) (z2 z3 : Nat → Int) (inner : Bool) (hn : 16384 < a0) :
    Calls Tryd.prog 5 #[.int .i64 a0, .int .u8 v, .agg #[.int .i64 (z2 0), .int .i64 (z2 1), .int .i64 (z2 2)], .agg #[.int .i64 (z3 0), .int .i64 (z3 1), .int .i64 (z3 2)], .bool inner] w fun e w' => e = .returned (.bool true) ∧ Below w.heap.size w w' := by
  have h2 := ht.two
  have H := Lib.hid ht
  have HB := Lib.hid (BX.start w z2 z3)
  clear ht
  have nb : decide (a0 < 0) = false := by simp; omega
  have nb2 : decide (16384 < a0) = true := by simpa using hn
  go_enter Tryd.func5, Tryd.ntmps5
  go_wp2_with fail
  generalize World.alloc _ _ = w1 at HB ⊢
  go_wp2_with fail
  refine (readBool_any _ (H.out.below h2 HB.out.bel) (by have := HB.out.bel.size; omega)).mono ?_
  rintro _ w9 ⟨rfl, hb⟩
  have HB9 := Lib.hid (HB.out.bel.trans (hb.mono HB.out.bel.size)); clear hb
  go_wp2
  go_ret
  exact ⟨rfl, HB9.out⟩

set_option maxRecDepth 100000 in
set_option maxHeartbeats 4000000 in
theorem fnFF_mid (w : World) (ht : Tabs w) (a0 v : Int) (v0 : 0 ≤ v) (v1 : v ≤ 255) (z2 z3 : Nat → Int) (inner : Bool) (n : Nat) (hn : n ≤ 16384) :
    Calls Tryd.prog 5 #[.int .i64 n, .int .u8 v, .agg #[.int .i64 (z2 0), .int .i64 (z2 1), .int .i64 (z2 2)], .agg #[.int .i64 (z3 0), .int .i64 (z3 1), .int .i64 (z3 2)], .bool inner] w fun e w' => e = .returned (.bool true) ∧ Below w.heap.size w w' := by
  have h2 := ht.two
  have H := Lib.hid ht
  have HB := Lib.hid (BX.start w z2 z3)
  clear ht
  obtain ⟨i0, hi, hz0, hz1, hz2⟩ := info_parts infoU8
  have nb : decide ((n : Int) < 0) = false := decide_eq_false (by omega)
  have nb2 : decide (16384 < (n : Int)) = false := decide_eq_false (by omega)
  go_enter Tryd.func5, Tryd.ntmps5
  go_wp2_with (refine wpList_make_row _ rfl _ _ 22 rfl 5 i0 (.int .u8 0) Tryd.underlying22 hi hz0 hz1 rfl .i64 .i64 n rfl rfl (by rw [hz2]; omega) (by omega) ?_)
  have HX := FX.start HB.out n 5
  simp only [World.size_alloc] at HX
  have HX := Lib.hid HX
  generalize World.alloc _ (.cells (madeCells #[.int .u8 0] n) _) = w2 at HX ⊢
  generalize hg : w.heap.size + 1 + 1 = g at HX ⊢
  clear hg HB nb nb2
  go_wp2
  go_loopw [12] (fun i wr => ∃ p : Nat, p ≤ n ∧ i = .int .i64 p ∧ Hid (FX w wr z2 z3 g n (fillTo v p))) (fun i _ => n - (intOf i).toNat)
  case atStart => exact ⟨0, by omega, rfl, Lib.hid (HX.out.congr fun i _ => by unfold fillTo; rw [if_neg (by omega)])⟩
  case round =>
    obtain ⟨p, hp, rfl, hR⟩ := hrel
    by_cases hlt : p < n
    · have c0 : wr.cell? ⟨g, p, none⟩ = some (.int .u8 (fillTo v p p)) := by simpa using hR.out.row p hlt
      have z0 : wr.frozen? ⟨g, p, none⟩ = false := by simpa using hR.out.fre p hlt
      have HS := Lib.hid ((hR.out.set p hlt v).congr (fun j _ => fillTo_step v p j))
      go_wp2
      go_roundw
      case rel => exact ⟨p + 1, by omega, by go_num, HS⟩
      case measure => simp [intOf]; omega
    · obtain rfl : p = n := by omega
      have HB : Hid (FX w wr z2 z3 g p (fun _ => v)) := Lib.hid (hR.out.congr fun i hi => by unfold fillTo; rw [if_pos hi])
      clear hR HX
      have t0 := HB.out.bx.b1.cell 0 (v := .int .i64 (z3 0)) rfl
      have t1 := HB.out.bx.b1.cell 1 (v := .int .i64 (z3 1)) rfl
      have t2 := HB.out.bx.b1.cell 2 (v := .int .i64 (z3 2)) rfl
      go_wp2_with fail
      refine (isEdge_any (some ⟨g, 0, none⟩) p p 16 (z3 0) (z3 1) (z3 2) wr (by omega) (by omega)).mono ?_
      rintro _ w2 ⟨rfl, hb⟩
      have HB := Lib.hid (HB.out.below hb); clear hb t0 t1 t2
      cases he : edgeB p 16 (z3 0) (z3 1) (z3 2) with
      | false =>
        have HEd := Lib.hid he; clear he
        go_wp2_with fail
        refine (readBool_any _ (H.out.below h2 HB.out.bx.bel) (by have := HB.out.bx.bel.size; omega)).mono ?_
        rintro _ w9 ⟨rfl, hb⟩
        have HB9 := Lib.hid (HB.out.bx.bel.trans (hb.mono HB.out.bx.bel.size)); clear hb
        go_wp2
        go_ret
        exact ⟨rfl, HB9.out⟩
      | true =>
        have hE : edgeP p 16 (z3 0) (z3 1) (z3 2) := of_decide_eq_true he
        have HEd := Lib.hid he; clear he
        obtain ⟨em, ⟨I0, I1⟩, ⟨S0, S1⟩, ⟨J0, J1⟩, hpos⟩ := hE
        have m1 : 1 ≤ p := by have := hpos 0 (by decide) 4 (by decide); omega
        have HP := Lib.hid hpos; clear hpos
        go_wp2_with fail
        refine (inRange_any _ 3 3 z2 0 255 w2 HB.out.bx.arg (by omega)).mono ?_
        rintro _ _ ⟨rfl, rfl⟩
        cases hr : inR z2 0 255 3 with
        | false =>
          have HR := Lib.hid hr; clear hr
          go_wp2_with fail
          refine (readBool_any _ (H.out.below h2 HB.out.bx.bel) (by have := HB.out.bx.bel.size; omega)).mono ?_
          rintro _ w9 ⟨rfl, hb⟩
          have HB9 := Lib.hid (HB.out.bx.bel.trans (hb.mono HB.out.bx.bel.size)); clear hb
          go_wp2
          go_ret
          exact ⟨rfl, HB9.out⟩
        | true =>
          have hq := inR_true.1 hr
          obtain ⟨l0, _⟩ := hq 0 (by decide)
          obtain ⟨l1, _⟩ := hq 1 (by decide)
          obtain ⟨l2, _⟩ := hq 2 (by decide)
          have HR := Lib.hid hr; clear hr hq
          have t0 := HB.out.bx.b1.cell 0 (v := .int .i64 (z3 0)) rfl
          have t1 := HB.out.bx.b1.cell 1 (v := .int .i64 (z3 1)) rfl
          have t2 := HB.out.bx.b1.cell 2 (v := .int .i64 (z3 2)) rfl
          have r0 := HB.out.bx.b0.cell 0 (v := .int .i64 (z2 0)) rfl
          have r1 := HB.out.bx.b0.cell 1 (v := .int .i64 (z2 1)) rfl
          have r2 := HB.out.bx.b0.cell 2 (v := .int .i64 (z2 2)) rfl
          go_wp2_with fail
          refine (simple_flat g p p v (z2 0) (z3 0) (z3 1) (z3 2) w2 l0 em m1 J0 J1 S0 S1 I0 I1 HP.out v0 v1 HB.out.arg).mono ?_
          rintro _ w3 ⟨⟨a3, c3, rfl, ho3⟩, hb⟩
          have HO3 := Lib.hid ho3.arg
          have HB := Lib.hid (HB.out.below hb); clear hb ho3
          clear t0 t1 t2 r0 r1 r2
          go_wp2_with fail
          refine (bytes_eq a3 (some ⟨g, 0, none⟩) p c3 p _ _ w3 (by unfold maxLen; omega) HO3.out HB.out.arg (fun i _ => rfl)).mono ?_
          rintro _ w4 ⟨rfl, d, hd⟩
          have HB : Hid (FX w w4 z2 z3 g p (fun _ => v)) := Lib.hid (HB.out.below (by rw [hd]; exact below_drewN (Below.refl _ _) d)); clear hd HO3
          have t0 := HB.out.bx.b1.cell 0 (v := .int .i64 (z3 0)) rfl
          have t1 := HB.out.bx.b1.cell 1 (v := .int .i64 (z3 1)) rfl
          have t2 := HB.out.bx.b1.cell 2 (v := .int .i64 (z3 2)) rfl
          have r0 := HB.out.bx.b0.cell 0 (v := .int .i64 (z2 0)) rfl
          have r1 := HB.out.bx.b0.cell 1 (v := .int .i64 (z2 1)) rfl
          have r2 := HB.out.bx.b0.cell 2 (v := .int .i64 (z2 2)) rfl
          go_wp2_with fail
          refine (normal_flat g p p v (z2 0) (z2 1) (z2 2) (z3 0) (z3 1) (z3 2) inner w4 l0 l1 l2 em m1 J0 J1 S0 S1 I0 I1 HP.out v0 v1 HB.out.arg).mono ?_
          rintro _ w5 ⟨⟨a5, c5, rfl, ho5⟩, hb⟩
          have HO5 := Lib.hid ho5.arg
          have HB := Lib.hid (HB.out.below hb); clear hb ho5
          clear t0 t1 t2 r0 r1 r2
          go_wp2_with fail
          refine (bytes_eq a5 (some ⟨g, 0, none⟩) p c5 p _ _ w5 (by unfold maxLen; omega) HO5.out HB.out.arg (fun i _ => rfl)).mono ?_
          rintro _ w6 ⟨rfl, d, hd⟩
          have HB : Hid (FX w w6 z2 z3 g p (fun _ => v)) := Lib.hid (HB.out.below (by rw [hd]; exact below_drewN (Below.refl _ _) d)); clear hd HO5
          go_wp2_with fail
          refine (readBool_any _ (H.out.below h2 HB.out.bx.bel) (by have := HB.out.bx.bel.size; omega)).mono ?_
          rintro _ w9 ⟨rfl, hb⟩
          have HB9 := Lib.hid (HB.out.bx.bel.trans (hb.mono HB.out.bx.bel.size)); clear hb
          go_wp2
          go_ret
          exact ⟨rfl, HB9.out⟩

theorem fnFilterFlat_walk (w : World) (ht : Tabs w) (a0 : Int) (w0 : (Lit.int .i64 a0).wf = true) (a1 : Int) (w1 : (Lit.int .u8 a1).wf = true) (z2 : Nat → Int) (w2 : ∀ i, i < 3 → (Lit.int .i64 (z2 i)).wf = true) (z3 : Nat → Int) (w3 : ∀ i, i < 3 → (Lit.int .i64 (z3 i)).wf = true) (a4 : Bool) :
    Calls Tryd.prog 5 #[.int .i64 a0, .int .u8 a1, .agg (cellsOf .i64 3 z2).toArray, .agg (cellsOf .i64 3 z3).toArray, .bool a4] w fun e w' => e = .returned (.bool true) ∧ Below w.heap.size w w' := by
  obtain ⟨v0, v1⟩ := u8_bounds w1
  by_cases h : a0 < 0
  · exact fnFF_neg w ht a0 a1 v0 v1 z2 z3 a4 h
  by_cases h2 : 16384 < a0
  · exact fnFF_big w ht a0 a1 v0 v1 z2 z3 a4 h2
  obtain ⟨n, rfl⟩ := Int.eq_ofNat_of_zero_le (show 0 ≤ a0 by omega)
  exact fnFF_mid w ht n a1 v0 v1 z2 z3 a4 n (by omega)
end Go.Proofs.YtmdijdoaijnpaaaDoor
