/- The walk of FnFilterNormal. Printed by wip/gen_fnfn.py. -/
import Derived.Test.YtmdijdoaijnpaaaDoorFiltF
import Derived.Test.YtmdijdoaijnpaaaDoorBytesEq
import Derived.Test.YtmdijdoaijnpaaaDoorOpenI
namespace Go.Proofs.YtmdijdoaijnpaaaDoor
open Go.RowKit
set_option linter.unusedVariables false

/-- The boxes of both arrays. -/
structure BX (w w' : World) (p q : Nat → Int) : Prop where
  b0 : SObj w' w.heap.size 28 (cellsOf .i64 3 p)
  b1 : SObj w' (w.heap.size + 1) 28 (cellsOf .i64 3 q)
  bel : Below w.heap.size w w'
  two : w.heap.size + 2 ≤ w'.heap.size
theorem BX.below {w w' w'' : World} {p q : Nat → Int} (h : BX w w' p q) (hb : Below w'.heap.size w' w'') : BX w w'' p q :=
  ⟨h.b0.below hb (by have := h.two; omega), h.b1.below hb (by have := h.two; omega), h.bel.trans (hb.mono (by have := h.two; omega)), Nat.le_trans h.two hb.size⟩
theorem BX.start (w : World) (p q : Nat → Int) : BX w ((w.alloc (.cells #[.int .i64 (p 0), .int .i64 (p 1), .int .i64 (p 2)] 28)).alloc (.cells #[.int .i64 (q 0), .int .i64 (q 1), .int .i64 (q 2)] 28)) p q := by
  refine ⟨(obj_new w 28 (cellsOf .i64 3 p)).alloc _, ?_, ((Below.refl _ _).alloc (Nat.le_refl _) _).alloc (by simp) _, by simp⟩
  have := obj_new (w.alloc (.cells #[.int .i64 (p 0), .int .i64 (p 1), .int .i64 (p 2)] 28)) 28 (cellsOf .i64 3 q)
  simp only [World.size_alloc] at this
  exact this
theorem BX.arg {w w' : World} {p q : Nat → Int} (h : BX w w' p q) : Arg .i64 w' (some ⟨w.heap.size, 0, none⟩) 3 p := fun _ =>
  ⟨w.heap.size, 0, rfl, h.b0.lt, fun i hi => by rw [Nat.zero_add]; exact h.b0.cell i (by simp [cellsOf, hi])⟩

set_option maxRecDepth 100000 in
set_option maxHeartbeats 4000000 in
theorem fnFN16 (w : World) (ht : Tabs w) (a0 : Option Addr) (m c0 : Nat) (f : Nat → Int) (ha : Arg .u8 w a0 m f) (hf : ∀ x, 0 ≤ f x ∧ f x ≤ 255) (z2 z3 : Nat → Int) (inner : Bool) (hm : m ≤ 2147483647) :
    Calls Tryd.prog 4 #[.slice a0 m c0, .bool true, .agg #[.int .i64 (z2 0), .int .i64 (z2 1), .int .i64 (z2 2)], .agg #[.int .i64 (z3 0), .int .i64 (z3 1), .int .i64 (z3 2)], .bool inner] w fun e w' => e = .returned (.bool true) ∧ Below w.heap.size w w' := by
  have h2 := ht.two
  have H := Lib.hid (And.intro ht (And.intro ha hf))
  have HB := Lib.hid (BX.start w z2 z3)
  clear ht ha hf
  cases he : edgeB m 16 (z3 0) (z3 1) (z3 2) with
  | false =>
    have HEd := Lib.hid he; clear he
    go_enter Tryd.func4, Tryd.ntmps4
    go_wp2_with fail
    generalize World.alloc _ _ = w1 at HB ⊢
    refine (isEdge_any a0 m c0 16 (z3 0) (z3 1) (z3 2) w1 (by omega) (by omega)).mono ?_
    rintro _ w2 ⟨rfl, hb⟩
    have HB := Lib.hid (HB.out.below hb); clear hb
    rw [HEd.out]
    go_wp2_with fail
    refine (readBool_any w2 (H.out.1.below h2 HB.out.bel) (by have := HB.out.two; omega)).mono ?_
    rintro _ w9 ⟨rfl, hb⟩
    have HB9 := Lib.hid (HB.out.below hb); clear hb
    go_wp2
    go_ret
    exact ⟨rfl, HB9.out.bel⟩
  | true =>
    have hE : edgeP m 16 (z3 0) (z3 1) (z3 2) := of_decide_eq_true he
    have HEd := Lib.hid he; clear he
    obtain ⟨em, ⟨I0, I1⟩, ⟨S0, S1⟩, ⟨J0, J1⟩, hpos⟩ := hE
    have m1 : 1 ≤ m := by have := hpos 0 (by decide) 4 (by decide); omega
    obtain ⟨g, o, rfl, hg, hrow⟩ := H.out.2.1 (by omega)
    have HP := Lib.hid hpos; clear hpos
    have HG : Hid (g < w.heap.size) := Lib.hid hg; clear hg hrow
    cases hap : apartB 16 (z3 1) (z3 2) with
    | false =>
      have HAp := Lib.hid hap; clear hap
      go_enter Tryd.func4, Tryd.ntmps4
      go_wp2_with fail
      generalize World.alloc _ _ = w1 at HB ⊢
      refine (isEdge_any _ m c0 16 (z3 0) (z3 1) (z3 2) w1 (by omega) (by omega)).mono ?_
      rintro _ w2 ⟨rfl, hb⟩
      have HB := Lib.hid (HB.out.below hb); clear hb
      rw [HEd.out]
      have t0 := HB.out.b1.cell 0 (v := .int .i64 (z3 0)) rfl
      have t1 := HB.out.b1.cell 1 (v := .int .i64 (z3 1)) rfl
      have t2 := HB.out.b1.cell 2 (v := .int .i64 (z3 2)) rfl
      go_wp2_with fail
      refine (isApart_any 16 (z3 1) (z3 2) w2 (by decide) (by omega) (by omega) (by omega) (by omega)).mono ?_
      rintro _ _ ⟨rfl, rfl⟩
      rw [HAp.out]
      go_wp2_with fail
      refine (readBool_any w2 (H.out.1.below h2 HB.out.bel) (by have := HB.out.two; omega)).mono ?_
      rintro _ w9 ⟨rfl, hb⟩
      have HB9 := Lib.hid (HB.out.below hb); clear hb
      go_wp2
      go_ret
      exact ⟨rfl, HB9.out.bel⟩
    | true =>
      have HJ : Hid (z3 2 ≠ 0) := Lib.hid (apartB_ne (by decide) hap)
      have HAp := Lib.hid hap; clear hap
      cases hr : inR z2 0 255 3 with
      | false =>
        have HR := Lib.hid hr; clear hr
        go_enter Tryd.func4, Tryd.ntmps4
        go_wp2_with fail
        generalize World.alloc _ _ = w1 at HB ⊢
        refine (isEdge_any _ m c0 16 (z3 0) (z3 1) (z3 2) w1 (by omega) (by omega)).mono ?_
        rintro _ w2 ⟨rfl, hb⟩
        have HB := Lib.hid (HB.out.below hb); clear hb
        rw [HEd.out]
        have t0 := HB.out.b1.cell 0 (v := .int .i64 (z3 0)) rfl
        have t1 := HB.out.b1.cell 1 (v := .int .i64 (z3 1)) rfl
        have t2 := HB.out.b1.cell 2 (v := .int .i64 (z3 2)) rfl
        go_wp2_with fail
        refine (isApart_any 16 (z3 1) (z3 2) w2 (by decide) (by omega) (by omega) (by omega) (by omega)).mono ?_
        rintro _ _ ⟨rfl, rfl⟩
        rw [HAp.out]
        go_wp2_with fail
        refine (inRange_any _ 3 3 z2 0 255 w2 HB.out.arg (by omega)).mono ?_
        rintro _ _ ⟨rfl, rfl⟩
        rw [HR.out]
        go_wp2_with fail
        refine (readBool_any w2 (H.out.1.below h2 HB.out.bel) (by have := HB.out.two; omega)).mono ?_
        rintro _ w9 ⟨rfl, hb⟩
        have HB9 := Lib.hid (HB.out.below hb); clear hb
        go_wp2
        go_ret
        exact ⟨rfl, HB9.out.bel⟩
      | true =>
        have HR := Lib.hid hr; clear hr
        go_enter Tryd.func4, Tryd.ntmps4
        go_wp2_with fail
        generalize World.alloc _ _ = w1 at HB ⊢
        refine (isEdge_any _ m c0 16 (z3 0) (z3 1) (z3 2) w1 (by omega) (by omega)).mono ?_
        rintro _ w2 ⟨rfl, hb⟩
        have HB := Lib.hid (HB.out.below hb); clear hb
        rw [HEd.out]
        have t0 := HB.out.b1.cell 0 (v := .int .i64 (z3 0)) rfl
        have t1 := HB.out.b1.cell 1 (v := .int .i64 (z3 1)) rfl
        have t2 := HB.out.b1.cell 2 (v := .int .i64 (z3 2)) rfl
        go_wp2_with fail
        refine (isApart_any 16 (z3 1) (z3 2) w2 (by decide) (by omega) (by omega) (by omega) (by omega)).mono ?_
        rintro _ _ ⟨rfl, rfl⟩
        rw [HAp.out]
        go_wp2_with fail
        refine (inRange_any _ 3 3 z2 0 255 w2 HB.out.arg (by omega)).mono ?_
        rintro _ _ ⟨rfl, rfl⟩
        rw [HR.out]
        have r0 := HB.out.b0.cell 0 (v := .int .i64 (z2 0)) rfl
        have r1 := HB.out.b0.cell 1 (v := .int .i64 (z2 1)) rfl
        have r2 := HB.out.b0.cell 2 (v := .int .i64 (z2 2)) rfl
        go_wp2_with fail
        have HA : Hid (Arg .u8 w2 (some ⟨g, o, none⟩) m f) := Lib.hid (H.out.2.1.below HB.out.bel)
        refine (implNormal_any g o m c0 16 f (z2 0) (z2 1) (z2 2) (z3 0) (z3 1) (z3 2) inner w2 em m1 (by decide) J0 J1 HJ.out S0 S1 I0 I1 HP.out HA.out H.out.2.2).mono ?_
        rintro _ w3 ⟨⟨a3, c3, rfl, ho3⟩, hb⟩
        have HO3 := Lib.hid (And.intro ho3.arg (HA.out.below hb))
        have HB := Lib.hid (HB.out.below hb); clear hb ho3 t0 t1 t2 r0 r1 r2
        have t0 := HB.out.b1.cell 0 (v := .int .i64 (z3 0)) rfl
        have t1 := HB.out.b1.cell 1 (v := .int .i64 (z3 1)) rfl
        have t2 := HB.out.b1.cell 2 (v := .int .i64 (z3 2)) rfl
        have r0 := HB.out.b0.cell 0 (v := .int .i64 (z2 0)) rfl
        have r1 := HB.out.b0.cell 1 (v := .int .i64 (z2 1)) rfl
        have r2 := HB.out.b0.cell 2 (v := .int .i64 (z2 2)) rfl
        go_wp2_with fail
        refine (specNormal_any g o m c0 16 f (z2 0) (z2 1) (z2 2) (z3 0) (z3 1) (z3 2) inner w3 em m1 (by decide) J0 J1 S0 S1 I0 I1 HP.out HO3.out.2 H.out.2.2).mono ?_
        rintro _ w4 ⟨⟨a4, c4, rfl, ho4⟩, hb⟩
        have HO4 := Lib.hid (And.intro (HO3.out.1.below hb) ho4.arg)
        have HB := Lib.hid (HB.out.below hb); clear hb ho4 t0 t1 t2 r0 r1 r2
        go_wp2_with fail
        refine (bytes_eq a3 a4 m c3 c4 _ _ w4 (by unfold maxLen; omega) HO4.out.1 HO4.out.2 (fun i _ => rfl)).mono ?_
        rintro _ w5 ⟨rfl, d, hd⟩
        have HB : Hid (BX w w5 z2 z3) := Lib.hid (HB.out.below (by rw [hd]; exact below_drewN (Below.refl _ _) d)); clear hd
        go_wp2_with fail
        refine (readBool_any w5 (H.out.1.below h2 HB.out.bel) (by have := HB.out.two; omega)).mono ?_
        rintro _ w9 ⟨rfl, hb⟩
        have HB9 := Lib.hid (HB.out.below hb); clear hb
        go_wp2
        go_ret
        exact ⟨rfl, HB9.out.bel⟩

set_option maxRecDepth 100000 in
set_option maxHeartbeats 4000000 in
theorem fnFN8 (w : World) (ht : Tabs w) (a0 : Option Addr) (m c0 : Nat) (f : Nat → Int) (ha : Arg .u8 w a0 m f) (hf : ∀ x, 0 ≤ f x ∧ f x ≤ 255) (z2 z3 : Nat → Int) (inner : Bool) (hm : m ≤ 2147483647) :
    Calls Tryd.prog 4 #[.slice a0 m c0, .bool false, .agg #[.int .i64 (z2 0), .int .i64 (z2 1), .int .i64 (z2 2)], .agg #[.int .i64 (z3 0), .int .i64 (z3 1), .int .i64 (z3 2)], .bool inner] w fun e w' => e = .returned (.bool true) ∧ Below w.heap.size w w' := by
  have h2 := ht.two
  have H := Lib.hid (And.intro ht (And.intro ha hf))
  have HB := Lib.hid (BX.start w z2 z3)
  clear ht ha hf
  cases he : edgeB m 8 (z3 0) (z3 1) (z3 2) with
  | false =>
    have HEd := Lib.hid he; clear he
    go_enter Tryd.func4, Tryd.ntmps4
    go_wp2_with fail
    generalize World.alloc _ _ = w1 at HB ⊢
    refine (isEdge_any a0 m c0 8 (z3 0) (z3 1) (z3 2) w1 (by omega) (by omega)).mono ?_
    rintro _ w2 ⟨rfl, hb⟩
    have HB := Lib.hid (HB.out.below hb); clear hb
    rw [HEd.out]
    go_wp2_with fail
    refine (readBool_any w2 (H.out.1.below h2 HB.out.bel) (by have := HB.out.two; omega)).mono ?_
    rintro _ w9 ⟨rfl, hb⟩
    have HB9 := Lib.hid (HB.out.below hb); clear hb
    go_wp2
    go_ret
    exact ⟨rfl, HB9.out.bel⟩
  | true =>
    have hE : edgeP m 8 (z3 0) (z3 1) (z3 2) := of_decide_eq_true he
    have HEd := Lib.hid he; clear he
    obtain ⟨em, ⟨I0, I1⟩, ⟨S0, S1⟩, ⟨J0, J1⟩, hpos⟩ := hE
    have m1 : 1 ≤ m := by have := hpos 0 (by decide) 4 (by decide); omega
    obtain ⟨g, o, rfl, hg, hrow⟩ := H.out.2.1 (by omega)
    have HP := Lib.hid hpos; clear hpos
    have HG : Hid (g < w.heap.size) := Lib.hid hg; clear hg hrow
    cases hap : apartB 8 (z3 1) (z3 2) with
    | false =>
      have HAp := Lib.hid hap; clear hap
      go_enter Tryd.func4, Tryd.ntmps4
      go_wp2_with fail
      generalize World.alloc _ _ = w1 at HB ⊢
      refine (isEdge_any _ m c0 8 (z3 0) (z3 1) (z3 2) w1 (by omega) (by omega)).mono ?_
      rintro _ w2 ⟨rfl, hb⟩
      have HB := Lib.hid (HB.out.below hb); clear hb
      rw [HEd.out]
      have t0 := HB.out.b1.cell 0 (v := .int .i64 (z3 0)) rfl
      have t1 := HB.out.b1.cell 1 (v := .int .i64 (z3 1)) rfl
      have t2 := HB.out.b1.cell 2 (v := .int .i64 (z3 2)) rfl
      go_wp2_with fail
      refine (isApart_any 8 (z3 1) (z3 2) w2 (by decide) (by omega) (by omega) (by omega) (by omega)).mono ?_
      rintro _ _ ⟨rfl, rfl⟩
      rw [HAp.out]
      go_wp2_with fail
      refine (readBool_any w2 (H.out.1.below h2 HB.out.bel) (by have := HB.out.two; omega)).mono ?_
      rintro _ w9 ⟨rfl, hb⟩
      have HB9 := Lib.hid (HB.out.below hb); clear hb
      go_wp2
      go_ret
      exact ⟨rfl, HB9.out.bel⟩
    | true =>
      have HJ : Hid (z3 2 ≠ 0) := Lib.hid (apartB_ne (by decide) hap)
      have HAp := Lib.hid hap; clear hap
      cases hr : inR z2 0 255 3 with
      | false =>
        have HR := Lib.hid hr; clear hr
        go_enter Tryd.func4, Tryd.ntmps4
        go_wp2_with fail
        generalize World.alloc _ _ = w1 at HB ⊢
        refine (isEdge_any _ m c0 8 (z3 0) (z3 1) (z3 2) w1 (by omega) (by omega)).mono ?_
        rintro _ w2 ⟨rfl, hb⟩
        have HB := Lib.hid (HB.out.below hb); clear hb
        rw [HEd.out]
        have t0 := HB.out.b1.cell 0 (v := .int .i64 (z3 0)) rfl
        have t1 := HB.out.b1.cell 1 (v := .int .i64 (z3 1)) rfl
        have t2 := HB.out.b1.cell 2 (v := .int .i64 (z3 2)) rfl
        go_wp2_with fail
        refine (isApart_any 8 (z3 1) (z3 2) w2 (by decide) (by omega) (by omega) (by omega) (by omega)).mono ?_
        rintro _ _ ⟨rfl, rfl⟩
        rw [HAp.out]
        go_wp2_with fail
        refine (inRange_any _ 3 3 z2 0 255 w2 HB.out.arg (by omega)).mono ?_
        rintro _ _ ⟨rfl, rfl⟩
        rw [HR.out]
        go_wp2_with fail
        refine (readBool_any w2 (H.out.1.below h2 HB.out.bel) (by have := HB.out.two; omega)).mono ?_
        rintro _ w9 ⟨rfl, hb⟩
        have HB9 := Lib.hid (HB.out.below hb); clear hb
        go_wp2
        go_ret
        exact ⟨rfl, HB9.out.bel⟩
      | true =>
        have HR := Lib.hid hr; clear hr
        go_enter Tryd.func4, Tryd.ntmps4
        go_wp2_with fail
        generalize World.alloc _ _ = w1 at HB ⊢
        refine (isEdge_any _ m c0 8 (z3 0) (z3 1) (z3 2) w1 (by omega) (by omega)).mono ?_
        rintro _ w2 ⟨rfl, hb⟩
        have HB := Lib.hid (HB.out.below hb); clear hb
        rw [HEd.out]
        have t0 := HB.out.b1.cell 0 (v := .int .i64 (z3 0)) rfl
        have t1 := HB.out.b1.cell 1 (v := .int .i64 (z3 1)) rfl
        have t2 := HB.out.b1.cell 2 (v := .int .i64 (z3 2)) rfl
        go_wp2_with fail
        refine (isApart_any 8 (z3 1) (z3 2) w2 (by decide) (by omega) (by omega) (by omega) (by omega)).mono ?_
        rintro _ _ ⟨rfl, rfl⟩
        rw [HAp.out]
        go_wp2_with fail
        refine (inRange_any _ 3 3 z2 0 255 w2 HB.out.arg (by omega)).mono ?_
        rintro _ _ ⟨rfl, rfl⟩
        rw [HR.out]
        have r0 := HB.out.b0.cell 0 (v := .int .i64 (z2 0)) rfl
        have r1 := HB.out.b0.cell 1 (v := .int .i64 (z2 1)) rfl
        have r2 := HB.out.b0.cell 2 (v := .int .i64 (z2 2)) rfl
        go_wp2_with fail
        have HA : Hid (Arg .u8 w2 (some ⟨g, o, none⟩) m f) := Lib.hid (H.out.2.1.below HB.out.bel)
        refine (implNormal_any g o m c0 8 f (z2 0) (z2 1) (z2 2) (z3 0) (z3 1) (z3 2) inner w2 em m1 (by decide) J0 J1 HJ.out S0 S1 I0 I1 HP.out HA.out H.out.2.2).mono ?_
        rintro _ w3 ⟨⟨a3, c3, rfl, ho3⟩, hb⟩
        have HO3 := Lib.hid (And.intro ho3.arg (HA.out.below hb))
        have HB := Lib.hid (HB.out.below hb); clear hb ho3 t0 t1 t2 r0 r1 r2
        have t0 := HB.out.b1.cell 0 (v := .int .i64 (z3 0)) rfl
        have t1 := HB.out.b1.cell 1 (v := .int .i64 (z3 1)) rfl
        have t2 := HB.out.b1.cell 2 (v := .int .i64 (z3 2)) rfl
        have r0 := HB.out.b0.cell 0 (v := .int .i64 (z2 0)) rfl
        have r1 := HB.out.b0.cell 1 (v := .int .i64 (z2 1)) rfl
        have r2 := HB.out.b0.cell 2 (v := .int .i64 (z2 2)) rfl
        go_wp2_with fail
        refine (specNormal_any g o m c0 8 f (z2 0) (z2 1) (z2 2) (z3 0) (z3 1) (z3 2) inner w3 em m1 (by decide) J0 J1 S0 S1 I0 I1 HP.out HO3.out.2 H.out.2.2).mono ?_
        rintro _ w4 ⟨⟨a4, c4, rfl, ho4⟩, hb⟩
        have HO4 := Lib.hid (And.intro (HO3.out.1.below hb) ho4.arg)
        have HB := Lib.hid (HB.out.below hb); clear hb ho4 t0 t1 t2 r0 r1 r2
        go_wp2_with fail
        refine (bytes_eq a3 a4 m c3 c4 _ _ w4 (by unfold maxLen; omega) HO4.out.1 HO4.out.2 (fun i _ => rfl)).mono ?_
        rintro _ w5 ⟨rfl, d, hd⟩
        have HB : Hid (BX w w5 z2 z3) := Lib.hid (HB.out.below (by rw [hd]; exact below_drewN (Below.refl _ _) d)); clear hd
        go_wp2_with fail
        refine (readBool_any w5 (H.out.1.below h2 HB.out.bel) (by have := HB.out.two; omega)).mono ?_
        rintro _ w9 ⟨rfl, hb⟩
        have HB9 := Lib.hid (HB.out.below hb); clear hb
        go_wp2
        go_ret
        exact ⟨rfl, HB9.out.bel⟩

set_option maxRecDepth 100000 in
set_option maxHeartbeats 800000 in
theorem fnFilterNormal_walk (w : World) (ht : Tabs w) (a0 : Option Addr) (n0 c0 : Nat) (z0 : List Int) (h0 : IsRow .u8 w a0 n0 c0 z0) (a1 : Bool) (z2 : Nat → Int) (w2 : ∀ i, i < 3 → (Lit.int .i64 (z2 i)).wf = true) (z3 : Nat → Int) (w3 : ∀ i, i < 3 → (Lit.int .i64 (z3 i)).wf = true) (a4 : Bool) :
    Calls Tryd.prog 4 #[.slice a0 n0 c0, .bool a1, .agg (cellsOf .i64 3 z2).toArray, .agg (cellsOf .i64 3 z3).toArray, .bool a4] w fun e w' => e = .returned (.bool true) ∧ Below w.heap.size w w' := by
  have m0 : n0 ≤ 9223372036854775807 := by have := h0.arg.2.1; have := h0.arg.2.2.1; unfold maxLen at this; omega
  obtain ⟨zs, hl, hrow, hz⟩ := h0.bytes
  show Calls Tryd.prog 4 #[.slice a0 n0 c0, .bool a1, .agg #[.int .i64 (z2 0), .int .i64 (z2 1), .int .i64 (z2 2)], .agg #[.int .i64 (z3 0), .int .i64 (z3 1), .int .i64 (z3 2)], .bool a4] w _
  by_cases b0 : 2147483647 < n0
  · clear hl hrow hz ht h0 w2 w3
    go_enter Tryd.func4, Tryd.ntmps4
    go_wp2
    go_ret
    exact ⟨rfl, ((Below.refl _ _).alloc (Nat.le_refl _) _).alloc (by simp) _⟩
  cases a1 with
  | true => exact fnFN16 w ht a0 n0 c0 _ hrow hz z2 z3 a4 (by omega)
  | false => exact fnFN8 w ht a0 n0 c0 _ hrow hz z2 z3 a4 (by omega)
end Go.Proofs.YtmdijdoaijnpaaaDoor
