/- The package's filter of many lines (filter246). Printed by wip/gen_filti.py. -/
import Derived.Test.YtmdijdoaijnpaaaDoorFiltL
import Derived.Test.YtmdijdoaijnpaaaDoorFiltJ
import Derived.BigCall
import Derived.BigGuardPart
import Derived.Deep.Cut
namespace Go.Proofs.YtmdijdoaijnpaaaDoor
open Go.RowKit
set_option linter.unusedVariables false

/-- What a walk over one line knows of its places. -/
structure Places (m : Nat) (I J : Int) : Prop where
  b0 : 0 ≤ I - 4 * J ∧ I - 4 * J < m
  b1 : 0 ≤ I - 3 * J ∧ I - 3 * J < m
  b2 : 0 ≤ I - 2 * J ∧ I - 2 * J < m
  b3 : 0 ≤ I - J ∧ I - J < m
  b4 : 0 ≤ I ∧ I < m
  b5 : 0 ≤ I + J ∧ I + J < m
  b6 : 0 ≤ I + 2 * J ∧ I + 2 * J < m
  b7 : 0 ≤ I + 3 * J ∧ I + 3 * J < m
theorem places_of {m : Nat} {I J : Int} (h : ∀ j : Nat, j < 8 → 0 ≤ I + ((j : Int) - 4) * J ∧ I + ((j : Int) - 4) * J < m) : Places m I J := by
  have h0 := h 0 (by decide); have h1 := h 1 (by decide); have h2 := h 2 (by decide); have h3 := h 3 (by decide)
  have h4 := h 4 (by decide); have h5 := h 5 (by decide); have h6 := h 6 (by decide); have h7 := h 7 (by decide)
  simp at h0 h1 h2 h3 h4 h5 h6 h7
  constructor <;> omega
theorem posOf_at (I J : Int) : posOf I J 0 = (I - 4 * J).toNat ∧ posOf I J 1 = (I - 3 * J).toNat ∧ posOf I J 2 = (I - 2 * J).toNat ∧ posOf I J 3 = (I - J).toNat ∧ posOf I J 4 = I.toNat ∧ posOf I J 5 = (I + J).toNat ∧ posOf I J 6 = (I + 2 * J).toNat ∧ posOf I J 7 = (I + 3 * J).toNat := by
  unfold posOf
  refine ⟨?_, ?_, ?_, ?_, ?_, ?_, ?_, ?_⟩ <;> first | (congr 1; omega) | simp

/-- What stands behind p lines. -/
structure FL (w w' : World) (g m : Nat) (f : Nat → Int) : Prop where
  gr : w.grownBy w' (some g)
  row : Row .u8 w' g 0 m f
  wr : Wr w' g 0 m
  lt : g < w'.heap.size
theorem FL.set {w w' : World} {g m : Nat} {f : Nat → Int} (h : FL w w' g m f) (i : Nat) (hi : i < m) (v : Int) : FL w (w'.setCell ⟨g, i, none⟩ (.int .u8 v)) g m (upd f i v) :=
  ⟨grownBy.trans h.gr (grownBy_setCell _ _ _), by simpa using h.row.set i hi v, h.wr.set _ _, by rw [size_setCell]; exact h.lt⟩

set_option maxRecDepth 100000 in
set_option maxHeartbeats 8000000 in
theorem filter246_any (g m c n : Nat) (f : Nat → Int) (lev il hl I0 S J : Int) (fo : Bool) (w : World) (hm : m ≤ 16384) (hn : n ≤ 16) (hJ : -16384 ≤ J) (hJ2 : J ≤ 16384) (hJ0 : J ≠ 0) (hS : -16384 ≤ S) (hS2 : S ≤ 16384)
    (hI : -16384 ≤ I0) (hI2 : I0 ≤ 16384) (hpos : ∀ i j : Nat, i < n → j < 8 → 0 ≤ I0 + i * S + ((j : Int) - 4) * J ∧ I0 + i * S + ((j : Int) - 4) * J < m) (hF : FL w w g m f) (hf : ∀ x, 0 ≤ f x ∧ f x ≤ 255) :
    Calls Tryd.prog 42 #[.slice (some ⟨g, 0, none⟩) m c, .int .i64 n, .int .i64 lev, .int .i64 il, .int .i64 hl, .int .i64 I0, .int .i64 S, .int .i64 J, .bool fo] w fun e w' => e = .returned (.tuple #[]) ∧ FL w w' g m (lines (nrm lev il hl fo) I0 S J f n) := by
  have HP := Lib.hid hpos
  have HF := Lib.hid hF
  have Hf := Lib.hid hf
  have HJ0 := Lib.hid hJ0
  clear hpos hF hf hJ0
  go_enter Tryd.func42, Tryd.ntmps42
  go_wp2_with fail
  go_loopw [1, 5] (fun a b wr => ∃ p q : Nat, q + p = n ∧ a = .int .i64 q ∧ ∃ I : Int, b = .int .i64 I ∧ -300000 ≤ I ∧ I ≤ 300000 ∧ Hid (I = I0 + p * S ∧ FL w wr g m (lines (nrm lev il hl fo) I0 S J f p))) (fun a _ _ => (intOf a).toNat)
  case atStart => exact ⟨0, n, by omega, rfl, I0, rfl, by omega, by omega, Lib.hid ⟨by simp, HF.out⟩⟩
  case round =>
    obtain ⟨p, q, hpq, rfl, I, rfl, i0, i1, hR⟩ := hrel
    by_cases hq : q = 0
    · subst hq
      obtain rfl : p = n := by omega
      go_wp2
      go_end0
      exact ⟨rfl, hR.out.2⟩
    · have hq1 : 1 ≤ q := by omega
      have hpn : p < n := by omega
      have HI := Lib.hid hR.out.1
      have hpl : Places m I J := places_of fun j hj => by have := HP.out p j hpn hj; rw [hR.out.1]; exact this
      have hin : Inj8 (posOf I J) := posOf_inj HJ0.out fun j hj => by have := (HP.out p j hpn hj).1; rw [hR.out.1]; exact this
      obtain ⟨e0, e1, e2, e3, e4, e5, e6, e7⟩ := posOf_at I J
      have hlp : lines (nrm lev il hl fo) I0 S J f (p + 1) = put8 (lines (nrm lev il hl fo) I0 S J f p) (posOf I J) (nrm lev il hl fo fun j => lines (nrm lev il hl fo) I0 S J f p (posOf I J j)) 8 := by
        rw [hR.out.1]; rfl
      have hFr : ∀ x, 0 ≤ lines (nrm lev il hl fo) I0 S J f p x ∧ lines (nrm lev il hl fo) I0 S J f p x ≤ 255 := fun x => lines_in (fun l h => nrm_in8 h) Hf.out p x
      have HS : Hid (I + S = I0 + ((p + 1 : Nat) : Int) * S) := Lib.hid (by rw [hR.out.1, Int.natCast_add, Int.add_mul]; simp; omega)
      have hL := hR.out.2
      generalize lines (nrm lev il hl fo) I0 S J f p = F at *
      obtain ⟨l, el⟩ : ∃ l : Nat → Int, l = fun j => F (posOf I J j) := ⟨_, rfl⟩
      rw [← el] at hlp
      obtain ⟨⟨b00, b01⟩, ⟨b10, b11⟩, ⟨b20, b21⟩, ⟨b30, b31⟩, ⟨b40, b41⟩, ⟨b50, b51⟩, ⟨b60, b61⟩, ⟨b70, b71⟩⟩ := hpl
      have c0 : wr.cell? ⟨g, (I - 4 * J).toNat, none⟩ = some (.int .u8 (l 0)) := by rw [el]; show _ = some (Value.int .u8 (F (posOf I J 0))); rw [e0]; simpa using hL.row ((I - 4 * J).toNat) (by omega)
      obtain ⟨a00, a01⟩ : 0 ≤ l 0 ∧ l 0 ≤ 255 := by rw [el]; exact hFr _
      have c1 : wr.cell? ⟨g, (I - 3 * J).toNat, none⟩ = some (.int .u8 (l 1)) := by rw [el]; show _ = some (Value.int .u8 (F (posOf I J 1))); rw [e1]; simpa using hL.row ((I - 3 * J).toNat) (by omega)
      obtain ⟨a10, a11⟩ : 0 ≤ l 1 ∧ l 1 ≤ 255 := by rw [el]; exact hFr _
      have c2 : wr.cell? ⟨g, (I - 2 * J).toNat, none⟩ = some (.int .u8 (l 2)) := by rw [el]; show _ = some (Value.int .u8 (F (posOf I J 2))); rw [e2]; simpa using hL.row ((I - 2 * J).toNat) (by omega)
      obtain ⟨a20, a21⟩ : 0 ≤ l 2 ∧ l 2 ≤ 255 := by rw [el]; exact hFr _
      have c3 : wr.cell? ⟨g, (I - J).toNat, none⟩ = some (.int .u8 (l 3)) := by rw [el]; show _ = some (Value.int .u8 (F (posOf I J 3))); rw [e3]; simpa using hL.row ((I - J).toNat) (by omega)
      obtain ⟨a30, a31⟩ : 0 ≤ l 3 ∧ l 3 ≤ 255 := by rw [el]; exact hFr _
      have c4 : wr.cell? ⟨g, I.toNat, none⟩ = some (.int .u8 (l 4)) := by rw [el]; show _ = some (Value.int .u8 (F (posOf I J 4))); rw [e4]; simpa using hL.row (I.toNat) (by omega)
      obtain ⟨a40, a41⟩ : 0 ≤ l 4 ∧ l 4 ≤ 255 := by rw [el]; exact hFr _
      have c5 : wr.cell? ⟨g, (I + J).toNat, none⟩ = some (.int .u8 (l 5)) := by rw [el]; show _ = some (Value.int .u8 (F (posOf I J 5))); rw [e5]; simpa using hL.row ((I + J).toNat) (by omega)
      obtain ⟨a50, a51⟩ : 0 ≤ l 5 ∧ l 5 ≤ 255 := by rw [el]; exact hFr _
      have c6 : wr.cell? ⟨g, (I + 2 * J).toNat, none⟩ = some (.int .u8 (l 6)) := by rw [el]; show _ = some (Value.int .u8 (F (posOf I J 6))); rw [e6]; simpa using hL.row ((I + 2 * J).toNat) (by omega)
      obtain ⟨a60, a61⟩ : 0 ≤ l 6 ∧ l 6 ≤ 255 := by rw [el]; exact hFr _
      have c7 : wr.cell? ⟨g, (I + 3 * J).toNat, none⟩ = some (.int .u8 (l 7)) := by rw [el]; show _ = some (Value.int .u8 (F (posOf I J 7))); rw [e7]; simpa using hL.row ((I + 3 * J).toNat) (by omega)
      obtain ⟨a70, a71⟩ : 0 ≤ l 7 ∧ l 7 ≤ 255 := by rw [el]; exact hFr _
      have z1 : wr.frozen? ⟨g, (I - 3 * J).toNat, none⟩ = false := by simpa using hL.wr ((I - 3 * J).toNat) (by omega)
      have z2 : wr.frozen? ⟨g, (I - 2 * J).toNat, none⟩ = false := by simpa using hL.wr ((I - 2 * J).toNat) (by omega)
      have z3 : wr.frozen? ⟨g, (I - J).toNat, none⟩ = false := by simpa using hL.wr ((I - J).toNat) (by omega)
      have z4 : wr.frozen? ⟨g, I.toNat, none⟩ = false := by simpa using hL.wr (I.toNat) (by omega)
      have z5 : wr.frozen? ⟨g, (I + J).toNat, none⟩ = false := by simpa using hL.wr ((I + J).toNat) (by omega)
      have z6 : wr.frozen? ⟨g, (I + 2 * J).toNat, none⟩ = false := by simpa using hL.wr ((I + 2 * J).toNat) (by omega)
      have n21 : ¬ (I - 2 * J).toNat = (I - 3 * J).toNat := fun h => absurd (hin 2 1 (by decide) (by decide) (by rw [e2, e1]; exact h)) (by decide)
      have n31 : ¬ (I - J).toNat = (I - 3 * J).toNat := fun h => absurd (hin 3 1 (by decide) (by decide) (by rw [e3, e1]; exact h)) (by decide)
      have n41 : ¬ I.toNat = (I - 3 * J).toNat := fun h => absurd (hin 4 1 (by decide) (by decide) (by rw [e4, e1]; exact h)) (by decide)
      have n51 : ¬ (I + J).toNat = (I - 3 * J).toNat := fun h => absurd (hin 5 1 (by decide) (by decide) (by rw [e5, e1]; exact h)) (by decide)
      have n61 : ¬ (I + 2 * J).toNat = (I - 3 * J).toNat := fun h => absurd (hin 6 1 (by decide) (by decide) (by rw [e6, e1]; exact h)) (by decide)
      have n32 : ¬ (I - J).toNat = (I - 2 * J).toNat := fun h => absurd (hin 3 2 (by decide) (by decide) (by rw [e3, e2]; exact h)) (by decide)
      have n42 : ¬ I.toNat = (I - 2 * J).toNat := fun h => absurd (hin 4 2 (by decide) (by decide) (by rw [e4, e2]; exact h)) (by decide)
      have n52 : ¬ (I + J).toNat = (I - 2 * J).toNat := fun h => absurd (hin 5 2 (by decide) (by decide) (by rw [e5, e2]; exact h)) (by decide)
      have n62 : ¬ (I + 2 * J).toNat = (I - 2 * J).toNat := fun h => absurd (hin 6 2 (by decide) (by decide) (by rw [e6, e2]; exact h)) (by decide)
      have n43 : ¬ I.toNat = (I - J).toNat := fun h => absurd (hin 4 3 (by decide) (by decide) (by rw [e4, e3]; exact h)) (by decide)
      have n53 : ¬ (I + J).toNat = (I - J).toNat := fun h => absurd (hin 5 3 (by decide) (by decide) (by rw [e5, e3]; exact h)) (by decide)
      have n63 : ¬ (I + 2 * J).toNat = (I - J).toNat := fun h => absurd (hin 6 3 (by decide) (by decide) (by rw [e6, e3]; exact h)) (by decide)
      have n54 : ¬ (I + J).toNat = I.toNat := fun h => absurd (hin 5 4 (by decide) (by decide) (by rw [e5, e4]; exact h)) (by decide)
      have n64 : ¬ (I + 2 * J).toNat = I.toNat := fun h => absurd (hin 6 4 (by decide) (by decide) (by rw [e6, e4]; exact h)) (by decide)
      have n65 : ¬ (I + 2 * J).toNat = (I + J).toNat := fun h => absurd (hin 6 5 (by decide) (by decide) (by rw [e6, e5]; exact h)) (by decide)
      have HE := Lib.hid (And.intro e0 (And.intro e1 (And.intro e2 (And.intro e3 (And.intro e4 (And.intro e5 (And.intro e6 e7)))))))
      have HIn := Lib.hid hin
      have HEl := Lib.hid el
      have HL := Lib.hid hL
      have Hlp := Lib.hid hlp
      clear e0 e1 e2 e3 e4 e5 e6 e7 hin el hL hlp hFr hR
      obtain ⟨d34a, d34b⟩ := dst_range (l 3) (l 4) a30 a31 a40 a41
      obtain ⟨d25a, d25b⟩ := dst_range (l 2) (l 5) a20 a21 a50 a51
      obtain ⟨d01a, d01b⟩ := dst_range (l 0) (l 1) a00 a01 a10 a11
      obtain ⟨d12a, d12b⟩ := dst_range (l 1) (l 2) a10 a11 a20 a21
      obtain ⟨d23a, d23b⟩ := dst_range (l 2) (l 3) a20 a21 a30 a31
      obtain ⟨d54a, d54b⟩ := dst_range (l 5) (l 4) a50 a51 a40 a41
      obtain ⟨d65a, d65b⟩ := dst_range (l 6) (l 5) a60 a61 a50 a51
      obtain ⟨d76a, d76b⟩ := dst_range (l 7) (l 6) a70 a71 a60 a61
      by_cases k0 : lev < dst (l 3) (l 4) * 2 + dst (l 2) (l 5) / 2
      · as_aux_lemma =>
          have hid := Lib.hid (way_id (lev := lev) (il := il) (hl := hl) (fo := fo) HIn.out HEl.out (fun h => by have := of_decide_eq_true h.1; omega))
          go_wp2_with (first | (go_at_call 59; refine (abs_any _ _ (dst _ _) _ (by omega) (by omega) rfl).mono ?_; rintro e w' ⟨rfl, rfl⟩) | (go_at_call 60; refine (clamp127_any _ _ (by omega) (by omega)).mono ?_; rintro e w' ⟨rfl, rfl⟩) | (go_at_call 61; refine (clamp15_any _ _ (by omega) (by omega)).mono ?_; rintro e w' ⟨rfl, rfl⟩) | (go_at_call 62; refine (clamp255_any _ _ (by omega) (by omega)).mono ?_; rintro e w' ⟨rfl, rfl⟩))
          go_roundw
          case rel => exact ⟨p + 1, q - 1, by omega, by (congr 1; omega), I + S, rfl, by omega, by omega, Lib.hid ⟨HS.out, by rw [Hlp.out]; rw [hid.out]; exact HL.out⟩⟩
          case measure => simp [intOf]; omega
      have hNr := Lib.hid (show isNr l lev = true from decide_eq_true (by omega))
      go_upto_region 11 with (first | (go_at_call 59; refine (abs_any _ _ (dst _ _) _ (by omega) (by omega) rfl).mono ?_; rintro e w' ⟨rfl, rfl⟩) | (go_at_call 60; refine (clamp127_any _ _ (by omega) (by omega)).mono ?_; rintro e w' ⟨rfl, rfl⟩) | (go_at_call 61; refine (clamp15_any _ _ (by omega) (by omega)).mono ?_; rintro e w' ⟨rfl, rfl⟩) | (go_at_call 62; refine (clamp255_any _ _ (by omega) (by omega)).mono ?_; rintro e w' ⟨rfl, rfl⟩))
      by_cases e0 : il < dst (l 0) (l 1)
      · as_aux_lemma =>
          have hid := Lib.hid (way_id (lev := lev) (il := il) (hl := hl) (fo := fo) HIn.out HEl.out (fun h => by
            obtain ⟨s0, s1, s2, s3, s4, s5⟩ := of_decide_eq_true h.2
            rw [dst_comm (l 4)] at s3; rw [dst_comm (l 5)] at s4; rw [dst_comm (l 6)] at s5
            omega))
          go_wp2_with (first | (go_at_call 59; refine (abs_any _ _ (dst _ _) _ (by omega) (by omega) rfl).mono ?_; rintro e w' ⟨rfl, rfl⟩) | (go_at_call 60; refine (clamp127_any _ _ (by omega) (by omega)).mono ?_; rintro e w' ⟨rfl, rfl⟩) | (go_at_call 61; refine (clamp15_any _ _ (by omega) (by omega)).mono ?_; rintro e w' ⟨rfl, rfl⟩) | (go_at_call 62; refine (clamp255_any _ _ (by omega) (by omega)).mono ?_; rintro e w' ⟨rfl, rfl⟩))
          go_roundw
          case rel => exact ⟨p + 1, q - 1, by omega, by (congr 1; omega), I + S, rfl, by omega, by omega, Lib.hid ⟨HS.out, by rw [Hlp.out]; rw [hid.out]; exact HL.out⟩⟩
          case measure => simp [intOf]; omega
      have eb0 : decide (il < dst (l 0) (l 1)) = false := by simpa using e0
      by_cases e1 : il < dst (l 1) (l 2)
      · as_aux_lemma =>
          have hid := Lib.hid (way_id (lev := lev) (il := il) (hl := hl) (fo := fo) HIn.out HEl.out (fun h => by
            obtain ⟨s0, s1, s2, s3, s4, s5⟩ := of_decide_eq_true h.2
            rw [dst_comm (l 4)] at s3; rw [dst_comm (l 5)] at s4; rw [dst_comm (l 6)] at s5
            omega))
          go_wp2_with (first | (go_at_call 59; refine (abs_any _ _ (dst _ _) _ (by omega) (by omega) rfl).mono ?_; rintro e w' ⟨rfl, rfl⟩) | (go_at_call 60; refine (clamp127_any _ _ (by omega) (by omega)).mono ?_; rintro e w' ⟨rfl, rfl⟩) | (go_at_call 61; refine (clamp15_any _ _ (by omega) (by omega)).mono ?_; rintro e w' ⟨rfl, rfl⟩) | (go_at_call 62; refine (clamp255_any _ _ (by omega) (by omega)).mono ?_; rintro e w' ⟨rfl, rfl⟩))
          go_roundw
          case rel => exact ⟨p + 1, q - 1, by omega, by (congr 1; omega), I + S, rfl, by omega, by omega, Lib.hid ⟨HS.out, by rw [Hlp.out]; rw [hid.out]; exact HL.out⟩⟩
          case measure => simp [intOf]; omega
      have eb1 : decide (il < dst (l 1) (l 2)) = false := by simpa using e1
      by_cases e2 : il < dst (l 2) (l 3)
      · as_aux_lemma =>
          have hid := Lib.hid (way_id (lev := lev) (il := il) (hl := hl) (fo := fo) HIn.out HEl.out (fun h => by
            obtain ⟨s0, s1, s2, s3, s4, s5⟩ := of_decide_eq_true h.2
            rw [dst_comm (l 4)] at s3; rw [dst_comm (l 5)] at s4; rw [dst_comm (l 6)] at s5
            omega))
          go_wp2_with (first | (go_at_call 59; refine (abs_any _ _ (dst _ _) _ (by omega) (by omega) rfl).mono ?_; rintro e w' ⟨rfl, rfl⟩) | (go_at_call 60; refine (clamp127_any _ _ (by omega) (by omega)).mono ?_; rintro e w' ⟨rfl, rfl⟩) | (go_at_call 61; refine (clamp15_any _ _ (by omega) (by omega)).mono ?_; rintro e w' ⟨rfl, rfl⟩) | (go_at_call 62; refine (clamp255_any _ _ (by omega) (by omega)).mono ?_; rintro e w' ⟨rfl, rfl⟩))
          go_roundw
          case rel => exact ⟨p + 1, q - 1, by omega, by (congr 1; omega), I + S, rfl, by omega, by omega, Lib.hid ⟨HS.out, by rw [Hlp.out]; rw [hid.out]; exact HL.out⟩⟩
          case measure => simp [intOf]; omega
      have eb2 : decide (il < dst (l 2) (l 3)) = false := by simpa using e2
      by_cases e3 : il < dst (l 5) (l 4)
      · as_aux_lemma =>
          have hid := Lib.hid (way_id (lev := lev) (il := il) (hl := hl) (fo := fo) HIn.out HEl.out (fun h => by
            obtain ⟨s0, s1, s2, s3, s4, s5⟩ := of_decide_eq_true h.2
            rw [dst_comm (l 4)] at s3; rw [dst_comm (l 5)] at s4; rw [dst_comm (l 6)] at s5
            omega))
          go_wp2_with (first | (go_at_call 59; refine (abs_any _ _ (dst _ _) _ (by omega) (by omega) rfl).mono ?_; rintro e w' ⟨rfl, rfl⟩) | (go_at_call 60; refine (clamp127_any _ _ (by omega) (by omega)).mono ?_; rintro e w' ⟨rfl, rfl⟩) | (go_at_call 61; refine (clamp15_any _ _ (by omega) (by omega)).mono ?_; rintro e w' ⟨rfl, rfl⟩) | (go_at_call 62; refine (clamp255_any _ _ (by omega) (by omega)).mono ?_; rintro e w' ⟨rfl, rfl⟩))
          go_roundw
          case rel => exact ⟨p + 1, q - 1, by omega, by (congr 1; omega), I + S, rfl, by omega, by omega, Lib.hid ⟨HS.out, by rw [Hlp.out]; rw [hid.out]; exact HL.out⟩⟩
          case measure => simp [intOf]; omega
      have eb3 : decide (il < dst (l 5) (l 4)) = false := by simpa using e3
      by_cases e4 : il < dst (l 6) (l 5)
      · as_aux_lemma =>
          have hid := Lib.hid (way_id (lev := lev) (il := il) (hl := hl) (fo := fo) HIn.out HEl.out (fun h => by
            obtain ⟨s0, s1, s2, s3, s4, s5⟩ := of_decide_eq_true h.2
            rw [dst_comm (l 4)] at s3; rw [dst_comm (l 5)] at s4; rw [dst_comm (l 6)] at s5
            omega))
          go_wp2_with (first | (go_at_call 59; refine (abs_any _ _ (dst _ _) _ (by omega) (by omega) rfl).mono ?_; rintro e w' ⟨rfl, rfl⟩) | (go_at_call 60; refine (clamp127_any _ _ (by omega) (by omega)).mono ?_; rintro e w' ⟨rfl, rfl⟩) | (go_at_call 61; refine (clamp15_any _ _ (by omega) (by omega)).mono ?_; rintro e w' ⟨rfl, rfl⟩) | (go_at_call 62; refine (clamp255_any _ _ (by omega) (by omega)).mono ?_; rintro e w' ⟨rfl, rfl⟩))
          go_roundw
          case rel => exact ⟨p + 1, q - 1, by omega, by (congr 1; omega), I + S, rfl, by omega, by omega, Lib.hid ⟨HS.out, by rw [Hlp.out]; rw [hid.out]; exact HL.out⟩⟩
          case measure => simp [intOf]; omega
      have eb4 : decide (il < dst (l 6) (l 5)) = false := by simpa using e4
      by_cases e5 : il < dst (l 7) (l 6)
      · as_aux_lemma =>
          have hid := Lib.hid (way_id (lev := lev) (il := il) (hl := hl) (fo := fo) HIn.out HEl.out (fun h => by
            obtain ⟨s0, s1, s2, s3, s4, s5⟩ := of_decide_eq_true h.2
            rw [dst_comm (l 4)] at s3; rw [dst_comm (l 5)] at s4; rw [dst_comm (l 6)] at s5
            omega))
          go_wp2_with (first | (go_at_call 59; refine (abs_any _ _ (dst _ _) _ (by omega) (by omega) rfl).mono ?_; rintro e w' ⟨rfl, rfl⟩) | (go_at_call 60; refine (clamp127_any _ _ (by omega) (by omega)).mono ?_; rintro e w' ⟨rfl, rfl⟩) | (go_at_call 61; refine (clamp15_any _ _ (by omega) (by omega)).mono ?_; rintro e w' ⟨rfl, rfl⟩) | (go_at_call 62; refine (clamp255_any _ _ (by omega) (by omega)).mono ?_; rintro e w' ⟨rfl, rfl⟩))
          go_roundw
          case rel => exact ⟨p + 1, q - 1, by omega, by (congr 1; omega), I + S, rfl, by omega, by omega, Lib.hid ⟨HS.out, by rw [Hlp.out]; rw [hid.out]; exact HL.out⟩⟩
          case measure => simp [intOf]; omega
      have eb5 : decide (il < dst (l 7) (l 6)) = false := by simpa using e5
      have hSm := Lib.hid (show isSm l il = true from decide_eq_true ⟨by omega, by omega, by omega, by rw [dst_comm]; omega, by rw [dst_comm]; omega, by rw [dst_comm]; omega⟩)
      go_upto_region 12 with (first | (go_at_call 59; refine (abs_any _ _ (dst _ _) _ (by omega) (by omega) rfl).mono ?_; rintro e w' ⟨rfl, rfl⟩) | (go_at_call 60; refine (clamp127_any _ _ (by omega) (by omega)).mono ?_; rintro e w' ⟨rfl, rfl⟩) | (go_at_call 61; refine (clamp15_any _ _ (by omega) (by omega)).mono ?_; rintro e w' ⟨rfl, rfl⟩) | (go_at_call 62; refine (clamp255_any _ _ (by omega) (by omega)).mono ?_; rintro e w' ⟨rfl, rfl⟩))
      by_cases u0 : hl < dst (l 2) (l 3)
      ·
        as_aux_lemma =>
          obtain ⟨q0, q1⟩ := hld_range (lo := -128) (hi := 127) (by decide) (l 2 - l 5)
          obtain ⟨s0, s1⟩ := hld_range (lo := -16) (hi := 15) (by decide) ((3 * (l 4 - l 3) + hld (-128) 127 (l 2 - l 5) + 4) / 8)
          obtain ⟨t0, t1⟩ := hld_range (lo := -16) (hi := 15) (by decide) ((3 * (l 4 - l 3) + hld (-128) 127 (l 2 - l 5) + 3) / 8)
          have hw := Lib.hid (way_two (lev := lev) (il := il) (hl := hl) (fo := fo) HIn.out HEl.out hNr.out hSm.out (decide_eq_true (Or.inl u0)))
          go_wp2_with (first | (go_at_call 59; refine (abs_any _ _ (dst _ _) _ (by omega) (by omega) rfl).mono ?_; rintro e w' ⟨rfl, rfl⟩) | (go_at_call 60; refine (clamp127_any _ _ (by omega) (by omega)).mono ?_; rintro e w' ⟨rfl, rfl⟩) | (go_at_call 61; refine (clamp15_any _ _ (by omega) (by omega)).mono ?_; rintro e w' ⟨rfl, rfl⟩) | (go_at_call 62; refine (clamp255_any _ _ (by omega) (by omega)).mono ?_; rintro e w' ⟨rfl, rfl⟩))
          go_roundw
          case rel => exact ⟨p + 1, q - 1, by omega, by (congr 1; omega), I + S, rfl, by omega, by omega, Lib.hid ⟨HS.out, by rw [Hlp.out, hw.out, HE.out.2.2.2.1, HE.out.2.2.2.2.1]; exact (FL.set (FL.set HL.out ((I - J).toNat) (by omega) _) (I.toNat) (by omega) _)⟩⟩
          case measure => simp [intOf]; omega
      have ub0 : decide (hl < dst (l 2) (l 3)) = false := by simpa using u0
      by_cases u1 : hl < dst (l 5) (l 4)
      ·
        as_aux_lemma =>
          obtain ⟨q0, q1⟩ := hld_range (lo := -128) (hi := 127) (by decide) (l 2 - l 5)
          obtain ⟨s0, s1⟩ := hld_range (lo := -16) (hi := 15) (by decide) ((3 * (l 4 - l 3) + hld (-128) 127 (l 2 - l 5) + 4) / 8)
          obtain ⟨t0, t1⟩ := hld_range (lo := -16) (hi := 15) (by decide) ((3 * (l 4 - l 3) + hld (-128) 127 (l 2 - l 5) + 3) / 8)
          have hw := Lib.hid (way_two (lev := lev) (il := il) (hl := hl) (fo := fo) HIn.out HEl.out hNr.out hSm.out (decide_eq_true (Or.inr u1)))
          go_wp2_with (first | (go_at_call 59; refine (abs_any _ _ (dst _ _) _ (by omega) (by omega) rfl).mono ?_; rintro e w' ⟨rfl, rfl⟩) | (go_at_call 60; refine (clamp127_any _ _ (by omega) (by omega)).mono ?_; rintro e w' ⟨rfl, rfl⟩) | (go_at_call 61; refine (clamp15_any _ _ (by omega) (by omega)).mono ?_; rintro e w' ⟨rfl, rfl⟩) | (go_at_call 62; refine (clamp255_any _ _ (by omega) (by omega)).mono ?_; rintro e w' ⟨rfl, rfl⟩))
          go_roundw
          case rel => exact ⟨p + 1, q - 1, by omega, by (congr 1; omega), I + S, rfl, by omega, by omega, Lib.hid ⟨HS.out, by rw [Hlp.out, hw.out, HE.out.2.2.2.1, HE.out.2.2.2.2.1]; exact (FL.set (FL.set HL.out ((I - J).toNat) (by omega) _) (I.toNat) (by omega) _)⟩⟩
          case measure => simp [intOf]; omega
      have ub1 : decide (hl < dst (l 5) (l 4)) = false := by simpa using u1
      have hCt := Lib.hid (show contr l hl = false from decide_eq_false (fun h => by rcases h with h | h <;> omega))
      cases fo with
      | true =>
        as_aux_lemma =>
          obtain ⟨s0, s1⟩ := hld_range (lo := -16) (hi := 15) (by decide) ((3 * (l 4 - l 3) + 4) / 8)
          obtain ⟨t0, t1⟩ := hld_range (lo := -16) (hi := 15) (by decide) ((3 * (l 4 - l 3) + 3) / 8)
          have hw := Lib.hid (way_four (lev := lev) (il := il) (hl := hl) (fo := true) HIn.out HEl.out hNr.out hSm.out hCt.out rfl)
          go_wp2_with (first | (go_at_call 59; refine (abs_any _ _ (dst _ _) _ (by omega) (by omega) rfl).mono ?_; rintro e w' ⟨rfl, rfl⟩) | (go_at_call 60; refine (clamp127_any _ _ (by omega) (by omega)).mono ?_; rintro e w' ⟨rfl, rfl⟩) | (go_at_call 61; refine (clamp15_any _ _ (by omega) (by omega)).mono ?_; rintro e w' ⟨rfl, rfl⟩) | (go_at_call 62; refine (clamp255_any _ _ (by omega) (by omega)).mono ?_; rintro e w' ⟨rfl, rfl⟩))
          go_roundw
          case rel => exact ⟨p + 1, q - 1, by omega, by (congr 1; omega), I + S, rfl, by omega, by omega, Lib.hid ⟨HS.out, by rw [Hlp.out, hw.out, HE.out.2.2.1, HE.out.2.2.2.1, HE.out.2.2.2.2.1, HE.out.2.2.2.2.2.1]; exact (FL.set (FL.set (FL.set (FL.set HL.out ((I - 2 * J).toNat) (by omega) _) ((I - J).toNat) (by omega) _) (I.toNat) (by omega) _) ((I + J).toNat) (by omega) _)⟩⟩
          case measure => simp [intOf]; omega
      | false =>
        as_aux_lemma =>
          obtain ⟨q0, q1⟩ := hld_range (lo := -128) (hi := 127) (by decide) (l 2 - l 5)
          obtain ⟨s0, s1⟩ := hld_range (lo := -128) (hi := 127) (by decide) (3 * (l 4 - l 3) + hld (-128) 127 (l 2 - l 5))
          have hw := Lib.hid (way_six (lev := lev) (il := il) (hl := hl) (fo := false) HIn.out HEl.out hNr.out hSm.out hCt.out rfl)
          go_wp2_with (first | (go_at_call 59; refine (abs_any _ _ (dst _ _) _ (by omega) (by omega) rfl).mono ?_; rintro e w' ⟨rfl, rfl⟩) | (go_at_call 60; refine (clamp127_any _ _ (by omega) (by omega)).mono ?_; rintro e w' ⟨rfl, rfl⟩) | (go_at_call 61; refine (clamp15_any _ _ (by omega) (by omega)).mono ?_; rintro e w' ⟨rfl, rfl⟩) | (go_at_call 62; refine (clamp255_any _ _ (by omega) (by omega)).mono ?_; rintro e w' ⟨rfl, rfl⟩))
          go_roundw
          case rel => exact ⟨p + 1, q - 1, by omega, by (congr 1; omega), I + S, rfl, by omega, by omega, Lib.hid ⟨HS.out, by rw [Hlp.out, hw.out, HE.out.2.1, HE.out.2.2.1, HE.out.2.2.2.1, HE.out.2.2.2.2.1, HE.out.2.2.2.2.2.1, HE.out.2.2.2.2.2.2.1]; exact (FL.set (FL.set (FL.set (FL.set (FL.set (FL.set HL.out ((I - 3 * J).toNat) (by omega) _) ((I - 2 * J).toNat) (by omega) _) ((I - J).toNat) (by omega) _) (I.toNat) (by omega) _) ((I + J).toNat) (by omega) _) ((I + 2 * J).toNat) (by omega) _)⟩⟩
          case measure => simp [intOf]; omega
end Go.Proofs.YtmdijdoaijnpaaaDoor
