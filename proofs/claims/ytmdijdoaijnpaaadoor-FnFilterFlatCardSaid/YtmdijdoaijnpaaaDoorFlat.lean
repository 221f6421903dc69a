/- The package's filters where all values are equal: nothing changes (printed by wip/gen_flat.py). -/
import Derived.Test.YtmdijdoaijnpaaaDoorFiltL
import Derived.BigCall
import Derived.BigGuardPart
namespace Go.Proofs.YtmdijdoaijnpaaaDoor
open Go.RowKit
set_option linter.unusedVariables false

/-- What a walk over one line knows of its places. -/
structure Places (m : Nat) (I J : Int) : Prop where
  b0 : 0 ≤ I - 4 * J ∧ I - 4 * J < m
  b1 : 0 ≤ I - 3 * J ∧ I - 3 * J < m
  b2 : 0 ≤ I - 2 * J ∧ I - 2 * J < m
  b3 : 0 ≤ I - J ∧ I - J < m
  b4 : 0 ≤ I ∧ I < m
  b5 : 0 ≤ I + J ∧ I + J < m
  b6 : 0 ≤ I + 2 * J ∧ I + 2 * J < m
  b7 : 0 ≤ I + 3 * J ∧ I + 3 * J < m
theorem places_of {m : Nat} {I J : Int} (h : ∀ j : Nat, j < 8 → 0 ≤ I + ((j : Int) - 4) * J ∧ I + ((j : Int) - 4) * J < m) : Places m I J := by
  have h0 := h 0 (by decide); have h1 := h 1 (by decide); have h2 := h 2 (by decide); have h3 := h 3 (by decide)
  have h4 := h 4 (by decide); have h5 := h 5 (by decide); have h6 := h 6 (by decide); have h7 := h 7 (by decide)
  simp at h0 h1 h2 h3 h4 h5 h6 h7
  constructor <;> omega
theorem setCell_self (w : World) (g i : Nat) (v : Value) (h : w.cell? ⟨g, i, none⟩ = some v) : w.setCell ⟨g, i, none⟩ v = w := by
  unfold World.cell? at h
  split at h
  · rename_i c t fr hg
    simp at h
    rw [setCell_eq_setRow w g i c t fr v hg]
    have e : c.setIfInBounds i v = c := by
      apply Array.ext_getElem?
      intro k
      by_cases hk : i = k
      · subst hk
        have hi := (Array.getElem?_eq_some_iff.1 h).1
        rw [Array.getElem?_setIfInBounds_self_of_lt hi, h]
      · simp [hk]
    rw [e]
    exact setRow_self w g c t fr hg
  · cases h
theorem abs_zero (w : World) : Calls Tryd.prog 59 #[.int .i64 0] w fun e w' => e = .returned (.int .i64 0) ∧ w = w' := abs_any 0 0 0 w (by decide) (by decide) (by decide)
theorem c127_zero (w : World) : Calls Tryd.prog 60 #[.int .i64 0] w fun e w' => e = .returned (.int .i64 0) ∧ w = w' := clamp127_any 0 w (by decide) (by decide)
theorem c15_zero (w : World) : Calls Tryd.prog 61 #[.int .i64 0] w fun e w' => e = .returned (.int .i64 0) ∧ w = w' := clamp15_any 0 w (by decide) (by decide)
theorem c255_same (v : Int) (w : World) (h : 0 ≤ v) (h2 : v ≤ 255) : Calls Tryd.prog 62 #[.int .i64 v] w fun e w' => e = .returned (.int .u8 v) ∧ w = w' := by
  have := clamp255_any v w (by omega) (by omega)
  rwa [show hld 0 255 v = v by unfold hld; rw [if_neg (by omega), if_neg (by omega)]] at this

set_option maxRecDepth 100000 in
set_option maxHeartbeats 8000000 in
theorem filter2_flat (g m c : Nat) (v I0 S J : Int) (lev : Int) (hlev : 0 ≤ lev) (w : World) (hm : m ≤ 16384) (hJ : -16384 ≤ J) (hJ2 : J ≤ 16384) (hS : -16384 ≤ S) (hS2 : S ≤ 16384)
    (hI : -16384 ≤ I0) (hI2 : I0 ≤ 16384) (hpos : ∀ i : Nat, i < 16 → ∀ j : Nat, j < 8 → 0 ≤ I0 + (i : Int) * S + ((j : Int) - 4) * J ∧ I0 + (i : Int) * S + ((j : Int) - 4) * J < m) (v0 : 0 ≤ v) (v1 : v ≤ 255) (hr : Row .u8 w g 0 m (fun _ => v)) (hw : Wr w g 0 m) :
    Calls Tryd.prog 45 #[.slice (some ⟨g, 0, none⟩) m c, .int .i64 lev, .int .i64 I0, .int .i64 S, .int .i64 J] w fun e w' => e = .returned (.tuple #[]) ∧ w = w' := by
  have HP := Lib.hid hpos
  have HR := Lib.hid (And.intro hr hw)
  clear hpos hr hw
  go_enter Tryd.func45, Tryd.ntmps45
  go_wp2_with fail
  go_loopw [10, 2] (fun a b wr => ∃ p q : Nat, q + p = 16 ∧ a = .int .i64 q ∧ ∃ I : Int, b = .int .i64 I ∧ -300000 ≤ I ∧ I ≤ 300000 ∧ Hid (I = I0 + p * S ∧ wr = w)) (fun a _ _ => (intOf a).toNat)
  case atStart => exact ⟨0, 16, by omega, rfl, I0, rfl, by omega, by omega, Lib.hid ⟨by simp, rfl⟩⟩
  case round =>
    obtain ⟨p, q, hpq, rfl, I, rfl, i0, i1, hR⟩ := hrel
    obtain rfl := hR.out.2.symm
    by_cases hq : q = 0
    · subst hq
      go_wp2
      go_end0
      exact ⟨rfl, rfl⟩
    · have hq1 : 1 ≤ q := by omega
      have hpn : p < 16 := by omega
      have hpl : Places m I J := places_of fun j hj => by have := HP.out p hpn j hj; rw [hR.out.1]; exact this
      have HS : Hid (I + S = I0 + ((p + 1 : Nat) : Int) * S) := Lib.hid (by rw [hR.out.1, Int.natCast_add, Int.add_mul]; simp; omega)
      clear hR
      obtain ⟨⟨b00, b01⟩, ⟨b10, b11⟩, ⟨b20, b21⟩, ⟨b30, b31⟩, ⟨b40, b41⟩, ⟨b50, b51⟩, ⟨b60, b61⟩, ⟨b70, b71⟩⟩ := hpl
      have c2 : w.cell? ⟨g, (I - 2 * J).toNat, none⟩ = some (.int .u8 v) := by simpa using HR.out.1 ((I - 2 * J).toNat) (by omega)
      have c3 : w.cell? ⟨g, (I - J).toNat, none⟩ = some (.int .u8 v) := by simpa using HR.out.1 ((I - J).toNat) (by omega)
      have c4 : w.cell? ⟨g, I.toNat, none⟩ = some (.int .u8 v) := by simpa using HR.out.1 (I.toNat) (by omega)
      have c5 : w.cell? ⟨g, (I + J).toNat, none⟩ = some (.int .u8 v) := by simpa using HR.out.1 ((I + J).toNat) (by omega)
      have z3 : w.frozen? ⟨g, (I - J).toNat, none⟩ = false := by simpa using HR.out.2 ((I - J).toNat) (by omega)
      have s3 := setCell_self w g ((I - J).toNat) (.int .u8 v) c3
      have z4 : w.frozen? ⟨g, I.toNat, none⟩ = false := by simpa using HR.out.2 (I.toNat) (by omega)
      have s4 := setCell_self w g (I.toNat) (.int .u8 v) c4
      have l0 : decide (lev < 0) = false := by simp; omega
      go_wp2_with (first | (go_at_call 59; refine (abs_zero _).mono ?_; rintro e w' ⟨rfl, rfl⟩) | (go_at_call 60; refine (c127_zero _).mono ?_; rintro e w' ⟨rfl, rfl⟩) | (go_at_call 61; refine (c15_zero _).mono ?_; rintro e w' ⟨rfl, rfl⟩) | (go_at_call 62; refine (c255_same v _ v0 v1).mono ?_; rintro e w' ⟨rfl, rfl⟩))
      go_roundw
      case rel =>
        first
          | exact ⟨p + 1, q - 1, by omega, by (congr 1; omega), I + S, rfl, by omega, by omega, Lib.hid ⟨HS.out, by first | rfl | trivial⟩⟩
          | ((repeat apply Exists.intro); refine ⟨?_, rfl⟩; exact ⟨p + 1, q - 1, by omega, by (congr 1; omega), I + S, rfl, by omega, by omega, Lib.hid ⟨HS.out, by first | rfl | trivial⟩⟩)
      case measure => simp [intOf]; omega
end Go.Proofs.YtmdijdoaijnpaaaDoor
