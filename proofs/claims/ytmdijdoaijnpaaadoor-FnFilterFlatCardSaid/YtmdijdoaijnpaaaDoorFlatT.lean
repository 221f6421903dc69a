/- filter246 over equal values (printed by wip/gen_flat.py). -/
import Derived.Test.YtmdijdoaijnpaaaDoorFlat
namespace Go.Proofs.YtmdijdoaijnpaaaDoor
open Go.RowKit
set_option linter.unusedVariables false

set_option maxRecDepth 100000 in
set_option maxHeartbeats 8000000 in
theorem filter246_flat_t (g m c : Nat) (v I0 S J : Int) (lev il hl : Int) (hlev : 0 ≤ lev) (hil : 0 ≤ il) (hhl : 0 ≤ hl) (w : World) (hm : m ≤ 16384) (hJ : -16384 ≤ J) (hJ2 : J ≤ 16384) (hS : -16384 ≤ S) (hS2 : S ≤ 16384)
    (hI : -16384 ≤ I0) (hI2 : I0 ≤ 16384) (hpos : ∀ i : Nat, i < 16 → ∀ j : Nat, j < 8 → 0 ≤ I0 + (i : Int) * S + ((j : Int) - 4) * J ∧ I0 + (i : Int) * S + ((j : Int) - 4) * J < m) (v0 : 0 ≤ v) (v1 : v ≤ 255) (hr : Row .u8 w g 0 m (fun _ => v)) (hw : Wr w g 0 m) :
    Calls Tryd.prog 42 #[.slice (some ⟨g, 0, none⟩) m c, .int .i64 16, .int .i64 lev, .int .i64 il, .int .i64 hl, .int .i64 I0, .int .i64 S, .int .i64 J, .bool true] w fun e w' => e = .returned (.tuple #[]) ∧ w = w' := by
  have HP := Lib.hid hpos
  have HR := Lib.hid (And.intro hr hw)
  clear hpos hr hw
  go_enter Tryd.func42, Tryd.ntmps42
  go_wp2_with fail
  go_loopw [1, 5] (fun a b wr => ∃ p q : Nat, q + p = 16 ∧ a = .int .i64 q ∧ ∃ I : Int, b = .int .i64 I ∧ -300000 ≤ I ∧ I ≤ 300000 ∧ Hid (I = I0 + p * S ∧ wr = w)) (fun a _ _ => (intOf a).toNat)
  case atStart => exact ⟨0, 16, by omega, rfl, I0, rfl, by omega, by omega, Lib.hid ⟨by simp, rfl⟩⟩
  case round =>
    obtain ⟨p, q, hpq, rfl, I, rfl, i0, i1, hR⟩ := hrel
    obtain rfl := hR.out.2.symm
    by_cases hq : q = 0
    · subst hq
      go_wp2
      go_end0
      exact ⟨rfl, rfl⟩
    · have hq1 : 1 ≤ q := by omega
      have hpn : p < 16 := by omega
      have hpl : Places m I J := places_of fun j hj => by have := HP.out p hpn j hj; rw [hR.out.1]; exact this
      have HS : Hid (I + S = I0 + ((p + 1 : Nat) : Int) * S) := Lib.hid (by rw [hR.out.1, Int.natCast_add, Int.add_mul]; simp; omega)
      clear hR
      obtain ⟨⟨b00, b01⟩, ⟨b10, b11⟩, ⟨b20, b21⟩, ⟨b30, b31⟩, ⟨b40, b41⟩, ⟨b50, b51⟩, ⟨b60, b61⟩, ⟨b70, b71⟩⟩ := hpl
      have c0 : w.cell? ⟨g, (I - 4 * J).toNat, none⟩ = some (.int .u8 v) := by simpa using HR.out.1 ((I - 4 * J).toNat) (by omega)
      have c1 : w.cell? ⟨g, (I - 3 * J).toNat, none⟩ = some (.int .u8 v) := by simpa using HR.out.1 ((I - 3 * J).toNat) (by omega)
      have c2 : w.cell? ⟨g, (I - 2 * J).toNat, none⟩ = some (.int .u8 v) := by simpa using HR.out.1 ((I - 2 * J).toNat) (by omega)
      have c3 : w.cell? ⟨g, (I - J).toNat, none⟩ = some (.int .u8 v) := by simpa using HR.out.1 ((I - J).toNat) (by omega)
      have c4 : w.cell? ⟨g, I.toNat, none⟩ = some (.int .u8 v) := by simpa using HR.out.1 (I.toNat) (by omega)
      have c5 : w.cell? ⟨g, (I + J).toNat, none⟩ = some (.int .u8 v) := by simpa using HR.out.1 ((I + J).toNat) (by omega)
      have c6 : w.cell? ⟨g, (I + 2 * J).toNat, none⟩ = some (.int .u8 v) := by simpa using HR.out.1 ((I + 2 * J).toNat) (by omega)
      have c7 : w.cell? ⟨g, (I + 3 * J).toNat, none⟩ = some (.int .u8 v) := by simpa using HR.out.1 ((I + 3 * J).toNat) (by omega)
      have z2 : w.frozen? ⟨g, (I - 2 * J).toNat, none⟩ = false := by simpa using HR.out.2 ((I - 2 * J).toNat) (by omega)
      have s2 := setCell_self w g ((I - 2 * J).toNat) (.int .u8 v) c2
      have z3 : w.frozen? ⟨g, (I - J).toNat, none⟩ = false := by simpa using HR.out.2 ((I - J).toNat) (by omega)
      have s3 := setCell_self w g ((I - J).toNat) (.int .u8 v) c3
      have z4 : w.frozen? ⟨g, I.toNat, none⟩ = false := by simpa using HR.out.2 (I.toNat) (by omega)
      have s4 := setCell_self w g (I.toNat) (.int .u8 v) c4
      have z5 : w.frozen? ⟨g, (I + J).toNat, none⟩ = false := by simpa using HR.out.2 ((I + J).toNat) (by omega)
      have s5 := setCell_self w g ((I + J).toNat) (.int .u8 v) c5
      have l0 : decide (lev < 0) = false := by simp; omega
      have l1 : decide (il < 0) = false := by simp; omega
      have l2 : decide (hl < 0) = false := by simp; omega
      as_aux_lemma =>
        go_wp2_with (first | (go_at_call 59; refine (abs_zero _).mono ?_; rintro e w' ⟨rfl, rfl⟩) | (go_at_call 60; refine (c127_zero _).mono ?_; rintro e w' ⟨rfl, rfl⟩) | (go_at_call 61; refine (c15_zero _).mono ?_; rintro e w' ⟨rfl, rfl⟩) | (go_at_call 62; refine (c255_same v _ v0 v1).mono ?_; rintro e w' ⟨rfl, rfl⟩))
        go_roundw
        case rel =>
          first
            | exact ⟨p + 1, q - 1, by omega, by (congr 1; omega), I + S, rfl, by omega, by omega, Lib.hid ⟨HS.out, by first | rfl | trivial⟩⟩
            | ((repeat apply Exists.intro); refine ⟨?_, rfl⟩; exact ⟨p + 1, q - 1, by omega, by (congr 1; omega), I + S, rfl, by omega, by omega, Lib.hid ⟨HS.out, by first | rfl | trivial⟩⟩)
        case measure => simp [intOf]; omega
end Go.Proofs.YtmdijdoaijnpaaaDoor
