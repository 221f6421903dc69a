/- The small functions of the filters: the package's abs and clamps; the reference's within, short, moved, distance. -/
import Derived.Test.YtmdijdoaijnpaaaDoorFilt
import Derived.Outline
namespace Go.Proofs.YtmdijdoaijnpaaaDoor
open Go.RowKit
set_option linter.unusedVariables false

theorem xor_neg : ∀ n : Nat, n < 256 → bits .xor .i64 (-(n : Int)) (-1) = (n : Int) - 1 := by decide +kernel
theorem xor_pos : ∀ n : Nat, n < 256 → bits .xor .i64 (n : Int) 0 = (n : Int) := by decide +kernel
theorem shr63_neg (x : Int) (h : x < 0) (h2 : -255 ≤ x) : x / 9223372036854775808 = -1 := by omega
theorem shr63_pos (x : Int) (h : 0 ≤ x) (h2 : x ≤ 255) : x / 9223372036854775808 = 0 := by omega

theorem abs_any (a b d : Int) (w : World) (h1 : -255 ≤ a - b) (h2 : a - b ≤ 255) (hd : d = dst a b) :
    Calls Tryd.prog 59 #[.int .i64 (a - b)] w fun e w' => e = .returned (.int .i64 d) ∧ w = w' := by
  unfold dst at hd
  generalize hx : a - b = x at *
  by_cases h : x < 0
  · have e : d = -x := by rw [hd, if_pos (by omega)]; omega
    clear hd hx
    subst e
    have s := shr63_neg x h h1
    obtain ⟨n, hn⟩ : ∃ n : Nat, x = -(n : Int) := ⟨(-x).toNat, by omega⟩
    have q := xor_neg n (by omega)
    rw [← hn] at q
    have q2 : (n : Int) - 1 = -x - 1 := by omega
    rw [q2] at q
    clear q2 hn
    go_enter Tryd.func59, Tryd.ntmps59
    go_wp2
    go_ret
    exact ⟨ret_int (by omega), rfl⟩
  · have e : x = d := by rw [hd, if_neg (by omega)]
    clear hd hx
    subst e
    have s := shr63_pos x (by omega) h2
    obtain ⟨n, hn⟩ : ∃ n : Nat, x = (n : Int) := ⟨x.toNat, by omega⟩
    have q := xor_pos n (by omega)
    rw [← hn] at q
    have h0 : 0 ≤ x := by omega
    clear hn h
    go_enter Tryd.func59, Tryd.ntmps59
    go_wp2
    go_ret
    exact ⟨ret_int (by omega), rfl⟩
theorem clamp15_any (x : Int) (w : World) (h1 : -1000000 ≤ x) (h2 : x ≤ 1000000) :
    Calls Tryd.prog 61 #[.int .i64 x] w fun e w' => e = .returned (.int .i64 (hld (-16) 15 x)) ∧ w = w' := by
  by_cases h : x < -16
  · go_enter Tryd.func61, Tryd.ntmps61
    go_wp2
    go_ret
    exact ⟨ret_int (by unfold hld; (repeat' split) <;> omega), rfl⟩
  · by_cases h3 : 15 < x
    · go_enter Tryd.func61, Tryd.ntmps61
      go_wp2
      go_ret
      exact ⟨ret_int (by unfold hld; (repeat' split) <;> omega), rfl⟩
    · go_enter Tryd.func61, Tryd.ntmps61
      go_wp2
      go_ret
      exact ⟨ret_int (by unfold hld; (repeat' split) <;> omega), rfl⟩

theorem clamp127_any (x : Int) (w : World) (h1 : -1000000 ≤ x) (h2 : x ≤ 1000000) :
    Calls Tryd.prog 60 #[.int .i64 x] w fun e w' => e = .returned (.int .i64 (hld (-128) 127 x)) ∧ w = w' := by
  by_cases h : x < -128
  · go_enter Tryd.func60, Tryd.ntmps60
    go_wp2
    go_ret
    exact ⟨ret_int (by unfold hld; (repeat' split) <;> omega), rfl⟩
  · by_cases h3 : 127 < x
    · go_enter Tryd.func60, Tryd.ntmps60
      go_wp2
      go_ret
      exact ⟨ret_int (by unfold hld; (repeat' split) <;> omega), rfl⟩
    · go_enter Tryd.func60, Tryd.ntmps60
      go_wp2
      go_ret
      exact ⟨ret_int (by unfold hld; (repeat' split) <;> omega), rfl⟩

theorem clamp255_any (x : Int) (w : World) (h1 : -1000000 ≤ x) (h2 : x ≤ 1000000) :
    Calls Tryd.prog 62 #[.int .i64 x] w fun e w' => e = .returned (.int .u8 (hld (0) 255 x)) ∧ w = w' := by
  by_cases h : x < 0
  · go_enter Tryd.func62, Tryd.ntmps62
    go_wp2
    go_ret
    exact ⟨ret_int (by unfold hld; (repeat' split) <;> omega), rfl⟩
  · by_cases h3 : 255 < x
    · go_enter Tryd.func62, Tryd.ntmps62
      go_wp2
      go_ret
      exact ⟨ret_int (by unfold hld; (repeat' split) <;> omega), rfl⟩
    · go_enter Tryd.func62, Tryd.ntmps62
      go_wp2
      go_ret
      exact ⟨ret_int (by unfold hld; (repeat' split) <;> omega), rfl⟩

/-! The reference's. -/
theorem withinH (lo hi n : Int) (h : lo ≤ hi) : ∃ m : Int, (if hi < n then hi else n) = m ∧ (if lo < m then m else lo) = hld lo hi n := by
  refine ⟨_, rfl, ?_⟩
  unfold hld
  (repeat' split) <;> omega
theorem within_any (n lo hi : Int) (w : World) (h : lo ≤ hi) :
    Calls Tryd.prog 47 #[.int .i64 n, .int .i64 lo, .int .i64 hi] w fun e w' => e = .returned (.int .i64 (hld lo hi n)) ∧ w = w' := by
  obtain ⟨m, e1, e2⟩ := withinH lo hi n h
  generalize hld lo hi n = r at *
  clear h
  go_enter Tryd.func47, Tryd.ntmps47
  go_wp2
  go_ret
  exact ⟨rfl, rfl⟩
theorem short_any (n : Int) (w : World) :
    Calls Tryd.prog 67 #[.int .i64 n] w fun e w' => e = .returned (.int .i64 (hld (-128) 127 n)) ∧ w = w' := by
  go_enter Tryd.func67, Tryd.ntmps67
  go_wp2_with fail
  refine (within_any n (-128) 127 w (by decide)).mono ?_
  rintro _ _ ⟨rfl, rfl⟩
  go_wp2
  go_ret
  exact ⟨rfl, rfl⟩
theorem moved_any (n b : Int) (w : World) (h1 : -1000000 ≤ n) (h2 : n ≤ 1000000) (h3 : -1000000 ≤ b) (h4 : b ≤ 1000000) :
    Calls Tryd.prog 68 #[.int .i64 n, .int .i64 b] w fun e w' => e = .returned (.int .i64 (hld 0 255 (n - b))) ∧ w = w' := by
  have hr := hld_range (lo := -128) (hi := 127) (by decide) (n - 128 - b)
  have he := Lib.hid (moved_eq n b)
  go_enter Tryd.func68, Tryd.ntmps68
  go_wp2_with fail
  refine (short_any (n - 128 - b) w).mono ?_
  rintro _ _ ⟨rfl, rfl⟩
  generalize hld (-128) 127 (n - 128 - b) = m at *
  obtain ⟨m0, m1⟩ := hr
  go_wp2
  go_ret
  exact ⟨ret_int he.out, rfl⟩
theorem distH (a b : Int) : (if a - b < b - a then b - a else a - b) = dst a b := rfl
theorem distance_any (a b : Int) (w : World) (h1 : 0 ≤ a) (h2 : a ≤ 1000000) (h3 : 0 ≤ b) (h4 : b ≤ 1000000) :
    Calls Tryd.prog 66 #[.int .i64 a, .int .i64 b] w fun e w' => e = .returned (.int .i64 (dst a b)) ∧ w = w' := by
  have e := distH a b
  generalize dst a b = r at *
  go_enter Tryd.func66, Tryd.ntmps66
  go_wp2
  go_ret
  exact ⟨rfl, rfl⟩
end Go.Proofs.YtmdijdoaijnpaaaDoor
