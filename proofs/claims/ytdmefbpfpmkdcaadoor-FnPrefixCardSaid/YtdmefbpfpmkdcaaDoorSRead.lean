/- The reference's reader of bits. -/
import Derived.Test.YtdmefbpfpmkdcaaDoorReadD
import Derived.Test.YtdmefbpfpmkdcaaDoorMask
import Derived.Test.YtdmefbpfpmkdcaaDoorQuietTail
import Derived.Test.YtdmefbpfpmkdcaaDoorNxt
import Derived.BigQuiet
import Derived.BigRegion
import Derived.RegionTactic
namespace Go.Proofs.YtdmefbpfpmkdcaaDoor
open Go.RowKit
set_option linter.unusedVariables false

/-- The reference's reader at block g over n bytes of S: p bits are read; sh: it came to the end; op: something open was met. -/
structure SB (w : World) (g : Nat) (a : Option Addr) (n c : Nat) (f : Nat → Int) (S p : Nat) (sh op : Bool) : Prop where
  obj : SObj w g 83 [.slice a n c, .int .i64 p, .bool sh, .bool op, .pointer none]
  row : Arg .u8 w a n f
  far : 0 < n → ∀ x, a = some x → x.block ≠ g
  strm : Strm f S n
  max : n ≤ 1048576
  le : p ≤ 8 * n
theorem SB.only {T : Nat → Prop} {w w' : World} {g : Nat} {a : Option Addr} {n c : Nat} {f : Nat → Int} {S p : Nat} {sh op : Bool} (h : SB w g a n c f S p sh op) (ho : Only T w w') (hn : ¬ T g) (ha : 0 < n → ∀ x, a = some x → ¬ T x.block) : SB w' g a n c f S p sh op :=
  ⟨h.obj.only ho hn, h.row.only ho ha, h.far, h.strm, h.max, h.le⟩
theorem SB.own {w w' : World} {g : Nat} {a : Option Addr} {n c : Nat} {f : Nat → Int} {S p p' : Nat} {sh op sh' op' : Bool} (h : SB w g a n c f S p sh op) (ho : Only (fun k => k = g) w w') (hle : p' ≤ 8 * n) (hobj : SObj w' g 83 [.slice a n c, .int .i64 p', .bool sh', .bool op', .pointer none]) : SB w' g a n c f S p' sh' op' :=
  ⟨hobj, h.row.only ho (fun h0 x hx e => h.far h0 x hx e), h.far, h.strm, h.max, hle⟩

theorem bit_of (S t : Nat) : byteOf S (t / 8) / 2 ^ (t % 8) % 2 = S / 2 ^ t % 2 := by
  unfold byteOf
  rw [show (256 : Nat) = 2 ^ 8 from rfl, bit_mod _ 8 (t % 8) (by omega), ← Nat.pow_mul, Nat.div_div_eq_div_mul, ← Nat.pow_add, show 8 * (t / 8) + t % 8 = t by omega]
theorem hand_succ (S p i : Nat) : hand S p (i + 1) = hand S p i + S / 2 ^ (p + i) % 2 * 2 ^ i := by
  unfold hand
  rw [Nat.pow_succ, Nat.mod_mul, Nat.div_div_eq_div_mul, ← Nat.pow_add, Nat.mul_comm (2 ^ i)]
theorem sread_val (S t i x hv : Nat) (hx : x = byteOf S (t / 8)) (hi : i ≤ 30) (hh : hv < 2 ^ i) :
    bits .and .u8 ((x : Int) / 2 ^ (t % 8)) 1 = ((S / 2 ^ t % 2 : Nat) : Int) := by
  have h1 : x < 256 := by rw [hx]; exact byteOf_lt _ _
  have h2 : x / 2 ^ (t % 8) ≤ x := Nat.div_le_self _ _
  have h3 := u8_and_nat (x / 2 ^ (t % 8)) 1 (by omega) (by omega)
  rw [show ((1 : Nat) : Int) = 1 from rfl, Nat.and_one_is_mod, hx, bit_of] at h3
  rw [← h3, hx]; simp

theorem sread_sum (hv bt i : Nat) (hh : hv < 2 ^ i) (hb : bt ≤ 1) (hi : i ≤ 23) : wrap64 ((hv : Int) + wrap64 ((bt : Int) * 2 ^ i)) = ((hv + bt * 2 ^ i : Nat) : Int) ∧ hv + bt * 2 ^ i < 16777216 := by
  have h1 : (2 : Nat) ^ i ≤ 2 ^ 23 := Nat.pow_le_pow_right (by decide) hi
  have e : (2 : Nat) ^ 23 = 8388608 := rfl
  have h2 : bt * 2 ^ i ≤ 1 * 2 ^ i := Nat.mul_le_mul_right _ hb
  have e1 : (bt : Int) * 2 ^ i = ((bt * 2 ^ i : Nat) : Int) := by simp
  obtain ⟨y, hy⟩ : ∃ y, y = bt * 2 ^ i := ⟨_, rfl⟩
  rw [← hy] at h2 e1 ⊢
  rw [e1, IntWalk.wrap64_in ((y : Nat) : Int) (by omega), IntWalk.wrap64_in _ (by omega)]
  exact ⟨by omega, by omega⟩

set_option maxRecDepth 100000 in
set_option maxHeartbeats 400000 in
theorem sread_any (g : Nat) (a : Option Addr) (n c : Nat) (f : Nat → Int) (S p k : Nat) (sh op : Bool) (w : World) (h : SB w g a n c f S p sh op) (hk : k ≤ 24) :
    Calls Tryd.prog 65 #[.pointer (some ⟨g, 0, none⟩), .int .i64 k] w fun e w' =>
      ((p + k ≤ 8 * n ∧ e = .returned (.int .i64 (hand S p k)) ∧ SB w' g a n c f S (p + k) sh op) ∨ (8 * n < p + k ∧ e = .returned (.int .i64 0) ∧ SB w' g a n c f S (8 * n) true op)) ∧ Only (fun k => k = g) w w' := by
  have H := Lib.hid h; clear h
  go_enter Tryd.func65, Tryd.ntmps65
  go_wp2
  go_loopg [5, 6] (k + 1) (fun j s5 s6 wr => ∃ i hv : Nat, s5 = .int .i64 hv ∧ s6 = .int .i64 i ∧ i ≤ k ∧ hv < 16777216 ∧ Hid (k < j + i ∧ p + i ≤ 8 * n ∧ hv = hand S p i ∧ SB wr g a n c f S (p + i) sh op ∧ Only (fun k => k = g) w wr))
  case atStart => exact ⟨0, 0, rfl, rfl, Nat.zero_le _, by decide, by omega, H.out.le, (hand_zero _ _).symm, H.out, Only.refl _ _⟩
  case round =>
    obtain ⟨i, hv, rfl, rfl, hik, hv24, hR⟩ := hrel
    by_cases hlt : i < k
    · obtain ⟨t, ht⟩ : ∃ t, t = p + i := ⟨_, rfl⟩
      rw [← ht] at hR
      have htn : t ≤ 8 * n := hR.out.2.1
      have hmax := H.out.max
      have c0 := hR.out.2.2.2.1.obj.cell 0 rfl
      have c1 := hR.out.2.2.2.1.obj.cell 1 rfl
      have c2 := hR.out.2.2.2.1.obj.cell 2 rfl
      have z1 := hR.out.2.2.2.1.obj.free 1
      have z2 := hR.out.2.2.2.1.obj.free 2
      have HT := Lib.hid ht; clear ht
      by_cases hn : t = 8 * n
      · go_upto_region 5 with fail
        go_quiet (fail)
        rename_i nq
        go_wp2
        go_ret
        refine ⟨.inr ⟨by have := HT.out; omega, rfl, hR.out.2.2.2.1.own ((Only.drewN _ wr _).tr (Only.setCell _ _ _ rfl)) (Nat.le_refl _) ?_⟩, (hR.out.2.2.2.2.dN _).tr (Only.setCell _ _ _ rfl)⟩
        have h5 := (hR.out.2.2.2.1.obj.drewN nq).set 2 (.bool true)
        rw [hn] at h5
        exact h5
      · have hj : t / 8 < n := by omega
        obtain ⟨ga, oa, rfl, hga, ra⟩ := hR.out.2.2.2.1.row (by omega)
        have cr := ra (t / 8) hj
        obtain ⟨x, hx⟩ : ∃ x, x = byteOf S (t / 8) := ⟨_, rfl⟩
        have hx256 : x < 256 := by rw [hx]; exact byteOf_lt _ _
        rw [H.out.strm _ hj, ← hx] at cr
        have hhv : hv < 2 ^ i := by rw [hR.out.2.2.1]; exact hand_lt _ _ _
        have ev := sread_val S t i x hv hx (by omega) hhv
        obtain ⟨bt, hbt⟩ : ∃ b, b = S / 2 ^ t % 2 := ⟨_, rfl⟩
        have hbt1 : bt ≤ 1 := by omega
        rw [← hbt] at ev
        have HB := Lib.hid (And.intro hx (And.intro hbt hhv))
        clear hx hbt hhv ra
        go_upto_region 5 with fail
        go_quiet (fail)
        rename_i nq1
        go_upto_region 8 with fail
        go_quiet (fail)
        rename_i nq
        go_wp2
        go_roundg (gk - 1)
        case measure => have := hR.out.1; omega
        case rel =>
          obtain ⟨e1, e2⟩ := sread_sum hv bt i HB.out.2.2 hbt1 (by omega)
          have eh := hand_succ S p i
          rw [← HT.out, ← HB.out.2.1, ← hR.out.2.2.1] at eh
          have hR1 := hR.out
          refine ⟨i + 1, hv + bt * 2 ^ i, by rw [e1], by go_num, by omega, e2, Lib.hid ⟨by omega, by have := HT.out; omega, eh.symm, ?_, hR1.2.2.2.2.tr ((Only.drewN _ wr _).tr (Only.setCell _ _ _ rfl))⟩⟩
          rw [show p + (i + 1) = t + 1 by have := HT.out; omega]
          exact hR1.2.2.2.1.own ((Only.drewN _ wr _).tr (Only.setCell _ _ _ rfl)) (by omega) ((hR1.2.2.2.1.obj.drewN _).set 1 _)
    · go_wp2
      go_ret
      obtain rfl : i = k := by omega
      exact ⟨.inl ⟨hR.out.2.1, by rw [hR.out.2.2.1]; rfl, hR.out.2.2.2.1⟩, hR.out.2.2.2.2⟩
end Go.Proofs.YtdmefbpfpmkdcaaDoor
