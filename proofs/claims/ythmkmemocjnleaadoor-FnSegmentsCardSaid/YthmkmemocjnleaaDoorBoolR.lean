/- The boolean decoder of the package (partition): readBit as a plain function of its state. -/
import Derived.Test.YthmkmemocjnleaaDoorObj
import Derived.Test.YthmkmemocjnleaaDoorBits
import Derived.RegionTactic
import Derived.BigRegion
import Derived.BigQuiet
import Derived.Deep.QuietTactic
import Derived.WalkSmall
import Derived.Outline
namespace Go.Proofs.YthmkmemocjnleaaDoor
open Go.RowKit
set_option linter.unusedVariables false

/-- The tables, as lists. -/
def shiftTab : List Int := [7, 6, 6, 5, 5, 5, 5, 4, 4, 4, 4, 4, 4, 4, 4, 3, 3, 3, 3, 3, 3, 3, 3, 3, 3, 3, 3, 3, 3, 3, 3, 2, 2, 2, 2, 2, 2, 2, 2, 2, 2, 2, 2, 2, 2, 2, 2, 2, 2, 2, 2, 2, 2, 2, 2, 2, 2, 2, 2, 2, 2, 2, 2, 1, 1, 1, 1, 1, 1, 1, 1, 1, 1, 1, 1, 1, 1, 1, 1, 1, 1, 1, 1, 1, 1, 1, 1, 1, 1, 1, 1, 1, 1, 1, 1, 1, 1, 1, 1, 1, 1, 1, 1, 1, 1, 1, 1, 1, 1, 1, 1, 1, 1, 1, 1, 1, 1, 1, 1, 1, 1, 1, 1, 1, 1, 1, 1]
/-- The variables of the package that the decoder reads: the two tables. -/
def Tabs (w : World) : Prop := ∀ i, i < 127 → w.cell? ⟨0, i, none⟩ = some (.int .u8 (shiftTab.getD i 0)) ∧
  w.cell? ⟨1, i, none⟩ = some (.int .u8 ((i + 1) * 2 ^ (shiftTab.getD i 0).toNat - 1))

/-- The decoder at block g. -/
def PT (w : World) (g : Nat) (ao : Option Addr) (n c : Nat) (r : Nat) (m b nb : Int) (eof : Bool) : Prop :=
  SObj w g 128 [.slice ao n c, .int .i64 r, .int .u32 m, .int .u32 b, .int .u8 nb, .bool eof]

theorem shiftTab_range (k : Nat) (h : k < 127) : 1 ≤ shiftTab.getD k 0 ∧ shiftTab.getD k 0 ≤ 7 ∧ 128 ≤ ((k : Int) + 1) * 2 ^ (shiftTab.getD k 0).toNat ∧ ((k : Int) + 1) * 2 ^ (shiftTab.getD k 0).toNat ≤ 254 := by
  have : ∀ k, k < 127 → 1 ≤ shiftTab.getD k 0 ∧ shiftTab.getD k 0 ≤ 7 ∧ 128 ≤ ((k : Int) + 1) * 2 ^ (shiftTab.getD k 0).toNat ∧ ((k : Int) + 1) * 2 ^ (shiftTab.getD k 0).toNat ≤ 254 := by decide +kernel
  exact this k h

/-- The state behind a decision: the range less 1, the bits, how many are there; brought to 127 at least. -/
def normP (m b nb : Int) : Int × Int × Int :=
  if m < 127 then ((m + 1) * 2 ^ (shiftTab.getD m.toNat 0).toNat - 1, b * 2 ^ (shiftTab.getD m.toNat 0).toNat, nb - shiftTab.getD m.toNat 0) else (m, b, nb)

theorem PT.bits {w : World} {g : Nat} {ao : Option Addr} {n c r : Nat} {m b b' nb : Int} {eof : Bool} (h : PT w g ao n c r m b nb eof) (e : b = b') : PT w g ao n c r m b' nb eof := e ▸ h

theorem pow_small (b s : Int) (h1 : 1 ≤ s) (h2 : s ≤ 7) (h3 : 0 ≤ b) (h4 : b < 65536) : (b * 2 ^ s.toNat) % 4294967296 = b * 2 ^ s.toNat := by
  obtain rfl | rfl | rfl | rfl | rfl | rfl | rfl : s = 1 ∨ s = 2 ∨ s = 3 ∨ s = 4 ∨ s = 5 ∨ s = 6 ∨ s = 7 := by omega
  all_goals (simp only [Int.reducePow, Int.reduceToNat]; omega)

set_option maxRecDepth 100000 in
set_option maxHeartbeats 800000 in
theorem readBit_1n (g : Nat) (ao : Option Addr) (n c r : Nat) (m b nb prob : Int) (eof : Bool) (w : World) (ht : Tabs w) (hg : 2 ≤ g) (hp : PT w g ao n c r m b nb eof)
    (hm0 : 0 ≤ m) (hm : m ≤ 254) (hp0 : 0 ≤ prob) (hp1 : prob ≤ 255) (hb0 : 0 ≤ b) (hb : b < 65536) (hbm : b < (m + 1) * 256) (hn : 8 ≤ nb) (hn1 : nb ≤ 15)
    (sp : Int) (hsp : sp = m * prob / 256 + 1) (hbit : sp * 256 ≤ b) (hm2 : ¬ m - sp < 127) :
    Calls Tryd.prog 56 #[.pointer (some ⟨g, 0, none⟩), .int .u8 prob] w fun e w' => e = .returned (.bool true) ∧ PT w' g ao n c r (normP (m - sp) (b - sp * 256) nb).1 (normP (m - sp) (b - sp * 256) nb).2.1 (normP (m - sp) (b - sp * 256) nb).2.2 eof ∧ w.grownBy w' (some g) := by
  have H := Lib.hid hp
  have c2 := hp.cell 2 rfl
  have c3 := hp.cell 3 rfl
  have c4 := hp.cell 4 rfl
  have z2 := hp.free 2
  have z3 := hp.free 3
  have z4 := hp.free 4
  have q0 : 0 ≤ m * prob := Int.mul_nonneg hm0 hp0
  have q1 : m * prob ≤ 254 * 255 := Int.mul_le_mul hm hp1 hp0 (by omega)
  have s0 : 1 ≤ sp := by omega
  have s1 : sp ≤ 254 := by omega
  have s2 : sp ≤ m + 1 := by
    have : m * prob ≤ m * 256 := Int.mul_le_mul_of_nonneg_left (by omega) hm0
    omega
  have esp : m * prob / 256 + 1 = sp := hsp.symm
  have en : normP (m - sp) (b - sp * 256) nb = (m - sp, b - sp * 256, nb) := by unfold normP; rw [if_neg hm2]
  rw [en]
  clear en
  clear hp hsp ht
  go_enter Tryd.func56, Tryd.ntmps56
  go_wp2
  go_ret
  exact ⟨rfl, ((H.out.set 2 _).set 3 _), grownBy.trans (grownBy_setCell _ _ _) (grownBy_setCell _ _ _)⟩

set_option maxRecDepth 100000 in
set_option maxHeartbeats 800000 in
theorem readBit_0n (g : Nat) (ao : Option Addr) (n c r : Nat) (m b nb prob : Int) (eof : Bool) (w : World) (ht : Tabs w) (hg : 2 ≤ g) (hp : PT w g ao n c r m b nb eof)
    (hm0 : 0 ≤ m) (hm : m ≤ 254) (hp0 : 0 ≤ prob) (hp1 : prob ≤ 255) (hb0 : 0 ≤ b) (hb : b < 65536) (hbm : b < (m + 1) * 256) (hn : 8 ≤ nb) (hn1 : nb ≤ 15)
    (sp : Int) (hsp : sp = m * prob / 256 + 1) (hbit : b < sp * 256) (hm2 : ¬ sp - 1 < 127) :
    Calls Tryd.prog 56 #[.pointer (some ⟨g, 0, none⟩), .int .u8 prob] w fun e w' => e = .returned (.bool false) ∧ PT w' g ao n c r (normP (sp - 1) (b) nb).1 (normP (sp - 1) (b) nb).2.1 (normP (sp - 1) (b) nb).2.2 eof ∧ w.grownBy w' (some g) := by
  have H := Lib.hid hp
  have c2 := hp.cell 2 rfl
  have c3 := hp.cell 3 rfl
  have c4 := hp.cell 4 rfl
  have z2 := hp.free 2
  have z3 := hp.free 3
  have z4 := hp.free 4
  have q0 : 0 ≤ m * prob := Int.mul_nonneg hm0 hp0
  have q1 : m * prob ≤ 254 * 255 := Int.mul_le_mul hm hp1 hp0 (by omega)
  have s0 : 1 ≤ sp := by omega
  have s1 : sp ≤ 254 := by omega
  have s2 : sp ≤ m + 1 := by
    have : m * prob ≤ m * 256 := Int.mul_le_mul_of_nonneg_left (by omega) hm0
    omega
  have esp : m * prob / 256 + 1 = sp := hsp.symm
  have hd : decide (sp * 256 ≤ b) = false := decide_eq_false (by omega)
  have en : normP (sp - 1) (b) nb = (sp - 1, b, nb) := by unfold normP; rw [if_neg hm2]
  rw [en]
  clear en
  clear hp hsp ht
  go_enter Tryd.func56, Tryd.ntmps56
  go_wp2
  go_ret
  exact ⟨by first | rfl | (show Ending.returned (.bool (decide (sp * 256 ≤ b))) = _; rw [decide_eq_false (by omega)]), (H.out.set 2 _), grownBy_setCell _ _ _⟩

set_option maxRecDepth 100000 in
set_option maxHeartbeats 800000 in
theorem readBit_1r (g : Nat) (ao : Option Addr) (n c r : Nat) (m b nb prob : Int) (eof : Bool) (w : World) (ht : Tabs w) (hg : 2 ≤ g) (hp : PT w g ao n c r m b nb eof)
    (hm0 : 0 ≤ m) (hm : m ≤ 254) (hp0 : 0 ≤ prob) (hp1 : prob ≤ 255) (hb0 : 0 ≤ b) (hb : b < 65536) (hbm : b < (m + 1) * 256) (hn : 8 ≤ nb) (hn1 : nb ≤ 15)
    (sp : Int) (hsp : sp = m * prob / 256 + 1) (hbit : sp * 256 ≤ b) (hm2 : m - sp < 127) :
    Calls Tryd.prog 56 #[.pointer (some ⟨g, 0, none⟩), .int .u8 prob] w fun e w' => e = .returned (.bool true) ∧ PT w' g ao n c r (normP (m - sp) (b - sp * 256) nb).1 (normP (m - sp) (b - sp * 256) nb).2.1 (normP (m - sp) (b - sp * 256) nb).2.2 eof ∧ w.grownBy w' (some g) := by
  have H := Lib.hid hp
  have c2 := hp.cell 2 rfl
  have c3 := hp.cell 3 rfl
  have c4 := hp.cell 4 rfl
  have z2 := hp.free 2
  have z3 := hp.free 3
  have z4 := hp.free 4
  have q0 : 0 ≤ m * prob := Int.mul_nonneg hm0 hp0
  have q1 : m * prob ≤ 254 * 255 := Int.mul_le_mul hm hp1 hp0 (by omega)
  have s0 : 1 ≤ sp := by omega
  have s1 : sp ≤ 254 := by omega
  have s2 : sp ≤ m + 1 := by
    have : m * prob ≤ m * 256 := Int.mul_le_mul_of_nonneg_left (by omega) hm0
    omega
  have esp : m * prob / 256 + 1 = sp := hsp.symm
  obtain ⟨k, hk⟩ := Int.eq_ofNat_of_zero_le (show 0 ≤ m - sp by omega)
  have hk127 : k < 127 := by omega
  obtain ⟨t1, t2, t3, t4⟩ := shiftTab_range k hk127
  have l0 := (ht k hk127).1
  have l1 := (ht k hk127).2
  have en : normP (m - sp) (b - sp * 256) nb = (((k : Int) + 1) * 2 ^ (shiftTab.getD k 0).toNat - 1, (b - sp * 256) * 2 ^ (shiftTab.getD k 0).toNat, nb - shiftTab.getD k 0) := by
    unfold normP; rw [if_pos hm2, hk]; rfl
  rw [en]
  clear en
  obtain ⟨sh, hsh⟩ : ∃ sh, sh = shiftTab.getD k 0 := ⟨_, rfl⟩
  rw [← hsh] at t1 t2 t3 t4 l0 l1 ⊢
  obtain ⟨rr, hrr⟩ : ∃ rr, rr = ((k : Int) + 1) * 2 ^ sh.toNat - 1 := ⟨_, rfl⟩
  rw [← hrr] at l1 ⊢
  have r0 : 127 ≤ rr := by omega
  have r1 : rr ≤ 253 := by omega
  have HK := Lib.hid hk
  have HS := Lib.hid (And.intro hsh hrr)
  have hb2 : Hid (((b - sp * 256) * 2 ^ sh.toNat) % 4294967296 = (b - sp * 256) * 2 ^ sh.toNat) := Lib.hid (pow_small (b - sp * 256) sh t1 t2 (by omega) (by omega))
  clear hsh hrr t3 t4
  clear hp hsp ht
  go_enter Tryd.func56, Tryd.ntmps56
  go_wp2
  go_ret
  exact ⟨rfl, PT.bits (((((H.out.set 2 _).set 3 _).set 2 _).set 3 _).set 4 _) hb2.out, grownBy.trans (grownBy.trans (grownBy.trans (grownBy.trans (grownBy_setCell _ _ _) (grownBy_setCell _ _ _)) (grownBy_setCell _ _ _)) (grownBy_setCell _ _ _)) (grownBy_setCell _ _ _)⟩

set_option maxRecDepth 100000 in
set_option maxHeartbeats 800000 in
theorem readBit_0r (g : Nat) (ao : Option Addr) (n c r : Nat) (m b nb prob : Int) (eof : Bool) (w : World) (ht : Tabs w) (hg : 2 ≤ g) (hp : PT w g ao n c r m b nb eof)
    (hm0 : 0 ≤ m) (hm : m ≤ 254) (hp0 : 0 ≤ prob) (hp1 : prob ≤ 255) (hb0 : 0 ≤ b) (hb : b < 65536) (hbm : b < (m + 1) * 256) (hn : 8 ≤ nb) (hn1 : nb ≤ 15)
    (sp : Int) (hsp : sp = m * prob / 256 + 1) (hbit : b < sp * 256) (hm2 : sp - 1 < 127) :
    Calls Tryd.prog 56 #[.pointer (some ⟨g, 0, none⟩), .int .u8 prob] w fun e w' => e = .returned (.bool false) ∧ PT w' g ao n c r (normP (sp - 1) (b) nb).1 (normP (sp - 1) (b) nb).2.1 (normP (sp - 1) (b) nb).2.2 eof ∧ w.grownBy w' (some g) := by
  have H := Lib.hid hp
  have c2 := hp.cell 2 rfl
  have c3 := hp.cell 3 rfl
  have c4 := hp.cell 4 rfl
  have z2 := hp.free 2
  have z3 := hp.free 3
  have z4 := hp.free 4
  have q0 : 0 ≤ m * prob := Int.mul_nonneg hm0 hp0
  have q1 : m * prob ≤ 254 * 255 := Int.mul_le_mul hm hp1 hp0 (by omega)
  have s0 : 1 ≤ sp := by omega
  have s1 : sp ≤ 254 := by omega
  have s2 : sp ≤ m + 1 := by
    have : m * prob ≤ m * 256 := Int.mul_le_mul_of_nonneg_left (by omega) hm0
    omega
  have esp : m * prob / 256 + 1 = sp := hsp.symm
  have hd : decide (sp * 256 ≤ b) = false := decide_eq_false (by omega)
  obtain ⟨k, hk⟩ := Int.eq_ofNat_of_zero_le (show 0 ≤ sp - 1 by omega)
  have hk127 : k < 127 := by omega
  obtain ⟨t1, t2, t3, t4⟩ := shiftTab_range k hk127
  have l0 := (ht k hk127).1
  have l1 := (ht k hk127).2
  have en : normP (sp - 1) (b) nb = (((k : Int) + 1) * 2 ^ (shiftTab.getD k 0).toNat - 1, (b) * 2 ^ (shiftTab.getD k 0).toNat, nb - shiftTab.getD k 0) := by
    unfold normP; rw [if_pos hm2, hk]; rfl
  rw [en]
  clear en
  obtain ⟨sh, hsh⟩ : ∃ sh, sh = shiftTab.getD k 0 := ⟨_, rfl⟩
  rw [← hsh] at t1 t2 t3 t4 l0 l1 ⊢
  obtain ⟨rr, hrr⟩ : ∃ rr, rr = ((k : Int) + 1) * 2 ^ sh.toNat - 1 := ⟨_, rfl⟩
  rw [← hrr] at l1 ⊢
  have r0 : 127 ≤ rr := by omega
  have r1 : rr ≤ 253 := by omega
  have HK := Lib.hid hk
  have HS := Lib.hid (And.intro hsh hrr)
  have hb2 : Hid (((b) * 2 ^ sh.toNat) % 4294967296 = (b) * 2 ^ sh.toNat) := Lib.hid (pow_small (b) sh t1 t2 (by omega) (by omega))
  clear hsh hrr t3 t4
  clear hp hsp ht
  go_enter Tryd.func56, Tryd.ntmps56
  go_wp2
  go_ret
  exact ⟨by first | rfl | (show Ending.returned (.bool (decide (sp * 256 ≤ b))) = _; rw [decide_eq_false (by omega)]), PT.bits ((((H.out.set 2 _).set 2 _).set 3 _).set 4 _) hb2.out, grownBy.trans (grownBy.trans (grownBy.trans (grownBy_setCell _ _ _) (grownBy_setCell _ _ _)) (grownBy_setCell _ _ _)) (grownBy_setCell _ _ _)⟩
end Go.Proofs.YthmkmemocjnleaaDoor
