/- readBit where it first takes a byte. -/
import Derived.Test.YthmkmemocjnleaaDoorBoolR
namespace Go.Proofs.YthmkmemocjnleaaDoor
open Go.RowKit
set_option linter.unusedVariables false

set_option maxRecDepth 100000 in
theorem readBit_eof (g : Nat) (ao : Option Addr) (n c r : Nat) (m b nb prob : Int) (eof : Bool) (w : World) (hp : PT w g ao n c r m b nb eof) (hn : nb < 8) (hr : n ≤ r) (hr2 : r ≤ 9223372036854775807) :
    Calls Tryd.prog 56 #[.pointer (some ⟨g, 0, none⟩), .int .u8 prob] w fun e w' => e = .returned (.bool false) ∧ PT w' g ao n c r m b nb true ∧ w.grownBy w' (some g) := by
  have H := Lib.hid hp
  have c0 := hp.cell 0 rfl
  have c1 := hp.cell 1 rfl
  have c4 := hp.cell 4 rfl
  have c5 := hp.cell 5 rfl
  have z5 := hp.free 5
  clear hp
  go_enter Tryd.func56, Tryd.ntmps56
  go_wp2
  go_quiet (fail)
  go_wp2
  go_ret
  exact ⟨rfl, (H.out.drewN nq).set 5 _, grownBy.trans (grownBy_drewN _ nq _) (grownBy_setCell _ _ _)⟩

set_option maxRecDepth 100000 in
set_option maxHeartbeats 1600000 in
/-- The byte is taken; then the call goes on as from a state that holds it. -/
theorem readBit_load (g : Nat) (ao : Option Addr) (n c r : Nat) (m b nb prob x : Int) (eof : Bool) (w : World) (ht : Tabs w) (hg : 2 ≤ g) (hp : PT w g ao n c r m b nb eof)
    (gb ob : Nat) (hao : ao = some ⟨gb, ob, none⟩) (hx : w.cell? ⟨gb, ob + r, none⟩ = some (.int .u8 x)) (hgb : gb ≠ g) (hx0 : 0 ≤ x) (hx1 : x ≤ 255)
    (hm0 : 0 ≤ m) (hm : m ≤ 254) (hp0 : 0 ≤ prob) (hp1 : prob ≤ 255) (hb0 : 0 ≤ b) (hb : b < 65536) (hn0 : 0 ≤ nb) (hn : nb < 8) (hr : r < n) (hr2 : n ≤ 9223372036854775807)
    (b1 : Int) (hor : bits .or .u32 b (x * 2 ^ (8 - nb).toNat % 4294967296) = b1) (hb10 : 0 ≤ b1) (hb11 : b1 < 65536) (hb12 : b1 < (m + 1) * 256)
    (sp : Int) (hsp : sp = m * prob / 256 + 1) (bit : Bool) (hbit : bit = decide (sp * 256 ≤ b1)) (m1 b2 : Int) (hm1 : m1 = if bit then m - sp else sp - 1) (hb2 : b2 = if bit then b1 - sp * 256 else b1) :
    Calls Tryd.prog 56 #[.pointer (some ⟨g, 0, none⟩), .int .u8 prob] w fun e w' => e = .returned (.bool bit) ∧ PT w' g ao n c (r + 1) (normP m1 b2 (nb + 8)).1 (normP m1 b2 (nb + 8)).2.1 (normP m1 b2 (nb + 8)).2.2 eof ∧ w.grownBy w' (some g) := by
  have H := Lib.hid hp
  have c0 := hp.cell 0 rfl
  have c1 := hp.cell 1 rfl
  have c2 := hp.cell 2 rfl
  have c3 := hp.cell 3 rfl
  have c4 := hp.cell 4 rfl
  have z1 := hp.free 1
  have z2 := hp.free 2
  have z3 := hp.free 3
  have z4 := hp.free 4
  subst hao
  have q0 : 0 ≤ m * prob := Int.mul_nonneg hm0 hp0
  have q1 : m * prob ≤ 254 * 255 := Int.mul_le_mul hm hp1 hp0 (by omega)
  have s0 : 1 ≤ sp := by omega
  have s1 : sp ≤ 254 := by omega
  have s2 : sp ≤ m + 1 := by
    have : m * prob ≤ m * 256 := Int.mul_le_mul_of_nonneg_left (by omega) hm0
    omega
  have HT := Lib.hid ht
  have glt := hp.lt
  have HV := Lib.hid (And.intro hor (And.intro hbit (And.intro hm1 (And.intro hb2 hsp)))); clear hor hbit hm1 hb2 hsp
  clear hp ht
  go_enter Tryd.func56, Tryd.ntmps56
  go_wp2
  go_quiet (fail)
  go_wp2
  go_quiet (fail)
  go_wp2
  go_region
  generalize hw2 : World.setCell _ (⟨g, 3, none⟩ : Addr) _ = w2
  have H2 : Hid (PT w2 g (some ⟨gb, ob, none⟩) n c r m b1 nb eof ∧ w.grownBy w2 (some g) ∧ Tabs w2) := by
    rw [← hw2, HV.out.1]
    exact ⟨(H.out.drewN _).set 3 _, grownBy.trans (grownBy_drewN _ _ _) (grownBy_setCell _ _ _), fun i hi => ⟨by
      rw [World.cell?_setCell_other _ _ _ _ (by intro h; injection h with h; omega)]; exact (HT.out i hi).1, by
      rw [World.cell?_setCell_other _ _ _ _ (by intro h; injection h with h; omega)]; exact (HT.out i hi).2⟩⟩
  clear hw2 c0 c1 c2 c3 c4 z1 z2 z3 z4 H HT hx
  have hp := H2.out.1
  have c1 := hp.cell 1 rfl
  have c2 := hp.cell 2 rfl
  have c3 := hp.cell 3 rfl
  have c4 := hp.cell 4 rfl
  have z1 := hp.free 1
  have z2 := hp.free 2
  have z3 := hp.free 3
  have z4 := hp.free 4
  have esp : m * prob / 256 + 1 = sp := HV.out.2.2.2.2.symm
  clear hp
  by_cases d1 : sp * 256 ≤ b1
  · have v1 : Hid (bit = true ∧ m1 = m - sp ∧ b2 = b1 - sp * 256) := by
      obtain ⟨_, h2, h3, h4, _⟩ := HV.out
      have hb : bit = true := by rw [h2]; exact decide_eq_true d1
      subst hb
      exact ⟨rfl, by simpa using h3, by simpa using h4⟩
    by_cases d2 : m - sp < 127
    · obtain ⟨k, hk⟩ := Int.eq_ofNat_of_zero_le (show 0 ≤ m - sp by omega)
      have hk127 : k < 127 := by omega
      obtain ⟨t1, t2, t3, t4⟩ := shiftTab_range k hk127
      have l0 := (H2.out.2.2 k hk127).1
      have l1 := (H2.out.2.2 k hk127).2
      have en : Hid (normP m1 b2 (nb + 8) = (((k : Int) + 1) * 2 ^ (shiftTab.getD k 0).toNat - 1, (b1 - sp * 256) * 2 ^ (shiftTab.getD k 0).toNat, nb + 8 - shiftTab.getD k 0)) := by
        rw [v1.out.2.1, v1.out.2.2]; unfold normP; rw [if_pos d2, hk]; exact Lib.hid rfl
      obtain ⟨sh, hsh⟩ : ∃ sh, sh = shiftTab.getD k 0 := ⟨_, rfl⟩
      rw [← hsh] at t1 t2 t3 t4 l0 l1 en
      obtain ⟨rr, hrr⟩ : ∃ rr, rr = ((k : Int) + 1) * 2 ^ sh.toNat - 1 := ⟨_, rfl⟩
      rw [← hrr] at l1 en
      have r0 : 127 ≤ rr := by omega
      have r1 : rr ≤ 253 := by omega
      have hb2 : Hid ((b1 - sp * 256) * 2 ^ sh.toNat % 4294967296 = (b1 - sp * 256) * 2 ^ sh.toNat) := Lib.hid (pow_small (b1 - sp * 256) sh t1 t2 (by omega) (by omega))
      have HS := Lib.hid (And.intro hk (And.intro hsh hrr)); clear hsh hrr t3 t4
      go_wp2
      go_ret
      rw [en.out, v1.out.1]
      exact ⟨rfl, PT.bits (((((((H2.out.1.set 1 _).set 4 _).set 2 _).set 3 _).set 2 _).set 3 _).set 4 _) hb2.out, grownBy.trans (grownBy.trans (grownBy.trans (grownBy.trans (grownBy.trans (grownBy.trans (grownBy.trans (H2.out.2.1) (grownBy_setCell _ _ _)) (grownBy_setCell _ _ _)) (grownBy_setCell _ _ _)) (grownBy_setCell _ _ _)) (grownBy_setCell _ _ _)) (grownBy_setCell _ _ _)) (grownBy_setCell _ _ _)⟩
    · have en : Hid (normP m1 b2 (nb + 8) = (m - sp, b1 - sp * 256, nb + 8)) := by
        rw [v1.out.2.1, v1.out.2.2]; unfold normP; rw [if_neg d2]; exact Lib.hid rfl
      go_wp2
      go_ret
      rw [en.out, v1.out.1]
      exact ⟨rfl, ((((H2.out.1.set 1 _).set 4 _).set 2 _).set 3 _), grownBy.trans (grownBy.trans (grownBy.trans (grownBy.trans (H2.out.2.1) (grownBy_setCell _ _ _)) (grownBy_setCell _ _ _)) (grownBy_setCell _ _ _)) (grownBy_setCell _ _ _)⟩
  · have hd : decide (sp * 256 ≤ b1) = false := decide_eq_false d1
    have v1 : Hid (bit = false ∧ m1 = sp - 1 ∧ b2 = b1) := by
      obtain ⟨_, h2, h3, h4, _⟩ := HV.out
      have hb : bit = false := by rw [h2]; exact hd
      subst hb
      exact ⟨rfl, by simpa using h3, by simpa using h4⟩
    by_cases d2 : sp - 1 < 127
    · obtain ⟨k, hk⟩ := Int.eq_ofNat_of_zero_le (show 0 ≤ sp - 1 by omega)
      have hk127 : k < 127 := by omega
      obtain ⟨t1, t2, t3, t4⟩ := shiftTab_range k hk127
      have l0 := (H2.out.2.2 k hk127).1
      have l1 := (H2.out.2.2 k hk127).2
      have en : Hid (normP m1 b2 (nb + 8) = (((k : Int) + 1) * 2 ^ (shiftTab.getD k 0).toNat - 1, b1 * 2 ^ (shiftTab.getD k 0).toNat, nb + 8 - shiftTab.getD k 0)) := by
        rw [v1.out.2.1, v1.out.2.2]; unfold normP; rw [if_pos d2, hk]; exact Lib.hid rfl
      obtain ⟨sh, hsh⟩ : ∃ sh, sh = shiftTab.getD k 0 := ⟨_, rfl⟩
      rw [← hsh] at t1 t2 t3 t4 l0 l1 en
      obtain ⟨rr, hrr⟩ : ∃ rr, rr = ((k : Int) + 1) * 2 ^ sh.toNat - 1 := ⟨_, rfl⟩
      rw [← hrr] at l1 en
      have r0 : 127 ≤ rr := by omega
      have r1 : rr ≤ 253 := by omega
      have hb2 : Hid ((b1) * 2 ^ sh.toNat % 4294967296 = (b1) * 2 ^ sh.toNat) := Lib.hid (pow_small (b1) sh t1 t2 (by omega) (by omega))
      have HS := Lib.hid (And.intro hk (And.intro hsh hrr)); clear hsh hrr t3 t4
      go_wp2
      go_ret
      rw [en.out, v1.out.1]
      exact ⟨(by first | rfl | (show Ending.returned (.bool (decide (sp * 256 ≤ b1))) = _; rw [decide_eq_false (by omega)])), PT.bits ((((((H2.out.1.set 1 _).set 4 _).set 2 _).set 2 _).set 3 _).set 4 _) hb2.out, grownBy.trans (grownBy.trans (grownBy.trans (grownBy.trans (grownBy.trans (grownBy.trans (H2.out.2.1) (grownBy_setCell _ _ _)) (grownBy_setCell _ _ _)) (grownBy_setCell _ _ _)) (grownBy_setCell _ _ _)) (grownBy_setCell _ _ _)) (grownBy_setCell _ _ _)⟩
    · have en : Hid (normP m1 b2 (nb + 8) = (sp - 1, b1, nb + 8)) := by
        rw [v1.out.2.1, v1.out.2.2]; unfold normP; rw [if_neg d2]; exact Lib.hid rfl
      go_wp2
      go_ret
      rw [en.out, v1.out.1]
      exact ⟨(by first | rfl | (show Ending.returned (.bool (decide (sp * 256 ≤ b1))) = _; rw [decide_eq_false (by omega)])), (((H2.out.1.set 1 _).set 4 _).set 2 _), grownBy.trans (grownBy.trans (grownBy.trans (H2.out.2.1) (grownBy_setCell _ _ _)) (grownBy_setCell _ _ _)) (grownBy_setCell _ _ _)⟩
end Go.Proofs.YthmkmemocjnleaaDoor
