/- The package's boolean decoder where it lies inside a Decoder (offsets 51 to 56). Printed by wip/gen_at51.py. -/
import Derived.Test.YthmkmemocjnleaaDoorCommon
namespace Go.Proofs.YthmkmemocjnleaaDoor
namespace At51
open Go.RowKit
set_option linter.unusedVariables false

/-- Six cells at offset 51; the others as R tells. -/
def FO (R : Nat → Option Value) (w : World) (g : Nat) (vs : List Value) : Prop :=
  g < w.heap.size ∧ (∀ j v, j < 6 → vs[j]? = some v → w.cell? ⟨g, 51 + j, none⟩ = some v) ∧ (∀ i, i < 51 ∨ 57 ≤ i → w.cell? ⟨g, i, none⟩ = R i) ∧ ∀ i, w.frozen? ⟨g, i, none⟩ = false
theorem FO.lt {R : Nat → Option Value} {w : World} {g : Nat} {vs : List Value} (h : FO R w g vs) : g < w.heap.size := h.1
theorem FO.set {R : Nat → Option Value} {w : World} {g : Nat} {vs : List Value} (h : FO R w g vs) (j : Nat) (v : Value) (hj : j < 6 := by decide) : FO R (w.setCell ⟨g, 51 + j, none⟩ v) g (vs.set j v) := by
  refine ⟨by rw [size_setCell]; exact h.1, fun i u hl6 hu => ?_, fun i hi => ?_, fun i => by rw [World.frozen?_setCell]; exact h.2.2.2 i⟩
  · by_cases e : j = i
    · subst e
      rw [List.getElem?_set] at hu
      by_cases hl : j < vs.length
      · simp [hl] at hu
        subst hu
        exact World.cell?_setCell_same _ _ _ (h.2.1 j vs[j] hj (by simp [hl]))
      · simp [hl] at hu
    · rw [World.cell?_setCell_other _ _ _ _ (by intro c; injection c; omega)]
      rw [List.getElem?_set_ne e] at hu
      exact h.2.1 i u hl6 hu
  · rw [World.cell?_setCell_other _ _ _ _ (by intro c; injection c; omega)]
    exact h.2.2.1 i hi
theorem FO.drewN {R : Nat → Option Value} {w : World} {g : Nat} {vs : List Value} (h : FO R w g vs) (d : Nat) : FO R (w.drewN d) g vs := h
theorem FO.drew {R : Nat → Option Value} {w : World} {g : Nat} {vs : List Value} (h : FO R w g vs) : FO R w.drew g vs := h
/-- Another cell of the block. -/
def updR (R : Nat → Option Value) (i : Nat) (v : Value) (k : Nat) : Option Value := if k = i then some v else R k
theorem FO.put {R : Nat → Option Value} {w : World} {g : Nat} {vs : List Value} (h : FO R w g vs) (i : Nat) (v : Value) (hi : i < 51 ∨ 57 ≤ i) {old : Value} (hs : R i = some old) : FO (updR R i v) (w.setCell ⟨g, i, none⟩ v) g vs := by
  refine ⟨by rw [size_setCell]; exact h.1, fun j u hj hu => ?_, fun k hk => ?_, fun k => by rw [World.frozen?_setCell]; exact h.2.2.2 k⟩
  · rw [World.cell?_setCell_other _ _ _ _ (by intro c; injection c; omega)]
    exact h.2.1 j u hj hu
  · unfold updR
    by_cases e : k = i
    · subst e
      rw [if_pos rfl]
      exact World.cell?_setCell_same _ _ _ (by rw [h.2.2.1 k hk]; exact hs)
    · rw [if_neg e, World.cell?_setCell_other _ _ _ _ (by intro c; injection c; omega)]
      exact h.2.2.1 k hk
theorem FO.cell {R : Nat → Option Value} {w : World} {g : Nat} {vs : List Value} (h : FO R w g vs) (i : Nat) (hi : i < 51 ∨ 57 ≤ i) {v : Value} (hv : R i = some v) : w.cell? ⟨g, i, none⟩ = some v := by rw [h.2.2.1 i hi, hv]
theorem FO.free {R : Nat → Option Value} {w : World} {g : Nat} {vs : List Value} (h : FO R w g vs) (i : Nat) : w.frozen? ⟨g, i, none⟩ = false := h.2.2.2 i
theorem FO.congr {R R' : Nat → Option Value} {w : World} {g : Nat} {vs : List Value} (h : FO R w g vs) (he : ∀ i, i < 51 ∨ 57 ≤ i → R i = R' i) : FO R' w g vs := ⟨h.1, h.2.1, fun i hi => (h.2.2.1 i hi).trans (he i hi), h.2.2.2⟩
theorem FO.blk {R : Nat → Option Value} {w w' : World} {g : Nat} {vs : List Value} (h : FO R w g vs) (hs : w.heap.size ≤ w'.heap.size) (hb : w'.heap[g]? = w.heap[g]?) (hf : ∀ i, w'.frozen? ⟨g, i, none⟩ = w.frozen? ⟨g, i, none⟩) : FO R w' g vs :=
  ⟨Nat.lt_of_lt_of_le h.1 hs, fun j v hj hv => by rw [World.cell?_of_block (w := w) hb]; exact h.2.1 j v hj hv, fun i hi => by rw [World.cell?_of_block (w := w) hb]; exact h.2.2.1 i hi, fun i => by rw [hf]; exact h.2.2.2 i⟩

theorem FO.below {R : Nat → Option Value} {w w' : World} {g B : Nat} {vs : List Value} (h : FO R w g vs) (hb : Below B w w') (hg : g < B) : FO R w' g vs :=
  ⟨Nat.lt_of_lt_of_le h.1 hb.size, fun j v hj hv => (hb.cell (p := ⟨g, 51 + j, none⟩) hg).trans (h.2.1 j v hj hv), fun i hi => (hb.cell (p := ⟨g, i, none⟩) hg).trans (h.2.2.1 i hi), fun i => (hb.frozen (p := ⟨g, i, none⟩) hg).trans (h.2.2.2 i)⟩
theorem FO.grown {R : Nat → Option Value} {w w' : World} {g : Nat} {vs : List Value} {row : Option Nat} (h : FO R w g vs) (hg : w.grownBy w' row) (hne : some g ≠ row) : FO R w' g vs :=
  h.blk hg.size (hg.block g h.1 hne) (fun i => World.frozen?_of_block (w := w) (hg.block g h.1 hne))

/-- The decoder inside block g. -/
def PT (RR : Nat → Option Value) (w : World) (g : Nat) (ao : Option Addr) (n c : Nat) (r : Nat) (m b nb : Int) (eof : Bool) : Prop :=
  FO RR w g [.slice ao n c, .int .i64 r, .int .u32 m, .int .u32 b, .int .u8 nb, .bool eof]
variable {RR : Nat → Option Value}
theorem PT.c0 {w : World} {g : Nat} {ao : Option Addr} {n c r : Nat} {m b nb : Int} {eof : Bool} (h : PT RR w g ao n c r m b nb eof) : w.cell? ⟨g, 51, none⟩ = some (.slice ao n c) := h.2.1 0 _ (by decide) rfl
theorem PT.z0 {w : World} {g : Nat} {ao : Option Addr} {n c r : Nat} {m b nb : Int} {eof : Bool} (h : PT RR w g ao n c r m b nb eof) : w.frozen? ⟨g, 51, none⟩ = false := h.2.2.2 _
theorem PT.c1 {w : World} {g : Nat} {ao : Option Addr} {n c r : Nat} {m b nb : Int} {eof : Bool} (h : PT RR w g ao n c r m b nb eof) : w.cell? ⟨g, 52, none⟩ = some (.int .i64 r) := h.2.1 1 _ (by decide) rfl
theorem PT.z1 {w : World} {g : Nat} {ao : Option Addr} {n c r : Nat} {m b nb : Int} {eof : Bool} (h : PT RR w g ao n c r m b nb eof) : w.frozen? ⟨g, 52, none⟩ = false := h.2.2.2 _
theorem PT.c2 {w : World} {g : Nat} {ao : Option Addr} {n c r : Nat} {m b nb : Int} {eof : Bool} (h : PT RR w g ao n c r m b nb eof) : w.cell? ⟨g, 53, none⟩ = some (.int .u32 m) := h.2.1 2 _ (by decide) rfl
theorem PT.z2 {w : World} {g : Nat} {ao : Option Addr} {n c r : Nat} {m b nb : Int} {eof : Bool} (h : PT RR w g ao n c r m b nb eof) : w.frozen? ⟨g, 53, none⟩ = false := h.2.2.2 _
theorem PT.c3 {w : World} {g : Nat} {ao : Option Addr} {n c r : Nat} {m b nb : Int} {eof : Bool} (h : PT RR w g ao n c r m b nb eof) : w.cell? ⟨g, 54, none⟩ = some (.int .u32 b) := h.2.1 3 _ (by decide) rfl
theorem PT.z3 {w : World} {g : Nat} {ao : Option Addr} {n c r : Nat} {m b nb : Int} {eof : Bool} (h : PT RR w g ao n c r m b nb eof) : w.frozen? ⟨g, 54, none⟩ = false := h.2.2.2 _
theorem PT.c4 {w : World} {g : Nat} {ao : Option Addr} {n c r : Nat} {m b nb : Int} {eof : Bool} (h : PT RR w g ao n c r m b nb eof) : w.cell? ⟨g, 55, none⟩ = some (.int .u8 nb) := h.2.1 4 _ (by decide) rfl
theorem PT.z4 {w : World} {g : Nat} {ao : Option Addr} {n c r : Nat} {m b nb : Int} {eof : Bool} (h : PT RR w g ao n c r m b nb eof) : w.frozen? ⟨g, 55, none⟩ = false := h.2.2.2 _
theorem PT.c5 {w : World} {g : Nat} {ao : Option Addr} {n c r : Nat} {m b nb : Int} {eof : Bool} (h : PT RR w g ao n c r m b nb eof) : w.cell? ⟨g, 56, none⟩ = some (.bool eof) := h.2.1 5 _ (by decide) rfl
theorem PT.z5 {w : World} {g : Nat} {ao : Option Addr} {n c r : Nat} {m b nb : Int} {eof : Bool} (h : PT RR w g ao n c r m b nb eof) : w.frozen? ⟨g, 56, none⟩ = false := h.2.2.2 _
theorem PT.lt {w : World} {g : Nat} {ao : Option Addr} {n c r : Nat} {m b nb : Int} {eof : Bool} (h : PT RR w g ao n c r m b nb eof) : g < w.heap.size := h.1
theorem PT.bits {w : World} {g : Nat} {ao : Option Addr} {n c r : Nat} {m b b' nb : Int} {eof : Bool} (h : PT RR w g ao n c r m b nb eof) (e : b = b') : PT RR w g ao n c r m b' nb eof := e ▸ h

set_option maxRecDepth 100000 in
set_option maxHeartbeats 800000 in
theorem readBit_1n (g : Nat) (ao : Option Addr) (n c r : Nat) (m b nb prob : Int) (eof : Bool) (w : World) (ht : Tabs w) (hg : 2 ≤ g) (hp : PT RR w g ao n c r m b nb eof)
    (hm0 : 0 ≤ m) (hm : m ≤ 254) (hp0 : 0 ≤ prob) (hp1 : prob ≤ 255) (hb0 : 0 ≤ b) (hb : b < 65536) (hbm : b < (m + 1) * 256) (hn : 8 ≤ nb) (hn1 : nb ≤ 15)
    (sp : Int) (hsp : sp = m * prob / 256 + 1) (hbit : sp * 256 ≤ b) (hm2 : ¬ m - sp < 127) :
    Calls Tryd.prog 56 #[.pointer (some ⟨g, 51, none⟩), .int .u8 prob] w fun e w' => e = .returned (.bool true) ∧ PT RR w' g ao n c r (normP (m - sp) (b - sp * 256) nb).1 (normP (m - sp) (b - sp * 256) nb).2.1 (normP (m - sp) (b - sp * 256) nb).2.2 eof ∧ w.grownBy w' (some g) := by
  have H := Lib.hid hp
  have c2 := hp.c2
  have c3 := hp.c3
  have c4 := hp.c4
  have z2 := hp.z2
  have z3 := hp.z3
  have z4 := hp.z4
  have q0 : 0 ≤ m * prob := Int.mul_nonneg hm0 hp0
  have q1 : m * prob ≤ 254 * 255 := Int.mul_le_mul hm hp1 hp0 (by omega)
  have s0 : 1 ≤ sp := by omega
  have s1 : sp ≤ 254 := by omega
  have s2 : sp ≤ m + 1 := by
    have : m * prob ≤ m * 256 := Int.mul_le_mul_of_nonneg_left (by omega) hm0
    omega
  have esp : m * prob / 256 + 1 = sp := hsp.symm
  have en : normP (m - sp) (b - sp * 256) nb = (m - sp, b - sp * 256, nb) := by unfold normP; rw [if_neg hm2]
  rw [en]
  clear en
  clear hp hsp ht
  go_enter Tryd.func56, Tryd.ntmps56
  go_wp2
  go_ret
  exact ⟨rfl, ((H.out.set 2 _).set 3 _), grownBy.trans (grownBy_setCell _ _ _) (grownBy_setCell _ _ _)⟩

set_option maxRecDepth 100000 in
set_option maxHeartbeats 800000 in
theorem readBit_0n (g : Nat) (ao : Option Addr) (n c r : Nat) (m b nb prob : Int) (eof : Bool) (w : World) (ht : Tabs w) (hg : 2 ≤ g) (hp : PT RR w g ao n c r m b nb eof)
    (hm0 : 0 ≤ m) (hm : m ≤ 254) (hp0 : 0 ≤ prob) (hp1 : prob ≤ 255) (hb0 : 0 ≤ b) (hb : b < 65536) (hbm : b < (m + 1) * 256) (hn : 8 ≤ nb) (hn1 : nb ≤ 15)
    (sp : Int) (hsp : sp = m * prob / 256 + 1) (hbit : b < sp * 256) (hm2 : ¬ sp - 1 < 127) :
    Calls Tryd.prog 56 #[.pointer (some ⟨g, 51, none⟩), .int .u8 prob] w fun e w' => e = .returned (.bool false) ∧ PT RR w' g ao n c r (normP (sp - 1) (b) nb).1 (normP (sp - 1) (b) nb).2.1 (normP (sp - 1) (b) nb).2.2 eof ∧ w.grownBy w' (some g) := by
  have H := Lib.hid hp
  have c2 := hp.c2
  have c3 := hp.c3
  have c4 := hp.c4
  have z2 := hp.z2
  have z3 := hp.z3
  have z4 := hp.z4
  have q0 : 0 ≤ m * prob := Int.mul_nonneg hm0 hp0
  have q1 : m * prob ≤ 254 * 255 := Int.mul_le_mul hm hp1 hp0 (by omega)
  have s0 : 1 ≤ sp := by omega
  have s1 : sp ≤ 254 := by omega
  have s2 : sp ≤ m + 1 := by
    have : m * prob ≤ m * 256 := Int.mul_le_mul_of_nonneg_left (by omega) hm0
    omega
  have esp : m * prob / 256 + 1 = sp := hsp.symm
  have hd : decide (sp * 256 ≤ b) = false := decide_eq_false (by omega)
  have en : normP (sp - 1) (b) nb = (sp - 1, b, nb) := by unfold normP; rw [if_neg hm2]
  rw [en]
  clear en
  clear hp hsp ht
  go_enter Tryd.func56, Tryd.ntmps56
  go_wp2
  go_ret
  exact ⟨by first | rfl | (show Ending.returned (.bool (decide (sp * 256 ≤ b))) = _; rw [decide_eq_false (by omega)]), (H.out.set 2 _), grownBy_setCell _ _ _⟩

set_option maxRecDepth 100000 in
set_option maxHeartbeats 800000 in
theorem readBit_1r (g : Nat) (ao : Option Addr) (n c r : Nat) (m b nb prob : Int) (eof : Bool) (w : World) (ht : Tabs w) (hg : 2 ≤ g) (hp : PT RR w g ao n c r m b nb eof)
    (hm0 : 0 ≤ m) (hm : m ≤ 254) (hp0 : 0 ≤ prob) (hp1 : prob ≤ 255) (hb0 : 0 ≤ b) (hb : b < 65536) (hbm : b < (m + 1) * 256) (hn : 8 ≤ nb) (hn1 : nb ≤ 15)
    (sp : Int) (hsp : sp = m * prob / 256 + 1) (hbit : sp * 256 ≤ b) (hm2 : m - sp < 127) :
    Calls Tryd.prog 56 #[.pointer (some ⟨g, 51, none⟩), .int .u8 prob] w fun e w' => e = .returned (.bool true) ∧ PT RR w' g ao n c r (normP (m - sp) (b - sp * 256) nb).1 (normP (m - sp) (b - sp * 256) nb).2.1 (normP (m - sp) (b - sp * 256) nb).2.2 eof ∧ w.grownBy w' (some g) := by
  have H := Lib.hid hp
  have c2 := hp.c2
  have c3 := hp.c3
  have c4 := hp.c4
  have z2 := hp.z2
  have z3 := hp.z3
  have z4 := hp.z4
  have q0 : 0 ≤ m * prob := Int.mul_nonneg hm0 hp0
  have q1 : m * prob ≤ 254 * 255 := Int.mul_le_mul hm hp1 hp0 (by omega)
  have s0 : 1 ≤ sp := by omega
  have s1 : sp ≤ 254 := by omega
  have s2 : sp ≤ m + 1 := by
    have : m * prob ≤ m * 256 := Int.mul_le_mul_of_nonneg_left (by omega) hm0
    omega
  have esp : m * prob / 256 + 1 = sp := hsp.symm
  obtain ⟨k, hk⟩ := Int.eq_ofNat_of_zero_le (show 0 ≤ m - sp by omega)
  have hk127 : k < 127 := by omega
  obtain ⟨t1, t2, t3, t4⟩ := shiftTab_range k hk127
  have l0 := (ht k hk127).1
  have l1 := (ht k hk127).2
  have en : normP (m - sp) (b - sp * 256) nb = (((k : Int) + 1) * 2 ^ (shiftTab.getD k 0).toNat - 1, (b - sp * 256) * 2 ^ (shiftTab.getD k 0).toNat, nb - shiftTab.getD k 0) := by
    unfold normP; rw [if_pos hm2, hk]; rfl
  rw [en]
  clear en
  obtain ⟨sh, hsh⟩ : ∃ sh, sh = shiftTab.getD k 0 := ⟨_, rfl⟩
  rw [← hsh] at t1 t2 t3 t4 l0 l1 ⊢
  obtain ⟨rr, hrr⟩ : ∃ rr, rr = ((k : Int) + 1) * 2 ^ sh.toNat - 1 := ⟨_, rfl⟩
  rw [← hrr] at l1 ⊢
  have r0 : 127 ≤ rr := by omega
  have r1 : rr ≤ 253 := by omega
  have HK := Lib.hid hk
  have HS := Lib.hid (And.intro hsh hrr)
  have hb2 : Hid (((b - sp * 256) * 2 ^ sh.toNat) % 4294967296 = (b - sp * 256) * 2 ^ sh.toNat) := Lib.hid (pow_small (b - sp * 256) sh t1 t2 (by omega) (by omega))
  clear hsh hrr t3 t4
  clear hp hsp ht
  go_enter Tryd.func56, Tryd.ntmps56
  go_wp2
  go_ret
  exact ⟨rfl, PT.bits (((((H.out.set 2 _).set 3 _).set 2 _).set 3 _).set 4 _) hb2.out, grownBy.trans (grownBy.trans (grownBy.trans (grownBy.trans (grownBy_setCell _ _ _) (grownBy_setCell _ _ _)) (grownBy_setCell _ _ _)) (grownBy_setCell _ _ _)) (grownBy_setCell _ _ _)⟩

set_option maxRecDepth 100000 in
set_option maxHeartbeats 800000 in
theorem readBit_0r (g : Nat) (ao : Option Addr) (n c r : Nat) (m b nb prob : Int) (eof : Bool) (w : World) (ht : Tabs w) (hg : 2 ≤ g) (hp : PT RR w g ao n c r m b nb eof)
    (hm0 : 0 ≤ m) (hm : m ≤ 254) (hp0 : 0 ≤ prob) (hp1 : prob ≤ 255) (hb0 : 0 ≤ b) (hb : b < 65536) (hbm : b < (m + 1) * 256) (hn : 8 ≤ nb) (hn1 : nb ≤ 15)
    (sp : Int) (hsp : sp = m * prob / 256 + 1) (hbit : b < sp * 256) (hm2 : sp - 1 < 127) :
    Calls Tryd.prog 56 #[.pointer (some ⟨g, 51, none⟩), .int .u8 prob] w fun e w' => e = .returned (.bool false) ∧ PT RR w' g ao n c r (normP (sp - 1) (b) nb).1 (normP (sp - 1) (b) nb).2.1 (normP (sp - 1) (b) nb).2.2 eof ∧ w.grownBy w' (some g) := by
  have H := Lib.hid hp
  have c2 := hp.c2
  have c3 := hp.c3
  have c4 := hp.c4
  have z2 := hp.z2
  have z3 := hp.z3
  have z4 := hp.z4
  have q0 : 0 ≤ m * prob := Int.mul_nonneg hm0 hp0
  have q1 : m * prob ≤ 254 * 255 := Int.mul_le_mul hm hp1 hp0 (by omega)
  have s0 : 1 ≤ sp := by omega
  have s1 : sp ≤ 254 := by omega
  have s2 : sp ≤ m + 1 := by
    have : m * prob ≤ m * 256 := Int.mul_le_mul_of_nonneg_left (by omega) hm0
    omega
  have esp : m * prob / 256 + 1 = sp := hsp.symm
  have hd : decide (sp * 256 ≤ b) = false := decide_eq_false (by omega)
  obtain ⟨k, hk⟩ := Int.eq_ofNat_of_zero_le (show 0 ≤ sp - 1 by omega)
  have hk127 : k < 127 := by omega
  obtain ⟨t1, t2, t3, t4⟩ := shiftTab_range k hk127
  have l0 := (ht k hk127).1
  have l1 := (ht k hk127).2
  have en : normP (sp - 1) (b) nb = (((k : Int) + 1) * 2 ^ (shiftTab.getD k 0).toNat - 1, (b) * 2 ^ (shiftTab.getD k 0).toNat, nb - shiftTab.getD k 0) := by
    unfold normP; rw [if_pos hm2, hk]; rfl
  rw [en]
  clear en
  obtain ⟨sh, hsh⟩ : ∃ sh, sh = shiftTab.getD k 0 := ⟨_, rfl⟩
  rw [← hsh] at t1 t2 t3 t4 l0 l1 ⊢
  obtain ⟨rr, hrr⟩ : ∃ rr, rr = ((k : Int) + 1) * 2 ^ sh.toNat - 1 := ⟨_, rfl⟩
  rw [← hrr] at l1 ⊢
  have r0 : 127 ≤ rr := by omega
  have r1 : rr ≤ 253 := by omega
  have HK := Lib.hid hk
  have HS := Lib.hid (And.intro hsh hrr)
  have hb2 : Hid (((b) * 2 ^ sh.toNat) % 4294967296 = (b) * 2 ^ sh.toNat) := Lib.hid (pow_small (b) sh t1 t2 (by omega) (by omega))
  clear hsh hrr t3 t4
  clear hp hsp ht
  go_enter Tryd.func56, Tryd.ntmps56
  go_wp2
  go_ret
  exact ⟨by first | rfl | (show Ending.returned (.bool (decide (sp * 256 ≤ b))) = _; rw [decide_eq_false (by omega)]), PT.bits ((((H.out.set 2 _).set 2 _).set 3 _).set 4 _) hb2.out, grownBy.trans (grownBy.trans (grownBy.trans (grownBy_setCell _ _ _) (grownBy_setCell _ _ _)) (grownBy_setCell _ _ _)) (grownBy_setCell _ _ _)⟩
set_option maxRecDepth 100000 in
theorem readBit_eof (g : Nat) (ao : Option Addr) (n c r : Nat) (m b nb prob : Int) (eof : Bool) (w : World) (hp : PT RR w g ao n c r m b nb eof) (hn : nb < 8) (hr : n ≤ r) (hr2 : r ≤ 9223372036854775807) :
    Calls Tryd.prog 56 #[.pointer (some ⟨g, 51, none⟩), .int .u8 prob] w fun e w' => e = .returned (.bool false) ∧ PT RR w' g ao n c r m b nb true ∧ w.grownBy w' (some g) := by
  have H := Lib.hid hp
  have c0 := hp.c0
  have c1 := hp.c1
  have c4 := hp.c4
  have c5 := hp.c5
  have z5 := hp.z5
  clear hp
  go_enter Tryd.func56, Tryd.ntmps56
  go_wp2
  go_quiet (fail)
  go_wp2
  go_ret
  exact ⟨rfl, (H.out.drewN nq).set 5 _, grownBy.trans (grownBy_drewN _ nq _) (grownBy_setCell _ _ _)⟩

set_option maxRecDepth 100000 in
set_option maxHeartbeats 1600000 in
/-- The byte is taken; then the call goes on as from a state that holds it. -/
theorem readBit_load (g : Nat) (ao : Option Addr) (n c r : Nat) (m b nb prob x : Int) (eof : Bool) (w : World) (ht : Tabs w) (hg : 2 ≤ g) (hp : PT RR w g ao n c r m b nb eof)
    (gb ob : Nat) (hao : ao = some ⟨gb, ob, none⟩) (hx : w.cell? ⟨gb, ob + r, none⟩ = some (.int .u8 x)) (hgb : gb ≠ g) (hx0 : 0 ≤ x) (hx1 : x ≤ 255)
    (hm0 : 0 ≤ m) (hm : m ≤ 254) (hp0 : 0 ≤ prob) (hp1 : prob ≤ 255) (hb0 : 0 ≤ b) (hb : b < 65536) (hn0 : 0 ≤ nb) (hn : nb < 8) (hr : r < n) (hr2 : n ≤ 9223372036854775807)
    (b1 : Int) (hor : bits .or .u32 b (x * 2 ^ (8 - nb).toNat % 4294967296) = b1) (hb10 : 0 ≤ b1) (hb11 : b1 < 65536) (hb12 : b1 < (m + 1) * 256)
    (sp : Int) (hsp : sp = m * prob / 256 + 1) (bit : Bool) (hbit : bit = decide (sp * 256 ≤ b1)) (m1 b2 : Int) (hm1 : m1 = if bit then m - sp else sp - 1) (hb2 : b2 = if bit then b1 - sp * 256 else b1) :
    Calls Tryd.prog 56 #[.pointer (some ⟨g, 51, none⟩), .int .u8 prob] w fun e w' => e = .returned (.bool bit) ∧ PT RR w' g ao n c (r + 1) (normP m1 b2 (nb + 8)).1 (normP m1 b2 (nb + 8)).2.1 (normP m1 b2 (nb + 8)).2.2 eof ∧ w.grownBy w' (some g) := by
  have H := Lib.hid hp
  have c0 := hp.c0
  have c1 := hp.c1
  have c2 := hp.c2
  have c3 := hp.c3
  have c4 := hp.c4
  have z1 := hp.z1
  have z2 := hp.z2
  have z3 := hp.z3
  have z4 := hp.z4
  subst hao
  have q0 : 0 ≤ m * prob := Int.mul_nonneg hm0 hp0
  have q1 : m * prob ≤ 254 * 255 := Int.mul_le_mul hm hp1 hp0 (by omega)
  have s0 : 1 ≤ sp := by omega
  have s1 : sp ≤ 254 := by omega
  have s2 : sp ≤ m + 1 := by
    have : m * prob ≤ m * 256 := Int.mul_le_mul_of_nonneg_left (by omega) hm0
    omega
  have HT := Lib.hid ht
  have glt := hp.lt
  have HV := Lib.hid (And.intro hor (And.intro hbit (And.intro hm1 (And.intro hb2 hsp)))); clear hor hbit hm1 hb2 hsp
  clear hp ht
  go_enter Tryd.func56, Tryd.ntmps56
  go_wp2
  go_quiet (fail)
  go_wp2
  go_quiet (fail)
  go_wp2
  go_region
  generalize hw2 : World.setCell _ (⟨g, 54, none⟩ : Addr) _ = w2
  have H2 : Hid (PT RR w2 g (some ⟨gb, ob, none⟩) n c r m b1 nb eof ∧ w.grownBy w2 (some g) ∧ Tabs w2) := by
    rw [← hw2, HV.out.1]
    exact ⟨(H.out.drewN _).set 3 _, grownBy.trans (grownBy_drewN _ _ _) (grownBy_setCell _ _ _), fun i hi => ⟨by
      rw [World.cell?_setCell_other _ _ _ _ (by intro h; injection h with h; omega)]; exact (HT.out i hi).1, by
      rw [World.cell?_setCell_other _ _ _ _ (by intro h; injection h with h; omega)]; exact (HT.out i hi).2⟩⟩
  clear hw2 c0 c1 c2 c3 c4 z1 z2 z3 z4 H HT hx
  have hp := H2.out.1
  have c1 := hp.c1
  have c2 := hp.c2
  have c3 := hp.c3
  have c4 := hp.c4
  have z1 := hp.z1
  have z2 := hp.z2
  have z3 := hp.z3
  have z4 := hp.z4
  have esp : m * prob / 256 + 1 = sp := HV.out.2.2.2.2.symm
  clear hp
  by_cases d1 : sp * 256 ≤ b1
  · have v1 : Hid (bit = true ∧ m1 = m - sp ∧ b2 = b1 - sp * 256) := by
      obtain ⟨_, h2, h3, h4, _⟩ := HV.out
      have hb : bit = true := by rw [h2]; exact decide_eq_true d1
      subst hb
      exact ⟨rfl, by simpa using h3, by simpa using h4⟩
    by_cases d2 : m - sp < 127
    · obtain ⟨k, hk⟩ := Int.eq_ofNat_of_zero_le (show 0 ≤ m - sp by omega)
      have hk127 : k < 127 := by omega
      obtain ⟨t1, t2, t3, t4⟩ := shiftTab_range k hk127
      have l0 := (H2.out.2.2 k hk127).1
      have l1 := (H2.out.2.2 k hk127).2
      have en : Hid (normP m1 b2 (nb + 8) = (((k : Int) + 1) * 2 ^ (shiftTab.getD k 0).toNat - 1, (b1 - sp * 256) * 2 ^ (shiftTab.getD k 0).toNat, nb + 8 - shiftTab.getD k 0)) := by
        rw [v1.out.2.1, v1.out.2.2]; unfold normP; rw [if_pos d2, hk]; exact Lib.hid rfl
      obtain ⟨sh, hsh⟩ : ∃ sh, sh = shiftTab.getD k 0 := ⟨_, rfl⟩
      rw [← hsh] at t1 t2 t3 t4 l0 l1 en
      obtain ⟨rr, hrr⟩ : ∃ rr, rr = ((k : Int) + 1) * 2 ^ sh.toNat - 1 := ⟨_, rfl⟩
      rw [← hrr] at l1 en
      have r0 : 127 ≤ rr := by omega
      have r1 : rr ≤ 253 := by omega
      have hb2 : Hid ((b1 - sp * 256) * 2 ^ sh.toNat % 4294967296 = (b1 - sp * 256) * 2 ^ sh.toNat) := Lib.hid (pow_small (b1 - sp * 256) sh t1 t2 (by omega) (by omega))
      have HS := Lib.hid (And.intro hk (And.intro hsh hrr)); clear hsh hrr t3 t4
      go_wp2
      go_ret
      rw [en.out, v1.out.1]
      exact ⟨rfl, PT.bits (((((((H2.out.1.set 1 _).set 4 _).set 2 _).set 3 _).set 2 _).set 3 _).set 4 _) hb2.out, grownBy.trans (grownBy.trans (grownBy.trans (grownBy.trans (grownBy.trans (grownBy.trans (grownBy.trans (H2.out.2.1) (grownBy_setCell _ _ _)) (grownBy_setCell _ _ _)) (grownBy_setCell _ _ _)) (grownBy_setCell _ _ _)) (grownBy_setCell _ _ _)) (grownBy_setCell _ _ _)) (grownBy_setCell _ _ _)⟩
    · have en : Hid (normP m1 b2 (nb + 8) = (m - sp, b1 - sp * 256, nb + 8)) := by
        rw [v1.out.2.1, v1.out.2.2]; unfold normP; rw [if_neg d2]; exact Lib.hid rfl
      go_wp2
      go_ret
      rw [en.out, v1.out.1]
      exact ⟨rfl, ((((H2.out.1.set 1 _).set 4 _).set 2 _).set 3 _), grownBy.trans (grownBy.trans (grownBy.trans (grownBy.trans (H2.out.2.1) (grownBy_setCell _ _ _)) (grownBy_setCell _ _ _)) (grownBy_setCell _ _ _)) (grownBy_setCell _ _ _)⟩
  · have hd : decide (sp * 256 ≤ b1) = false := decide_eq_false d1
    have v1 : Hid (bit = false ∧ m1 = sp - 1 ∧ b2 = b1) := by
      obtain ⟨_, h2, h3, h4, _⟩ := HV.out
      have hb : bit = false := by rw [h2]; exact hd
      subst hb
      exact ⟨rfl, by simpa using h3, by simpa using h4⟩
    by_cases d2 : sp - 1 < 127
    · obtain ⟨k, hk⟩ := Int.eq_ofNat_of_zero_le (show 0 ≤ sp - 1 by omega)
      have hk127 : k < 127 := by omega
      obtain ⟨t1, t2, t3, t4⟩ := shiftTab_range k hk127
      have l0 := (H2.out.2.2 k hk127).1
      have l1 := (H2.out.2.2 k hk127).2
      have en : Hid (normP m1 b2 (nb + 8) = (((k : Int) + 1) * 2 ^ (shiftTab.getD k 0).toNat - 1, b1 * 2 ^ (shiftTab.getD k 0).toNat, nb + 8 - shiftTab.getD k 0)) := by
        rw [v1.out.2.1, v1.out.2.2]; unfold normP; rw [if_pos d2, hk]; exact Lib.hid rfl
      obtain ⟨sh, hsh⟩ : ∃ sh, sh = shiftTab.getD k 0 := ⟨_, rfl⟩
      rw [← hsh] at t1 t2 t3 t4 l0 l1 en
      obtain ⟨rr, hrr⟩ : ∃ rr, rr = ((k : Int) + 1) * 2 ^ sh.toNat - 1 := ⟨_, rfl⟩
      rw [← hrr] at l1 en
      have r0 : 127 ≤ rr := by omega
      have r1 : rr ≤ 253 := by omega
      have hb2 : Hid ((b1) * 2 ^ sh.toNat % 4294967296 = (b1) * 2 ^ sh.toNat) := Lib.hid (pow_small (b1) sh t1 t2 (by omega) (by omega))
      have HS := Lib.hid (And.intro hk (And.intro hsh hrr)); clear hsh hrr t3 t4
      go_wp2
      go_ret
      rw [en.out, v1.out.1]
      exact ⟨(by first | rfl | (show Ending.returned (.bool (decide (sp * 256 ≤ b1))) = _; rw [decide_eq_false (by omega)])), PT.bits ((((((H2.out.1.set 1 _).set 4 _).set 2 _).set 2 _).set 3 _).set 4 _) hb2.out, grownBy.trans (grownBy.trans (grownBy.trans (grownBy.trans (grownBy.trans (grownBy.trans (H2.out.2.1) (grownBy_setCell _ _ _)) (grownBy_setCell _ _ _)) (grownBy_setCell _ _ _)) (grownBy_setCell _ _ _)) (grownBy_setCell _ _ _)) (grownBy_setCell _ _ _)⟩
    · have en : Hid (normP m1 b2 (nb + 8) = (sp - 1, b1, nb + 8)) := by
        rw [v1.out.2.1, v1.out.2.2]; unfold normP; rw [if_neg d2]; exact Lib.hid rfl
      go_wp2
      go_ret
      rw [en.out, v1.out.1]
      exact ⟨(by first | rfl | (show Ending.returned (.bool (decide (sp * 256 ≤ b1))) = _; rw [decide_eq_false (by omega)])), (((H2.out.1.set 1 _).set 4 _).set 2 _), grownBy.trans (grownBy.trans (grownBy.trans (H2.out.2.1) (grownBy_setCell _ _ _)) (grownBy_setCell _ _ _)) (grownBy_setCell _ _ _)⟩
def PTd (RR : Nat → Option Value) (w : World) (g : Nat) (ao : Option Addr) (n c : Nat) (d : DS) : Prop := PT RR w g ao n c d.r d.m d.b d.nb d.eof

/-- What a call of the decoder needs: the tables, the bytes, the decoder's own block, what holds of it. -/
structure Rd (RR : Nat → Option Value) (w : World) (g : Nat) (ao : Option Addr) (n c : Nat) (zs : List Int) (d : DS) : Prop where
  tabs : Tabs w
  two : 2 ≤ g
  obj : PTd RR w g ao n c d
  len : zs.length = n
  row : Arg .u8 w ao n (fun i => zs.getD i 0)
  far : 0 < n → ∀ a, ao = some a → a.block ≠ g
  ok : OKP zs d
  bytes : Bytes zs
  first : zs.getD 0 0 ≠ 255
  max : n ≤ 9223372036854775807

theorem goP_calls (g : Nat) (ao : Option Addr) (n c r : Nat) (m b nb prob : Int) (eof : Bool) (w : World) (ht : Tabs w) (hg : 2 ≤ g) (hp : PT RR w g ao n c r m b nb eof)
    (hm0 : 127 ≤ m) (hm : m ≤ 254) (hp0 : 0 ≤ prob) (hp1 : prob ≤ 255) (hb0 : 0 ≤ b) (hbm : b < (m + 1) * 256) (hn : 8 ≤ nb) (hn1 : nb ≤ 15) :
    Calls Tryd.prog 56 #[.pointer (some ⟨g, 51, none⟩), .int .u8 prob] w fun e w' => e = .returned (.bool (goP r m b nb prob eof).1) ∧ PTd RR w' g ao n c (goP r m b nb prob eof).2 ∧ w.grownBy w' (some g) := by
  obtain ⟨s0, s1, s2⟩ := sp_bounds m prob (by omega) hm hp0 hp1
  unfold goP
  obtain ⟨sp, hsp⟩ : ∃ sp, sp = m * prob / 256 + 1 := ⟨_, rfl⟩
  rw [← hsp] at s0 s1 s2 ⊢
  by_cases h : sp * 256 ≤ b
  · rw [if_pos h]
    by_cases h2 : m - sp < 127
    · exact readBit_1r g ao n c r m b nb prob eof w ht hg hp (by omega) hm hp0 hp1 hb0 (by omega) hbm hn hn1 sp hsp h h2
    · exact readBit_1n g ao n c r m b nb prob eof w ht hg hp (by omega) hm hp0 hp1 hb0 (by omega) hbm hn hn1 sp hsp h h2
  · rw [if_neg h]
    by_cases h2 : sp - 1 < 127
    · exact readBit_0r g ao n c r m b nb prob eof w ht hg hp (by omega) hm hp0 hp1 hb0 (by omega) hbm hn hn1 sp hsp (by omega) h2
    · exact readBit_0n g ao n c r m b nb prob eof w ht hg hp (by omega) hm hp0 hp1 hb0 (by omega) hbm hn hn1 sp hsp (by omega) h2

theorem readBit_any (g : Nat) (ao : Option Addr) (n c : Nat) (zs : List Int) (d : DS) (prob : Int) (w : World) (h : Rd RR w g ao n c zs d) (hp0 : 0 ≤ prob) (hp1 : prob ≤ 255) :
    Calls Tryd.prog 56 #[.pointer (some ⟨g, 51, none⟩), .int .u8 prob] w fun e w' => e = .returned (.bool (stepP zs d prob).1) ∧ PTd RR w' g ao n c (stepP zs d prob).2 ∧ w.grownBy w' (some g) := by
  have hok := h.ok
  obtain ⟨o1, o2, o3, o4, o5, o6, o7, o8⟩ := hok
  have hl := h.len
  unfold stepP
  by_cases h8 : d.nb < 8
  · rw [if_pos h8]
    by_cases hr : zs.length ≤ d.r
    · rw [if_pos hr]
      exact readBit_eof g ao n c d.r d.m d.b d.nb prob d.eof w h.obj h8 (by omega) (by have := h.max; omega)
    · rw [if_neg hr]
      obtain ⟨a1, a2, a3, a4, a5⟩ := load_ok zs d h.ok h.bytes h.first h8
      have hx := h.bytes d.r
      obtain ⟨gb, ob, hao, hlt, hrow⟩ := h.row (by omega)
      have hcell := hrow d.r (by omega)
      have hor := load_or d.b (zs.getD d.r 0) d.nb hx.1 hx.2 a1 a2 o4 h8 o7
      obtain ⟨b1, hb1⟩ : ∃ b1, b1 = d.b + zs.getD d.r 0 * 2 ^ (8 - d.nb).toNat := ⟨_, rfl⟩
      rw [← hb1] at a3 a4 a5 hor ⊢
      have hpow : (0 : Int) < 2 ^ (16 - (d.nb + 8)).toNat := Int.pow_pos (by omega)
      have := readBit_load g ao n c d.r d.m d.b d.nb prob (zs.getD d.r 0) d.eof w h.tabs h.two h.obj gb ob hao hcell (h.far (by omega) _ hao) hx.1 hx.2 (by omega) o2 hp0 hp1 a1 a2 o4 h8 (by omega) h.max b1 hor a3 (by omega) (by omega) (d.m * prob / 256 + 1) rfl _ rfl _ _ rfl rfl
      unfold goP
      by_cases hbit : (d.m * prob / 256 + 1) * 256 ≤ b1
      · rw [if_pos hbit]
        rw [decide_eq_true hbit] at this
        exact this
      · rw [if_neg hbit]
        rw [decide_eq_false hbit] at this
        exact this
  · rw [if_neg h8]
    have hpow : (0 : Int) < 2 ^ (16 - d.nb).toNat := Int.pow_pos (by omega)
    exact goP_calls g ao n c d.r d.m d.b d.nb prob d.eof w h.tabs h.two h.obj o1 o2 hp0 hp1 o3 (by omega) (by omega) o5

theorem PTd.lt {w : World} {g : Nat} {ao : Option Addr} {n c : Nat} {d : DS} (h : PTd RR w g ao n c d) : g < w.heap.size := FO.lt h

/-- The need behind a call. -/
theorem Rd.step {w w' : World} {g : Nat} {ao : Option Addr} {n c : Nat} {zs : List Int} {d d' : DS} (h : Rd RR w g ao n c zs d) (hg : w.grownBy w' (some g)) (ho : PTd RR w' g ao n c d') (hok : OKP zs d') : Rd RR w' g ao n c zs d' where
  tabs := fun i hi => by
    have h0 := h.obj.lt
    have h2 := h.two
    have k : ∀ b, b < 2 → w'.heap[b]? = w.heap[b]? := fun b hb => hg.block b (by omega) (by intro e; injection e with e; omega)
    exact ⟨by rw [World.cell?_of_block (w := w) (k _ (Nat.lt_of_le_of_lt (Nat.le_refl _) (by decide +revert)))]; exact (h.tabs i hi).1, by rw [World.cell?_of_block (w := w) (k _ (Nat.lt_of_le_of_lt (Nat.le_refl _) (by decide +revert)))]; exact (h.tabs i hi).2⟩
  two := h.two
  obj := ho
  len := h.len
  row := fun hn => h.row.grown hg (fun r hr p hp => by injection hr with hr; subst hr; exact h.far hn p hp) hn
  far := h.far
  ok := hok
  bytes := h.bytes
  first := h.first
  max := h.max

/-- .. and what other work does, that leaves the decoder's block alone. -/
theorem Rd.below {w w' : World} {g : Nat} {ao : Option Addr} {n c : Nat} {zs : List Int} {d : DS} (h : Rd RR w g ao n c zs d) (hb : Below w.heap.size w w') : Rd RR w' g ao n c zs d where
  tabs := fun i hi => by
    have h0 := h.obj.lt
    have h2 := h.two
    have k : ∀ b, b < 2 → b < w.heap.size := fun b hb => by omega
    exact ⟨by rw [hb.cell (k _ (Nat.lt_of_le_of_lt (Nat.le_refl _) (by decide +revert)))]; exact (h.tabs i hi).1, by rw [hb.cell (k _ (Nat.lt_of_le_of_lt (Nat.le_refl _) (by decide +revert)))]; exact (h.tabs i hi).2⟩
  two := h.two
  obj := FO.below h.obj hb h.obj.lt
  len := h.len
  row := h.row.below hb
  far := h.far
  ok := h.ok
  bytes := h.bytes
  first := h.first
  max := h.max

/-- .. and growth at another row. -/
theorem Rd.grown {w w' : World} {g : Nat} {ao : Option Addr} {n c : Nat} {zs : List Int} {d : DS} {row : Option Nat} (h : Rd RR w g ao n c zs d) (hg : w.grownBy w' row) (B : Nat) (hB : 2 ≤ B) (hr : ∀ k, row = some k → B ≤ k ∧ k ≠ g) (ha : 0 < n → ∀ a, ao = some a → a.block < B) : Rd RR w' g ao n c zs d where
  tabs := fun i hi => by
    have h0 := h.obj.lt
    have h2 := h.two
    have k : ∀ b, b < 2 → w'.heap[b]? = w.heap[b]? := fun b hb => hg.block b (by omega) (by intro e; have := hr b e.symm; omega)
    exact ⟨by rw [World.cell?_of_block (w := w) (k _ (Nat.lt_of_le_of_lt (Nat.le_refl _) (by decide +revert)))]; exact (h.tabs i hi).1, by rw [World.cell?_of_block (w := w) (k _ (Nat.lt_of_le_of_lt (Nat.le_refl _) (by decide +revert)))]; exact (h.tabs i hi).2⟩
  two := h.two
  obj := FO.grown h.obj hg (fun e => (hr g e.symm).2 rfl)
  len := h.len
  row := fun hn => h.row.grown hg (fun r hr' p hp => by have := hr r hr'; have := ha hn p hp; omega) hn
  far := h.far
  ok := h.ok
  bytes := h.bytes
  first := h.first
  max := h.max

set_option maxRecDepth 100000 in
set_option maxHeartbeats 800000 in
theorem readUint_any (g : Nat) (ao : Option Addr) (n c : Nat) (zs : List Int) (d : DS) (p : Int) (k : Nat) (w : World) (h : Rd RR w g ao n c zs d) (hp0 : 0 ≤ p) (hp1 : p ≤ 255) (hk : k ≤ 24) :
    Calls Tryd.prog 58 #[.pointer (some ⟨g, 51, none⟩), .int .u8 p, .int .u8 k] w fun e w' =>
      e = .returned (.int .u32 (bitsG (stepP zs) p k 0 d).1) ∧ Rd RR w' g ao n c zs (bitsG (stepP zs) p k 0 d).2 ∧ w.grownBy w' (some g) := by
  have H := Lib.hid h; clear h
  obtain ⟨R, hR⟩ : ∃ R, R = bitsG (stepP zs) p k 0 d := ⟨_, rfl⟩
  rw [← hR]
  go_enter Tryd.func58, Tryd.ntmps58
  go_wp2
  have HI : Hid (R = bitsG (stepP zs) p k 0 d) := Lib.hid hR
  clear hR
  go_loopw [2, 7] (fun nv u wr => ∃ (j : Nat) (acc : Int), j ≤ k ∧ nv = .int .u8 j ∧ u = .int .u32 (acc * 2 ^ j) ∧ Hid (0 ≤ acc ∧ (acc + 1) * 2 ^ j ≤ 2 ^ k ∧ ∃ d', R = bitsG (stepP zs) p j acc d' ∧ Rd RR wr g ao n c zs d' ∧ w.grownBy wr (some g))) (fun nv _ _ => (intOf nv).toNat)
  case atStart => exact ⟨k, 0, Nat.le_refl _, rfl, by simp, by omega, by simp, d, HI.out, H.out, World.grownBy.refl _ _⟩
  case round =>
    obtain ⟨j, acc, hj, rfl, rfl, hR⟩ := hrel
    obtain ⟨hacc, hle, d', hRd, hrd, hgr⟩ := hR.out
    clear hR
    by_cases h0 : j = 0
    · subst h0
      have HE := Lib.hid (And.intro hRd (And.intro hrd hgr)); clear hRd hrd hgr hle
      go_wp2
      go_ret
      have e := HE.out.1
      rw [bitsG] at e
      rw [e]
      exact ⟨by simp, HE.out.2⟩
    · obtain ⟨i, rfl⟩ : ∃ i, j = i + 1 := ⟨j - 1, by omega⟩
      have HE := Lib.hid (And.intro hRd (And.intro hrd (And.intro hgr hle))); clear hRd hrd hgr hle
      go_wp2_with fail
      refine (readBit_any g ao n c zs d' p wr HE.out.2.1 hp0 hp1).mono ?_
      rintro _ w2 ⟨rfl, hob, hg2⟩
      have HN : Hid (Rd RR w2 g ao n c zs (stepP zs d' p).2 ∧ w.grownBy w2 (some g)) := Lib.hid ⟨HE.out.2.1.step hg2 hob (stepP_ok zs d' HE.out.2.1.ok HE.out.2.1.bytes HE.out.2.1.first p hp0 hp1), grownBy.trans HE.out.2.2.1 hg2⟩
      clear hob hg2
      have hle := HE.out.2.2.2
      have hpi : (0 : Int) < 2 ^ i := Int.pow_pos (by omega)
      have hpk : (2 : Int) ^ k ≤ 16777216 := by
        have := Int.ofNat_le.2 (Nat.pow_le_pow_right (n := 2) (by omega) hk)
        simpa using this
      have ea : acc * 2 ^ (i + 1) = acc * 2 * 2 ^ i := by rw [Int.pow_succ, Int.mul_comm (2 ^ i) 2, ← Int.mul_assoc]
      have eb : (acc + 1) * 2 ^ (i + 1) = acc * 2 * 2 ^ i + 2 * 2 ^ i := by rw [Int.add_mul, ea, Int.one_mul, Int.pow_succ, Int.mul_comm (2 ^ i) 2]
      rw [eb] at hle
      have hor := or_pow acc i hacc (by omega) (by omega)
      have ha0 : 0 ≤ acc * 2 * 2 ^ i := Int.mul_nonneg (by omega) (by omega)
      rw [ea]
      have hb1 : Hid (acc * 2 * 2 ^ i = 2 * acc * 2 ^ i ∧ (2 * acc + 1) * 2 ^ i ≤ 2 ^ k ∧ (2 * acc + 1 + 1) * 2 ^ i ≤ 2 ^ k) := Lib.hid (by
        rw [Int.mul_comm acc 2] at hle ha0 ⊢
        refine ⟨rfl, ?_, ?_⟩
        · rw [Int.add_mul]; omega
        · rw [Int.add_mul, Int.add_mul]; omega)
      cases hbit : (stepP zs d' p).1 with
      | false =>
        have HB := Lib.hid hbit; clear hbit hor eb ea
        go_wp2
        go_roundw
        case rel =>
          refine ⟨i, 2 * acc, by omega, rfl, by rw [hb1.out.1], by omega, hb1.out.2.1, _, ?_, HN.out⟩
          rw [HE.out.1, bitsG, HB.out]; simp
        case measure => simp [intOf]
      | true =>
        have HB := Lib.hid hbit
        have HO := Lib.hid hor
        clear hbit hor eb ea
        go_wp2
        go_roundw
        case rel =>
          refine ⟨i, 2 * acc + 1, by omega, rfl, by rw [HO.out], by omega, hb1.out.2.2, _, ?_, HN.out⟩
          rw [HE.out.1, bitsG, HB.out]; simp
        case measure => simp [intOf]

set_option maxRecDepth 100000 in
theorem readInt_any (g : Nat) (ao : Option Addr) (n c : Nat) (zs : List Int) (d : DS) (p : Int) (k : Nat) (w : World) (h : Rd RR w g ao n c zs d) (hp0 : 0 ≤ p) (hp1 : p ≤ 255) (hk : k ≤ 24) :
    Calls Tryd.prog 59 #[.pointer (some ⟨g, 51, none⟩), .int .u8 p, .int .u8 k] w fun e w' =>
      e = .returned (.int .i32 (signG (stepP zs) p k d).1) ∧ Rd RR w' g ao n c zs (signG (stepP zs) p k d).2 ∧ w.grownBy w' (some g) := by
  obtain ⟨v, d1, hR⟩ : ∃ v d1, bitsG (stepP zs) p k 0 d = (v, d1) := ⟨_, _, rfl⟩
  obtain ⟨b, d2, hS⟩ : ∃ b d2, stepP zs d1 p = (b, d2) := ⟨_, _, rfl⟩
  obtain ⟨v0, v1⟩ := bits24 zs p k d hk
  unfold signG
  rw [hR] at v0 v1 ⊢
  simp only at v0 v1 ⊢
  rw [hS]
  simp only
  have H := Lib.hid (And.intro h (And.intro hR hS)); clear h hR hS
  go_enter Tryd.func59, Tryd.ntmps59
  go_wp2_with fail
  refine (readUint_any g ao n c zs d p k w H.out.1 hp0 hp1 hk).mono ?_
  rintro _ w1 ⟨rfl, h1, g1⟩
  have H1 := Lib.hid (And.intro h1 g1); clear h1 g1
  rw [H.out.2.1] at H1 ⊢
  go_wp2_with fail
  refine (readBit_any g ao n c zs d1 p w1 H1.out.1 hp0 hp1).mono ?_
  rintro _ w2 ⟨rfl, hob, hg2⟩
  have HN : Hid (Rd RR w2 g ao n c zs (stepP zs d1 p).2 ∧ w.grownBy w2 (some g)) := Lib.hid ⟨H1.out.1.step hg2 hob (stepP_ok zs d1 H1.out.1.ok H1.out.1.bytes H1.out.1.first p hp0 hp1), grownBy.trans H1.out.2 hg2⟩
  clear hob hg2
  rw [H.out.2.2] at HN ⊢
  cases b with
  | true =>
    go_wp2
    go_ret
    exact ⟨by simp, HN.out⟩
  | false =>
    go_wp2
    go_ret
    exact ⟨by simp, HN.out⟩

set_option maxRecDepth 100000 in
theorem readOpt_any (g : Nat) (ao : Option Addr) (n c : Nat) (zs : List Int) (d : DS) (p : Int) (k : Nat) (w : World) (h : Rd RR w g ao n c zs d) (hp0 : 0 ≤ p) (hp1 : p ≤ 255) (hk : k ≤ 24) :
    Calls Tryd.prog 60 #[.pointer (some ⟨g, 51, none⟩), .int .u8 p, .int .u8 k] w fun e w' =>
      e = .returned (.int .i32 (optG (stepP zs) p k d).1) ∧ Rd RR w' g ao n c zs (optG (stepP zs) p k d).2 ∧ w.grownBy w' (some g) := by
  obtain ⟨b, d2, hS⟩ : ∃ b d2, stepP zs d p = (b, d2) := ⟨_, _, rfl⟩
  unfold optG
  rw [hS]
  simp only
  have H := Lib.hid (And.intro h hS); clear h hS
  cases b with
  | false =>
    simp only [Bool.false_eq_true, if_false]
    go_enter Tryd.func60, Tryd.ntmps60
    go_wp2_with fail
    refine (readBit_any g ao n c zs d p w H.out.1 hp0 hp1).mono ?_
    rintro _ w2 ⟨rfl, hob, hg2⟩
    have HN : Hid (Rd RR w2 g ao n c zs (stepP zs d p).2 ∧ w.grownBy w2 (some g)) := Lib.hid ⟨H.out.1.step hg2 hob (stepP_ok zs d H.out.1.ok H.out.1.bytes H.out.1.first p hp0 hp1), hg2⟩
    clear hob hg2
    rw [H.out.2] at HN ⊢
    go_wp2
    go_ret
    exact ⟨rfl, HN.out⟩
  | true =>
    simp only [if_true]
    go_enter Tryd.func60, Tryd.ntmps60
    go_wp2_with fail
    refine (readBit_any g ao n c zs d p w H.out.1 hp0 hp1).mono ?_
    rintro _ w2 ⟨rfl, hob, hg2⟩
    have HN : Hid (Rd RR w2 g ao n c zs (stepP zs d p).2 ∧ w.grownBy w2 (some g)) := Lib.hid ⟨H.out.1.step hg2 hob (stepP_ok zs d H.out.1.ok H.out.1.bytes H.out.1.first p hp0 hp1), hg2⟩
    clear hob hg2
    rw [H.out.2] at HN ⊢
    go_wp2_with fail
    refine (readInt_any g ao n c zs d2 p k w2 HN.out.1 hp0 hp1 hk).mono ?_
    rintro _ w3 ⟨rfl, h3, g3⟩
    have H3 : Hid (Rd RR w3 g ao n c zs (signG (stepP zs) p k d2).2 ∧ w.grownBy w3 (some g)) := Lib.hid ⟨h3, grownBy.trans HN.out.2 g3⟩
    clear h3 g3
    go_wp2
    go_ret
    exact ⟨rfl, H3.out⟩
end At51
end Go.Proofs.YthmkmemocjnleaaDoor
