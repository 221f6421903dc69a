/- laws.limits at equal limits. -/
import Derived.Test.YthmkmemocjnleaaDoorFilL
import Derived.ChangeKeysEq
import Derived.Laws.StructEq
namespace Go.Proofs.YthmkmemocjnleaaDoor
open Go.RowKit
set_option linter.unusedVariables false
set_option linter.unusedSimpArgs false

theorem neq3 (a b c : Int) (w : World) : (binOp .neq 41 (.agg #[.int .i64 a, .int .i64 b, .int .i64 c]) (.agg #[.int .i64 a, .int .i64 b, .int .i64 c])).run Tryd.prog w = .ok (.bool false) w := by
  obtain ⟨i, hi, _⟩ := info_parts (show (Tryd.prog.info? 3).map (fun i => (i.zero, i.size, i.bytes)) = some (some (.int .i64 0), 1, 8) by kernel_rfl)
  have hc : Tryd.prog.cellsOf 3 = 1 := by kernel_rfl
  rw [run_neq_struct, run_equalIn_array w 9999 _ _ Tryd.underlying41 hi, hc]
  simp [List.range, List.range.loop, Op.eqItems, go_sem]
theorem dQL_get (P : Nat → Nat → Int) (p q k : Nat) (hp : p < 4) (hq : q < 2) (hk : k < 3) : (dQL P)[p * 6 + q * 3 + k]? = some (.int .i64 (P (2 * p + q) k)) := by
  have := dQL_at P (p * 6 + q * 3 + k) (by show _ < 24; omega)
  rw [← this]
  unfold dQ
  rw [if_pos (by omega), if_pos (by omega), show (p * 6 + q * 3 + k) / 3 = 2 * p + q by omega, show (p * 6 + q * 3 + k) % 3 = k by omega]
def LimQ (w : World) (B : Nat) (cs : List Value) (wr : World) : Prop := SObj wr B 56 cs ∧ SObj wr (B + 1) 56 cs ∧ Below w.heap.size w wr
theorem LimQ.dN {w : World} {B : Nat} {cs : List Value} {wr : World} (h : LimQ w B cs wr) (n : Nat) : LimQ w B cs (wr.drewN n) := ⟨h.1, h.2.1, h.2.2.os, h.2.2.tape, h.2.2.output, h.2.2.size, h.2.2.block⟩

set_option maxRecDepth 100000 in
set_option maxHeartbeats 4000000 in
theorem limits_any (P : Nat → Nat → Int) (cs : List Value) (hcs : cs = dQL P) (w : World) :
    Calls Tryd.prog 28 #[.agg cs.toArray, .agg cs.toArray] w fun e w' => e = .returned (.bool true) ∧ Below w.heap.size w w' := by
  have HL : Hid (LimQ w w.heap.size cs ((w.alloc (.cells cs.toArray 56)).alloc (.cells cs.toArray 56))) := Lib.hid (by
    have := obj_new (w.alloc (.cells cs.toArray 56)) 56 cs
    exact ⟨(obj_new w _ cs).alloc _, by simpa using this, ((Below.refl _ _).alloc (Nat.le_refl _) _).alloc (by simp) _⟩)
  have HC : Hid (∀ p q k, p < 4 → q < 2 → k < 3 → cs[p * 6 + q * 3 + k]? = some (.int .i64 (P (2 * p + q) k))) := Lib.hid (by rw [hcs]; exact dQL_get P)
  clear hcs
  go_enter Tryd.func28, Tryd.ntmps28
  go_wp2_with fail
  generalize World.alloc _ _ = w1 at HL ⊢
  obtain ⟨B, hB⟩ : ∃ B, B = w.heap.size := ⟨_, rfl⟩
  rw [← hB] at HL ⊢
  clear hB
  have HL : Hid (LimQ w B cs w1) := HL
  go_loopw [5] (fun i wr => ∃ p : Nat, p ≤ 4 ∧ i = .int .i64 p ∧ Hid (LimQ w B cs wr)) (fun i _ => 4 - (intOf i).toNat)
  case atStart => exact ⟨0, by omega, rfl, HL⟩
  case round =>
    obtain ⟨p, hp, rfl, hR⟩ := hrel
    by_cases hlt : p < 4
    · have hd : decide ((p : Int) < 4) = true := decide_eq_true (by omega)
      go_wp2
      go_loopw [6] (fun i wr => ∃ q : Nat, q ≤ 2 ∧ i = .int .i64 q ∧ Hid (LimQ w B cs wr)) (fun i _ => 2 - (intOf i).toNat)
      case atStart => exact ⟨0, by omega, rfl, hR⟩
      case round =>
        obtain ⟨q, hq, rfl, hQR⟩ := hrel
        by_cases hq2 : q < 2
        · have ip0 : (0 : Int) ≤ (p : Int) := by omega
          have ip1 : (p : Int) < 4 := by omega
          have iq0 : (0 : Int) ≤ (q : Int) := by omega
          have iq1 : (q : Int) < 2 := by omega
          have hdq : decide ((q : Int) < 2) = true := decide_eq_true (by omega)
          obtain ⟨x0, hx0⟩ : ∃ x, x = P (2 * p + q) 0 := ⟨_, rfl⟩
          obtain ⟨x1, hx1⟩ : ∃ x, x = P (2 * p + q) 1 := ⟨_, rfl⟩
          obtain ⟨x2, hx2⟩ : ∃ x, x = P (2 * p + q) 2 := ⟨_, rfl⟩
          have g0 := HC.out p q 0 hlt hq2 (by omega)
          have g1 := HC.out p q 1 hlt hq2 (by omega)
          have g2 := HC.out p q 2 hlt hq2 (by omega)
          rw [← hx0] at g0
          rw [← hx1] at g1
          rw [← hx2] at g2
          clear hx0 hx1 hx2
          have c0 : wr.cell? ⟨B, p * 6 + q * 3, none⟩ = some (.int .i64 x0) := hQR.out.1.cell _ g0
          have c1 : wr.cell? ⟨B, p * 6 + q * 3 + 1, none⟩ = some (.int .i64 x1) := hQR.out.1.cell _ g1
          have c2 : wr.cell? ⟨B, p * 6 + q * 3 + 2, none⟩ = some (.int .i64 x2) := hQR.out.1.cell _ g2
          have e0 : wr.cell? ⟨B + 1, p * 6 + q * 3, none⟩ = some (.int .i64 x0) := hQR.out.2.1.cell _ g0
          have e1 : wr.cell? ⟨B + 1, p * 6 + q * 3 + 1, none⟩ = some (.int .i64 x1) := hQR.out.2.1.cell _ g1
          have e2 : wr.cell? ⟨B + 1, p * 6 + q * 3 + 2, none⟩ = some (.int .i64 x2) := hQR.out.2.1.cell _ g2
          clear g0 g1 g2
          have kn := neq3 x0 x1 x2
          by_cases hz : x0 = 0
          · have hzb : (x0 == 0) = true := by simp [hz]
            have hzn : (x0 != 0) = false := by simp [hz]
            have HZ := Lib.hid hz; clear hz
            go_wp2
            go_quiet (fail)
            go_wp2
            go_roundw
            case rel => exact ⟨q + 1, by omega, by go_num, hQR.out.dN nq⟩
            case measure => simp [intOf]; omega
          · have hzb : (x0 == 0) = false := by simp [hz]
            have hzn : (x0 != 0) = true := by simp [hz]
            clear hz
            go_wp2
            go_quiet (fail)
            go_wp2
            go_roundw
            case rel => exact ⟨q + 1, by omega, by go_num, hQR.out.dN nq⟩
            case measure => simp [intOf]; omega
        · obtain rfl : q = 2 := by omega
          go_wp2
          go_roundw
          case rel => exact ⟨p + 1, by omega, by go_num, hQR⟩
          case measure => simp [intOf]; omega
    · obtain rfl : p = 4 := by omega
      go_wp2
      go_ret
      exact ⟨rfl, hR.out.2.2⟩
end Go.Proofs.YthmkmemocjnleaaDoor
