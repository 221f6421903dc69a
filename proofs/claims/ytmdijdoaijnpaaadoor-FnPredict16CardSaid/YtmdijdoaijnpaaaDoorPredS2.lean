/- The reference's large predictions: bytesOf, foretoldLarge, modes. Printed by wip/gen_preds.py. -/
import Derived.Test.YtmdijdoaijnpaaaDoorPredS
import Derived.Laws.AppendOwn
import Derived.Deep.AppendLies
import Derived.Deep.RegionWith
import Derived.BigQuiet
import Derived.WalkLawsBesides
import Derived.Deep.QuietTactic
namespace Go.Proofs.YtmdijdoaijnpaaaDoor
open Go.RowKit
set_option linter.unusedVariables false


set_option maxRecDepth 100000 in
set_option maxHeartbeats 4000000 in
theorem fore_dc (aa : Option Addr) (ca : Nat) (fa : Nat → Int) (al : Option Addr) (cl : Nat) (fl : Nat → Int) (corner : Int) (w : World) (ha : Arg .i64 w aa 16 fa) (hl : Arg .i64 w al 16 fl) (hfa : ∀ k, 0 ≤ fa k ∧ fa k ≤ 255) (hfl : ∀ k, 0 ≤ fl k ∧ fl k ≤ 255) (hc0 : 0 ≤ corner) (hc1 : corner ≤ 255) :
    Calls Tryd.prog 41 #[.int .i64 0, .slice aa 16 ca, .slice al 16 cl, .int .i64 corner, .agg #[.bool true, .bool true]] w fun e w' => (∃ a' c', e = .returned (.slice a' 256 c') ∧ Own .i64 w.heap.size w' a' 256 (rowF (fun j i => (sumF fa 16 + sumF fl 16 + 16) / 32))) ∧ Below w.heap.size w w' := by
  obtain ⟨i0, hi, hz0, hz1, hz2⟩ := info_parts infoI
  obtain ⟨ga, oa, rfl, hga, ra⟩ := ha (by decide)
  obtain ⟨gl, ol, rfl, hgl, rl⟩ := hl (by decide)
  have HF := Lib.hid (And.intro hfa hfl)
  have HA := Lib.hid (And.intro ra rl)
  have HG := Lib.hid (And.intro hga hgl)
  have HB := Lib.hid (obj_new w 68 [.bool true, .bool true])
  have HW := Lib.hid ((Below.refl w.heap.size w).alloc (Nat.le_refl _) (.cells #[.bool true, .bool true] 68))
  clear ha hl hfa hfl ra rl hga hgl
  go_enter Tryd.func41, Tryd.ntmps41
  go_wp2
  have HB1 : Hid (SObj (w.alloc (.cells #[.bool true, .bool true] 68)) w.heap.size 68 [.bool true, .bool true] ∧ Below w.heap.size w (w.alloc (.cells #[.bool true, .bool true] 68))) := Lib.hid ⟨HB.out, HW.out⟩
  clear HB HW
  generalize World.alloc w _ = w1 at HB1 ⊢
  go_loop [12, 13, 14] (fun s m i => ∃ (p : Nat) (S M : Int), p ≤ 16 ∧ i = .int .i64 p ∧ s = .int .i64 S ∧ m = .int .i64 M ∧ 0 ≤ S ∧ S ≤ 10000 ∧ 0 ≤ M ∧ M ≤ 100 ∧ Hid (S = sumF fa p + sumF fl p ∧ M = 2 * p)) (fun _ _ i => 16 - (intOf i).toNat)
  case atStart => exact ⟨0, 0, 0, by omega, rfl, rfl, rfl, by decide, by decide, by decide, by decide, Lib.hid ⟨by simp [sumF], by simp⟩⟩
  case round =>
    obtain ⟨p, S, M, hp, rfl, rfl, rfl, s0, s1, m0, m1, hE⟩ := hrel
    by_cases hlt : p < 16
    · have c0 : w1.cell? ⟨ga, oa + p, none⟩ = some (.int .i64 (fa p)) := (HB1.out.2.cell (p := ⟨ga, oa + p, none⟩) HG.out.1).trans (HA.out.1 p hlt)
      have c1 : w1.cell? ⟨gl, ol + p, none⟩ = some (.int .i64 (fl p)) := (HB1.out.2.cell (p := ⟨gl, ol + p, none⟩) HG.out.2).trans (HA.out.2 p hlt)
      have b0 := HB1.out.1.cell 0 (v := .bool true) rfl
      have b1 := HB1.out.1.cell 1 (v := .bool true) rfl
      obtain ⟨x0, x1⟩ := HF.out.1 p
      obtain ⟨y0, y1⟩ := HF.out.2 p
      have HS := Lib.hid (And.intro (sumF_in fa HF.out.1 (p + 1)) (sumF_in fl HF.out.2 (p + 1)))
      have HE2 : Hid (S + (fa p + fl p) = sumF fa (p + 1) + sumF fl (p + 1)) := Lib.hid (by rw [hE.out.1]; simp only [sumF]; omega)
      obtain ⟨va, hva⟩ : ∃ va, va = fa p := ⟨_, rfl⟩
      obtain ⟨vl, hvl⟩ : ∃ vl, vl = fl p := ⟨_, rfl⟩
      have HV := Lib.hid (And.intro hva hvl)
      rw [← hva] at c0 x0 x1
      rw [← hvl] at c1 y0 y1
      clear hva hvl
      go_wp2
      go_round
      case rel => exact ⟨p + 1, _, _, by omega, by go_num, rfl, rfl, by omega, by have := HE2.out; have := HS.out; have := HV.out; omega, by omega, by have := hE.out.2; omega, Lib.hid ⟨by have := HE2.out; have := HV.out; omega, by have := hE.out.2; omega⟩⟩
      case measure => simp [intOf]; omega
    · obtain rfl : p = 16 := by omega
      obtain rfl : M = 32 := by have := hE.out.2; omega
      have HM : Hid (S = sumF fa 16 + sumF fl 16) := Lib.hid hE.out.1
      clear hE
      go_wp2
      clear s0 s1 m0 m1
      have HO : Hid (w1.ownsRow w.heap.size 3 1 (.slice none 0 0) (16 * 0) (cellsOf .i64 (16 * 0) (rowF (fun j i => (sumF fa 16 + sumF fl 16 + 16) / 32))) ∧ Below w.heap.size w w1) := Lib.hid ⟨World.ownsRow_nil _ _ _ _, HB1.out.2⟩
      clear HB1
      
      go_loopw [15, 16] (fun v i wr => ∃ p : Nat, p ≤ 16 ∧ i = .int .i64 p ∧ Hid (wr.ownsRow w.heap.size 3 1 v (16 * p) (cellsOf .i64 (16 * p) (rowF (fun j i => (sumF fa 16 + sumF fl 16 + 16) / 32))) ∧ Below w.heap.size w wr)) (fun _ i _ => 16 - (intOf i).toNat)
      case atStart => exact ⟨0, by omega, rfl, HO⟩
      case round =>
        obtain ⟨p, hp, rfl, hR⟩ := hrel
        clear HO
        by_cases hlt : p < 16
        · have hbb : decide ((p : Int) < 16) = true := decide_eq_true (by omega)
          go_wp2
          go_loopw [15, 17] (fun v i wr => ∃ q : Nat, q ≤ 16 ∧ i = .int .i64 q ∧ Hid (wr.ownsRow w.heap.size 3 1 v (16 * p + q) (cellsOf .i64 (16 * p + q) (rowF (fun j i => (sumF fa 16 + sumF fl 16 + 16) / 32))) ∧ Below w.heap.size w wr)) (fun _ i _ => 16 - (intOf i).toNat)
          case atStart => exact ⟨0, by omega, rfl, hR⟩
          case round =>
            obtain ⟨q, hq, rfl, hQ⟩ := hrel
            by_cases hlq : q < 16
            · have HO : Hid (wr.ownsRow w.heap.size 3 1 u15 (16 * p + q) (cellsOf .i64 (16 * p + q) (rowF (fun j i => (sumF fa 16 + sumF fl 16 + 16) / 32)))) := Lib.hid hQ.out.1
              have hsz := hQ.out.2.size
              have HV : Hid (rowF (fun j i => (sumF fa 16 + sumF fl 16 + 16) / 32) (16 * p + q) = ((S + 16) / 32)) := Lib.hid (by rw [rowF_at _ p q hlq, HM.out])
              
              go_wp2_with (at_builtin; refine wpList_append_own _ rfl _ _ 32 rfl w.heap.size 3 i0 (.int .i64 0) 1 8 Tryd.underlying32 hi hz0 hz1 hz2 rfl (by decide) _ _ _ rfl (HO.out.alloc _) ⟨wr.heap.size, 0, none⟩ 1 1 [.int .i64 ((S + 16) / 32)] rfl rfl (cell_one_new _ _ _) (by simp [Value.oneCell']) (by unfold maxLen; omega) (by omega) (by simp; omega) ?_)
              intro v' w3 hown3 hgrow _
              have HR : Hid (w3.ownsRow w.heap.size 3 1 v' (16 * p + (q + 1)) (cellsOf .i64 (16 * p + (q + 1)) (rowF (fun j i => (sumF fa 16 + sumF fl 16 + 16) / 32))) ∧ Below w.heap.size w w3) := Lib.hid ⟨by
                rw [show 16 * p + (q + 1) = (16 * p + q) + 1 by omega, cellsOf_succ, HV.out]; exact hown3, ((hQ.out.2).alloc (by exact hsz) _).grown hgrow (by simp; omega) (fun k hk => (HO.out.lt k hk).1)⟩
              clear hown3 hgrow
              go_wp2
              go_roundw
              case rel => exact ⟨q + 1, by omega, by go_num, HR⟩
              case measure => simp [intOf]; omega
            · obtain rfl : q = 16 := by omega
              have HQ : Hid (wr.ownsRow w.heap.size 3 1 u15 (16 * (p + 1)) (cellsOf .i64 (16 * (p + 1)) (rowF (fun j i => (sumF fa 16 + sumF fl 16 + 16) / 32))) ∧ Below w.heap.size w wr) := Lib.hid (by rw [Nat.mul_add, Nat.mul_one]; exact hQ.out)
              go_wp2
              go_roundw
              case rel => exact ⟨p + 1, by omega, by go_num, HQ⟩
              case measure => simp [intOf]; omega
        · obtain rfl : p = 16 := by omega
          go_wp2
          go_ret
          obtain ⟨a, c, rfl, _, ho⟩ := own_of_cells hR.out.1
          exact ⟨⟨_, _, rfl, ho⟩, hR.out.2⟩

set_option maxRecDepth 100000 in
set_option maxHeartbeats 4000000 in
theorem fore_tm (aa : Option Addr) (ca : Nat) (fa : Nat → Int) (al : Option Addr) (cl : Nat) (fl : Nat → Int) (corner : Int) (w : World) (ha : Arg .i64 w aa 16 fa) (hl : Arg .i64 w al 16 fl) (hfa : ∀ k, 0 ≤ fa k ∧ fa k ≤ 255) (hfl : ∀ k, 0 ≤ fl k ∧ fl k ≤ 255) (hc0 : 0 ≤ corner) (hc1 : corner ≤ 255) :
    Calls Tryd.prog 41 #[.int .i64 1, .slice aa 16 ca, .slice al 16 cl, .int .i64 corner, .agg #[.bool true, .bool true]] w fun e w' => (∃ a' c', e = .returned (.slice a' 256 c') ∧ Own .i64 w.heap.size w' a' 256 (rowF (fun j i => hld 0 255 (fl j + fa i - corner)))) ∧ Below w.heap.size w w' := by
  obtain ⟨i0, hi, hz0, hz1, hz2⟩ := info_parts infoI
  obtain ⟨ga, oa, rfl, hga, ra⟩ := ha (by decide)
  obtain ⟨gl, ol, rfl, hgl, rl⟩ := hl (by decide)
  have HF := Lib.hid (And.intro hfa hfl)
  have HA := Lib.hid (And.intro ra rl)
  have HG := Lib.hid (And.intro hga hgl)
  have HB := Lib.hid (obj_new w 68 [.bool true, .bool true])
  have HW := Lib.hid ((Below.refl w.heap.size w).alloc (Nat.le_refl _) (.cells #[.bool true, .bool true] 68))
  clear ha hl hfa hfl ra rl hga hgl
  go_enter Tryd.func41, Tryd.ntmps41
  go_wp2
  have HB1 : Hid (SObj (w.alloc (.cells #[.bool true, .bool true] 68)) w.heap.size 68 [.bool true, .bool true] ∧ Below w.heap.size w (w.alloc (.cells #[.bool true, .bool true] 68))) := Lib.hid ⟨HB.out, HW.out⟩
  clear HB HW
  generalize World.alloc w _ = w1 at HB1 ⊢
  go_loop [12, 13, 14] (fun s m i => ∃ (p : Nat) (S M : Int), p ≤ 16 ∧ i = .int .i64 p ∧ s = .int .i64 S ∧ m = .int .i64 M ∧ 0 ≤ S ∧ S ≤ 10000 ∧ 0 ≤ M ∧ M ≤ 100 ∧ Hid (S = sumF fa p + sumF fl p ∧ M = 2 * p)) (fun _ _ i => 16 - (intOf i).toNat)
  case atStart => exact ⟨0, 0, 0, by omega, rfl, rfl, rfl, by decide, by decide, by decide, by decide, Lib.hid ⟨by simp [sumF], by simp⟩⟩
  case round =>
    obtain ⟨p, S, M, hp, rfl, rfl, rfl, s0, s1, m0, m1, hE⟩ := hrel
    by_cases hlt : p < 16
    · have c0 : w1.cell? ⟨ga, oa + p, none⟩ = some (.int .i64 (fa p)) := (HB1.out.2.cell (p := ⟨ga, oa + p, none⟩) HG.out.1).trans (HA.out.1 p hlt)
      have c1 : w1.cell? ⟨gl, ol + p, none⟩ = some (.int .i64 (fl p)) := (HB1.out.2.cell (p := ⟨gl, ol + p, none⟩) HG.out.2).trans (HA.out.2 p hlt)
      have b0 := HB1.out.1.cell 0 (v := .bool true) rfl
      have b1 := HB1.out.1.cell 1 (v := .bool true) rfl
      obtain ⟨x0, x1⟩ := HF.out.1 p
      obtain ⟨y0, y1⟩ := HF.out.2 p
      have HS := Lib.hid (And.intro (sumF_in fa HF.out.1 (p + 1)) (sumF_in fl HF.out.2 (p + 1)))
      have HE2 : Hid (S + (fa p + fl p) = sumF fa (p + 1) + sumF fl (p + 1)) := Lib.hid (by rw [hE.out.1]; simp only [sumF]; omega)
      obtain ⟨va, hva⟩ : ∃ va, va = fa p := ⟨_, rfl⟩
      obtain ⟨vl, hvl⟩ : ∃ vl, vl = fl p := ⟨_, rfl⟩
      have HV := Lib.hid (And.intro hva hvl)
      rw [← hva] at c0 x0 x1
      rw [← hvl] at c1 y0 y1
      clear hva hvl
      go_wp2
      go_round
      case rel => exact ⟨p + 1, _, _, by omega, by go_num, rfl, rfl, by omega, by have := HE2.out; have := HS.out; have := HV.out; omega, by omega, by have := hE.out.2; omega, Lib.hid ⟨by have := HE2.out; have := HV.out; omega, by have := hE.out.2; omega⟩⟩
      case measure => simp [intOf]; omega
    · obtain rfl : p = 16 := by omega
      obtain rfl : M = 32 := by have := hE.out.2; omega
      have HM : Hid (S = sumF fa 16 + sumF fl 16) := Lib.hid hE.out.1
      clear hE
      go_wp2
      clear s0 s1 m0 m1
      have HO : Hid (w1.ownsRow w.heap.size 3 1 (.slice none 0 0) (16 * 0) (cellsOf .i64 (16 * 0) (rowF (fun j i => hld 0 255 (fl j + fa i - corner)))) ∧ Below w.heap.size w w1) := Lib.hid ⟨World.ownsRow_nil _ _ _ _, HB1.out.2⟩
      clear HB1
      
      go_loopw [15, 16] (fun v i wr => ∃ p : Nat, p ≤ 16 ∧ i = .int .i64 p ∧ Hid (wr.ownsRow w.heap.size 3 1 v (16 * p) (cellsOf .i64 (16 * p) (rowF (fun j i => hld 0 255 (fl j + fa i - corner)))) ∧ Below w.heap.size w wr)) (fun _ i _ => 16 - (intOf i).toNat)
      case atStart => exact ⟨0, by omega, rfl, HO⟩
      case round =>
        obtain ⟨p, hp, rfl, hR⟩ := hrel
        clear HO
        by_cases hlt : p < 16
        · have hbb : decide ((p : Int) < 16) = true := decide_eq_true (by omega)
          go_wp2
          go_loopw [15, 17] (fun v i wr => ∃ q : Nat, q ≤ 16 ∧ i = .int .i64 q ∧ Hid (wr.ownsRow w.heap.size 3 1 v (16 * p + q) (cellsOf .i64 (16 * p + q) (rowF (fun j i => hld 0 255 (fl j + fa i - corner)))) ∧ Below w.heap.size w wr)) (fun _ i _ => 16 - (intOf i).toNat)
          case atStart => exact ⟨0, by omega, rfl, hR⟩
          case round =>
            obtain ⟨q, hq, rfl, hQ⟩ := hrel
            by_cases hlq : q < 16
            · have HO : Hid (wr.ownsRow w.heap.size 3 1 u15 (16 * p + q) (cellsOf .i64 (16 * p + q) (rowF (fun j i => hld 0 255 (fl j + fa i - corner))))) := Lib.hid hQ.out.1
              have hsz := hQ.out.2.size
              have HV : Hid (rowF (fun j i => hld 0 255 (fl j + fa i - corner)) (16 * p + q) = hld 0 255 (fl p + fa q - corner)) := Lib.hid (rowF_at _ p q hlq)
              have c0 : wr.cell? ⟨ga, oa + q, none⟩ = some (.int .i64 (fa q)) := (hQ.out.2.cell (p := ⟨ga, oa + q, none⟩) HG.out.1).trans (HA.out.1 q hlq)
              have c1 : wr.cell? ⟨gl, ol + p, none⟩ = some (.int .i64 (fl p)) := (hQ.out.2.cell (p := ⟨gl, ol + p, none⟩) HG.out.2).trans (HA.out.2 p hlt)
              obtain ⟨x0, x1⟩ := HF.out.1 q
              obtain ⟨y0, y1⟩ := HF.out.2 p
              generalize hva : fa q = va at c0 x0 x1
              generalize hvl : fl p = vl at c1 y0 y1
              have HVV := Lib.hid (And.intro hva hvl); clear hva hvl
              go_wp2_with fail
              go_quiet ((go_at_call 30; exact Calls.quiet_of_same ((byteOf_any _ _).mono fun _ _ h => ⟨h.1, h.2.symm⟩)))
              have HO2 : Hid (World.ownsRow (World.drewN wr nq) w.heap.size 3 1 u15 (16 * p + q) (cellsOf .i64 (16 * p + q) (rowF (fun j i => hld 0 255 (fl j + fa i - corner)))) ∧ Below w.heap.size w (World.drewN wr nq)) := Lib.hid ⟨HO.out.kept (grownBy_drewN _ _ none) (by cases Value.ownBlock u15 <;> simp), below_drewN hQ.out.2 nq⟩
              clear HO hQ c0 c1 hsz
              generalize World.drewN wr nq = w2 at HO2 ⊢
              have HO := Lib.hid HO2.out.1
              have hQ := HO2
              have hsz := HO2.out.2.size
              rw [HVV.out.1, HVV.out.2] at HV
              go_wp2_with (at_builtin; refine wpList_append_own _ rfl _ _ 32 rfl w.heap.size 3 i0 (.int .i64 0) 1 8 Tryd.underlying32 hi hz0 hz1 hz2 rfl (by decide) _ _ _ rfl (HO.out.alloc _) ⟨w2.heap.size, 0, none⟩ 1 1 [.int .i64 (hld 0 255 (vl + va - corner))] rfl rfl (cell_one_new _ _ _) (by simp [Value.oneCell']) (by unfold maxLen; omega) (by omega) (by simp; omega) ?_)
              intro v' w3 hown3 hgrow _
              have HR : Hid (w3.ownsRow w.heap.size 3 1 v' (16 * p + (q + 1)) (cellsOf .i64 (16 * p + (q + 1)) (rowF (fun j i => hld 0 255 (fl j + fa i - corner)))) ∧ Below w.heap.size w w3) := Lib.hid ⟨by
                rw [show 16 * p + (q + 1) = (16 * p + q) + 1 by omega, cellsOf_succ, HV.out]; exact hown3, ((hQ.out.2).alloc (by exact hsz) _).grown hgrow (by simp; omega) (fun k hk => (HO.out.lt k hk).1)⟩
              clear hown3 hgrow
              go_wp2
              go_roundw
              case rel => exact ⟨q + 1, by omega, by go_num, HR⟩
              case measure => simp [intOf]; omega
            · obtain rfl : q = 16 := by omega
              have HQ : Hid (wr.ownsRow w.heap.size 3 1 u15 (16 * (p + 1)) (cellsOf .i64 (16 * (p + 1)) (rowF (fun j i => hld 0 255 (fl j + fa i - corner)))) ∧ Below w.heap.size w wr) := Lib.hid (by rw [Nat.mul_add, Nat.mul_one]; exact hQ.out)
              go_wp2
              go_roundw
              case rel => exact ⟨p + 1, by omega, by go_num, HQ⟩
              case measure => simp [intOf]; omega
        · obtain rfl : p = 16 := by omega
          go_wp2
          go_ret
          obtain ⟨a, c, rfl, _, ho⟩ := own_of_cells hR.out.1
          exact ⟨⟨_, _, rfl, ho⟩, hR.out.2⟩

set_option maxRecDepth 100000 in
set_option maxHeartbeats 4000000 in
theorem fore_ve (aa : Option Addr) (ca : Nat) (fa : Nat → Int) (al : Option Addr) (cl : Nat) (fl : Nat → Int) (corner : Int) (w : World) (ha : Arg .i64 w aa 16 fa) (hl : Arg .i64 w al 16 fl) (hfa : ∀ k, 0 ≤ fa k ∧ fa k ≤ 255) (hfl : ∀ k, 0 ≤ fl k ∧ fl k ≤ 255) (hc0 : 0 ≤ corner) (hc1 : corner ≤ 255) :
    Calls Tryd.prog 41 #[.int .i64 2, .slice aa 16 ca, .slice al 16 cl, .int .i64 corner, .agg #[.bool true, .bool true]] w fun e w' => (∃ a' c', e = .returned (.slice a' 256 c') ∧ Own .i64 w.heap.size w' a' 256 (rowF (fun j i => fa i))) ∧ Below w.heap.size w w' := by
  obtain ⟨i0, hi, hz0, hz1, hz2⟩ := info_parts infoI
  obtain ⟨ga, oa, rfl, hga, ra⟩ := ha (by decide)
  obtain ⟨gl, ol, rfl, hgl, rl⟩ := hl (by decide)
  have HF := Lib.hid (And.intro hfa hfl)
  have HA := Lib.hid (And.intro ra rl)
  have HG := Lib.hid (And.intro hga hgl)
  have HB := Lib.hid (obj_new w 68 [.bool true, .bool true])
  have HW := Lib.hid ((Below.refl w.heap.size w).alloc (Nat.le_refl _) (.cells #[.bool true, .bool true] 68))
  clear ha hl hfa hfl ra rl hga hgl
  go_enter Tryd.func41, Tryd.ntmps41
  go_wp2
  have HB1 : Hid (SObj (w.alloc (.cells #[.bool true, .bool true] 68)) w.heap.size 68 [.bool true, .bool true] ∧ Below w.heap.size w (w.alloc (.cells #[.bool true, .bool true] 68))) := Lib.hid ⟨HB.out, HW.out⟩
  clear HB HW
  generalize World.alloc w _ = w1 at HB1 ⊢
  go_loop [12, 13, 14] (fun s m i => ∃ (p : Nat) (S M : Int), p ≤ 16 ∧ i = .int .i64 p ∧ s = .int .i64 S ∧ m = .int .i64 M ∧ 0 ≤ S ∧ S ≤ 10000 ∧ 0 ≤ M ∧ M ≤ 100 ∧ Hid (S = sumF fa p + sumF fl p ∧ M = 2 * p)) (fun _ _ i => 16 - (intOf i).toNat)
  case atStart => exact ⟨0, 0, 0, by omega, rfl, rfl, rfl, by decide, by decide, by decide, by decide, Lib.hid ⟨by simp [sumF], by simp⟩⟩
  case round =>
    obtain ⟨p, S, M, hp, rfl, rfl, rfl, s0, s1, m0, m1, hE⟩ := hrel
    by_cases hlt : p < 16
    · have c0 : w1.cell? ⟨ga, oa + p, none⟩ = some (.int .i64 (fa p)) := (HB1.out.2.cell (p := ⟨ga, oa + p, none⟩) HG.out.1).trans (HA.out.1 p hlt)
      have c1 : w1.cell? ⟨gl, ol + p, none⟩ = some (.int .i64 (fl p)) := (HB1.out.2.cell (p := ⟨gl, ol + p, none⟩) HG.out.2).trans (HA.out.2 p hlt)
      have b0 := HB1.out.1.cell 0 (v := .bool true) rfl
      have b1 := HB1.out.1.cell 1 (v := .bool true) rfl
      obtain ⟨x0, x1⟩ := HF.out.1 p
      obtain ⟨y0, y1⟩ := HF.out.2 p
      have HS := Lib.hid (And.intro (sumF_in fa HF.out.1 (p + 1)) (sumF_in fl HF.out.2 (p + 1)))
      have HE2 : Hid (S + (fa p + fl p) = sumF fa (p + 1) + sumF fl (p + 1)) := Lib.hid (by rw [hE.out.1]; simp only [sumF]; omega)
      obtain ⟨va, hva⟩ : ∃ va, va = fa p := ⟨_, rfl⟩
      obtain ⟨vl, hvl⟩ : ∃ vl, vl = fl p := ⟨_, rfl⟩
      have HV := Lib.hid (And.intro hva hvl)
      rw [← hva] at c0 x0 x1
      rw [← hvl] at c1 y0 y1
      clear hva hvl
      go_wp2
      go_round
      case rel => exact ⟨p + 1, _, _, by omega, by go_num, rfl, rfl, by omega, by have := HE2.out; have := HS.out; have := HV.out; omega, by omega, by have := hE.out.2; omega, Lib.hid ⟨by have := HE2.out; have := HV.out; omega, by have := hE.out.2; omega⟩⟩
      case measure => simp [intOf]; omega
    · obtain rfl : p = 16 := by omega
      obtain rfl : M = 32 := by have := hE.out.2; omega
      have HM : Hid (S = sumF fa 16 + sumF fl 16) := Lib.hid hE.out.1
      clear hE
      go_wp2
      clear s0 s1 m0 m1
      have HO : Hid (w1.ownsRow w.heap.size 3 1 (.slice none 0 0) (16 * 0) (cellsOf .i64 (16 * 0) (rowF (fun j i => fa i))) ∧ Below w.heap.size w w1) := Lib.hid ⟨World.ownsRow_nil _ _ _ _, HB1.out.2⟩
      clear HB1
      
      go_loopw [15, 16] (fun v i wr => ∃ p : Nat, p ≤ 16 ∧ i = .int .i64 p ∧ Hid (wr.ownsRow w.heap.size 3 1 v (16 * p) (cellsOf .i64 (16 * p) (rowF (fun j i => fa i))) ∧ Below w.heap.size w wr)) (fun _ i _ => 16 - (intOf i).toNat)
      case atStart => exact ⟨0, by omega, rfl, HO⟩
      case round =>
        obtain ⟨p, hp, rfl, hR⟩ := hrel
        clear HO
        by_cases hlt : p < 16
        · have hbb : decide ((p : Int) < 16) = true := decide_eq_true (by omega)
          go_wp2
          go_loopw [15, 17] (fun v i wr => ∃ q : Nat, q ≤ 16 ∧ i = .int .i64 q ∧ Hid (wr.ownsRow w.heap.size 3 1 v (16 * p + q) (cellsOf .i64 (16 * p + q) (rowF (fun j i => fa i))) ∧ Below w.heap.size w wr)) (fun _ i _ => 16 - (intOf i).toNat)
          case atStart => exact ⟨0, by omega, rfl, hR⟩
          case round =>
            obtain ⟨q, hq, rfl, hQ⟩ := hrel
            by_cases hlq : q < 16
            · have HO : Hid (wr.ownsRow w.heap.size 3 1 u15 (16 * p + q) (cellsOf .i64 (16 * p + q) (rowF (fun j i => fa i)))) := Lib.hid hQ.out.1
              have hsz := hQ.out.2.size
              have HV : Hid (rowF (fun j i => fa i) (16 * p + q) = fa q) := Lib.hid (rowF_at _ p q hlq)
              have c0 : wr.cell? ⟨ga, oa + q, none⟩ = some (.int .i64 (fa q)) := (hQ.out.2.cell (p := ⟨ga, oa + q, none⟩) HG.out.1).trans (HA.out.1 q hlq)
              go_wp2_with (at_builtin; refine wpList_append_own _ rfl _ _ 32 rfl w.heap.size 3 i0 (.int .i64 0) 1 8 Tryd.underlying32 hi hz0 hz1 hz2 rfl (by decide) _ _ _ rfl (HO.out.alloc _) ⟨wr.heap.size, 0, none⟩ 1 1 [.int .i64 (fa q)] rfl rfl (cell_one_new _ _ _) (by simp [Value.oneCell']) (by unfold maxLen; omega) (by omega) (by simp; omega) ?_)
              intro v' w3 hown3 hgrow _
              have HR : Hid (w3.ownsRow w.heap.size 3 1 v' (16 * p + (q + 1)) (cellsOf .i64 (16 * p + (q + 1)) (rowF (fun j i => fa i))) ∧ Below w.heap.size w w3) := Lib.hid ⟨by
                rw [show 16 * p + (q + 1) = (16 * p + q) + 1 by omega, cellsOf_succ, HV.out]; exact hown3, ((hQ.out.2).alloc (by exact hsz) _).grown hgrow (by simp; omega) (fun k hk => (HO.out.lt k hk).1)⟩
              clear hown3 hgrow
              go_wp2
              go_roundw
              case rel => exact ⟨q + 1, by omega, by go_num, HR⟩
              case measure => simp [intOf]; omega
            · obtain rfl : q = 16 := by omega
              have HQ : Hid (wr.ownsRow w.heap.size 3 1 u15 (16 * (p + 1)) (cellsOf .i64 (16 * (p + 1)) (rowF (fun j i => fa i))) ∧ Below w.heap.size w wr) := Lib.hid (by rw [Nat.mul_add, Nat.mul_one]; exact hQ.out)
              go_wp2
              go_roundw
              case rel => exact ⟨p + 1, by omega, by go_num, HQ⟩
              case measure => simp [intOf]; omega
        · obtain rfl : p = 16 := by omega
          go_wp2
          go_ret
          obtain ⟨a, c, rfl, _, ho⟩ := own_of_cells hR.out.1
          exact ⟨⟨_, _, rfl, ho⟩, hR.out.2⟩

set_option maxRecDepth 100000 in
set_option maxHeartbeats 4000000 in
theorem fore_he (aa : Option Addr) (ca : Nat) (fa : Nat → Int) (al : Option Addr) (cl : Nat) (fl : Nat → Int) (corner : Int) (w : World) (ha : Arg .i64 w aa 16 fa) (hl : Arg .i64 w al 16 fl) (hfa : ∀ k, 0 ≤ fa k ∧ fa k ≤ 255) (hfl : ∀ k, 0 ≤ fl k ∧ fl k ≤ 255) (hc0 : 0 ≤ corner) (hc1 : corner ≤ 255) :
    Calls Tryd.prog 41 #[.int .i64 3, .slice aa 16 ca, .slice al 16 cl, .int .i64 corner, .agg #[.bool true, .bool true]] w fun e w' => (∃ a' c', e = .returned (.slice a' 256 c') ∧ Own .i64 w.heap.size w' a' 256 (rowF (fun j i => fl j))) ∧ Below w.heap.size w w' := by
  obtain ⟨i0, hi, hz0, hz1, hz2⟩ := info_parts infoI
  obtain ⟨ga, oa, rfl, hga, ra⟩ := ha (by decide)
  obtain ⟨gl, ol, rfl, hgl, rl⟩ := hl (by decide)
  have HF := Lib.hid (And.intro hfa hfl)
  have HA := Lib.hid (And.intro ra rl)
  have HG := Lib.hid (And.intro hga hgl)
  have HB := Lib.hid (obj_new w 68 [.bool true, .bool true])
  have HW := Lib.hid ((Below.refl w.heap.size w).alloc (Nat.le_refl _) (.cells #[.bool true, .bool true] 68))
  clear ha hl hfa hfl ra rl hga hgl
  go_enter Tryd.func41, Tryd.ntmps41
  go_wp2
  have HB1 : Hid (SObj (w.alloc (.cells #[.bool true, .bool true] 68)) w.heap.size 68 [.bool true, .bool true] ∧ Below w.heap.size w (w.alloc (.cells #[.bool true, .bool true] 68))) := Lib.hid ⟨HB.out, HW.out⟩
  clear HB HW
  generalize World.alloc w _ = w1 at HB1 ⊢
  go_loop [12, 13, 14] (fun s m i => ∃ (p : Nat) (S M : Int), p ≤ 16 ∧ i = .int .i64 p ∧ s = .int .i64 S ∧ m = .int .i64 M ∧ 0 ≤ S ∧ S ≤ 10000 ∧ 0 ≤ M ∧ M ≤ 100 ∧ Hid (S = sumF fa p + sumF fl p ∧ M = 2 * p)) (fun _ _ i => 16 - (intOf i).toNat)
  case atStart => exact ⟨0, 0, 0, by omega, rfl, rfl, rfl, by decide, by decide, by decide, by decide, Lib.hid ⟨by simp [sumF], by simp⟩⟩
  case round =>
    obtain ⟨p, S, M, hp, rfl, rfl, rfl, s0, s1, m0, m1, hE⟩ := hrel
    by_cases hlt : p < 16
    · have c0 : w1.cell? ⟨ga, oa + p, none⟩ = some (.int .i64 (fa p)) := (HB1.out.2.cell (p := ⟨ga, oa + p, none⟩) HG.out.1).trans (HA.out.1 p hlt)
      have c1 : w1.cell? ⟨gl, ol + p, none⟩ = some (.int .i64 (fl p)) := (HB1.out.2.cell (p := ⟨gl, ol + p, none⟩) HG.out.2).trans (HA.out.2 p hlt)
      have b0 := HB1.out.1.cell 0 (v := .bool true) rfl
      have b1 := HB1.out.1.cell 1 (v := .bool true) rfl
      obtain ⟨x0, x1⟩ := HF.out.1 p
      obtain ⟨y0, y1⟩ := HF.out.2 p
      have HS := Lib.hid (And.intro (sumF_in fa HF.out.1 (p + 1)) (sumF_in fl HF.out.2 (p + 1)))
      have HE2 : Hid (S + (fa p + fl p) = sumF fa (p + 1) + sumF fl (p + 1)) := Lib.hid (by rw [hE.out.1]; simp only [sumF]; omega)
      obtain ⟨va, hva⟩ : ∃ va, va = fa p := ⟨_, rfl⟩
      obtain ⟨vl, hvl⟩ : ∃ vl, vl = fl p := ⟨_, rfl⟩
      have HV := Lib.hid (And.intro hva hvl)
      rw [← hva] at c0 x0 x1
      rw [← hvl] at c1 y0 y1
      clear hva hvl
      go_wp2
      go_round
      case rel => exact ⟨p + 1, _, _, by omega, by go_num, rfl, rfl, by omega, by have := HE2.out; have := HS.out; have := HV.out; omega, by omega, by have := hE.out.2; omega, Lib.hid ⟨by have := HE2.out; have := HV.out; omega, by have := hE.out.2; omega⟩⟩
      case measure => simp [intOf]; omega
    · obtain rfl : p = 16 := by omega
      obtain rfl : M = 32 := by have := hE.out.2; omega
      have HM : Hid (S = sumF fa 16 + sumF fl 16) := Lib.hid hE.out.1
      clear hE
      go_wp2
      clear s0 s1 m0 m1
      have HO : Hid (w1.ownsRow w.heap.size 3 1 (.slice none 0 0) (16 * 0) (cellsOf .i64 (16 * 0) (rowF (fun j i => fl j))) ∧ Below w.heap.size w w1) := Lib.hid ⟨World.ownsRow_nil _ _ _ _, HB1.out.2⟩
      clear HB1
      
      go_loopw [15, 16] (fun v i wr => ∃ p : Nat, p ≤ 16 ∧ i = .int .i64 p ∧ Hid (wr.ownsRow w.heap.size 3 1 v (16 * p) (cellsOf .i64 (16 * p) (rowF (fun j i => fl j))) ∧ Below w.heap.size w wr)) (fun _ i _ => 16 - (intOf i).toNat)
      case atStart => exact ⟨0, by omega, rfl, HO⟩
      case round =>
        obtain ⟨p, hp, rfl, hR⟩ := hrel
        clear HO
        by_cases hlt : p < 16
        · have hbb : decide ((p : Int) < 16) = true := decide_eq_true (by omega)
          go_wp2
          go_loopw [15, 17] (fun v i wr => ∃ q : Nat, q ≤ 16 ∧ i = .int .i64 q ∧ Hid (wr.ownsRow w.heap.size 3 1 v (16 * p + q) (cellsOf .i64 (16 * p + q) (rowF (fun j i => fl j))) ∧ Below w.heap.size w wr)) (fun _ i _ => 16 - (intOf i).toNat)
          case atStart => exact ⟨0, by omega, rfl, hR⟩
          case round =>
            obtain ⟨q, hq, rfl, hQ⟩ := hrel
            by_cases hlq : q < 16
            · have HO : Hid (wr.ownsRow w.heap.size 3 1 u15 (16 * p + q) (cellsOf .i64 (16 * p + q) (rowF (fun j i => fl j)))) := Lib.hid hQ.out.1
              have hsz := hQ.out.2.size
              have HV : Hid (rowF (fun j i => fl j) (16 * p + q) = fl p) := Lib.hid (rowF_at _ p q hlq)
              have c1 : wr.cell? ⟨gl, ol + p, none⟩ = some (.int .i64 (fl p)) := (hQ.out.2.cell (p := ⟨gl, ol + p, none⟩) HG.out.2).trans (HA.out.2 p hlt)
              go_wp2_with (at_builtin; refine wpList_append_own _ rfl _ _ 32 rfl w.heap.size 3 i0 (.int .i64 0) 1 8 Tryd.underlying32 hi hz0 hz1 hz2 rfl (by decide) _ _ _ rfl (HO.out.alloc _) ⟨wr.heap.size, 0, none⟩ 1 1 [.int .i64 (fl p)] rfl rfl (cell_one_new _ _ _) (by simp [Value.oneCell']) (by unfold maxLen; omega) (by omega) (by simp; omega) ?_)
              intro v' w3 hown3 hgrow _
              have HR : Hid (w3.ownsRow w.heap.size 3 1 v' (16 * p + (q + 1)) (cellsOf .i64 (16 * p + (q + 1)) (rowF (fun j i => fl j))) ∧ Below w.heap.size w w3) := Lib.hid ⟨by
                rw [show 16 * p + (q + 1) = (16 * p + q) + 1 by omega, cellsOf_succ, HV.out]; exact hown3, ((hQ.out.2).alloc (by exact hsz) _).grown hgrow (by simp; omega) (fun k hk => (HO.out.lt k hk).1)⟩
              clear hown3 hgrow
              go_wp2
              go_roundw
              case rel => exact ⟨q + 1, by omega, by go_num, HR⟩
              case measure => simp [intOf]; omega
            · obtain rfl : q = 16 := by omega
              have HQ : Hid (wr.ownsRow w.heap.size 3 1 u15 (16 * (p + 1)) (cellsOf .i64 (16 * (p + 1)) (rowF (fun j i => fl j))) ∧ Below w.heap.size w wr) := Lib.hid (by rw [Nat.mul_add, Nat.mul_one]; exact hQ.out)
              go_wp2
              go_roundw
              case rel => exact ⟨p + 1, by omega, by go_num, HQ⟩
              case measure => simp [intOf]; omega
        · obtain rfl : p = 16 := by omega
          go_wp2
          go_ret
          obtain ⟨a, c, rfl, _, ho⟩ := own_of_cells hR.out.1
          exact ⟨⟨_, _, rfl, ho⟩, hR.out.2⟩

set_option maxRecDepth 100000 in
set_option maxHeartbeats 4000000 in
theorem fore_left (aa : Option Addr) (ca : Nat) (fa : Nat → Int) (al : Option Addr) (cl : Nat) (fl : Nat → Int) (corner : Int) (w : World) (ha : Arg .i64 w aa 16 fa) (hl : Arg .i64 w al 16 fl) (hfa : ∀ k, 0 ≤ fa k ∧ fa k ≤ 255) (hfl : ∀ k, 0 ≤ fl k ∧ fl k ≤ 255) (hc0 : 0 ≤ corner) (hc1 : corner ≤ 255) :
    Calls Tryd.prog 41 #[.int .i64 0, .slice aa 16 ca, .slice al 16 cl, .int .i64 corner, .agg #[.bool false, .bool true]] w fun e w' => (∃ a' c', e = .returned (.slice a' 256 c') ∧ Own .i64 w.heap.size w' a' 256 (rowF (fun j i => (sumF fl 16 + 8) / 16))) ∧ Below w.heap.size w w' := by
  obtain ⟨i0, hi, hz0, hz1, hz2⟩ := info_parts infoI
  obtain ⟨ga, oa, rfl, hga, ra⟩ := ha (by decide)
  obtain ⟨gl, ol, rfl, hgl, rl⟩ := hl (by decide)
  have HF := Lib.hid (And.intro hfa hfl)
  have HA := Lib.hid (And.intro ra rl)
  have HG := Lib.hid (And.intro hga hgl)
  have HB := Lib.hid (obj_new w 68 [.bool false, .bool true])
  have HW := Lib.hid ((Below.refl w.heap.size w).alloc (Nat.le_refl _) (.cells #[.bool false, .bool true] 68))
  clear ha hl hfa hfl ra rl hga hgl
  go_enter Tryd.func41, Tryd.ntmps41
  go_wp2
  have HB1 : Hid (SObj (w.alloc (.cells #[.bool false, .bool true] 68)) w.heap.size 68 [.bool false, .bool true] ∧ Below w.heap.size w (w.alloc (.cells #[.bool false, .bool true] 68))) := Lib.hid ⟨HB.out, HW.out⟩
  clear HB HW
  generalize World.alloc w _ = w1 at HB1 ⊢
  go_loop [12, 13, 14] (fun s m i => ∃ (p : Nat) (S M : Int), p ≤ 16 ∧ i = .int .i64 p ∧ s = .int .i64 S ∧ m = .int .i64 M ∧ 0 ≤ S ∧ S ≤ 10000 ∧ 0 ≤ M ∧ M ≤ 100 ∧ Hid (S = sumF fl p ∧ M = 1 * p)) (fun _ _ i => 16 - (intOf i).toNat)
  case atStart => exact ⟨0, 0, 0, by omega, rfl, rfl, rfl, by decide, by decide, by decide, by decide, Lib.hid ⟨by simp [sumF], by simp⟩⟩
  case round =>
    obtain ⟨p, S, M, hp, rfl, rfl, rfl, s0, s1, m0, m1, hE⟩ := hrel
    by_cases hlt : p < 16
    · have c0 : w1.cell? ⟨ga, oa + p, none⟩ = some (.int .i64 (fa p)) := (HB1.out.2.cell (p := ⟨ga, oa + p, none⟩) HG.out.1).trans (HA.out.1 p hlt)
      have c1 : w1.cell? ⟨gl, ol + p, none⟩ = some (.int .i64 (fl p)) := (HB1.out.2.cell (p := ⟨gl, ol + p, none⟩) HG.out.2).trans (HA.out.2 p hlt)
      have b0 := HB1.out.1.cell 0 (v := .bool false) rfl
      have b1 := HB1.out.1.cell 1 (v := .bool true) rfl
      obtain ⟨x0, x1⟩ := HF.out.1 p
      obtain ⟨y0, y1⟩ := HF.out.2 p
      have HS := Lib.hid (And.intro (sumF_in fa HF.out.1 (p + 1)) (sumF_in fl HF.out.2 (p + 1)))
      have HE2 : Hid (S + fl p = sumF fl (p + 1)) := Lib.hid (by rw [hE.out.1]; rfl)
      obtain ⟨va, hva⟩ : ∃ va, va = fa p := ⟨_, rfl⟩
      obtain ⟨vl, hvl⟩ : ∃ vl, vl = fl p := ⟨_, rfl⟩
      have HV := Lib.hid (And.intro hva hvl)
      rw [← hva] at c0 x0 x1
      rw [← hvl] at c1 y0 y1
      clear hva hvl
      go_wp2
      go_round
      case rel => exact ⟨p + 1, _, _, by omega, by go_num, rfl, rfl, by omega, by have := HE2.out; have := HS.out; have := HV.out; omega, by omega, by have := hE.out.2; omega, Lib.hid ⟨by have := HE2.out; have := HV.out; omega, by have := hE.out.2; omega⟩⟩
      case measure => simp [intOf]; omega
    · obtain rfl : p = 16 := by omega
      obtain rfl : M = 16 := by have := hE.out.2; omega
      have HM : Hid (S = sumF fl 16) := Lib.hid hE.out.1
      clear hE
      go_wp2
      clear s0 s1 m0 m1
      have HO : Hid (w1.ownsRow w.heap.size 3 1 (.slice none 0 0) (16 * 0) (cellsOf .i64 (16 * 0) (rowF (fun j i => (sumF fl 16 + 8) / 16))) ∧ Below w.heap.size w w1) := Lib.hid ⟨World.ownsRow_nil _ _ _ _, HB1.out.2⟩
      clear HB1
      
      go_loopw [15, 16] (fun v i wr => ∃ p : Nat, p ≤ 16 ∧ i = .int .i64 p ∧ Hid (wr.ownsRow w.heap.size 3 1 v (16 * p) (cellsOf .i64 (16 * p) (rowF (fun j i => (sumF fl 16 + 8) / 16))) ∧ Below w.heap.size w wr)) (fun _ i _ => 16 - (intOf i).toNat)
      case atStart => exact ⟨0, by omega, rfl, HO⟩
      case round =>
        obtain ⟨p, hp, rfl, hR⟩ := hrel
        clear HO
        by_cases hlt : p < 16
        · have hbb : decide ((p : Int) < 16) = true := decide_eq_true (by omega)
          go_wp2
          go_loopw [15, 17] (fun v i wr => ∃ q : Nat, q ≤ 16 ∧ i = .int .i64 q ∧ Hid (wr.ownsRow w.heap.size 3 1 v (16 * p + q) (cellsOf .i64 (16 * p + q) (rowF (fun j i => (sumF fl 16 + 8) / 16))) ∧ Below w.heap.size w wr)) (fun _ i _ => 16 - (intOf i).toNat)
          case atStart => exact ⟨0, by omega, rfl, hR⟩
          case round =>
            obtain ⟨q, hq, rfl, hQ⟩ := hrel
            by_cases hlq : q < 16
            · have HO : Hid (wr.ownsRow w.heap.size 3 1 u15 (16 * p + q) (cellsOf .i64 (16 * p + q) (rowF (fun j i => (sumF fl 16 + 8) / 16)))) := Lib.hid hQ.out.1
              have hsz := hQ.out.2.size
              have HV : Hid (rowF (fun j i => (sumF fl 16 + 8) / 16) (16 * p + q) = ((S + 8) / 16)) := Lib.hid (by rw [rowF_at _ p q hlq, HM.out])
              
              go_wp2_with (at_builtin; refine wpList_append_own _ rfl _ _ 32 rfl w.heap.size 3 i0 (.int .i64 0) 1 8 Tryd.underlying32 hi hz0 hz1 hz2 rfl (by decide) _ _ _ rfl (HO.out.alloc _) ⟨wr.heap.size, 0, none⟩ 1 1 [.int .i64 ((S + 8) / 16)] rfl rfl (cell_one_new _ _ _) (by simp [Value.oneCell']) (by unfold maxLen; omega) (by omega) (by simp; omega) ?_)
              intro v' w3 hown3 hgrow _
              have HR : Hid (w3.ownsRow w.heap.size 3 1 v' (16 * p + (q + 1)) (cellsOf .i64 (16 * p + (q + 1)) (rowF (fun j i => (sumF fl 16 + 8) / 16))) ∧ Below w.heap.size w w3) := Lib.hid ⟨by
                rw [show 16 * p + (q + 1) = (16 * p + q) + 1 by omega, cellsOf_succ, HV.out]; exact hown3, ((hQ.out.2).alloc (by exact hsz) _).grown hgrow (by simp; omega) (fun k hk => (HO.out.lt k hk).1)⟩
              clear hown3 hgrow
              go_wp2
              go_roundw
              case rel => exact ⟨q + 1, by omega, by go_num, HR⟩
              case measure => simp [intOf]; omega
            · obtain rfl : q = 16 := by omega
              have HQ : Hid (wr.ownsRow w.heap.size 3 1 u15 (16 * (p + 1)) (cellsOf .i64 (16 * (p + 1)) (rowF (fun j i => (sumF fl 16 + 8) / 16))) ∧ Below w.heap.size w wr) := Lib.hid (by rw [Nat.mul_add, Nat.mul_one]; exact hQ.out)
              go_wp2
              go_roundw
              case rel => exact ⟨p + 1, by omega, by go_num, HQ⟩
              case measure => simp [intOf]; omega
        · obtain rfl : p = 16 := by omega
          go_wp2
          go_ret
          obtain ⟨a, c, rfl, _, ho⟩ := own_of_cells hR.out.1
          exact ⟨⟨_, _, rfl, ho⟩, hR.out.2⟩

set_option maxRecDepth 100000 in
set_option maxHeartbeats 4000000 in
theorem fore_top (aa : Option Addr) (ca : Nat) (fa : Nat → Int) (al : Option Addr) (cl : Nat) (fl : Nat → Int) (corner : Int) (w : World) (ha : Arg .i64 w aa 16 fa) (hl : Arg .i64 w al 16 fl) (hfa : ∀ k, 0 ≤ fa k ∧ fa k ≤ 255) (hfl : ∀ k, 0 ≤ fl k ∧ fl k ≤ 255) (hc0 : 0 ≤ corner) (hc1 : corner ≤ 255) :
    Calls Tryd.prog 41 #[.int .i64 0, .slice aa 16 ca, .slice al 16 cl, .int .i64 corner, .agg #[.bool true, .bool false]] w fun e w' => (∃ a' c', e = .returned (.slice a' 256 c') ∧ Own .i64 w.heap.size w' a' 256 (rowF (fun j i => (sumF fa 16 + 8) / 16))) ∧ Below w.heap.size w w' := by
  obtain ⟨i0, hi, hz0, hz1, hz2⟩ := info_parts infoI
  obtain ⟨ga, oa, rfl, hga, ra⟩ := ha (by decide)
  obtain ⟨gl, ol, rfl, hgl, rl⟩ := hl (by decide)
  have HF := Lib.hid (And.intro hfa hfl)
  have HA := Lib.hid (And.intro ra rl)
  have HG := Lib.hid (And.intro hga hgl)
  have HB := Lib.hid (obj_new w 68 [.bool true, .bool false])
  have HW := Lib.hid ((Below.refl w.heap.size w).alloc (Nat.le_refl _) (.cells #[.bool true, .bool false] 68))
  clear ha hl hfa hfl ra rl hga hgl
  go_enter Tryd.func41, Tryd.ntmps41
  go_wp2
  have HB1 : Hid (SObj (w.alloc (.cells #[.bool true, .bool false] 68)) w.heap.size 68 [.bool true, .bool false] ∧ Below w.heap.size w (w.alloc (.cells #[.bool true, .bool false] 68))) := Lib.hid ⟨HB.out, HW.out⟩
  clear HB HW
  generalize World.alloc w _ = w1 at HB1 ⊢
  go_loop [12, 13, 14] (fun s m i => ∃ (p : Nat) (S M : Int), p ≤ 16 ∧ i = .int .i64 p ∧ s = .int .i64 S ∧ m = .int .i64 M ∧ 0 ≤ S ∧ S ≤ 10000 ∧ 0 ≤ M ∧ M ≤ 100 ∧ Hid (S = sumF fa p ∧ M = 1 * p)) (fun _ _ i => 16 - (intOf i).toNat)
  case atStart => exact ⟨0, 0, 0, by omega, rfl, rfl, rfl, by decide, by decide, by decide, by decide, Lib.hid ⟨by simp [sumF], by simp⟩⟩
  case round =>
    obtain ⟨p, S, M, hp, rfl, rfl, rfl, s0, s1, m0, m1, hE⟩ := hrel
    by_cases hlt : p < 16
    · have c0 : w1.cell? ⟨ga, oa + p, none⟩ = some (.int .i64 (fa p)) := (HB1.out.2.cell (p := ⟨ga, oa + p, none⟩) HG.out.1).trans (HA.out.1 p hlt)
      have c1 : w1.cell? ⟨gl, ol + p, none⟩ = some (.int .i64 (fl p)) := (HB1.out.2.cell (p := ⟨gl, ol + p, none⟩) HG.out.2).trans (HA.out.2 p hlt)
      have b0 := HB1.out.1.cell 0 (v := .bool true) rfl
      have b1 := HB1.out.1.cell 1 (v := .bool false) rfl
      obtain ⟨x0, x1⟩ := HF.out.1 p
      obtain ⟨y0, y1⟩ := HF.out.2 p
      have HS := Lib.hid (And.intro (sumF_in fa HF.out.1 (p + 1)) (sumF_in fl HF.out.2 (p + 1)))
      have HE2 : Hid (S + fa p = sumF fa (p + 1)) := Lib.hid (by rw [hE.out.1]; rfl)
      obtain ⟨va, hva⟩ : ∃ va, va = fa p := ⟨_, rfl⟩
      obtain ⟨vl, hvl⟩ : ∃ vl, vl = fl p := ⟨_, rfl⟩
      have HV := Lib.hid (And.intro hva hvl)
      rw [← hva] at c0 x0 x1
      rw [← hvl] at c1 y0 y1
      clear hva hvl
      go_wp2
      go_round
      case rel => exact ⟨p + 1, _, _, by omega, by go_num, rfl, rfl, by omega, by have := HE2.out; have := HS.out; have := HV.out; omega, by omega, by have := hE.out.2; omega, Lib.hid ⟨by have := HE2.out; have := HV.out; omega, by have := hE.out.2; omega⟩⟩
      case measure => simp [intOf]; omega
    · obtain rfl : p = 16 := by omega
      obtain rfl : M = 16 := by have := hE.out.2; omega
      have HM : Hid (S = sumF fa 16) := Lib.hid hE.out.1
      clear hE
      go_wp2
      clear s0 s1 m0 m1
      have HO : Hid (w1.ownsRow w.heap.size 3 1 (.slice none 0 0) (16 * 0) (cellsOf .i64 (16 * 0) (rowF (fun j i => (sumF fa 16 + 8) / 16))) ∧ Below w.heap.size w w1) := Lib.hid ⟨World.ownsRow_nil _ _ _ _, HB1.out.2⟩
      clear HB1
      
      go_loopw [15, 16] (fun v i wr => ∃ p : Nat, p ≤ 16 ∧ i = .int .i64 p ∧ Hid (wr.ownsRow w.heap.size 3 1 v (16 * p) (cellsOf .i64 (16 * p) (rowF (fun j i => (sumF fa 16 + 8) / 16))) ∧ Below w.heap.size w wr)) (fun _ i _ => 16 - (intOf i).toNat)
      case atStart => exact ⟨0, by omega, rfl, HO⟩
      case round =>
        obtain ⟨p, hp, rfl, hR⟩ := hrel
        clear HO
        by_cases hlt : p < 16
        · have hbb : decide ((p : Int) < 16) = true := decide_eq_true (by omega)
          go_wp2
          go_loopw [15, 17] (fun v i wr => ∃ q : Nat, q ≤ 16 ∧ i = .int .i64 q ∧ Hid (wr.ownsRow w.heap.size 3 1 v (16 * p + q) (cellsOf .i64 (16 * p + q) (rowF (fun j i => (sumF fa 16 + 8) / 16))) ∧ Below w.heap.size w wr)) (fun _ i _ => 16 - (intOf i).toNat)
          case atStart => exact ⟨0, by omega, rfl, hR⟩
          case round =>
            obtain ⟨q, hq, rfl, hQ⟩ := hrel
            by_cases hlq : q < 16
            · have HO : Hid (wr.ownsRow w.heap.size 3 1 u15 (16 * p + q) (cellsOf .i64 (16 * p + q) (rowF (fun j i => (sumF fa 16 + 8) / 16)))) := Lib.hid hQ.out.1
              have hsz := hQ.out.2.size
              have HV : Hid (rowF (fun j i => (sumF fa 16 + 8) / 16) (16 * p + q) = ((S + 8) / 16)) := Lib.hid (by rw [rowF_at _ p q hlq, HM.out])
              
              go_wp2_with (at_builtin; refine wpList_append_own _ rfl _ _ 32 rfl w.heap.size 3 i0 (.int .i64 0) 1 8 Tryd.underlying32 hi hz0 hz1 hz2 rfl (by decide) _ _ _ rfl (HO.out.alloc _) ⟨wr.heap.size, 0, none⟩ 1 1 [.int .i64 ((S + 8) / 16)] rfl rfl (cell_one_new _ _ _) (by simp [Value.oneCell']) (by unfold maxLen; omega) (by omega) (by simp; omega) ?_)
              intro v' w3 hown3 hgrow _
              have HR : Hid (w3.ownsRow w.heap.size 3 1 v' (16 * p + (q + 1)) (cellsOf .i64 (16 * p + (q + 1)) (rowF (fun j i => (sumF fa 16 + 8) / 16))) ∧ Below w.heap.size w w3) := Lib.hid ⟨by
                rw [show 16 * p + (q + 1) = (16 * p + q) + 1 by omega, cellsOf_succ, HV.out]; exact hown3, ((hQ.out.2).alloc (by exact hsz) _).grown hgrow (by simp; omega) (fun k hk => (HO.out.lt k hk).1)⟩
              clear hown3 hgrow
              go_wp2
              go_roundw
              case rel => exact ⟨q + 1, by omega, by go_num, HR⟩
              case measure => simp [intOf]; omega
            · obtain rfl : q = 16 := by omega
              have HQ : Hid (wr.ownsRow w.heap.size 3 1 u15 (16 * (p + 1)) (cellsOf .i64 (16 * (p + 1)) (rowF (fun j i => (sumF fa 16 + 8) / 16))) ∧ Below w.heap.size w wr) := Lib.hid (by rw [Nat.mul_add, Nat.mul_one]; exact hQ.out)
              go_wp2
              go_roundw
              case rel => exact ⟨p + 1, by omega, by go_num, HQ⟩
              case measure => simp [intOf]; omega
        · obtain rfl : p = 16 := by omega
          go_wp2
          go_ret
          obtain ⟨a, c, rfl, _, ho⟩ := own_of_cells hR.out.1
          exact ⟨⟨_, _, rfl, ho⟩, hR.out.2⟩

set_option maxRecDepth 100000 in
set_option maxHeartbeats 4000000 in
theorem fore_no (aa : Option Addr) (ca : Nat) (fa : Nat → Int) (al : Option Addr) (cl : Nat) (fl : Nat → Int) (corner : Int) (w : World) (ha : Arg .i64 w aa 16 fa) (hl : Arg .i64 w al 16 fl) (hfa : ∀ k, 0 ≤ fa k ∧ fa k ≤ 255) (hfl : ∀ k, 0 ≤ fl k ∧ fl k ≤ 255) (hc0 : 0 ≤ corner) (hc1 : corner ≤ 255) :
    Calls Tryd.prog 41 #[.int .i64 0, .slice aa 16 ca, .slice al 16 cl, .int .i64 corner, .agg #[.bool false, .bool false]] w fun e w' => (∃ a' c', e = .returned (.slice a' 256 c') ∧ Own .i64 w.heap.size w' a' 256 (rowF (fun j i => 128))) ∧ Below w.heap.size w w' := by
  obtain ⟨i0, hi, hz0, hz1, hz2⟩ := info_parts infoI
  obtain ⟨ga, oa, rfl, hga, ra⟩ := ha (by decide)
  obtain ⟨gl, ol, rfl, hgl, rl⟩ := hl (by decide)
  have HF := Lib.hid (And.intro hfa hfl)
  have HA := Lib.hid (And.intro ra rl)
  have HG := Lib.hid (And.intro hga hgl)
  have HB := Lib.hid (obj_new w 68 [.bool false, .bool false])
  have HW := Lib.hid ((Below.refl w.heap.size w).alloc (Nat.le_refl _) (.cells #[.bool false, .bool false] 68))
  clear ha hl hfa hfl ra rl hga hgl
  go_enter Tryd.func41, Tryd.ntmps41
  go_wp2
  have HB1 : Hid (SObj (w.alloc (.cells #[.bool false, .bool false] 68)) w.heap.size 68 [.bool false, .bool false] ∧ Below w.heap.size w (w.alloc (.cells #[.bool false, .bool false] 68))) := Lib.hid ⟨HB.out, HW.out⟩
  clear HB HW
  generalize World.alloc w _ = w1 at HB1 ⊢
  go_loop [12, 13, 14] (fun s m i => ∃ (p : Nat) (S M : Int), p ≤ 16 ∧ i = .int .i64 p ∧ s = .int .i64 S ∧ m = .int .i64 M ∧ 0 ≤ S ∧ S ≤ 10000 ∧ 0 ≤ M ∧ M ≤ 100 ∧ Hid (S = 0 ∧ M = 0 * p)) (fun _ _ i => 16 - (intOf i).toNat)
  case atStart => exact ⟨0, 0, 0, by omega, rfl, rfl, rfl, by decide, by decide, by decide, by decide, Lib.hid ⟨rfl, by simp⟩⟩
  case round =>
    obtain ⟨p, S, M, hp, rfl, rfl, rfl, s0, s1, m0, m1, hE⟩ := hrel
    by_cases hlt : p < 16
    · have c0 : w1.cell? ⟨ga, oa + p, none⟩ = some (.int .i64 (fa p)) := (HB1.out.2.cell (p := ⟨ga, oa + p, none⟩) HG.out.1).trans (HA.out.1 p hlt)
      have c1 : w1.cell? ⟨gl, ol + p, none⟩ = some (.int .i64 (fl p)) := (HB1.out.2.cell (p := ⟨gl, ol + p, none⟩) HG.out.2).trans (HA.out.2 p hlt)
      have b0 := HB1.out.1.cell 0 (v := .bool false) rfl
      have b1 := HB1.out.1.cell 1 (v := .bool false) rfl
      obtain ⟨x0, x1⟩ := HF.out.1 p
      obtain ⟨y0, y1⟩ := HF.out.2 p
      have HS := Lib.hid (And.intro (sumF_in fa HF.out.1 (p + 1)) (sumF_in fl HF.out.2 (p + 1)))
      have HE2 : Hid (S + 0 = 0) := Lib.hid (by rw [hE.out.1]; rfl)
      obtain ⟨va, hva⟩ : ∃ va, va = fa p := ⟨_, rfl⟩
      obtain ⟨vl, hvl⟩ : ∃ vl, vl = fl p := ⟨_, rfl⟩
      have HV := Lib.hid (And.intro hva hvl)
      rw [← hva] at c0 x0 x1
      rw [← hvl] at c1 y0 y1
      clear hva hvl
      go_wp2
      go_round
      case rel => exact ⟨p + 1, _, _, by omega, by go_num, rfl, rfl, by omega, by have := HE2.out; have := HS.out; have := HV.out; omega, by omega, by have := hE.out.2; omega, Lib.hid ⟨by have := HE2.out; have := HV.out; omega, by have := hE.out.2; omega⟩⟩
      case measure => simp [intOf]; omega
    · obtain rfl : p = 16 := by omega
      obtain rfl : M = 0 := by have := hE.out.2; omega
      have HM : Hid (S = 0) := Lib.hid hE.out.1
      clear hE
      go_wp2
      clear s0 s1 m0 m1
      have HO : Hid (w1.ownsRow w.heap.size 3 1 (.slice none 0 0) (16 * 0) (cellsOf .i64 (16 * 0) (rowF (fun j i => 128))) ∧ Below w.heap.size w w1) := Lib.hid ⟨World.ownsRow_nil _ _ _ _, HB1.out.2⟩
      clear HB1
      
      go_loopw [15, 16] (fun v i wr => ∃ p : Nat, p ≤ 16 ∧ i = .int .i64 p ∧ Hid (wr.ownsRow w.heap.size 3 1 v (16 * p) (cellsOf .i64 (16 * p) (rowF (fun j i => 128))) ∧ Below w.heap.size w wr)) (fun _ i _ => 16 - (intOf i).toNat)
      case atStart => exact ⟨0, by omega, rfl, HO⟩
      case round =>
        obtain ⟨p, hp, rfl, hR⟩ := hrel
        clear HO
        by_cases hlt : p < 16
        · have hbb : decide ((p : Int) < 16) = true := decide_eq_true (by omega)
          go_wp2
          go_loopw [15, 17] (fun v i wr => ∃ q : Nat, q ≤ 16 ∧ i = .int .i64 q ∧ Hid (wr.ownsRow w.heap.size 3 1 v (16 * p + q) (cellsOf .i64 (16 * p + q) (rowF (fun j i => 128))) ∧ Below w.heap.size w wr)) (fun _ i _ => 16 - (intOf i).toNat)
          case atStart => exact ⟨0, by omega, rfl, hR⟩
          case round =>
            obtain ⟨q, hq, rfl, hQ⟩ := hrel
            by_cases hlq : q < 16
            · have HO : Hid (wr.ownsRow w.heap.size 3 1 u15 (16 * p + q) (cellsOf .i64 (16 * p + q) (rowF (fun j i => 128)))) := Lib.hid hQ.out.1
              have hsz := hQ.out.2.size
              have HV : Hid (rowF (fun j i => 128) (16 * p + q) = 128) := Lib.hid (rowF_at _ p q hlq)
              
              go_wp2_with (at_builtin; refine wpList_append_own _ rfl _ _ 32 rfl w.heap.size 3 i0 (.int .i64 0) 1 8 Tryd.underlying32 hi hz0 hz1 hz2 rfl (by decide) _ _ _ rfl (HO.out.alloc _) ⟨wr.heap.size, 0, none⟩ 1 1 [.int .i64 128] rfl rfl (cell_one_new _ _ _) (by simp [Value.oneCell']) (by unfold maxLen; omega) (by omega) (by simp; omega) ?_)
              intro v' w3 hown3 hgrow _
              have HR : Hid (w3.ownsRow w.heap.size 3 1 v' (16 * p + (q + 1)) (cellsOf .i64 (16 * p + (q + 1)) (rowF (fun j i => 128))) ∧ Below w.heap.size w w3) := Lib.hid ⟨by
                rw [show 16 * p + (q + 1) = (16 * p + q) + 1 by omega, cellsOf_succ, HV.out]; exact hown3, ((hQ.out.2).alloc (by exact hsz) _).grown hgrow (by simp; omega) (fun k hk => (HO.out.lt k hk).1)⟩
              clear hown3 hgrow
              go_wp2
              go_roundw
              case rel => exact ⟨q + 1, by omega, by go_num, HR⟩
              case measure => simp [intOf]; omega
            · obtain rfl : q = 16 := by omega
              have HQ : Hid (wr.ownsRow w.heap.size 3 1 u15 (16 * (p + 1)) (cellsOf .i64 (16 * (p + 1)) (rowF (fun j i => 128))) ∧ Below w.heap.size w wr) := Lib.hid (by rw [Nat.mul_add, Nat.mul_one]; exact hQ.out)
              go_wp2
              go_roundw
              case rel => exact ⟨p + 1, by omega, by go_num, HQ⟩
              case measure => simp [intOf]; omega
        · obtain rfl : p = 16 := by omega
          go_wp2
          go_ret
          obtain ⟨a, c, rfl, _, ho⟩ := own_of_cells hR.out.1
          exact ⟨⟨_, _, rfl, ho⟩, hR.out.2⟩
end Go.Proofs.YtmdijdoaijnpaaaDoor
