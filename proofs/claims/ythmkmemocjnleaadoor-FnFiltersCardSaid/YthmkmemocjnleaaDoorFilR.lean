/- The reference's numbers of filters: within, short, boundOf. -/
import Derived.Test.YthmkmemocjnleaaDoorFilG
import Derived.Test.YthmkmemocjnleaaDoorSegL
import Derived.Deep.DeepCutAuto
import Derived.Deep.CutRange
namespace Go.Proofs.YthmkmemocjnleaaDoor
open Go.RowKit
set_option linter.unusedVariables false

/-- A number kept in bounds. -/
def wi (x lo hi : Int) : Int := if (if x < hi then x else hi) < lo then lo else (if x < hi then x else hi)
theorem wi_bd {x lo hi : Int} (h : lo ≤ hi) : lo ≤ wi x lo hi ∧ wi x lo hi ≤ hi := by
  unfold wi
  repeat' split
  all_goals omega
theorem wi_in {x lo hi : Int} (h0 : lo ≤ x) (h1 : x ≤ hi) : wi x lo hi = x := by
  unfold wi
  repeat' split
  all_goals omega
theorem within_wi (x lo hi : Int) (w : World) (h : lo ≤ hi) :
    Calls Tryd.prog 37 #[.int .i64 x, .int .i64 lo, .int .i64 hi] w fun e w' => e = .returned (.int .i64 (wi x lo hi)) ∧ w = w' := by
  obtain ⟨y, hy⟩ : ∃ y, y = wi x lo hi := ⟨_, rfl⟩
  rw [← hy]
  have HY := Lib.hid hy
  clear hy
  by_cases c1 : hi < x
  · have e := Lib.hid (show y = hi by rw [HY.out]; unfold wi; repeat' split <;> omega)
    have hm : (if hi < x then hi else x) = hi := if_pos c1
    go_enter Tryd.func37, Tryd.ntmps37
    go_wp2
    all_goals
      go_ret
      exact ⟨by rw [e.out]; first | rfl | (refine congrArg (fun z => Ending.returned (Value.int .i64 z)) ?_; (repeat' split) <;> omega), rfl⟩
  · have hm : (if hi < x then hi else x) = x := if_neg c1
    by_cases c2 : x < lo
    · have e := Lib.hid (show y = lo by rw [HY.out]; unfold wi; repeat' split <;> omega)
      go_enter Tryd.func37, Tryd.ntmps37
      go_wp2
      all_goals
        go_ret
        exact ⟨by rw [e.out]; first | rfl | (refine congrArg (fun z => Ending.returned (Value.int .i64 z)) ?_; (repeat' split) <;> omega), rfl⟩
    · have e := Lib.hid (show y = x by rw [HY.out]; unfold wi; repeat' split <;> omega)
      go_enter Tryd.func37, Tryd.ntmps37
      go_wp2
      all_goals
        go_ret
        exact ⟨by rw [e.out]; first | rfl | (refine congrArg (fun z => Ending.returned (Value.int .i64 z)) ?_; (repeat' split) <;> omega), rfl⟩
theorem short_any (x : Int) (w : World) :
    Calls Tryd.prog 78 #[.int .i64 x] w fun e w' => e = .returned (.int .i64 (wi x (-128) 127)) ∧ w = w' := by
  go_enter Tryd.func78, Tryd.ntmps78
  go_wp2_with fail
  refine (within_wi x (-128) 127 w (by decide)).mono ?_
  rintro _ _ ⟨rfl, rfl⟩
  go_wp2
  go_ret
  exact ⟨rfl, rfl⟩

theorem two_le {sh L : Int} : ilA sh L = if 0 < sh then (if 9 - sh < (if 4 < sh then L / 2 / 2 else L / 2) then 9 - sh else (if 4 < sh then L / 2 / 2 else L / 2)) else L := by
  unfold ilA
  rw [show L / 2 / 2 = L / 4 by omega]

set_option maxRecDepth 100000 in
set_option maxHeartbeats 1600000 in
theorem boundOf_any (gd : Nat) (L sh : Int) (w : World) (hk : w.cell? ⟨gd, 274, none⟩ = some (.int .i64 sh)) (h0 : 0 ≤ sh) (h1 : sh ≤ 7) (hL0 : 1 ≤ L) (hL1 : L ≤ 63) :
    Calls Tryd.prog 74 #[.pointer (some ⟨gd, 0, none⟩), .int .i64 L] w fun e w' =>
      e = .returned (.agg #[.int .i64 (2 * (L + 2) + ilI sh L), .int .i64 (2 * L + ilI sh L), .int .i64 (ilI sh L), .int .i64 (hiI L)]) ∧ Below w.heap.size w w' := by
  obtain ⟨a, ha⟩ : ∃ a, a = ilA sh L := ⟨_, rfl⟩
  obtain ⟨il, hil⟩ : ∃ il, il = ilI sh L := ⟨_, rfl⟩
  obtain ⟨hi, hhi⟩ : ∃ hi, hi = hiI L := ⟨_, rfl⟩
  have ba := ilA_bd h0 h1 hL0 hL1
  have bi := ilI_bd h0 h1 hL0 hL1
  rw [← ha] at ba
  rw [← hil] at bi
  rw [← hil, ← hhi]
  obtain ⟨ba0, ba1⟩ := ba
  obtain ⟨bi0, bi1⟩ := bi
  have HA := Lib.hid (And.intro (ha.trans two_le) (And.intro (show il = if a < 1 then 1 else a by rw [hil, ha]; rfl) hhi)); clear ha hil hhi
  have hlt := World.block_lt_of_cell? w _ hk
  go_enter Tryd.func74, Tryd.ntmps74
  go_upto_if 15 with fail
  go_cut [5] from 15 (fun s5 wx => s5 = .int .i64 a ∧ wx = w.alloc (.cells #[.int .i64 0, .int .i64 0, .int .i64 0, .int .i64 0] 180))
  case first =>
    go_wp2
    all_goals
      go_meet
      exact ⟨by
        rw [HA.out.1]
        refine congrArg (fun z => Value.int .i64 z) ?_
        (repeat' split) <;> omega, rfl⟩
  case rest =>
    obtain ⟨rfl, rfl⟩ := hcut
    by_cases ca : a < 1
    · have hil : il = 1 := by rw [HA.out.2.1]; exact if_pos ca
      have HIL := Lib.hid hil; clear hil
      by_cases c40 : 40 ≤ L
      · have hh : Hid (hi = 2) := Lib.hid (by rw [HA.out.2.2]; unfold hiI; rw [if_neg (by omega), if_neg (by omega)])
        go_wp2
        refine bodyPost_ret (v := .agg ([.int .i64 (2 * (L + 2) + 1), .int .i64 (2 * L + 1), .int .i64 1, .int .i64 2] : List Value).toArray) ?_ rfl ⟨by rw [HIL.out, hh.out], (Below.refl _ _).alloc (Nat.le_refl _) _⟩
        exact results_one Tryd.results74 rfl (run_loadVar_mid (P := Tryd.prog) _ w.heap.size 0 180 [.int .i64 (2 * (L + 2) + 1), .int .i64 (2 * L + 1), .int .i64 1, .int .i64 2] _ (fun j v hv => by rw [Nat.zero_add]; exact SObj.cell (obj_new w 180 [.int .i64 (2 * (L + 2) + 1), .int .i64 (2 * L + 1), .int .i64 1, .int .i64 2]) j hv) Tryd.underlying180 rfl (by kernel_rfl))
      · have c40' : decide (40 ≤ L) = false := decide_eq_false c40
        by_cases c15 : 15 ≤ L
        · have hh : Hid (hi = 1) := Lib.hid (by rw [HA.out.2.2]; unfold hiI; rw [if_neg (by omega), if_pos (by omega)])
          go_wp2
          refine bodyPost_ret (v := .agg ([.int .i64 (2 * (L + 2) + 1), .int .i64 (2 * L + 1), .int .i64 1, .int .i64 1] : List Value).toArray) ?_ rfl ⟨by rw [HIL.out, hh.out], (Below.refl _ _).alloc (Nat.le_refl _) _⟩
          exact results_one Tryd.results74 rfl (run_loadVar_mid (P := Tryd.prog) _ w.heap.size 0 180 [.int .i64 (2 * (L + 2) + 1), .int .i64 (2 * L + 1), .int .i64 1, .int .i64 1] _ (fun j v hv => by rw [Nat.zero_add]; exact SObj.cell (obj_new w 180 [.int .i64 (2 * (L + 2) + 1), .int .i64 (2 * L + 1), .int .i64 1, .int .i64 1]) j hv) Tryd.underlying180 rfl (by kernel_rfl))
        · have c15' : decide (15 ≤ L) = false := decide_eq_false c15
          have hh : Hid (hi = 0) := Lib.hid (by rw [HA.out.2.2]; unfold hiI; rw [if_pos (by omega)])
          go_wp2
          refine bodyPost_ret (v := .agg ([.int .i64 (2 * (L + 2) + 1), .int .i64 (2 * L + 1), .int .i64 1, .int .i64 0] : List Value).toArray) ?_ rfl ⟨by rw [HIL.out, hh.out], (Below.refl _ _).alloc (Nat.le_refl _) _⟩
          exact results_one Tryd.results74 rfl (run_loadVar_mid (P := Tryd.prog) _ w.heap.size 0 180 [.int .i64 (2 * (L + 2) + 1), .int .i64 (2 * L + 1), .int .i64 1, .int .i64 0] _ (fun j v hv => by rw [Nat.zero_add]; exact SObj.cell (obj_new w 180 [.int .i64 (2 * (L + 2) + 1), .int .i64 (2 * L + 1), .int .i64 1, .int .i64 0]) j hv) Tryd.underlying180 rfl (by kernel_rfl))
    · have ca' : decide (a < 1) = false := decide_eq_false ca
      have hil : il = a := by rw [HA.out.2.1]; exact if_neg ca
      have HIL := Lib.hid hil; clear hil
      by_cases c40 : 40 ≤ L
      · have hh : Hid (hi = 2) := Lib.hid (by rw [HA.out.2.2]; unfold hiI; rw [if_neg (by omega), if_neg (by omega)])
        go_wp2
        refine bodyPost_ret (v := .agg ([.int .i64 (2 * (L + 2) + a), .int .i64 (2 * L + a), .int .i64 a, .int .i64 2] : List Value).toArray) ?_ rfl ⟨by rw [HIL.out, hh.out], (Below.refl _ _).alloc (Nat.le_refl _) _⟩
        exact results_one Tryd.results74 rfl (run_loadVar_mid (P := Tryd.prog) _ w.heap.size 0 180 [.int .i64 (2 * (L + 2) + a), .int .i64 (2 * L + a), .int .i64 a, .int .i64 2] _ (fun j v hv => by rw [Nat.zero_add]; exact SObj.cell (obj_new w 180 [.int .i64 (2 * (L + 2) + a), .int .i64 (2 * L + a), .int .i64 a, .int .i64 2]) j hv) Tryd.underlying180 rfl (by kernel_rfl))
      · have c40' : decide (40 ≤ L) = false := decide_eq_false c40
        by_cases c15 : 15 ≤ L
        · have hh : Hid (hi = 1) := Lib.hid (by rw [HA.out.2.2]; unfold hiI; rw [if_neg (by omega), if_pos (by omega)])
          go_wp2
          refine bodyPost_ret (v := .agg ([.int .i64 (2 * (L + 2) + a), .int .i64 (2 * L + a), .int .i64 a, .int .i64 1] : List Value).toArray) ?_ rfl ⟨by rw [HIL.out, hh.out], (Below.refl _ _).alloc (Nat.le_refl _) _⟩
          exact results_one Tryd.results74 rfl (run_loadVar_mid (P := Tryd.prog) _ w.heap.size 0 180 [.int .i64 (2 * (L + 2) + a), .int .i64 (2 * L + a), .int .i64 a, .int .i64 1] _ (fun j v hv => by rw [Nat.zero_add]; exact SObj.cell (obj_new w 180 [.int .i64 (2 * (L + 2) + a), .int .i64 (2 * L + a), .int .i64 a, .int .i64 1]) j hv) Tryd.underlying180 rfl (by kernel_rfl))
        · have c15' : decide (15 ≤ L) = false := decide_eq_false c15
          have hh : Hid (hi = 0) := Lib.hid (by rw [HA.out.2.2]; unfold hiI; rw [if_pos (by omega)])
          go_wp2
          refine bodyPost_ret (v := .agg ([.int .i64 (2 * (L + 2) + a), .int .i64 (2 * L + a), .int .i64 a, .int .i64 0] : List Value).toArray) ?_ rfl ⟨by rw [HIL.out, hh.out], (Below.refl _ _).alloc (Nat.le_refl _) _⟩
          exact results_one Tryd.results74 rfl (run_loadVar_mid (P := Tryd.prog) _ w.heap.size 0 180 [.int .i64 (2 * (L + 2) + a), .int .i64 (2 * L + a), .int .i64 a, .int .i64 0] _ (fun j v hv => by rw [Nat.zero_add]; exact SObj.cell (obj_new w 180 [.int .i64 (2 * (L + 2) + a), .int .i64 (2 * L + a), .int .i64 a, .int .i64 0]) j hv) Tryd.underlying180 rfl (by kernel_rfl))
end Go.Proofs.YthmkmemocjnleaaDoor
