/- The laws' code.put; what a stream of written symbols tells. -/
import Derived.Test.YtdmefbpfpmkdcaaDoorTurn
namespace Go.Proofs.YtdmefbpfpmkdcaaDoor
open Go.RowKit
set_option linter.unusedVariables false

/-- Symbols as they are written: the stream and how many bits it has. -/
inductive Wrt (c : Nat → Nat) (n : Nat) : List Nat → Nat → Nat → Prop
  | nil : Wrt c n [] 0 0
  | snoc (l : List Nat) (T q s : Nat) (h : Wrt c n l T q) (hs : s < n) (h0 : 0 < c s) : Wrt c n (l ++ [s]) (T + trn (vOf c n s) (c s) * 2 ^ q) (q + c s)
theorem Wrt.rds {c : Nat → Nat} {n : Nat} (hw : Whole c n) {l : List Nat} {T q : Nat} (h : Wrt c n l T q) : T < 2 ^ q ∧ ∀ R N, q ≤ 8 * N → Rds (codesL c n n) (T + R * 2 ^ q) N 0 l q := by
  induction h with
  | nil => exact ⟨by decide, fun R N _ => Rds.nil⟩
  | snoc l T q s h hs h0 ih =>
    obtain ⟨i1, i2⟩ := ih
    have ht := trn_lt (vOf c n s) (c s)
    have hp := Nat.two_pow_pos q
    have hpow : (2 : Nat) ^ (q + c s) = 2 ^ c s * 2 ^ q := by rw [Nat.pow_add, Nat.mul_comm]
    refine ⟨?_, fun R N hN => ?_⟩
    · have h1 : (trn (vOf c n s) (c s) + 1) * 2 ^ q ≤ 2 ^ c s * 2 ^ q := Nat.mul_le_mul_right _ ht
      rw [Nat.add_mul, Nat.one_mul] at h1
      rw [hpow]; omega
    · have e : T + trn (vOf c n s) (c s) * 2 ^ q + R * 2 ^ (q + c s) = T + (trn (vOf c n s) (c s) + R * 2 ^ c s) * 2 ^ q := by
        rw [hpow, Nat.add_mul, ← Nat.mul_assoc, Nat.add_assoc]
      rw [e]
      refine Rds.snoc l q (c s) s (i2 _ N (by omega)) ?_ hN
      unfold Tells
      rw [Nat.add_mul_div_right _ _ hp, Nat.div_eq_of_lt i1, Nat.zero_add, ← pth_mod _ (c s) (c s) (Nat.le_refl _), Nat.add_mul_mod_self_right, Nat.mod_eq_of_lt ht, pth_trn_all]
      refine (mem_codesL c n _ s n).2 ⟨hs, h0, ?_⟩
      have hv := (vOf_code hw hs h0)
      unfold cod
      rw [hv.1, Nat.mod_eq_of_lt hv.2]
theorem Wrt.len {c : Nat → Nat} {n : Nat} (hc : ∀ i, i < n → c i ≤ 15) {l : List Nat} {T q : Nat} (h : Wrt c n l T q) : q ≤ 15 * l.length := by
  induction h with
  | nil => exact Nat.le_refl _
  | snoc l T q s h hs h0 ih => rw [List.length_append, List.length_singleton]; have := hc s hs; omega

set_option maxRecDepth 100000 in
set_option maxHeartbeats 400000 in
theorem cput_any (B g T q s : Nat) (la : Option Addr) (n lc gb : Nat) (f : Nat → Int) (c : Nat → Nat) (w : World) (hb : BWr w B g T q) (hl : Arg .i64 w la n f) (hbt : SObj w gb 3 (cellsOf .i64 n (fun k => (bitF c n 15 0 k : Int)))) (hs : s < n) (hf : f s = (c s : Int)) (h0 : 0 < c s) (h15 : c s ≤ 15) (hq : q ≤ 100000) :
    Calls Tryd.prog 23 #[.agg #[.slice la n lc, .slice (some ⟨gb, 0, none⟩) n n, .bool false], .pointer (some ⟨g, 0, none⟩), .int .i64 s] w fun e w' => e = .returned (.tuple #[]) ∧ BWr w' B g (T + trn (vOf c n s) (c s) * 2 ^ q) (q + c s) ∧ Only (Of w B 5 g) w w' := by
  obtain ⟨ga, oa, rfl, hga, ra⟩ := hl (by omega)
  obtain ⟨x, hx⟩ : ∃ x, x = c s := ⟨_, rfl⟩
  obtain ⟨v, hv⟩ : ∃ v, v = trn (vOf c n s) (c s) := ⟨_, rfl⟩
  have hbv : bitF c n 15 0 s = v := by unfold bitF; rw [if_pos ⟨h0, .inl h15⟩, hv]
  have hv2 : v < 2 ^ x := by rw [hv, hx]; exact trn_lt _ _
  have hv24 : v < 16777216 := by
    have : (2 : Nat) ^ x ≤ 2 ^ 15 := Nat.pow_le_pow_right (by decide) (by omega)
    have e : (2 : Nat) ^ 15 = 32768 := rfl
    omega
  obtain ⟨w1, hw1⟩ : ∃ y, y = w.alloc (.cells #[.slice (some ⟨ga, oa, none⟩) n lc, .slice (some ⟨gb, 0, none⟩) n n, .bool false] 47) := ⟨_, rfl⟩
  have ho1 : Only (fun _ => False) w w1 := by rw [hw1]; exact Only.alloc _ _ _
  have hob : SObj w1 w.heap.size 47 [.slice (some ⟨ga, oa, none⟩) n lc, .slice (some ⟨gb, 0, none⟩) n n, .bool false] := by rw [hw1]; exact obj_new w 47 [.slice (some ⟨ga, oa, none⟩) n lc, .slice (some ⟨gb, 0, none⟩) n n, .bool false]
  obtain ⟨gx, hgx⟩ : ∃ y, y = w.heap.size := ⟨_, rfl⟩
  rw [← hgx] at hob
  have c0 := hob.cell 0 rfl
  have c1 := hob.cell 1 rfl
  have c2 := hob.cell 2 rfl
  have d0 : w1.cell? ⟨ga, oa + s, none⟩ = some (.int .i64 x) := by
    rw [World.cell?_of_block (w := w) (ho1.block ga hga (fun h => h)), ra s hs, hf, hx]
  have d1 : w1.cell? ⟨gb, s, none⟩ = some (.int .i64 v) := by
    have h5 := (hbt.only ho1 (fun h => h)).cell s (by simp [cellsOf, hs] : (cellsOf .i64 n (fun k => (bitF c n 15 0 k : Int)))[s]? = some (.int .i64 (bitF c n 15 0 s : Int)))
    rw [hbv] at h5
    exact h5
  have hb1 : BWr w1 B g T q := hb.only ho1 (fun h => h) (fun _ _ h => h)
  have HP : Hid (∀ d : Nat, Calls Tryd.prog 11 #[.pointer (some ⟨g, 0, none⟩), .int .i64 v, .int .i64 x] (w1.drewN d) fun e w' => e = .returned (.tuple #[]) ∧ BWr w' B g (T + v % 2 ^ x * 2 ^ q) (q + x) ∧ Only (Of (w1.drewN d) B 5 g) (w1.drewN d) w') :=
    Lib.hid (fun d => put_any B g T q v x (w1.drewN d) (hb1.only (Only.drewN (fun _ => False) w1 d) (fun h => h) (fun _ _ h => h)) hv24 (by omega) hq)
  have H := Lib.hid (And.intro hv2 (And.intro hv (And.intro hx ho1)))
  clear hb hl hbt hf ra hbv hb1 hob hv2 hv hx ho1
  go_enter Tryd.func23, Tryd.ntmps23
  go_upto_region 1 with fail
  rw [← hw1, ← hgx]
  clear hw1 hgx
  go_upto_region 2 with fail
  refine wp_region_quiet_tail 11 (by kernel_rfl) (by kernel_rfl) ?_
  simp only [List.take_succ_cons, List.take_zero, List.drop_succ_cons, List.drop_zero]
  repeat (go_big_quiet_step (fail))
  refine wpQuiet_nil ?_
  intro wq hwq
  obtain ⟨nq, rfl⟩ := hwq
  go_wp2_with fail
  refine (HP.out nq).mono ?_
  rintro _ w2 ⟨rfl, hb2, ho2⟩
  have H2 := Lib.hid (And.intro hb2 ho2)
  clear hb2 ho2
  go_wp2
  go_end0
  refine ⟨rfl, ?_, ((H.out.2.2.2.mono (S' := Of w B 5 g) (fun _ h => h.elim)).dN nq).trOf H2.out.2⟩
  have h5 := H2.out.1
  rw [Nat.mod_eq_of_lt H.out.1, H.out.2.1, H.out.2.2.1] at h5
  exact h5
end Go.Proofs.YtdmefbpfpmkdcaaDoor
