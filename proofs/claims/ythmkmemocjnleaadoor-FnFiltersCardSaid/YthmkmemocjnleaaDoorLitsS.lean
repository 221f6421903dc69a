/- spec.Literals. -/
import Derived.Test.YthmkmemocjnleaaDoorLits
import Derived.Test.YthmkmemocjnleaaDoorBoolsS
namespace Go.Proofs.YthmkmemocjnleaaDoor
open Go.RowKit
set_option linter.unusedVariables false

theorem stepS_ok' (zs : List Int) (s : SS) (h : OKS zs s) (p : Int) (hp0 : 0 ≤ p) (hp1 : p ≤ 255) : OKS zs (stepS zs s p).2 := (stepS_ok zs s h p hp0 hp1).1
theorem stepS_pos (zs : List Int) (s : SS) (h : OKS zs s) (p : Int) (hp0 : 0 ≤ p) (hp1 : p ≤ 255) : (stepS zs s p).2.pos ≤ s.pos + 7 := (stepS_ok zs s h p hp0 hp1).2
theorem bitsS_ok (zs : List Int) (p : Int) (hp0 : 0 ≤ p) (hp1 : p ≤ 255) (k : Nat) : ∀ (acc : Int) (s : SS), OKS zs s → OKS zs (bitsG (stepS zs) p k acc s).2 ∧ (bitsG (stepS zs) p k acc s).2.pos ≤ s.pos + 7 * k := by
  induction k with
  | zero => intro acc s h; exact ⟨h, by simp [bitsG]⟩
  | succ k ih =>
    intro acc s h
    obtain ⟨h1, h2⟩ := stepS_ok zs s h p hp0 hp1
    obtain ⟨h3, h4⟩ := ih (2 * acc + (if (stepS zs s p).1 then 1 else 0)) (stepS zs s p).2 h1
    rw [bitsG]
    exact ⟨h3, by omega⟩
theorem signS_ok (zs : List Int) (p : Int) (hp0 : 0 ≤ p) (hp1 : p ≤ 255) (k : Nat) (s : SS) (h : OKS zs s) : OKS zs (signG (stepS zs) p k s).2 ∧ (signG (stepS zs) p k s).2.pos ≤ s.pos + 7 * k + 7 := by
  obtain ⟨h1, h2⟩ := bitsS_ok zs p hp0 hp1 k 0 s h
  obtain ⟨h3, h4⟩ := stepS_ok zs _ h1 p hp0 hp1
  unfold signG
  exact ⟨h3, by simp only; omega⟩
theorem optS_ok (zs : List Int) (p : Int) (hp0 : 0 ≤ p) (hp1 : p ≤ 255) (k : Nat) (s : SS) (h : OKS zs s) : OKS zs (optG (stepS zs) p k s).2 ∧ (optG (stepS zs) p k s).2.pos ≤ s.pos + 7 * k + 14 := by
  obtain ⟨h1, h2⟩ := stepS_ok zs s h p hp0 hp1
  unfold optG
  split
  · obtain ⟨h3, h4⟩ := signS_ok zs p hp0 hp1 k _ h1
    exact ⟨h3, by omega⟩
  · exact ⟨h1, by simp only; omega⟩
theorem litS_ok (zs : List Int) (kd p sz : Int) (hp0 : 0 ≤ p) (hp1 : p ≤ 255) (hsz : sz ≤ 24) (s : SS) (h : OKS zs s) : OKS zs (litG (stepS zs) kd p sz s).2 ∧ (litG (stepS zs) kd p sz s).2.pos ≤ s.pos + 182 := by
  unfold litG
  split
  · obtain ⟨h1, h2⟩ := bitsS_ok zs p hp0 hp1 sz.toNat 0 s h
    exact ⟨h1, by omega⟩
  · split
    · obtain ⟨h1, h2⟩ := signS_ok zs p hp0 hp1 sz.toNat s h
      exact ⟨h1, by omega⟩
    · obtain ⟨h1, h2⟩ := optS_ok zs p hp0 hp1 sz.toNat s h
      exact ⟨h1, by omega⟩
theorem stLS_ok (zs : List Int) (f : Nat → Int) (hz : Bytes zs) (h255 : zs.getD 0 0 ≠ 255) (n : Nat) (hf : LitOk f n) (k : Nat) (hk : k ≤ n) : OKS zs (stL (stepS zs) (ss0 zs) f k) ∧ (stL (stepS zs) (ss0 zs) f k).pos ≤ 8 + 182 * k := by
  induction k with
  | zero => exact ⟨ss0_ok zs hz h255, by simp [stL, ss0]⟩
  | succ k ih =>
    obtain ⟨i1, i2⟩ := ih (by omega)
    have hb := hf k (by omega)
    obtain ⟨h1, h2⟩ := litS_ok zs (f (k * 3)) (f (k * 3 + 1)) (f (k * 3 + 2)) hb.2.2.1 hb.2.2.2.1 hb.2.2.2.2.2 _ i1
    exact ⟨h1, by rw [stL]; omega⟩

set_option maxRecDepth 100000 in
set_option maxHeartbeats 1600000 in
theorem LiteralsS_any (ao : Option Addr) (n c : Nat) (zs : List Int) (pa : Option Addr) (pn pc : Nat) (f : Nat → Int) (w : World) (hl : zs.length = n) (hrow : Arg .u8 w ao n (fun i => zs.getD i 0)) (hz : Bytes zs) (h255 : zs.getD 0 0 ≠ 255) (hn : n ≤ 1048576)
    (hp : Arg .i64 w pa (pn * 3) f) (hf : LitOk f pn) (hpn : pn ≤ 4096) :
    Calls Tryd.prog 17 #[.slice ao n c, .slice pa pn pc] w fun e w' => (∃ a c' b, e = .returned (.tuple #[.slice a pn c', .bool b]) ∧ Own .i64 w.heap.size w' a pn (outL (stepS zs) (ss0 zs) f)) ∧ Below w.heap.size w w' := by
  obtain ⟨i0, hi, hz0, hz1, hz2⟩ := info_parts infoInt
  have hok := Lib.hid (stLS_ok zs f hz h255 pn hf)
  have hfar : Hid (0 < n → ∀ a, ao = some a → a.block < w.heap.size + 1) := Lib.hid (fun h0 a ha => by
    obtain ⟨g, o, e, hlt, _⟩ := hrow h0
    rw [ha] at e; injection e with e; subst e
    exact Nat.lt_succ_of_lt hlt)
  have H0 := Lib.hid (And.intro hl (And.intro hrow (And.intro hz (And.intro h255 (And.intro hp hf))))); clear hl hrow hz h255 hp hf
  go_enter Tryd.func17, Tryd.ntmps17
  go_wp2_with fail
  refine (newBools_any ao n c zs w H0.out.1 H0.out.2.1 H0.out.2.2.1 H0.out.2.2.2.1 hn).mono ?_
  rintro _ w1 ⟨rfl, ⟨over, ho⟩, hb⟩
  have H1 := Lib.hid (And.intro ho hb); clear ho hb
  go_wp2
  go_loopw [7, 8] (fun v i wr => ∃ p : Nat, p ≤ pn ∧ i = .int .i64 p ∧ wr.ownsRow (w.heap.size + 1) 3 1 v p (cellsOf .i64 p (outL (stepS zs) (ss0 zs) f)) ∧ Hid ((∃ ov, Sd wr w.heap.size ao n c zs (stL (stepS zs) (ss0 zs) f p).pos (stL (stepS zs) (ss0 zs) f p).v (stL (stepS zs) (ss0 zs) f p).z ov) ∧ Below w.heap.size w wr)) (fun _ i _ => pn - (intOf i).toNat)
  case atStart => exact ⟨0, by omega, rfl, World.ownsRow_nil _ _ _ _, ⟨_, H1.out.1⟩, H1.out.2⟩
  case round =>
    obtain ⟨p, hp, rfl, hown, hR⟩ := hrel
    obtain ⟨ov, hsd⟩ := hR.out.1
    have HR := Lib.hid (And.intro hsd hR.out.2); clear hsd hR
    by_cases hlt : p < pn
    · obtain ⟨ga, oa, rfl, hga, ra⟩ := H0.out.2.2.2.2.1 (by omega)
      have hfp := H0.out.2.2.2.2.2 p hlt
      obtain ⟨o1, o2⟩ := hok.out p hp
      have k0 : wr.cell? ⟨ga, oa + p * 3, none⟩ = some (.int .i64 (f (p * 3))) := (HR.out.2.cell (p := ⟨ga, oa + p * 3, none⟩) hga).trans (ra (p * 3) (by omega))
      have k1 : wr.cell? ⟨ga, oa + p * 3 + 1, none⟩ = some (.int .i64 (f (p * 3 + 1))) := (HR.out.2.cell (p := ⟨ga, oa + p * 3 + 1, none⟩) hga).trans (ra (p * 3 + 1) (by omega))
      have k2 : wr.cell? ⟨ga, oa + p * 3 + 2, none⟩ = some (.int .i64 (f (p * 3 + 2))) := (HR.out.2.cell (p := ⟨ga, oa + p * 3 + 2, none⟩) hga).trans (ra (p * 3 + 2) (by omega))
      have kc : Hid (w.cell? ⟨ga, oa + p * 3, none⟩ = some (.int .i64 (f (p * 3)))) := Lib.hid (ra (p * 3) (by omega))
      obtain ⟨kd, hkd⟩ : ∃ kd, kd = f (p * 3) := ⟨_, rfl⟩
      obtain ⟨pr, hpr⟩ : ∃ pr, pr = f (p * 3 + 1) := ⟨_, rfl⟩
      obtain ⟨k, hk⟩ : ∃ k : Nat, f (p * 3 + 2) = (k : Int) := Int.eq_ofNat_of_zero_le hfp.2.2.2.2.1
      obtain ⟨s0, hs0⟩ : ∃ s0, s0 = stL (stepS zs) (ss0 zs) f p := ⟨_, rfl⟩
      obtain ⟨v, s9, hG⟩ : ∃ v s9, litG (stepS zs) kd pr (k : Int) s0 = (v, s9) := ⟨_, _, rfl⟩
      have hv := litG24 (stepS zs) kd pr (k : Int) s0 (by omega)
      rw [hG] at hv
      obtain ⟨hv0, hv1⟩ := hv
      simp only at hv0 hv1
      have HL : Hid (outL (stepS zs) (ss0 zs) f p = v ∧ stL (stepS zs) (ss0 zs) f (p + 1) = s9) := Lib.hid (by
        unfold outL
        rw [stL, ← hkd, ← hpr, hk, ← hs0, hG]; exact ⟨rfl, rfl⟩)
      rw [← hkd] at k0 kc
      rw [← hpr] at k1
      rw [hk] at k2
      rw [← hs0] at o1 o2 HR
      rw [← hkd, ← hpr, hk] at hfp
      obtain ⟨b0, b1, b2, b3, b4, b5⟩ := hfp
      have b5 : k ≤ 24 := by omega
      have HO := Lib.hid o1
      clear hkd hpr hk hs0 o1
      unfold litG at hG
      rw [Int.toNat_natCast] at hG
      have HGG := Lib.hid hG; clear hG ra
      go_wp2
      go_quiet ((go_at_call 37; exact Calls.quiet_of_same (within_any _ _ _ _ (by omega) (by omega))))
      generalize hw2 : World.drewN _ _ = w2
      have H2 : Hid (Sd w2 w.heap.size ao n c zs s0.pos s0.v s0.z ov ∧ Below w.heap.size w w2 ∧ w2.ownsRow (w.heap.size + 1) 3 1 u7 p (cellsOf .i64 p (outL (stepS zs) (ss0 zs) f))) := by
        rw [← hw2]
        exact Lib.hid ⟨HR.out.1.below (below_drewN (Below.refl _ _) _), below_drewN HR.out.2 _, hown.kept (grownBy_drewN _ _ none) (by cases Value.ownBlock u7 <;> simp)⟩
      have k0 : w2.cell? ⟨ga, oa + p * 3, none⟩ = some (.int .i64 kd) := (H2.out.2.1.cell (p := ⟨ga, oa + p * 3, none⟩) hga).trans kc.out
      clear hw2 hown k1 k2 HR
      by_cases e0 : kd = 0
      · subst e0
        have HG : Hid (bitsG (stepS zs) pr k 0 s0 = (v, s9)) := Lib.hid (by have := HGG.out; rwa [if_pos rfl] at this)

        go_wp2
        go_loopw [11, 12] (fun nv jv wq => ∃ (j : Nat) (acc : Int), j ≤ k ∧ jv = .int .i64 j ∧ nv = .int .i64 acc ∧ Hid (0 ≤ acc ∧ acc + 1 ≤ 2 ^ j ∧ ∃ s', bitsG (stepS zs) pr k 0 s0 = bitsG (stepS zs) pr (k - j) acc s' ∧ OKS zs s' ∧ s'.pos ≤ s0.pos + 7 * j ∧ (∃ oq, Sd wq w.heap.size ao n c zs s'.pos s'.v s'.z oq) ∧ w2.grownBy wq (some w.heap.size))) (fun _ jv _ => k - (intOf jv).toNat)
        case atStart => exact ⟨0, 0, by omega, rfl, rfl, by decide, by decide, s0, rfl, HO.out, by omega, ⟨_, H2.out.1⟩, World.grownBy.refl _ _⟩
        case round =>
          obtain ⟨j, acc, hj, rfl, rfl, hQ⟩ := hrel
          have hpj : (2 : Int) ^ j ≤ 16777216 := by
            have := Int.ofNat_le.2 (Nat.pow_le_pow_right (n := 2) (by omega) (show j ≤ 24 by omega))
            simpa using this
          obtain ⟨ac0, ac1, s', hq1, hq2, hq3, ⟨oq, hq4⟩, hq5⟩ := hQ.out
          have ac2 : acc ≤ 16777216 := by omega
          have HQ := Lib.hid (And.intro hq1 (And.intro hq2 (And.intro hq4 (And.intro hq5 ac1)))); clear hq1 hq2 hq4 hq5 ac1 hQ hpj
          by_cases hjk : j < k
          · go_wp2_with fail
            refine (boolS_any w.heap.size ao n c zs s' oq pr wr HQ.out.2.2.1 HQ.out.2.1 b2 b3 (by omega)).mono ?_
            rintro _ w5 ⟨rfl, ⟨oq2, hd5⟩, g5⟩
            have H5 := Lib.hid (And.intro hd5 (grownBy.trans HQ.out.2.2.2.1 g5)); clear hd5 g5
            have hs5 := stepS_pos zs s' HQ.out.2.1 pr b2 b3
            cases hbit : (stepS zs s' pr).1 with
            | false =>
              have HB := Lib.hid hbit; clear hbit
              go_wp2
              go_roundw
              case rel =>
                refine ⟨j + 1, acc * 2, by omega, by go_num, rfl, by omega, ?_, (stepS zs s' pr).2, ?_, stepS_ok' zs s' HQ.out.2.1 pr b2 b3, by omega, ⟨_, H5.out.1⟩, H5.out.2⟩
                · have := HQ.out.2.2.2.2; rw [Int.pow_succ]; omega
                · rw [HQ.out.1, show k - j = (k - (j + 1)) + 1 by omega, bitsG, HB.out]; simp [Int.mul_comm]
              case measure => simp [intOf]; omega
            | true =>
              have HB := Lib.hid hbit; clear hbit
              go_wp2
              go_roundw
              case rel =>
                refine ⟨j + 1, acc * 2 + 1, by omega, by go_num, rfl, by omega, ?_, (stepS zs s' pr).2, ?_, stepS_ok' zs s' HQ.out.2.1 pr b2 b3, by omega, ⟨_, H5.out.1⟩, H5.out.2⟩
                · have := HQ.out.2.2.2.2; rw [Int.pow_succ]; omega
                · rw [HQ.out.1, show k - j = (k - (j + 1)) + 1 by omega, bitsG, HB.out]; simp [Int.mul_comm]
              case measure => simp [intOf]; omega
          · obtain rfl : j = k := by omega
            have hfin : bitsG (stepS zs) pr j 0 s0 = (acc, s') := by rw [HQ.out.1, Nat.sub_self, bitsG]
            have hFin := Lib.hid hfin; clear hfin
            have H6 : Hid (Sd wr w.heap.size ao n c zs s'.pos s'.v s'.z oq ∧ Below w.heap.size w wr ∧ wr.ownsRow (w.heap.size + 1) 3 1 u7 p (cellsOf .i64 p (outL (stepS zs) (ss0 zs) f))) := Lib.hid ⟨HQ.out.2.2.1, H2.out.2.1.grown HQ.out.2.2.2.1 (Nat.le_of_lt (SObj.lt H2.out.1.obj)) (fun k hk => by injection hk with hk; omega), H2.out.2.2.kept HQ.out.2.2.2.1 (.inr (fun e => by have := H2.out.2.2.lt _ e; omega))⟩
            have k6 : wr.cell? ⟨ga, oa + p * 3, none⟩ = some (.int .i64 0) := (H6.out.2.1.cell (p := ⟨ga, oa + p * 3, none⟩) hga).trans kc.out
            clear k0

            have hs6 : w.heap.size + 1 ≤ wr.heap.size := SObj.lt H6.out.1.obj
            have HF := H6
            have hown3 := H6.out.2.2
            have hve : v = acc ∧ s9 = s' := by
              have e := HG.out
              rw [hFin.out] at e
              injection e with e1 e2
              exact ⟨e1.symm, e2.symm⟩
            have HVE := Lib.hid hve; clear hve
            go_wp2_with (at_builtin; refine wpList_append_own _ rfl _ _ 23 rfl (w.heap.size + 1) 3 i0 (.int .i64 0) 1 8 Tryd.underlying23 hi hz0 hz1 hz2 rfl (by decide) _ _ _ rfl (hown3.alloc _) ⟨wr.heap.size, 0, none⟩ 1 1 [.int .i64 acc] rfl rfl (cell_one_new _ _ _) (by simp [Value.oneCell']) (by unfold maxLen; omega) (by omega) (by simp; omega) ?_)
            intro v' w9 hown9 hgrow _
            have R1 : w9.ownsRow (w.heap.size + 1) 3 1 v' (p + 1) (cellsOf .i64 (p + 1) (outL (stepS zs) (ss0 zs) f)) := by
              rw [cellsOf_succ, show outL (stepS zs) (ss0 zs) f p = acc from HL.out.1.trans HVE.out.1]; exact hown9
            have R2 : Sd w9 w.heap.size ao n c zs (stL (stepS zs) (ss0 zs) f (p + 1)).pos (stL (stepS zs) (ss0 zs) f (p + 1)).v (stL (stepS zs) (ss0 zs) f (p + 1)).z oq := by
              rw [show stL (stepS zs) (ss0 zs) f (p + 1) = s' from HL.out.2.trans HVE.out.2]
              exact (HF.out.1.below ((Below.refl _ _).alloc (Nat.le_refl _) _)).grown hgrow (w.heap.size + 1) (fun k hk => by have := (hown3.lt k hk).1; omega) hfar.out
            have R3 : Below w.heap.size w w9 := (HF.out.2.1.alloc (by omega) _).grown hgrow (by simp; omega) (fun k hk => by have := (hown3.lt k hk).1; omega)
            clear hown9 hgrow hown3 HF
            go_wp2
            go_roundw
            case rel => exact ⟨p + 1, by omega, by go_num, R1, ⟨_, R2⟩, R3⟩
            case measure => simp [intOf]; omega
      by_cases e1 : kd = 1
      · subst e1
        have HG : Hid (signG (stepS zs) pr k s0 = (v, s9)) := Lib.hid (by have := HGG.out; rwa [if_neg (by decide), if_pos rfl] at this)

        go_wp2
        go_loopw [11, 12] (fun nv jv wq => ∃ (j : Nat) (acc : Int), j ≤ k ∧ jv = .int .i64 j ∧ nv = .int .i64 acc ∧ Hid (0 ≤ acc ∧ acc + 1 ≤ 2 ^ j ∧ ∃ s', bitsG (stepS zs) pr k 0 s0 = bitsG (stepS zs) pr (k - j) acc s' ∧ OKS zs s' ∧ s'.pos ≤ s0.pos + 7 * j ∧ (∃ oq, Sd wq w.heap.size ao n c zs s'.pos s'.v s'.z oq) ∧ w2.grownBy wq (some w.heap.size))) (fun _ jv _ => k - (intOf jv).toNat)
        case atStart => exact ⟨0, 0, by omega, rfl, rfl, by decide, by decide, s0, rfl, HO.out, by omega, ⟨_, H2.out.1⟩, World.grownBy.refl _ _⟩
        case round =>
          obtain ⟨j, acc, hj, rfl, rfl, hQ⟩ := hrel
          have hpj : (2 : Int) ^ j ≤ 16777216 := by
            have := Int.ofNat_le.2 (Nat.pow_le_pow_right (n := 2) (by omega) (show j ≤ 24 by omega))
            simpa using this
          obtain ⟨ac0, ac1, s', hq1, hq2, hq3, ⟨oq, hq4⟩, hq5⟩ := hQ.out
          have ac2 : acc ≤ 16777216 := by omega
          have HQ := Lib.hid (And.intro hq1 (And.intro hq2 (And.intro hq4 (And.intro hq5 ac1)))); clear hq1 hq2 hq4 hq5 ac1 hQ hpj
          by_cases hjk : j < k
          · go_wp2_with fail
            refine (boolS_any w.heap.size ao n c zs s' oq pr wr HQ.out.2.2.1 HQ.out.2.1 b2 b3 (by omega)).mono ?_
            rintro _ w5 ⟨rfl, ⟨oq2, hd5⟩, g5⟩
            have H5 := Lib.hid (And.intro hd5 (grownBy.trans HQ.out.2.2.2.1 g5)); clear hd5 g5
            have hs5 := stepS_pos zs s' HQ.out.2.1 pr b2 b3
            cases hbit : (stepS zs s' pr).1 with
            | false =>
              have HB := Lib.hid hbit; clear hbit
              go_wp2
              go_roundw
              case rel =>
                refine ⟨j + 1, acc * 2, by omega, by go_num, rfl, by omega, ?_, (stepS zs s' pr).2, ?_, stepS_ok' zs s' HQ.out.2.1 pr b2 b3, by omega, ⟨_, H5.out.1⟩, H5.out.2⟩
                · have := HQ.out.2.2.2.2; rw [Int.pow_succ]; omega
                · rw [HQ.out.1, show k - j = (k - (j + 1)) + 1 by omega, bitsG, HB.out]; simp [Int.mul_comm]
              case measure => simp [intOf]; omega
            | true =>
              have HB := Lib.hid hbit; clear hbit
              go_wp2
              go_roundw
              case rel =>
                refine ⟨j + 1, acc * 2 + 1, by omega, by go_num, rfl, by omega, ?_, (stepS zs s' pr).2, ?_, stepS_ok' zs s' HQ.out.2.1 pr b2 b3, by omega, ⟨_, H5.out.1⟩, H5.out.2⟩
                · have := HQ.out.2.2.2.2; rw [Int.pow_succ]; omega
                · rw [HQ.out.1, show k - j = (k - (j + 1)) + 1 by omega, bitsG, HB.out]; simp [Int.mul_comm]
              case measure => simp [intOf]; omega
          · obtain rfl : j = k := by omega
            have hfin : bitsG (stepS zs) pr j 0 s0 = (acc, s') := by rw [HQ.out.1, Nat.sub_self, bitsG]
            have hFin := Lib.hid hfin; clear hfin
            have H6 : Hid (Sd wr w.heap.size ao n c zs s'.pos s'.v s'.z oq ∧ Below w.heap.size w wr ∧ wr.ownsRow (w.heap.size + 1) 3 1 u7 p (cellsOf .i64 p (outL (stepS zs) (ss0 zs) f))) := Lib.hid ⟨HQ.out.2.2.1, H2.out.2.1.grown HQ.out.2.2.2.1 (Nat.le_of_lt (SObj.lt H2.out.1.obj)) (fun k hk => by injection hk with hk; omega), H2.out.2.2.kept HQ.out.2.2.2.1 (.inr (fun e => by have := H2.out.2.2.lt _ e; omega))⟩
            have k6 : wr.cell? ⟨ga, oa + p * 3, none⟩ = some (.int .i64 1) := (H6.out.2.1.cell (p := ⟨ga, oa + p * 3, none⟩) hga).trans kc.out
            clear k0

            go_wp2_with fail
            refine (boolS_any w.heap.size ao n c zs s' oq pr wr H6.out.1 HQ.out.2.1 b2 b3 (by omega)).mono ?_
            rintro _ w7 ⟨rfl, ⟨ov7, hd7⟩, g7⟩
            have HF : Hid (Sd w7 w.heap.size ao n c zs (stepS zs s' pr).2.pos (stepS zs s' pr).2.v (stepS zs s' pr).2.z ov7 ∧ Below w.heap.size w w7 ∧ True) := Lib.hid ⟨hd7, H6.out.2.1.grown g7 (Nat.le_of_lt (SObj.lt H6.out.1.obj)) (fun k hk => by injection hk with hk; omega), trivial⟩
            have hown3 : w7.ownsRow (w.heap.size + 1) 3 1 u7 p (cellsOf .i64 p (outL (stepS zs) (ss0 zs) f)) := H6.out.2.2.kept g7 (.inr (fun e => by have := H6.out.2.2.lt _ e; omega))
            have hs6 : w.heap.size + 1 ≤ w7.heap.size := SObj.lt hd7.obj
            clear hd7 g7
            have hve : v = (if (stepS zs s' pr).1 then -acc else acc) ∧ s9 = (stepS zs s' pr).2 := by
              have e := HG.out
              unfold signG at e
              rw [hFin.out] at e
              injection e with e1 e2
              exact ⟨e1.symm, e2.symm⟩
            cases hbit : (stepS zs s' pr).1 with
            | false =>
              rw [hbit] at hve
              have HVE := Lib.hid hve; clear hve hbit
              go_wp2_with (at_builtin; refine wpList_append_own _ rfl _ _ 23 rfl (w.heap.size + 1) 3 i0 (.int .i64 0) 1 8 Tryd.underlying23 hi hz0 hz1 hz2 rfl (by decide) _ _ _ rfl (hown3.alloc _) ⟨w7.heap.size, 0, none⟩ 1 1 [.int .i64 acc] rfl rfl (cell_one_new _ _ _) (by simp [Value.oneCell']) (by unfold maxLen; omega) (by omega) (by simp; omega) ?_)
              intro v' w9 hown9 hgrow _
              have R1 : w9.ownsRow (w.heap.size + 1) 3 1 v' (p + 1) (cellsOf .i64 (p + 1) (outL (stepS zs) (ss0 zs) f)) := by
                rw [cellsOf_succ, show outL (stepS zs) (ss0 zs) f p = acc from HL.out.1.trans (by simpa using HVE.out.1)]; exact hown9
              have R2 : Sd w9 w.heap.size ao n c zs (stL (stepS zs) (ss0 zs) f (p + 1)).pos (stL (stepS zs) (ss0 zs) f (p + 1)).v (stL (stepS zs) (ss0 zs) f (p + 1)).z ov7 := by
                rw [show stL (stepS zs) (ss0 zs) f (p + 1) = (stepS zs s' pr).2 from HL.out.2.trans HVE.out.2]
                exact (HF.out.1.below ((Below.refl _ _).alloc (Nat.le_refl _) _)).grown hgrow (w.heap.size + 1) (fun k hk => by have := (hown3.lt k hk).1; omega) hfar.out
              have R3 : Below w.heap.size w w9 := (HF.out.2.1.alloc (by omega) _).grown hgrow (by simp; omega) (fun k hk => by have := (hown3.lt k hk).1; omega)
              clear hown9 hgrow hown3 HF
              go_wp2
              go_roundw
              case rel => exact ⟨p + 1, by omega, by go_num, R1, ⟨_, R2⟩, R3⟩
              case measure => simp [intOf]; omega

            | true =>
              rw [hbit] at hve
              have HVE := Lib.hid hve; clear hve hbit
              go_wp2_with (at_builtin; refine wpList_append_own _ rfl _ _ 23 rfl (w.heap.size + 1) 3 i0 (.int .i64 0) 1 8 Tryd.underlying23 hi hz0 hz1 hz2 rfl (by decide) _ _ _ rfl (hown3.alloc _) ⟨w7.heap.size, 0, none⟩ 1 1 [.int .i64 (-acc)] rfl rfl (cell_one_new _ _ _) (by simp [Value.oneCell']) (by unfold maxLen; omega) (by omega) (by simp; omega) ?_)
              intro v' w9 hown9 hgrow _
              have R1 : w9.ownsRow (w.heap.size + 1) 3 1 v' (p + 1) (cellsOf .i64 (p + 1) (outL (stepS zs) (ss0 zs) f)) := by
                rw [cellsOf_succ, show outL (stepS zs) (ss0 zs) f p = (-acc) from HL.out.1.trans (by simpa using HVE.out.1)]; exact hown9
              have R2 : Sd w9 w.heap.size ao n c zs (stL (stepS zs) (ss0 zs) f (p + 1)).pos (stL (stepS zs) (ss0 zs) f (p + 1)).v (stL (stepS zs) (ss0 zs) f (p + 1)).z ov7 := by
                rw [show stL (stepS zs) (ss0 zs) f (p + 1) = (stepS zs s' pr).2 from HL.out.2.trans HVE.out.2]
                exact (HF.out.1.below ((Below.refl _ _).alloc (Nat.le_refl _) _)).grown hgrow (w.heap.size + 1) (fun k hk => by have := (hown3.lt k hk).1; omega) hfar.out
              have R3 : Below w.heap.size w w9 := (HF.out.2.1.alloc (by omega) _).grown hgrow (by simp; omega) (fun k hk => by have := (hown3.lt k hk).1; omega)
              clear hown9 hgrow hown3 HF
              go_wp2
              go_roundw
              case rel => exact ⟨p + 1, by omega, by go_num, R1, ⟨_, R2⟩, R3⟩
              case measure => simp [intOf]; omega
      · obtain rfl : kd = 2 := by omega
        have HG : Hid (optG (stepS zs) pr k s0 = (v, s9)) := Lib.hid (by have := HGG.out; rwa [if_neg (by decide), if_neg (by decide)] at this)
        go_wp2_with fail
        refine (boolS_any w.heap.size ao n c zs s0 ov pr w2 H2.out.1 HO.out b2 b3 (by omega)).mono ?_
        rintro _ w3 ⟨rfl, ⟨ov3, hd3⟩, g3⟩
        have H3 : Hid (Sd w3 w.heap.size ao n c zs (stepS zs s0 pr).2.pos (stepS zs s0 pr).2.v (stepS zs s0 pr).2.z ov3 ∧ Below w.heap.size w w3 ∧ w3.ownsRow (w.heap.size + 1) 3 1 u7 p (cellsOf .i64 p (outL (stepS zs) (ss0 zs) f))) := Lib.hid ⟨hd3, H2.out.2.1.grown g3 (Nat.le_of_lt (SObj.lt H2.out.1.obj)) (fun k hk => by injection hk with hk; omega), H2.out.2.2.kept g3 (.inr (fun e => by have := H2.out.2.2.lt _ e; omega))⟩
        have hs3 : w.heap.size + 1 ≤ w3.heap.size := SObj.lt hd3.obj
        have k0 : w3.cell? ⟨ga, oa + p * 3, none⟩ = some (.int .i64 2) := (H3.out.2.1.cell (p := ⟨ga, oa + p * 3, none⟩) hga).trans kc.out
        clear hd3 g3
        have hp1 := stepS_pos zs s0 HO.out pr b2 b3
        have HO1 := Lib.hid (stepS_ok' zs s0 HO.out pr b2 b3)
        obtain ⟨s1, hs1⟩ : ∃ s1, s1 = (stepS zs s0 pr).2 := ⟨_, rfl⟩
        have HG2 := HG.out
        unfold optG at HG2
        rw [← hs1] at HG2 H3 hp1 HO1
        cases hbit : (stepS zs s0 pr).1 with
        | false =>
          rw [hbit] at HG2
          have hve : (0 : Int) = v ∧ s1 = s9 := by
            simp only [Bool.false_eq_true, if_false] at HG2
            injection HG2 with e1 e2
            exact ⟨e1, e2⟩
          have HVE := Lib.hid hve; clear hve hbit HG2 hs1
          have HF := H3
          have hown3 := H3.out.2.2
          go_wp2_with (at_builtin; refine wpList_append_own _ rfl _ _ 23 rfl (w.heap.size + 1) 3 i0 (.int .i64 0) 1 8 Tryd.underlying23 hi hz0 hz1 hz2 rfl (by decide) _ _ _ rfl (hown3.alloc _) ⟨w3.heap.size, 0, none⟩ 1 1 [.int .i64 0] rfl rfl (cell_one_new _ _ _) (by simp [Value.oneCell']) (by unfold maxLen; omega) (by omega) (by simp; omega) ?_)
          intro v' w9 hown9 hgrow _
          have R1 : w9.ownsRow (w.heap.size + 1) 3 1 v' (p + 1) (cellsOf .i64 (p + 1) (outL (stepS zs) (ss0 zs) f)) := by
            rw [cellsOf_succ, show outL (stepS zs) (ss0 zs) f p = 0 from HL.out.1.trans HVE.out.1.symm]; exact hown9
          have R2 : Sd w9 w.heap.size ao n c zs (stL (stepS zs) (ss0 zs) f (p + 1)).pos (stL (stepS zs) (ss0 zs) f (p + 1)).v (stL (stepS zs) (ss0 zs) f (p + 1)).z ov3 := by
            rw [show stL (stepS zs) (ss0 zs) f (p + 1) = s1 from HL.out.2.trans HVE.out.2.symm]
            exact (HF.out.1.below ((Below.refl _ _).alloc (Nat.le_refl _) _)).grown hgrow (w.heap.size + 1) (fun k hk => by have := (hown3.lt k hk).1; omega) hfar.out
          have R3 : Below w.heap.size w w9 := (HF.out.2.1.alloc (by omega) _).grown hgrow (by simp; omega) (fun k hk => by have := (hown3.lt k hk).1; omega)
          clear hown9 hgrow hown3 HF
          go_wp2
          go_roundw
          case rel => exact ⟨p + 1, by omega, by go_num, R1, ⟨_, R2⟩, R3⟩
          case measure => simp [intOf]; omega
        | true =>
          rw [hbit] at HG2
          simp only [if_true] at HG2
          have HG3 : Hid (signG (stepS zs) pr k s1 = (v, s9)) := Lib.hid HG2
          clear HG2 hs1 hbit

          go_wp2
          go_loopw [11, 12] (fun nv jv wq => ∃ (j : Nat) (acc : Int), j ≤ k ∧ jv = .int .i64 j ∧ nv = .int .i64 acc ∧ Hid (0 ≤ acc ∧ acc + 1 ≤ 2 ^ j ∧ ∃ s', bitsG (stepS zs) pr k 0 s1 = bitsG (stepS zs) pr (k - j) acc s' ∧ OKS zs s' ∧ s'.pos ≤ s1.pos + 7 * j ∧ (∃ oq, Sd wq w.heap.size ao n c zs s'.pos s'.v s'.z oq) ∧ w3.grownBy wq (some w.heap.size))) (fun _ jv _ => k - (intOf jv).toNat)
          case atStart => exact ⟨0, 0, by omega, rfl, rfl, by decide, by decide, s1, rfl, HO1.out, by omega, ⟨_, H3.out.1⟩, World.grownBy.refl _ _⟩
          case round =>
            obtain ⟨j, acc, hj, rfl, rfl, hQ⟩ := hrel
            have hpj : (2 : Int) ^ j ≤ 16777216 := by
              have := Int.ofNat_le.2 (Nat.pow_le_pow_right (n := 2) (by omega) (show j ≤ 24 by omega))
              simpa using this
            obtain ⟨ac0, ac1, s', hq1, hq2, hq3, ⟨oq, hq4⟩, hq5⟩ := hQ.out
            have ac2 : acc ≤ 16777216 := by omega
            have HQ := Lib.hid (And.intro hq1 (And.intro hq2 (And.intro hq4 (And.intro hq5 ac1)))); clear hq1 hq2 hq4 hq5 ac1 hQ hpj
            by_cases hjk : j < k
            · go_wp2_with fail
              refine (boolS_any w.heap.size ao n c zs s' oq pr wr HQ.out.2.2.1 HQ.out.2.1 b2 b3 (by omega)).mono ?_
              rintro _ w5 ⟨rfl, ⟨oq2, hd5⟩, g5⟩
              have H5 := Lib.hid (And.intro hd5 (grownBy.trans HQ.out.2.2.2.1 g5)); clear hd5 g5
              have hs5 := stepS_pos zs s' HQ.out.2.1 pr b2 b3
              cases hbit : (stepS zs s' pr).1 with
              | false =>
                have HB := Lib.hid hbit; clear hbit
                go_wp2
                go_roundw
                case rel =>
                  refine ⟨j + 1, acc * 2, by omega, by go_num, rfl, by omega, ?_, (stepS zs s' pr).2, ?_, stepS_ok' zs s' HQ.out.2.1 pr b2 b3, by omega, ⟨_, H5.out.1⟩, H5.out.2⟩
                  · have := HQ.out.2.2.2.2; rw [Int.pow_succ]; omega
                  · rw [HQ.out.1, show k - j = (k - (j + 1)) + 1 by omega, bitsG, HB.out]; simp [Int.mul_comm]
                case measure => simp [intOf]; omega
              | true =>
                have HB := Lib.hid hbit; clear hbit
                go_wp2
                go_roundw
                case rel =>
                  refine ⟨j + 1, acc * 2 + 1, by omega, by go_num, rfl, by omega, ?_, (stepS zs s' pr).2, ?_, stepS_ok' zs s' HQ.out.2.1 pr b2 b3, by omega, ⟨_, H5.out.1⟩, H5.out.2⟩
                  · have := HQ.out.2.2.2.2; rw [Int.pow_succ]; omega
                  · rw [HQ.out.1, show k - j = (k - (j + 1)) + 1 by omega, bitsG, HB.out]; simp [Int.mul_comm]
                case measure => simp [intOf]; omega
            · obtain rfl : j = k := by omega
              have hfin : bitsG (stepS zs) pr j 0 s1 = (acc, s') := by rw [HQ.out.1, Nat.sub_self, bitsG]
              have hFin := Lib.hid hfin; clear hfin
              have H6 : Hid (Sd wr w.heap.size ao n c zs s'.pos s'.v s'.z oq ∧ Below w.heap.size w wr ∧ wr.ownsRow (w.heap.size + 1) 3 1 u7 p (cellsOf .i64 p (outL (stepS zs) (ss0 zs) f))) := Lib.hid ⟨HQ.out.2.2.1, H3.out.2.1.grown HQ.out.2.2.2.1 (Nat.le_of_lt (SObj.lt H3.out.1.obj)) (fun k hk => by injection hk with hk; omega), H3.out.2.2.kept HQ.out.2.2.2.1 (.inr (fun e => by have := H3.out.2.2.lt _ e; omega))⟩
              have k6 : wr.cell? ⟨ga, oa + p * 3, none⟩ = some (.int .i64 2) := (H6.out.2.1.cell (p := ⟨ga, oa + p * 3, none⟩) hga).trans kc.out
              clear k0

              go_wp2_with fail
              refine (boolS_any w.heap.size ao n c zs s' oq pr wr H6.out.1 HQ.out.2.1 b2 b3 (by omega)).mono ?_
              rintro _ w7 ⟨rfl, ⟨ov7, hd7⟩, g7⟩
              have HF : Hid (Sd w7 w.heap.size ao n c zs (stepS zs s' pr).2.pos (stepS zs s' pr).2.v (stepS zs s' pr).2.z ov7 ∧ Below w.heap.size w w7 ∧ True) := Lib.hid ⟨hd7, H6.out.2.1.grown g7 (Nat.le_of_lt (SObj.lt H6.out.1.obj)) (fun k hk => by injection hk with hk; omega), trivial⟩
              have hown3 : w7.ownsRow (w.heap.size + 1) 3 1 u7 p (cellsOf .i64 p (outL (stepS zs) (ss0 zs) f)) := H6.out.2.2.kept g7 (.inr (fun e => by have := H6.out.2.2.lt _ e; omega))
              have hs6 : w.heap.size + 1 ≤ w7.heap.size := SObj.lt hd7.obj
              clear hd7 g7
              have hve : v = (if (stepS zs s' pr).1 then -acc else acc) ∧ s9 = (stepS zs s' pr).2 := by
                have e := HG3.out
                unfold signG at e
                rw [hFin.out] at e
                injection e with e1 e2
                exact ⟨e1.symm, e2.symm⟩
              cases hbit : (stepS zs s' pr).1 with
              | false =>
                rw [hbit] at hve
                have HVE := Lib.hid hve; clear hve hbit
                go_wp2_with (at_builtin; refine wpList_append_own _ rfl _ _ 23 rfl (w.heap.size + 1) 3 i0 (.int .i64 0) 1 8 Tryd.underlying23 hi hz0 hz1 hz2 rfl (by decide) _ _ _ rfl (hown3.alloc _) ⟨w7.heap.size, 0, none⟩ 1 1 [.int .i64 acc] rfl rfl (cell_one_new _ _ _) (by simp [Value.oneCell']) (by unfold maxLen; omega) (by omega) (by simp; omega) ?_)
                intro v' w9 hown9 hgrow _
                have R1 : w9.ownsRow (w.heap.size + 1) 3 1 v' (p + 1) (cellsOf .i64 (p + 1) (outL (stepS zs) (ss0 zs) f)) := by
                  rw [cellsOf_succ, show outL (stepS zs) (ss0 zs) f p = acc from HL.out.1.trans (by simpa using HVE.out.1)]; exact hown9
                have R2 : Sd w9 w.heap.size ao n c zs (stL (stepS zs) (ss0 zs) f (p + 1)).pos (stL (stepS zs) (ss0 zs) f (p + 1)).v (stL (stepS zs) (ss0 zs) f (p + 1)).z ov7 := by
                  rw [show stL (stepS zs) (ss0 zs) f (p + 1) = (stepS zs s' pr).2 from HL.out.2.trans HVE.out.2]
                  exact (HF.out.1.below ((Below.refl _ _).alloc (Nat.le_refl _) _)).grown hgrow (w.heap.size + 1) (fun k hk => by have := (hown3.lt k hk).1; omega) hfar.out
                have R3 : Below w.heap.size w w9 := (HF.out.2.1.alloc (by omega) _).grown hgrow (by simp; omega) (fun k hk => by have := (hown3.lt k hk).1; omega)
                clear hown9 hgrow hown3 HF
                go_wp2
                go_roundw
                case rel => exact ⟨p + 1, by omega, by go_num, R1, ⟨_, R2⟩, R3⟩
                case measure => simp [intOf]; omega

              | true =>
                rw [hbit] at hve
                have HVE := Lib.hid hve; clear hve hbit
                go_wp2_with (at_builtin; refine wpList_append_own _ rfl _ _ 23 rfl (w.heap.size + 1) 3 i0 (.int .i64 0) 1 8 Tryd.underlying23 hi hz0 hz1 hz2 rfl (by decide) _ _ _ rfl (hown3.alloc _) ⟨w7.heap.size, 0, none⟩ 1 1 [.int .i64 (-acc)] rfl rfl (cell_one_new _ _ _) (by simp [Value.oneCell']) (by unfold maxLen; omega) (by omega) (by simp; omega) ?_)
                intro v' w9 hown9 hgrow _
                have R1 : w9.ownsRow (w.heap.size + 1) 3 1 v' (p + 1) (cellsOf .i64 (p + 1) (outL (stepS zs) (ss0 zs) f)) := by
                  rw [cellsOf_succ, show outL (stepS zs) (ss0 zs) f p = (-acc) from HL.out.1.trans (by simpa using HVE.out.1)]; exact hown9
                have R2 : Sd w9 w.heap.size ao n c zs (stL (stepS zs) (ss0 zs) f (p + 1)).pos (stL (stepS zs) (ss0 zs) f (p + 1)).v (stL (stepS zs) (ss0 zs) f (p + 1)).z ov7 := by
                  rw [show stL (stepS zs) (ss0 zs) f (p + 1) = (stepS zs s' pr).2 from HL.out.2.trans HVE.out.2]
                  exact (HF.out.1.below ((Below.refl _ _).alloc (Nat.le_refl _) _)).grown hgrow (w.heap.size + 1) (fun k hk => by have := (hown3.lt k hk).1; omega) hfar.out
                have R3 : Below w.heap.size w w9 := (HF.out.2.1.alloc (by omega) _).grown hgrow (by simp; omega) (fun k hk => by have := (hown3.lt k hk).1; omega)
                clear hown9 hgrow hown3 HF
                go_wp2
                go_roundw
                case rel => exact ⟨p + 1, by omega, by go_num, R1, ⟨_, R2⟩, R3⟩
                case measure => simp [intOf]; omega
    · obtain rfl : p = pn := by omega
      go_wp2_with fail
      refine (isOver_any w.heap.size ao n c _ _ _ _ wr HR.out.1.obj).mono ?_
      rintro _ _ ⟨rfl, rfl⟩
      go_wp2
      go_ret2
      obtain ⟨a, c', rfl, _, ho⟩ := own_of_cells hown
      exact ⟨⟨_, _, _, rfl, ho.mono (Nat.le_succ _)⟩, HR.out.2⟩
end Go.Proofs.YthmkmemocjnleaaDoor
