/- The package's hTree.insert: a symbol more in the tree of a prefix code. -/
import Derived.Test.YtdmefbpfpmkdcaaDoorInsP
namespace Go.Proofs.YtdmefbpfpmkdcaaDoor
open Go.RowKit
set_option linter.unusedVariables false

/-- The tree behind the symbols A of a code C. -/
def TreeS (C : List (Nat × Nat)) (A : List (Nat × Nat)) (w : World) (gh gn : Nat) : Prop := ∃ P nd lut, Built C P A nd ∧ Lut P A lut ∧ TreeM w gh gn (1 + 2 * P.length) (2 * C.length - 1) nd lut

set_option maxRecDepth 100000 in
set_option maxHeartbeats 400000 in
theorem ins_any (C : List (Nat × Nat)) (I : List Nat) (A : List (Nat × Nat)) (gh gn s l code : Nat) (w : World) (hC : Code C I) (h : TreeS C A w gh gn) (hr : RevT w) (hg : 4 ≠ gh ∧ 4 ≠ gn)
    (hu : (cod l code, s) ∈ C) (hA : ∀ t, (cod l code, t) ∉ A) (hl : l ≤ 15) (hs : s ≤ 65535) (hcode : code < 4294967296) (hn : C.length ≤ 4096) :
    Calls Tryd.prog 63 #[.pointer (some ⟨gh, 0, none⟩), .int .u32 s, .int .u32 code, .int .u32 l] w fun e w' => e = .returned .nilIface ∧ TreeS C (A ++ [(cod l code, s)]) w' gh gn ∧ Only (TwoT gh gn) w w' := by
  obtain ⟨P0, nd0, lut0, b0, t0, m0⟩ := h
  obtain ⟨base, hbase⟩ : ∃ b, b = (if l ≤ 7 then trn code l else trn (code / 2 ^ (l - 7)) 7) := ⟨_, rfl⟩
  have hb128 : base < 128 := by
    rw [hbase]; split
    · have h1 := trn_lt code l
      have h2 : (2 : Nat) ^ l ≤ 2 ^ 7 := Nat.pow_le_pow_right (by decide) (by omega)
      have e : (2 : Nat) ^ 7 = 128 := rfl
      omega
    · exact trn_lt _ 7
  obtain ⟨lut1, hlut1⟩ : ∃ f, f = (if l ≤ 7 then upL lut0 (fun x => x % 2 ^ l = trn code l) (s * 256 + (l + 1)) else lut0) := ⟨_, rfl⟩
  have H := Lib.hid (And.intro hC (And.intro b0 (And.intro t0 (And.intro m0 (And.intro hr (And.intro hg (And.intro hu (And.intro hA (And.intro hbase hlut1)))))))))
  clear hC b0 t0 m0 hr hg hu hA hbase hlut1
  go_enter Tryd.func63, Tryd.ntmps63
  go_upto_if 21 with fail
  go_cut [9] from 10 to 60 (fun s9 wx => s9 = .int .u32 base ∧ Hid (TreeM wx gh gn (1 + 2 * P0.length) (2 * C.length - 1) nd0 lut1 ∧ Only (TwoT gh gn) w wx))
  case first =>
    by_cases h7 : 7 < l
    · obtain ⟨j, rfl⟩ : ∃ j, l = j + 7 := ⟨l - 7, by omega⟩
      have e1 := ins_code code j hcode
      obtain ⟨y, hy⟩ : ∃ y, y = code / 2 ^ j % 256 := ⟨_, rfl⟩
      have hy256 : y < 256 := by rw [hy]; omega
      rw [← hy] at e1
      have cr := H.out.2.2.2.2.1 y hy256
      obtain ⟨z, hz⟩ : ∃ z, z = trn y 8 := ⟨_, rfl⟩
      have hz256 : z < 256 := by rw [hz]; exact trn_lt y 8
      rw [← hz] at cr
      have HY := Lib.hid (And.intro hy hz); clear hy hz
      go_wp2
      go_meet
      case rel =>
        have hb : base = trn (code / 2 ^ j) 7 := by rw [H.out.2.2.2.2.2.2.2.2.1, if_neg (by omega), Nat.add_sub_cancel]
        have h1 := base_long (code / 2 ^ j)
        rw [← HY.out.1, ← HY.out.2, ← hb] at h1
        refine ⟨by rw [← h1]; simp, Lib.hid ⟨?_, Only.refl _ _⟩⟩
        rw [H.out.2.2.2.2.2.2.2.2.2, if_neg (by omega)]
        exact H.out.2.2.2.1
    · have h7' : l ≤ 7 := by omega
      have e1 := ins_code0 code hcode
      obtain ⟨y, hy⟩ : ∃ y, y = code % 256 := ⟨_, rfl⟩
      have hy256 : y < 256 := by rw [hy]; omega
      rw [← hy] at e1
      have cr := H.out.2.2.2.2.1 y hy256
      obtain ⟨z, hz⟩ : ∃ z, z = trn y 8 := ⟨_, rfl⟩
      have hz256 : z < 256 := by rw [hz]; exact trn_lt y 8
      rw [← hz] at cr
      have HY := Lib.hid (And.intro hy hz); clear hy hz
      have hbt : base = trn code l := by rw [H.out.2.2.2.2.2.2.2.2.1, if_pos h7']
      have e3 : (z : Int) / 2 ^ (8 - l) = (base : Int) := by
        have h1 := base_short code l h7'
        rw [← HY.out.1, ← HY.out.2, ← hbt] at h1
        rw [← h1]; simp
      obtain ⟨M, hM⟩ : ∃ M, M = 2 ^ (7 - l) := ⟨_, rfl⟩
      have hML : M * 2 ^ l = 128 := by rw [hM, ← Nat.pow_add, show 7 - l + l = 7 by omega]
      have hM1 : M ≤ 128 := by rw [hM]; exact (Nat.pow_le_pow_right (by decide) (show 7 - l ≤ 7 by omega) : 2 ^ (7 - l) ≤ 2 ^ 7)
      have e5 : wrap64 (2 ^ (7 - l)) = (M : Int) := by
        rw [show (2 : Int) ^ (7 - l) = ((2 ^ (7 - l) : Nat) : Int) by simp, ← hM]
        exact IntWalk.wrap64_in _ ⟨by omega, by omega⟩
      have hbl : base < 2 ^ l := by rw [hbt]; exact trn_lt _ _
      obtain ⟨val, hval⟩ : ∃ v, v = s * 256 + (l + 1) := ⟨_, rfl⟩
      have e7 : bits .or .u32 ((s : Int) * 256) ((l : Int) + 1) = (val : Int) := by
        have h1 := u32_or_nat (s * 256) (l + 1) (by omega) (by omega)
        have h2 := nat_join 8 (s * 256) (l + 1) (by simp) (by omega)
        rw [h2, ← hval] at h1
        rw [← h1]; simp
      have HQ := Lib.hid (And.intro hML (And.intro hbt (And.intro hbl hval))); clear hML hbt hM hbl hval
      go_wp2
      clear e1 e3 cr hy256 hz256
      go_loopg [10] (M + 1) (fun g s10 wr => ∃ i : Nat, s10 = .int .i64 i ∧ i ≤ M ∧ Hid (M < g + i ∧ TreeM wr gh gn (1 + 2 * P0.length) (2 * C.length - 1) nd0 (upL lut0 (fun x => x % 2 ^ l = base ∧ x / 2 ^ l < i) val) ∧ Only (TwoT gh gn) w wr))
      case atStart => exact ⟨0, rfl, Nat.zero_le _, Lib.hid ⟨by omega, H.out.2.2.2.1.congr (fun x _ => by unfold upL; rw [if_neg (fun h => Nat.not_lt_zero _ h.2)]) (fun _ => rfl), Only.refl _ _⟩⟩
      case round =>
        obtain ⟨i, rfl, hi, hR⟩ := hrel
        by_cases hlt : i < M
        · have ⟨e6, hx128⟩ : bits .or .u32 (base : Int) ((i : Int) * 2 ^ l % 4294967296) = ((base + i * 2 ^ l : Nat) : Int) ∧ base + i * 2 ^ l < 128 := by
            have h1 : i * 2 ^ l + 2 ^ l ≤ M * 2 ^ l := by rw [← Nat.succ_mul]; exact Nat.mul_le_mul_right _ hlt
            have h2 := HQ.out.1
            have h3 := HQ.out.2.2.1
            have h4 := u32_or_nat base (i * 2 ^ l) (by omega) (by omega)
            have h5 := nat_join l (i * 2 ^ l) base (Nat.mul_mod_left _ _) h3
            rw [Nat.or_comm, h5] at h4
            refine ⟨?_, by omega⟩
            rw [show (i : Int) * 2 ^ l = ((i * 2 ^ l : Nat) : Int) by simp, Int.emod_eq_of_lt (by omega) (by omega), h4, Nat.add_comm]
          obtain ⟨x, hx⟩ : ∃ x, x = base + i * 2 ^ l := ⟨_, rfl⟩
          rw [← hx] at e6 hx128
          have HX := Lib.hid hx; clear hx
          have cx := hR.out.2.1.obj.cell (1 + x) (hCells_at _ _ x hx128)
          have fx := hR.out.2.1.obj.free (1 + x)
          go_wp2
          go_roundg (gk - 1)
          case measure => have := hR.out.1; omega
          case rel =>
            refine ⟨i + 1, by go_num, by omega, Lib.hid ⟨by have := hR.out.1; omega, (hR.out.2.1.setLut x val).congr (fun z hz => ?_) (fun _ => rfl), hR.out.2.2.tr (Only.setCell _ _ _ (.inl rfl))⟩⟩
            have h3 := HQ.out.2.2.1
            have hx := HX.out
            have hp := Nat.two_pow_pos l
            unfold upL
            by_cases e : z = x
            · rw [if_pos e, if_pos ⟨by rw [e, hx, Nat.add_mul_mod_self_right, Nat.mod_eq_of_lt h3], by rw [e, hx, Nat.add_mul_div_right _ _ hp, Nat.div_eq_of_lt h3]; omega⟩]
            · rw [if_neg e]
              by_cases hq : z % 2 ^ l = base ∧ z / 2 ^ l < i
              · rw [if_pos hq, if_pos ⟨hq.1, by omega⟩]
              · rw [if_neg hq, if_neg (fun h => hq ⟨h.1, ?_⟩)]
                rcases Nat.lt_or_ge (z / 2 ^ l) i with h4 | h4
                · exact h4
                · exfalso
                  apply e
                  have h5 := Nat.mod_add_div z (2 ^ l)
                  rw [h.1, show z / 2 ^ l = i by omega, Nat.mul_comm] at h5
                  omega
        · go_wp2
          go_meet
          case rel =>
            refine ⟨rfl, Lib.hid ⟨hR.out.2.1.congr (fun z hz => ?_) (fun _ => rfl), hR.out.2.2⟩⟩
            obtain rfl : i = M := by omega
            have hM := HQ.out.1
            have hz2 : z / 2 ^ l < i := by rw [Nat.div_lt_iff_lt_mul (Nat.two_pow_pos l)]; omega
            rw [H.out.2.2.2.2.2.2.2.2.2, if_pos h7', ← HQ.out.2.2.2]
            unfold upL
            rw [← HQ.out.2.1]
            by_cases hq : z % 2 ^ l = base
            · rw [if_pos ⟨hq, hz2⟩, if_pos hq]
            · rw [if_neg (fun h => hq h.1), if_neg hq]
  case rest =>
    obtain ⟨rfl, hR0⟩ := hcut
    go_wp2
    go_loopg [3, 11, 12] (l + 1) (fun g s3 s11 s12 wr => ∃ c n : Nat, s3 = .int .u32 c ∧ s11 = .int .u32 n ∧ s12 = .int .i64 (7 - ((l : Int) - c)) ∧ c ≤ l ∧ c < g ∧ Hid (∃ P nd lut, Mid C I P A nd (cod l code) c ∧ LM P A (cod l code) s l c lut ∧ n = idx P (cod l code / 2 ^ c) ∧ TreeM wr gh gn (1 + 2 * P.length) (2 * C.length - 1) nd lut ∧ Only (TwoT gh gn) w wr))
    case atStart =>
      refine ⟨l, 0, rfl, rfl, by go_num, Nat.le_refl _, by omega, P0, nd0, lut1, H.out.2.1.mid H.out.1 l code, ?_, ?_, hR0.out.1, hR0.out.2⟩
      · rw [H.out.2.2.2.2.2.2.2.2.2]; exact LM.start H.out.1 H.out.2.1.sub H.out.2.2.1 H.out.2.2.2.2.2.2.1
      · rw [cod_top]; rfl
    case round =>
      obtain ⟨c, n, rfl, rfl, rfl, hcl, hcg, hR⟩ := hrel
      obtain ⟨P, nd, lut, hm, hlm, hn, ht, ho⟩ := hR.out
      have hP := hm.lt H.out.1
      obtain ⟨L, hL⟩ : ∃ L, L = 1 + 2 * P.length := ⟨_, rfl⟩
      obtain ⟨m, hM⟩ : ∃ m, m = 2 * C.length - 1 := ⟨_, rfl⟩
      rw [← hL, ← hM, ← hn] at hP
      rw [← hL, ← hM] at ht
      have hm8 : m ≤ 8191 := by omega
      obtain ⟨hLm, hnL⟩ := hP
      have n0 := ht.obj.cell 0 rfl
      have hne := ht.ne
      by_cases hc0 : 0 < c
      · obtain ⟨c, rfl⟩ : ∃ j, c = j + 1 := ⟨c - 1, by omega⟩
        have hst := hm.step H.out.1 H.out.2.2.2.2.2.2.1 (by rw [cod_up _ _ _ hcl]; exact cod_pos _ _)
        have hbit : cod l code / 2 ^ c % 2 = code / 2 ^ c % 2 := by rw [cod_step l code c (by omega)]; omega
        rw [hbit] at hst
        obtain ⟨bt, hbt⟩ : ∃ b, b = code / 2 ^ c % 2 := ⟨_, rfl⟩
        have hb1 : bt ≤ 1 := by omega
        have eb : bits .and .u32 1 ((code : Int) / 2 ^ c) = (bt : Int) := by
          have h1 : code / 2 ^ c ≤ code := Nat.div_le_self _ _
          have h2 := u32_and_nat 1 (code / 2 ^ c) (by omega) (by omega)
          rw [show ((1 : Nat) : Int) = 1 from rfl, Nat.and_comm, Nat.and_one_is_mod, ← hbt] at h2
          rw [show (code : Int) / 2 ^ c = ((code / 2 ^ c : Nat) : Int) by simp, h2]
        rw [← hbt, ← hn] at hst
        have ck := ht.nds.cell (n * 2 + 1) (ndCells_kid nd m n (by omega))
        rcases hst with ⟨h1, h2, h3, h4, h5, h6⟩ | ⟨h1, h2, h3, h4⟩
        · rw [h2] at ck
          obtain ⟨k, hk⟩ : ∃ k, k = idx P (2 * (cod l code / 2 ^ (c + 1))) := ⟨_, rfl⟩
          rw [← hk] at ck h3 h4 h5
          rw [← hL] at h4
          have HS := Lib.hid (And.intro h6 (And.intro hlm (And.intro h5 (And.intro ht (And.intro ho (And.intro hL hM))))))
          clear h6 hlm h5 ht ho hL hM hm hn hbit h1 h2 hk hR hbt
          go_upto_region 26 with fail
          clear ck n0 eb
          have hlook := LM.look H.out.1 HS.out.1 H.out.2.2.2.2.2.2.1 HS.out.2.1 (by omega)
          rw [← H.out.2.2.2.2.2.2.2.2.1] at hlook
          have HT := Lib.hid hlook; clear hlook
          by_cases hj : l = c + 7
          · have cb := HS.out.2.2.2.1.obj.cell (1 + base) (hCells_at _ _ base hb128)
            have fb := HS.out.2.2.2.1.obj.free (1 + base)
            obtain ⟨lv, hlv⟩ : ∃ lv, lv = lut base := ⟨_, rfl⟩
            rw [← hlv] at cb
            have HLV := Lib.hid hlv; clear hlv
            by_cases hz : lv = 0
            · subst hz
              go_wp2
              go_roundg (gk - 1)
              case measure => omega
              case rel =>
                refine ⟨c, k + bt, rfl, by go_num, by go_num, by omega, by omega, P, nd, _, HS.out.1, HT.out.1 hj HLV.out.symm, HS.out.2.2.1.symm, ?_, HS.out.2.2.2.2.1.tr (Only.setCell _ _ _ (.inl rfl))⟩
                have := HS.out.2.2.2.1.setLut base ((k + bt) * 256)
                rw [HS.out.2.2.2.2.2.1, HS.out.2.2.2.2.2.2] at this
                rw [HS.out.2.2.1]
                simpa using this
            · go_wp2
              go_roundg (gk - 1)
              case measure => omega
              case rel =>
                refine ⟨c, k + bt, rfl, by go_num, by go_num, by omega, by omega, P, nd, lut, HS.out.1, HT.out.2 (fun _ => by rw [← HLV.out]; exact hz), HS.out.2.2.1.symm, ?_, HS.out.2.2.2.2.1⟩
                have := HS.out.2.2.2.1
                rw [HS.out.2.2.2.2.2.1, HS.out.2.2.2.2.2.2] at this
                exact this
          · go_wp2
            go_roundg (gk - 1)
            case measure => omega
            case rel =>
              refine ⟨c, k + bt, rfl, by go_num, by go_num, by omega, by omega, P, nd, lut, HS.out.1, HT.out.2 (fun e => absurd e hj), HS.out.2.2.1.symm, ?_, HS.out.2.2.2.2.1⟩
              have := HS.out.2.2.2.1
              rw [HS.out.2.2.2.2.2.1, HS.out.2.2.2.2.2.2] at this
              exact this
        · rw [h1] at ck
          have fk := ht.nds.free (n * 2 + 1)
          have hL2 : L + 2 ≤ m := by rw [hL, hM]; exact h2
          rw [← hL] at h3 h4
          have HS := Lib.hid (And.intro h4 (And.intro (hlm.app hm (cod l code / 2 ^ (c + 1))) (And.intro h3 (And.intro ht (And.intro ho (And.intro (show L + 2 = 1 + 2 * (P ++ [cod l code / 2 ^ (c + 1)]).length by rw [List.length_append, List.length_singleton]; omega) hM))))))
          clear h4 hlm h3 ht ho hL hM hm hn hbit h1 h2 hR hbt
          go_upto_region 21 with fail
          go_quiet (fail)
          go_upto_region 23 with fail
          refine wp_region_quiet_tail 13 (by kernel_rfl) (by kernel_rfl) ?_
          simp only [List.take_succ_cons, List.take_zero, List.drop_succ_cons, List.drop_zero]
          repeat (go_big_quiet_step (fail))
          refine wpQuiet_nil ?_
          intro wq hwq
          obtain ⟨nq2, rfl⟩ := hwq
          go_upto_region 24 with fail
          generalize hw1 : World.setCell _ _ _ = w1
          have H1 : Hid (TreeM w1 gh gn L m (upN nd n ((nd n).1, (L : Int))) lut ∧ Only (TwoT gh gn) w w1) := Lib.hid (by
            rw [← hw1]
            exact ⟨(HS.out.2.2.2.1.drewN _).setKid n _, (HS.out.2.2.2.2.1.dN _).tr (Only.setCell _ _ _ (.inr rfl))⟩)
          clear hw1 n0 ck fk
          have n0 := H1.out.1.obj.cell 0 rfl
          have f0 := H1.out.1.obj.free 0
          refine wp_region_quiet_tail 14 (by kernel_rfl) (by kernel_rfl) ?_
          simp only [List.take_succ_cons, List.take_zero, List.drop_succ_cons, List.drop_zero]
          repeat (go_big_quiet_step (fail))
          refine wpQuiet_nil ?_
          intro wq hwq
          obtain ⟨nq2, rfl⟩ := hwq
          go_upto_region 25 with fail
          generalize hw2 : World.setCell _ _ _ = w2
          have H2 : Hid (TreeM w2 gh gn (L + 2) m (upN nd n ((nd n).1, (L : Int))) lut ∧ Only (TwoT gh gn) w w2) := Lib.hid (by
            rw [← hw2]
            exact ⟨(H1.out.1.drewN _).setLen (L + 2), (H1.out.2.dN _).tr (Only.setCell _ _ _ (.inl rfl))⟩)
          clear hw2 n0 f0
          have n0 := H2.out.1.obj.cell 0 rfl
          have ck := H2.out.1.nds.cell (n * 2 + 1) (ndCells_kid _ m n (by omega))
          rw [upN_at] at ck
          have HS := Lib.hid (And.intro HS.out.1 (And.intro HS.out.2.1 (And.intro HS.out.2.2.1 (And.intro H2.out.1 (And.intro H2.out.2 (And.intro HS.out.2.2.2.2.2.1 HS.out.2.2.2.2.2.2))))))
          go_upto_region 26 with fail
          clear ck n0 eb
          have hlook := LM.look H.out.1 HS.out.1 H.out.2.2.2.2.2.2.1 HS.out.2.1 (by omega)
          rw [← H.out.2.2.2.2.2.2.2.2.1] at hlook
          have HT := Lib.hid hlook; clear hlook
          by_cases hj : l = c + 7
          · have cb := HS.out.2.2.2.1.obj.cell (1 + base) (hCells_at _ _ base hb128)
            have fb := HS.out.2.2.2.1.obj.free (1 + base)
            obtain ⟨lv, hlv⟩ : ∃ lv, lv = lut base := ⟨_, rfl⟩
            rw [← hlv] at cb
            have HLV := Lib.hid hlv; clear hlv
            by_cases hz : lv = 0
            · subst hz
              go_wp2
              go_roundg (gk - 1)
              case measure => omega
              case rel =>
                refine ⟨c, L + bt, rfl, by go_num, by go_num, by omega, by omega, (P ++ [cod l code / 2 ^ (c + 1)]), _, _, HS.out.1, HT.out.1 hj HLV.out.symm, HS.out.2.2.1.symm, ?_, HS.out.2.2.2.2.1.tr (Only.setCell _ _ _ (.inl rfl))⟩
                have := HS.out.2.2.2.1.setLut base ((L + bt) * 256)
                rw [HS.out.2.2.2.2.2.1, HS.out.2.2.2.2.2.2] at this
                rw [HS.out.2.2.1]
                simpa using this
            · go_wp2
              go_roundg (gk - 1)
              case measure => omega
              case rel =>
                refine ⟨c, L + bt, rfl, by go_num, by go_num, by omega, by omega, (P ++ [cod l code / 2 ^ (c + 1)]), _, lut, HS.out.1, HT.out.2 (fun _ => by rw [← HLV.out]; exact hz), HS.out.2.2.1.symm, ?_, HS.out.2.2.2.2.1⟩
                have := HS.out.2.2.2.1
                rw [HS.out.2.2.2.2.2.1, HS.out.2.2.2.2.2.2] at this
                exact this
          · go_wp2
            go_roundg (gk - 1)
            case measure => omega
            case rel =>
              refine ⟨c, L + bt, rfl, by go_num, by go_num, by omega, by omega, (P ++ [cod l code / 2 ^ (c + 1)]), _, lut, HS.out.1, HT.out.2 (fun e => absurd e hj), HS.out.2.2.1.symm, ?_, HS.out.2.2.2.2.1⟩
              have := HS.out.2.2.2.1
              rw [HS.out.2.2.2.2.2.1, HS.out.2.2.2.2.2.2] at this
              exact this
      · obtain rfl : c = 0 := by omega
        obtain ⟨d1, d2, d3⟩ := hm.done H.out.1 H.out.2.2.2.2.2.2.1 H.out.2.2.2.2.2.2.2.1
        rw [Nat.pow_zero, Nat.div_one] at hn
        rw [← hn] at d1 d3
        have ck := ht.nds.cell (n * 2 + 1) (ndCells_kid nd m n (by omega))
        rw [d1] at ck
        have fk := ht.nds.free (n * 2 + 1)
        unfold LM at hlm
        rw [if_pos (by omega)] at hlm
        have HS := Lib.hid (And.intro d3 (And.intro hlm (And.intro ht (And.intro ho (And.intro hL hM)))))
        clear hlm ht ho hL hM hm hn d1 d2 d3 hR
        go_upto_region 34 with fail
        generalize hw1 : World.setCell _ _ _ = w1
        have H1 : Hid (TreeM w1 gh gn L m (upN nd n ((nd n).1, -1)) lut ∧ Only (TwoT gh gn) w w1) := Lib.hid (by
          rw [← hw1]
          exact ⟨HS.out.2.2.1.setKid n _, HS.out.2.2.2.1.tr (Only.setCell _ _ _ (.inr rfl))⟩)
        clear hw1 n0 ck fk
        have n0 := H1.out.1.obj.cell 0 rfl
        have cs := H1.out.1.nds.cell (n * 2) (ndCells_sym _ m n (by omega))
        have fs := H1.out.1.nds.free (n * 2)
        go_wp2
        go_ret
        have h2 := H1.out.1.setSym n s
        rw [upN_upN, upN_at, HS.out.2.2.2.2.1, HS.out.2.2.2.2.2] at h2
        exact ⟨rfl, ⟨P, _, lut, HS.out.1, HS.out.2.1, h2⟩, H1.out.2.tr (Only.setCell _ _ _ (.inr rfl))⟩
end Go.Proofs.YtdmefbpfpmkdcaaDoor
