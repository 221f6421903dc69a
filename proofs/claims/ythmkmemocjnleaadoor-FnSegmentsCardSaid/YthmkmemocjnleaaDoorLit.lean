/- Numbers read bit by bit: as plain functions over any decoder, and the package's readUint, readInt, readOptionalInt. -/
import Derived.Test.YthmkmemocjnleaaDoorBools
namespace Go.Proofs.YthmkmemocjnleaaDoor
open Go.RowKit
set_option linter.unusedVariables false

/-- n bits by probability p, the highest first. -/
def bitsG {σ : Type} (step : σ → Int → Bool × σ) (p : Int) : Nat → Int → σ → Int × σ
  | 0, acc, s => (acc, s)
  | n + 1, acc, s => bitsG step p n (2 * acc + (if (step s p).1 then 1 else 0)) (step s p).2
/-- .. with a sign behind. -/
def signG {σ : Type} (step : σ → Int → Bool × σ) (p : Int) (n : Nat) (s : σ) : Int × σ :=
  (if (step (bitsG step p n 0 s).2 p).1 then -(bitsG step p n 0 s).1 else (bitsG step p n 0 s).1, (step (bitsG step p n 0 s).2 p).2)
/-- .. if a bit ahead tells so. -/
def optG {σ : Type} (step : σ → Int → Bool × σ) (p : Int) (n : Nat) (s : σ) : Int × σ :=
  if (step s p).1 then signG step p n (step s p).2 else (0, (step s p).2)

theorem bitsG_range {σ : Type} (step : σ → Int → Bool × σ) (p : Int) (n : Nat) : ∀ (acc : Int) (s : σ), acc * 2 ^ n ≤ (bitsG step p n acc s).1 ∧ (bitsG step p n acc s).1 < (acc + 1) * 2 ^ n := by
  induction n with
  | zero => intro acc s; simp [bitsG]; omega
  | succ n ih =>
    intro acc s
    have h := ih (2 * acc + (if (step s p).1 then 1 else 0)) (step s p).2
    have hp : (0 : Int) < 2 ^ n := Int.pow_pos (by omega)
    rw [bitsG, Int.pow_succ]
    generalize (bitsG step p n (2 * acc + (if (step s p).1 then 1 else 0)) (step s p).2).1 = r at *
    have e1 : acc * (2 ^ n * 2) = (2 * acc) * 2 ^ n := by rw [Int.mul_comm (2 ^ n) 2, ← Int.mul_assoc, Int.mul_comm acc 2]
    have e2 : (acc + 1) * (2 ^ n * 2) = (2 * acc) * 2 ^ n + 2 * 2 ^ n := by
      rw [Int.mul_comm (2 ^ n) 2, ← Int.mul_assoc, ← Int.add_mul]; congr 1; omega
    rw [e1, e2]
    cases hb : (step s p).1 with
    | true => rw [hb] at h; simp only [if_true, Int.add_mul, Int.one_mul] at h; omega
    | false => rw [hb] at h; simp only [Bool.false_eq_true, if_false, Int.add_mul, Int.one_mul, Int.zero_mul] at h; omega

theorem or_pow (acc : Int) (j : Nat) (h0 : 0 ≤ acc) (hj : j ≤ 24) (h1 : acc * 2 * 2 ^ j + 2 ^ j < 4294967296) : bits .or .u32 (acc * 2 * 2 ^ j) (2 ^ j) = (2 * acc + 1) * 2 ^ j := by
  obtain ⟨an, rfl⟩ := Int.eq_ofNat_of_zero_le h0
  have e1 : ((an : Int) * 2 * 2 ^ j) = ((an * 2 * 2 ^ j : Nat) : Int) := by simp
  have e2 : ((2 : Int) ^ j) = ((2 ^ j : Nat) : Int) := by simp
  have hp : 0 < 2 ^ j := Nat.pow_pos (by omega)
  have h1' : an * 2 * 2 ^ j + 2 ^ j < 4294967296 := by
    have := h1; rw [e1, e2] at this; omega
  rw [e1, e2, u32_or_nat _ _ (by omega) (by omega)]
  have hd : an * 2 * 2 ^ j % 2 ^ (j + 1) = 0 := by
    rw [Nat.mul_assoc, ← Nat.pow_succ']; exact Nat.mul_mod_left _ _
  rw [nat_join (j + 1) _ _ hd (Nat.pow_lt_pow_right (by omega) (by omega))]
  simp only [Int.natCast_add, Int.natCast_mul, Int.natCast_pow]
  rw [Int.add_mul]
  simp [Int.mul_comm]

set_option maxRecDepth 100000 in
set_option maxHeartbeats 800000 in
theorem readUint_any (g : Nat) (ao : Option Addr) (n c : Nat) (zs : List Int) (d : DS) (p : Int) (k : Nat) (w : World) (h : Rd w g ao n c zs d) (hp0 : 0 ≤ p) (hp1 : p ≤ 255) (hk : k ≤ 24) :
    Calls Tryd.prog 58 #[.pointer (some ⟨g, 0, none⟩), .int .u8 p, .int .u8 k] w fun e w' =>
      e = .returned (.int .u32 (bitsG (stepP zs) p k 0 d).1) ∧ Rd w' g ao n c zs (bitsG (stepP zs) p k 0 d).2 ∧ w.grownBy w' (some g) := by
  have H := Lib.hid h; clear h
  obtain ⟨R, hR⟩ : ∃ R, R = bitsG (stepP zs) p k 0 d := ⟨_, rfl⟩
  rw [← hR]
  go_enter Tryd.func58, Tryd.ntmps58
  go_wp2
  have HI : Hid (R = bitsG (stepP zs) p k 0 d) := Lib.hid hR
  clear hR
  go_loopw [2, 7] (fun nv u wr => ∃ (j : Nat) (acc : Int), j ≤ k ∧ nv = .int .u8 j ∧ u = .int .u32 (acc * 2 ^ j) ∧ Hid (0 ≤ acc ∧ (acc + 1) * 2 ^ j ≤ 2 ^ k ∧ ∃ d', R = bitsG (stepP zs) p j acc d' ∧ Rd wr g ao n c zs d' ∧ w.grownBy wr (some g))) (fun nv _ _ => (intOf nv).toNat)
  case atStart => exact ⟨k, 0, Nat.le_refl _, rfl, by simp, by omega, by simp, d, HI.out, H.out, World.grownBy.refl _ _⟩
  case round =>
    obtain ⟨j, acc, hj, rfl, rfl, hR⟩ := hrel
    obtain ⟨hacc, hle, d', hRd, hrd, hgr⟩ := hR.out
    clear hR
    by_cases h0 : j = 0
    · subst h0
      have HE := Lib.hid (And.intro hRd (And.intro hrd hgr)); clear hRd hrd hgr hle
      go_wp2
      go_ret
      have e := HE.out.1
      rw [bitsG] at e
      rw [e]
      exact ⟨by simp, HE.out.2⟩
    · obtain ⟨i, rfl⟩ : ∃ i, j = i + 1 := ⟨j - 1, by omega⟩
      have HE := Lib.hid (And.intro hRd (And.intro hrd (And.intro hgr hle))); clear hRd hrd hgr hle
      go_wp2_with fail
      refine (readBit_any g ao n c zs d' p wr HE.out.2.1 hp0 hp1).mono ?_
      rintro _ w2 ⟨rfl, hob, hg2⟩
      have HN : Hid (Rd w2 g ao n c zs (stepP zs d' p).2 ∧ w.grownBy w2 (some g)) := Lib.hid ⟨HE.out.2.1.step hg2 hob (stepP_ok zs d' HE.out.2.1.ok HE.out.2.1.bytes HE.out.2.1.first p hp0 hp1), grownBy.trans HE.out.2.2.1 hg2⟩
      clear hob hg2
      have hle := HE.out.2.2.2
      have hpi : (0 : Int) < 2 ^ i := Int.pow_pos (by omega)
      have hpk : (2 : Int) ^ k ≤ 16777216 := by
        have := Int.ofNat_le.2 (Nat.pow_le_pow_right (n := 2) (by omega) hk)
        simpa using this
      have ea : acc * 2 ^ (i + 1) = acc * 2 * 2 ^ i := by rw [Int.pow_succ, Int.mul_comm (2 ^ i) 2, ← Int.mul_assoc]
      have eb : (acc + 1) * 2 ^ (i + 1) = acc * 2 * 2 ^ i + 2 * 2 ^ i := by rw [Int.add_mul, ea, Int.one_mul, Int.pow_succ, Int.mul_comm (2 ^ i) 2]
      rw [eb] at hle
      have hor := or_pow acc i hacc (by omega) (by omega)
      have ha0 : 0 ≤ acc * 2 * 2 ^ i := Int.mul_nonneg (by omega) (by omega)
      rw [ea]
      have hb1 : Hid (acc * 2 * 2 ^ i = 2 * acc * 2 ^ i ∧ (2 * acc + 1) * 2 ^ i ≤ 2 ^ k ∧ (2 * acc + 1 + 1) * 2 ^ i ≤ 2 ^ k) := Lib.hid (by
        rw [Int.mul_comm acc 2] at hle ha0 ⊢
        refine ⟨rfl, ?_, ?_⟩
        · rw [Int.add_mul]; omega
        · rw [Int.add_mul, Int.add_mul]; omega)
      cases hbit : (stepP zs d' p).1 with
      | false =>
        have HB := Lib.hid hbit; clear hbit hor eb ea
        go_wp2
        go_roundw
        case rel =>
          refine ⟨i, 2 * acc, by omega, rfl, by rw [hb1.out.1], by omega, hb1.out.2.1, _, ?_, HN.out⟩
          rw [HE.out.1, bitsG, HB.out]; simp
        case measure => simp [intOf]
      | true =>
        have HB := Lib.hid hbit
        have HO := Lib.hid hor
        clear hbit hor eb ea
        go_wp2
        go_roundw
        case rel =>
          refine ⟨i, 2 * acc + 1, by omega, rfl, by rw [HO.out], by omega, hb1.out.2.2, _, ?_, HN.out⟩
          rw [HE.out.1, bitsG, HB.out]; simp
        case measure => simp [intOf]

theorem bits24 (zs : List Int) (p : Int) (k : Nat) (d : DS) (hk : k ≤ 24) : 0 ≤ (bitsG (stepP zs) p k 0 d).1 ∧ (bitsG (stepP zs) p k 0 d).1 ≤ 16777215 := by
  have h := bitsG_range (stepP zs) p k 0 d
  have hpk : (2 : Int) ^ k ≤ 16777216 := by
    have := Int.ofNat_le.2 (Nat.pow_le_pow_right (n := 2) (by omega) hk)
    simpa using this
  simp only [Int.zero_mul, Int.zero_add, Int.one_mul] at h
  omega

set_option maxRecDepth 100000 in
theorem readInt_any (g : Nat) (ao : Option Addr) (n c : Nat) (zs : List Int) (d : DS) (p : Int) (k : Nat) (w : World) (h : Rd w g ao n c zs d) (hp0 : 0 ≤ p) (hp1 : p ≤ 255) (hk : k ≤ 24) :
    Calls Tryd.prog 59 #[.pointer (some ⟨g, 0, none⟩), .int .u8 p, .int .u8 k] w fun e w' =>
      e = .returned (.int .i32 (signG (stepP zs) p k d).1) ∧ Rd w' g ao n c zs (signG (stepP zs) p k d).2 ∧ w.grownBy w' (some g) := by
  obtain ⟨v, d1, hR⟩ : ∃ v d1, bitsG (stepP zs) p k 0 d = (v, d1) := ⟨_, _, rfl⟩
  obtain ⟨b, d2, hS⟩ : ∃ b d2, stepP zs d1 p = (b, d2) := ⟨_, _, rfl⟩
  obtain ⟨v0, v1⟩ := bits24 zs p k d hk
  unfold signG
  rw [hR] at v0 v1 ⊢
  simp only at v0 v1 ⊢
  rw [hS]
  simp only
  have H := Lib.hid (And.intro h (And.intro hR hS)); clear h hR hS
  go_enter Tryd.func59, Tryd.ntmps59
  go_wp2_with fail
  refine (readUint_any g ao n c zs d p k w H.out.1 hp0 hp1 hk).mono ?_
  rintro _ w1 ⟨rfl, h1, g1⟩
  have H1 := Lib.hid (And.intro h1 g1); clear h1 g1
  rw [H.out.2.1] at H1 ⊢
  go_wp2_with fail
  refine (readBit_any g ao n c zs d1 p w1 H1.out.1 hp0 hp1).mono ?_
  rintro _ w2 ⟨rfl, hob, hg2⟩
  have HN : Hid (Rd w2 g ao n c zs (stepP zs d1 p).2 ∧ w.grownBy w2 (some g)) := Lib.hid ⟨H1.out.1.step hg2 hob (stepP_ok zs d1 H1.out.1.ok H1.out.1.bytes H1.out.1.first p hp0 hp1), grownBy.trans H1.out.2 hg2⟩
  clear hob hg2
  rw [H.out.2.2] at HN ⊢
  cases b with
  | true =>
    go_wp2
    go_ret
    exact ⟨by simp, HN.out⟩
  | false =>
    go_wp2
    go_ret
    exact ⟨by simp, HN.out⟩

set_option maxRecDepth 100000 in
theorem readOpt_any (g : Nat) (ao : Option Addr) (n c : Nat) (zs : List Int) (d : DS) (p : Int) (k : Nat) (w : World) (h : Rd w g ao n c zs d) (hp0 : 0 ≤ p) (hp1 : p ≤ 255) (hk : k ≤ 24) :
    Calls Tryd.prog 60 #[.pointer (some ⟨g, 0, none⟩), .int .u8 p, .int .u8 k] w fun e w' =>
      e = .returned (.int .i32 (optG (stepP zs) p k d).1) ∧ Rd w' g ao n c zs (optG (stepP zs) p k d).2 ∧ w.grownBy w' (some g) := by
  obtain ⟨b, d2, hS⟩ : ∃ b d2, stepP zs d p = (b, d2) := ⟨_, _, rfl⟩
  unfold optG
  rw [hS]
  simp only
  have H := Lib.hid (And.intro h hS); clear h hS
  cases b with
  | false =>
    simp only [Bool.false_eq_true, if_false]
    go_enter Tryd.func60, Tryd.ntmps60
    go_wp2_with fail
    refine (readBit_any g ao n c zs d p w H.out.1 hp0 hp1).mono ?_
    rintro _ w2 ⟨rfl, hob, hg2⟩
    have HN : Hid (Rd w2 g ao n c zs (stepP zs d p).2 ∧ w.grownBy w2 (some g)) := Lib.hid ⟨H.out.1.step hg2 hob (stepP_ok zs d H.out.1.ok H.out.1.bytes H.out.1.first p hp0 hp1), hg2⟩
    clear hob hg2
    rw [H.out.2] at HN ⊢
    go_wp2
    go_ret
    exact ⟨rfl, HN.out⟩
  | true =>
    simp only [if_true]
    go_enter Tryd.func60, Tryd.ntmps60
    go_wp2_with fail
    refine (readBit_any g ao n c zs d p w H.out.1 hp0 hp1).mono ?_
    rintro _ w2 ⟨rfl, hob, hg2⟩
    have HN : Hid (Rd w2 g ao n c zs (stepP zs d p).2 ∧ w.grownBy w2 (some g)) := Lib.hid ⟨H.out.1.step hg2 hob (stepP_ok zs d H.out.1.ok H.out.1.bytes H.out.1.first p hp0 hp1), hg2⟩
    clear hob hg2
    rw [H.out.2] at HN ⊢
    go_wp2_with fail
    refine (readInt_any g ao n c zs d2 p k w2 HN.out.1 hp0 hp1 hk).mono ?_
    rintro _ w3 ⟨rfl, h3, g3⟩
    have H3 : Hid (Rd w3 g ao n c zs (signG (stepP zs) p k d2).2 ∧ w.grownBy w3 (some g)) := Lib.hid ⟨h3, grownBy.trans HN.out.2 g3⟩
    clear h3 g3
    go_wp2
    go_ret
    exact ⟨rfl, H3.out⟩
end Go.Proofs.YthmkmemocjnleaaDoor
