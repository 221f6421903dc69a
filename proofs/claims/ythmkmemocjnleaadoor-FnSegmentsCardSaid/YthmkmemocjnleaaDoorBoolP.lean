/- The boolean decoders of the package and of the reference as plain functions of their states, and that they agree. No walk. -/
import Derived.Test.YthmkmemocjnleaaDoorBoolR
namespace Go.Proofs.YthmkmemocjnleaaDoor
open Go.RowKit
set_option linter.unusedVariables false

/-- The package's decoder: bytes taken, range less 1, bits, how many are known, whether it met the end. -/
structure DS where
  r : Nat
  m : Int
  b : Int
  nb : Int
  eof : Bool
/-- The reference's: value, size, bits taken. -/
structure SS where
  v : Int
  z : Int
  pos : Nat

def goP (r : Nat) (m b nb prob : Int) (eof : Bool) : Bool × DS :=
  if (m * prob / 256 + 1) * 256 ≤ b then
    (true, ⟨r, (normP (m - (m * prob / 256 + 1)) (b - (m * prob / 256 + 1) * 256) nb).1, (normP (m - (m * prob / 256 + 1)) (b - (m * prob / 256 + 1) * 256) nb).2.1, (normP (m - (m * prob / 256 + 1)) (b - (m * prob / 256 + 1) * 256) nb).2.2, eof⟩)
  else (false, ⟨r, (normP (m * prob / 256 + 1 - 1) b nb).1, (normP (m * prob / 256 + 1 - 1) b nb).2.1, (normP (m * prob / 256 + 1 - 1) b nb).2.2, eof⟩)
def stepP (zs : List Int) (s : DS) (prob : Int) : Bool × DS :=
  if s.nb < 8 then
    if zs.length ≤ s.r then (false, ⟨s.r, s.m, s.b, s.nb, true⟩)
    else goP (s.r + 1) s.m (s.b + zs.getD s.r 0 * 2 ^ (8 - s.nb).toNat) (s.nb + 8) prob s.eof
  else goP s.r s.m s.b s.nb prob s.eof

def bitAt (zs : List Int) (i : Nat) : Int := zs.getD (i / 8) 0 / 2 ^ (7 - i % 8) % 2
def shiftsS (zs : List Int) : Nat → Int → Nat → Int
  | 0, v, _ => v
  | k + 1, v, pos => shiftsS zs k (2 * v + bitAt zs pos) (pos + 1)
def kOf (z : Int) : Nat := if z < 128 then (shiftTab.getD (z - 1).toNat 0).toNat else 0
def stepS (zs : List Int) (s : SS) (p : Int) : Bool × SS :=
  if (s.z - 1) * p / 256 + 1 ≤ s.v then
    (true, ⟨shiftsS zs (kOf (s.z - ((s.z - 1) * p / 256 + 1))) (s.v - ((s.z - 1) * p / 256 + 1)) s.pos, (s.z - ((s.z - 1) * p / 256 + 1)) * 2 ^ kOf (s.z - ((s.z - 1) * p / 256 + 1)), s.pos + kOf (s.z - ((s.z - 1) * p / 256 + 1))⟩)
  else (false, ⟨shiftsS zs (kOf ((s.z - 1) * p / 256 + 1)) s.v s.pos, ((s.z - 1) * p / 256 + 1) * 2 ^ kOf ((s.z - 1) * p / 256 + 1), s.pos + kOf ((s.z - 1) * p / 256 + 1)⟩)

def Bytes (zs : List Int) : Prop := ∀ i, 0 ≤ zs.getD i 0 ∧ zs.getD i 0 ≤ 255

/-- What always holds of the package's decoder. -/
def OKP (zs : List Int) (s : DS) : Prop :=
  127 ≤ s.m ∧ s.m ≤ 254 ∧ 0 ≤ s.b ∧ 0 ≤ s.nb ∧ s.nb ≤ 15 ∧ s.r ≤ zs.length ∧ s.b % 2 ^ (16 - s.nb).toNat = 0 ∧
  (s.b + 2 ^ (16 - s.nb).toNat ≤ (s.m + 1) * 256 ∨ (s.nb = 0 ∧ s.b = 0 ∧ s.r = 0 ∧ s.m = 254))

theorem nb_cases (nb : Int) (h0 : 0 ≤ nb) (h1 : nb < 8) : nb = 0 ∨ nb = 1 ∨ nb = 2 ∨ nb = 3 ∨ nb = 4 ∨ nb = 5 ∨ nb = 6 ∨ nb = 7 := by omega
theorem nb_cases2 (nb : Int) (h0 : 8 ≤ nb) (h1 : nb ≤ 15) : nb = 8 ∨ nb = 9 ∨ nb = 10 ∨ nb = 11 ∨ nb = 12 ∨ nb = 13 ∨ nb = 14 ∨ nb = 15 := by omega

theorem sp_bounds (m prob : Int) (hm0 : 0 ≤ m) (hm : m ≤ 254) (h0 : 0 ≤ prob) (h1 : prob ≤ 255) : 1 ≤ m * prob / 256 + 1 ∧ m * prob / 256 + 1 ≤ 254 ∧ (1 ≤ m → m * prob / 256 + 1 ≤ m) := by
  have q0 : 0 ≤ m * prob := Int.mul_nonneg hm0 h0
  have q1 : m * prob ≤ 254 * 255 := Int.mul_le_mul hm h1 h0 (by omega)
  have : m * prob ≤ m * 255 := Int.mul_le_mul_of_nonneg_left (by omega) hm0
  omega

/-- The byte taken stands below the bits there. -/
theorem load_or (b x nb : Int) (hx0 : 0 ≤ x) (hx1 : x ≤ 255) (hb0 : 0 ≤ b) (hb : b < 65536) (h0 : 0 ≤ nb) (h1 : nb < 8) (hd : b % 2 ^ (16 - nb).toNat = 0) :
    bits .or .u32 b (x * 2 ^ (8 - nb).toNat % 4294967296) = b + x * 2 ^ (8 - nb).toNat := by
  obtain ⟨bn, rfl⟩ := Int.eq_ofNat_of_zero_le hb0
  obtain ⟨xn, rfl⟩ := Int.eq_ofNat_of_zero_le hx0
  obtain rfl | rfl | rfl | rfl | rfl | rfl | rfl | rfl := nb_cases nb h0 h1
  all_goals
    simp only [Int.reduceSub, Int.reduceToNat, Int.reducePow] at hd ⊢
    rw [u32_or _ _ (by omega) (by omega) (by omega) (by omega)]
  · rw [nat_join 16 _ _ (by omega) (by omega)]; omega
  · rw [nat_join 15 _ _ (by omega) (by omega)]; omega
  · rw [nat_join 14 _ _ (by omega) (by omega)]; omega
  · rw [nat_join 13 _ _ (by omega) (by omega)]; omega
  · rw [nat_join 12 _ _ (by omega) (by omega)]; omega
  · rw [nat_join 11 _ _ (by omega) (by omega)]; omega
  · rw [nat_join 10 _ _ (by omega) (by omega)]; omega
  · rw [nat_join 9 _ _ (by omega) (by omega)]; omega

/-- What stands behind the byte taken. -/
theorem load_ok (zs : List Int) (s : DS) (h : OKP zs s) (hz : Bytes zs) (h255 : zs.getD 0 0 ≠ 255) (hn : s.nb < 8) :
    0 ≤ s.b ∧ s.b < 65536 ∧ 0 ≤ s.b + zs.getD s.r 0 * 2 ^ (8 - s.nb).toNat ∧ (s.b + zs.getD s.r 0 * 2 ^ (8 - s.nb).toNat) % 2 ^ (16 - (s.nb + 8)).toNat = 0 ∧
    s.b + zs.getD s.r 0 * 2 ^ (8 - s.nb).toNat + 2 ^ (16 - (s.nb + 8)).toNat ≤ (s.m + 1) * 256 := by
  obtain ⟨h1, h2, h3, h4, h5, h6, h7, h8⟩ := h
  obtain ⟨r, m, b, nb, eof⟩ := s
  simp only at *
  have hx := hz r
  have hx' : (nb = 0 ∧ b = 0 ∧ r = 0 ∧ m = 254) → zs.getD r 0 ≠ 255 := by
    rintro ⟨_, _, rfl, _⟩; exact h255
  generalize zs.getD r 0 = x at *
  obtain rfl | rfl | rfl | rfl | rfl | rfl | rfl | rfl := nb_cases nb h4 hn
  all_goals
    simp only [Int.reduceSub, Int.reduceAdd, Int.reduceToNat, Int.reducePow] at h7 h8 ⊢
    omega

theorem emod_mul' (a b c : Int) (hc : 0 < c) : a * c % (b * c) = a % b * c := by
  rw [Int.mul_comm a c, Int.mul_comm b c, Int.mul_emod_mul_of_pos _ _ hc, Int.mul_comm]
theorem pow_eq (s : Int) (h1 : 1 ≤ s) (h2 : s ≤ 7) : (2 : Int) ^ s.toNat = 2 ∨ (2 : Int) ^ s.toNat = 4 ∨ (2 : Int) ^ s.toNat = 8 ∨ (2 : Int) ^ s.toNat = 16 ∨ (2 : Int) ^ s.toNat = 32 ∨ (2 : Int) ^ s.toNat = 64 ∨ (2 : Int) ^ s.toNat = 128 := by
  obtain rfl | rfl | rfl | rfl | rfl | rfl | rfl : s = 1 ∨ s = 2 ∨ s = 3 ∨ s = 4 ∨ s = 5 ∨ s = 6 ∨ s = 7 := by omega
  all_goals simp

/-- Bringing the range up keeps what holds. -/
theorem norm_ok (m b nb : Int) (hm0 : 0 ≤ m) (hm : m ≤ 254) (hb : 0 ≤ b) (hn : 8 ≤ nb) (hn1 : nb ≤ 15) (hd : b % 2 ^ (16 - nb).toNat = 0) (hl : b + 2 ^ (16 - nb).toNat ≤ (m + 1) * 256) :
    127 ≤ (normP m b nb).1 ∧ (normP m b nb).1 ≤ 254 ∧ 0 ≤ (normP m b nb).2.1 ∧ 0 ≤ (normP m b nb).2.2 ∧ (normP m b nb).2.2 ≤ 15 ∧ (normP m b nb).2.1 % 2 ^ (16 - (normP m b nb).2.2).toNat = 0 ∧ (normP m b nb).2.1 + 2 ^ (16 - (normP m b nb).2.2).toNat ≤ ((normP m b nb).1 + 1) * 256 := by
  unfold normP
  by_cases h : m < 127
  · rw [if_pos h]
    obtain ⟨k, rfl⟩ := Int.eq_ofNat_of_zero_le hm0
    obtain ⟨t1, t2, t3, t4⟩ := shiftTab_range k (by omega)
    rw [Int.toNat_natCast]
    generalize shiftTab.getD k 0 = s at *
    have e : (2 : Int) ^ (16 - (nb - s)).toNat = 2 ^ (16 - nb).toNat * 2 ^ s.toNat := by
      rw [← Int.pow_add]; congr 1; omega
    simp only
    rw [e]
    have hp : (0 : Int) ≤ 2 ^ s.toNat := Int.pow_nonneg (by omega)
    refine ⟨by omega, by omega, Int.mul_nonneg hb hp, by omega, by omega, ?_, ?_⟩
    · rw [emod_mul' _ _ _ (Int.pow_pos (by omega)), hd, Int.zero_mul]
    · have := Int.mul_le_mul_of_nonneg_right hl hp
      rw [Int.add_mul] at this
      have e2 : ((k : Int) + 1) * 256 * 2 ^ s.toNat = ((k : Int) + 1) * 2 ^ s.toNat * 256 := by rw [Int.mul_assoc, Int.mul_comm 256, ← Int.mul_assoc]
      omega
  · rw [if_neg h]
    exact ⟨by simp only; omega, hm, hb, by simp only; omega, hn1, hd, hl⟩

theorem goP_ok (zs : List Int) (r : Nat) (m b nb prob : Int) (eof : Bool) (hm0 : 127 ≤ m) (hm : m ≤ 254) (hp0 : 0 ≤ prob) (hp1 : prob ≤ 255) (hb : 0 ≤ b) (hn : 8 ≤ nb) (hn1 : nb ≤ 15) (hr : r ≤ zs.length)
    (hd : b % 2 ^ (16 - nb).toNat = 0) (hl : b + 2 ^ (16 - nb).toNat ≤ (m + 1) * 256) : OKP zs (goP r m b nb prob eof).2 := by
  obtain ⟨s0, s1, s2⟩ := sp_bounds m prob (by omega) hm hp0 hp1
  have hs2 := s2 (by omega)
  unfold goP
  generalize m * prob / 256 + 1 = sp at *
  by_cases h : sp * 256 ≤ b
  · rw [if_pos h]
    obtain ⟨a1, a2, a3, a4, a5, a6, a7⟩ := norm_ok (m - sp) (b - sp * 256) nb (by omega) (by omega) (by omega) hn hn1 (by
      obtain rfl | rfl | rfl | rfl | rfl | rfl | rfl | rfl := nb_cases2 nb hn hn1
      all_goals
        simp only [Int.reduceSub, Int.reduceToNat, Int.reducePow] at hd ⊢
        omega) (by omega)
    exact ⟨a1, a2, a3, a4, a5, hr, a6, .inl a7⟩
  · rw [if_neg h]
    obtain ⟨a1, a2, a3, a4, a5, a6, a7⟩ := norm_ok (sp - 1) b nb (by omega) (by omega) hb hn hn1 hd (by
      obtain rfl | rfl | rfl | rfl | rfl | rfl | rfl | rfl := nb_cases2 nb hn hn1
      all_goals
        simp only [Int.reduceSub, Int.reduceToNat, Int.reducePow] at hd hl ⊢
        omega)
    exact ⟨a1, a2, a3, a4, a5, hr, a6, .inl a7⟩

theorem stepP_ok (zs : List Int) (s : DS) (h : OKP zs s) (hz : Bytes zs) (h255 : zs.getD 0 0 ≠ 255) (prob : Int) (hp0 : 0 ≤ prob) (hp1 : prob ≤ 255) : OKP zs (stepP zs s prob).2 := by
  unfold stepP
  by_cases h1 : s.nb < 8
  · rw [if_pos h1]
    by_cases h2 : zs.length ≤ s.r
    · rw [if_pos h2]; exact h
    · rw [if_neg h2]
      obtain ⟨a1, a2, a3, a4, a5⟩ := load_ok zs s h hz h255 h1
      exact goP_ok zs _ _ _ _ _ _ h.1 h.2.1 hp0 hp1 a3 (by have := h.2.2.2.1; omega) (by omega) (by omega) a4 a5
  · rw [if_neg h1]
    obtain ⟨b1, b2, b3, b4, b5, b6, b7, b8⟩ := h
    exact goP_ok zs _ _ _ _ _ _ b1 b2 hp0 hp1 b3 (by omega) b5 b6 b7 (by rcases b8 with h | h; exact h; omega)

/-- Both stand at the same place of the bytes. -/
def RelB (zs : List Int) (r : Nat) (b nb v : Int) (pos : Nat) : Prop :=
  (pos : Int) = 8 * (r : Int) - nb + 8 ∧ (8 ≤ nb → v = b / 256 ∧ 1 ≤ r ∧ b % 256 = zs.getD (r - 1) 0 * 2 ^ (16 - nb).toNat % 256) ∧ (nb < 8 → v = (b + zs.getD r 0 * 2 ^ (8 - nb).toNat) / 256 ∧ b % 256 = 0)

theorem shift_rel (zs : List Int) (r : Nat) (b nb v : Int) (pos : Nat) (hz : Bytes zs) (h : RelB zs r b nb v pos) (hn0 : 1 ≤ nb) (hn1 : nb ≤ 15) (hb : 0 ≤ b) : RelB zs r (2 * b) (nb - 1) (2 * v + bitAt zs pos) (pos + 1) := by
  obtain ⟨h1, h2, h3⟩ := h
  refine ⟨by omega, fun h8 => ?_, fun h8 => ?_⟩
  · obtain ⟨e1, e2, e3⟩ := h2 (by omega)
    obtain ⟨r', rfl⟩ : ∃ r', r = r' + 1 := ⟨r - 1, by omega⟩
    have p1 : pos / 8 = r' := by omega
    have p2 : pos % 8 = (16 - nb).toNat := by omega
    unfold bitAt
    rw [p1, p2]
    simp only [Nat.add_sub_cancel] at e3 ⊢
    clear h1 h2 h3
    have hx := hz r'
    generalize zs.getD r' 0 = x at *
    obtain rfl | rfl | rfl | rfl | rfl | rfl | rfl | rfl := nb_cases2 nb (by omega) hn1
    · omega
    all_goals
      simp only [Int.reduceSub, Int.reduceToNat, Int.reducePow, Nat.reduceSub] at e3 ⊢
      omega
  · by_cases h8' : nb = 8
    · subst h8'
      obtain ⟨e1, e2, e3⟩ := h2 (by omega)
      have p1 : pos / 8 = r := by omega
      have p2 : pos % 8 = 0 := by omega
      unfold bitAt
      rw [p1, p2]
      have hx := hz r
      generalize zs.getD r 0 = x at *
      generalize zs.getD (r - 1) 0 = x' at *
      simp only [Int.reduceSub, Int.reduceToNat, Int.reducePow, Nat.reduceSub] at e3 ⊢
      omega
    · obtain ⟨e1, e3⟩ := h3 (by omega)
      have p1 : pos / 8 = r := by omega
      have p2 : pos % 8 = (8 - nb).toNat := by omega
      clear h1 h2 h3
      unfold bitAt
      rw [p1, p2]
      have hx := hz r
      generalize zs.getD r 0 = x at *
      obtain rfl | rfl | rfl | rfl | rfl | rfl | rfl : nb = 1 ∨ nb = 2 ∨ nb = 3 ∨ nb = 4 ∨ nb = 5 ∨ nb = 6 ∨ nb = 7 := by omega
      all_goals
        simp only [Int.reduceSub, Int.reduceToNat, Int.reducePow, Nat.reduceSub] at e1 ⊢
        omega

theorem shifts_rel (zs : List Int) (r : Nat) (hz : Bytes zs) (k : Nat) : ∀ (b nb v : Int) (pos : Nat), RelB zs r b nb v pos → (k : Int) ≤ nb → nb ≤ 15 → 0 ≤ b → RelB zs r (b * 2 ^ k) (nb - k) (shiftsS zs k v pos) (pos + k) := by
  induction k with
  | zero => intro b nb v pos h _ _ _; simpa [shiftsS] using h
  | succ k ih =>
    intro b nb v pos h hk hn hb
    have := ih _ _ _ _ (shift_rel zs r b nb v pos hz h (by omega) hn hb) (by omega) (by omega) (by omega)
    have e1 : 2 * b * 2 ^ k = b * 2 ^ (k + 1) := by rw [Int.pow_succ, Int.mul_comm 2 b, Int.mul_assoc, Int.mul_comm 2]
    have e2 : nb - 1 - (k : Int) = nb - ((k + 1 : Nat) : Int) := by omega
    have e3 : pos + 1 + k = pos + (k + 1) := by omega
    rw [e1, e2, e3] at this
    exact this

theorem norm_rel (zs : List Int) (r : Nat) (m b nb v : Int) (pos : Nat) (hz : Bytes zs) (h : RelB zs r b nb v pos) (hm0 : 0 ≤ m) (hm : m ≤ 254) (hn : 8 ≤ nb) (hn1 : nb ≤ 15) (hb : 0 ≤ b) :
    (m + 1) * 2 ^ kOf (m + 1) = (normP m b nb).1 + 1 ∧ RelB zs r (normP m b nb).2.1 (normP m b nb).2.2 (shiftsS zs (kOf (m + 1)) v pos) (pos + kOf (m + 1)) := by
  unfold normP kOf
  by_cases h1 : m < 127
  · rw [if_pos h1, if_pos (by omega)]
    obtain ⟨k, rfl⟩ := Int.eq_ofNat_of_zero_le hm0
    obtain ⟨t1, t2, t3, t4⟩ := shiftTab_range k (by omega)
    rw [Int.toNat_natCast, show ((k : Int) + 1 - 1).toNat = k by omega]
    generalize shiftTab.getD k 0 = s at *
    obtain ⟨sn, rfl⟩ := Int.eq_ofNat_of_zero_le (show 0 ≤ s by omega)
    rw [Int.toNat_natCast] at *
    exact ⟨by simp only; omega, shifts_rel zs r hz sn b nb v pos h (by omega) hn1 hb⟩
  · rw [if_neg h1, if_neg (by omega)]
    exact ⟨by simp, by simpa [shiftsS] using h⟩

def Rel (zs : List Int) (d : DS) (s : SS) : Prop := s.z = d.m + 1 ∧ RelB zs d.r d.b d.nb s.v s.pos

theorem goP_rel (zs : List Int) (r : Nat) (m b nb prob v : Int) (pos : Nat) (eof : Bool) (hz : Bytes zs) (h : RelB zs r b nb v pos) (hm0 : 127 ≤ m) (hm : m ≤ 254) (hp0 : 0 ≤ prob) (hp1 : prob ≤ 255) (hn : 8 ≤ nb) (hn1 : nb ≤ 15) (hb : 0 ≤ b) (hl : b + 2 ^ (16 - nb).toNat ≤ (m + 1) * 256) :
    (goP r m b nb prob eof).1 = (stepS zs ⟨v, m + 1, pos⟩ prob).1 ∧ Rel zs (goP r m b nb prob eof).2 (stepS zs ⟨v, m + 1, pos⟩ prob).2 := by
  obtain ⟨s0, s1, s2⟩ := sp_bounds m prob (by omega) hm hp0 hp1
  have hs2 := s2 (by omega)
  obtain ⟨e1, e2, e3⟩ := h.2.1 hn
  have hpos : (0 : Int) ≤ 2 ^ (16 - nb).toNat := Int.pow_nonneg (by omega)
  unfold goP stepS
  simp only [Int.add_sub_cancel]
  generalize hsp : m * prob / 256 + 1 = sp at *
  have e : m * prob / 256 = sp - 1 := by omega
  by_cases hh : sp * 256 ≤ b
  · rw [if_pos hh, if_pos (by omega)]
    have hr : RelB zs r (b - sp * 256) nb (v - sp) pos := ⟨h.1, fun _ => ⟨by omega, e2, by omega⟩, fun h => absurd hn (by omega)⟩
    obtain ⟨n1, n2⟩ := norm_rel zs r (m - sp) (b - sp * 256) nb (v - sp) pos hz hr (by omega) (by omega) hn hn1 (by omega)
    rw [show m - sp + 1 = m + 1 - sp by omega] at n1 n2
    exact ⟨rfl, n1, n2⟩
  · rw [if_neg hh, if_neg (by omega)]
    obtain ⟨n1, n2⟩ := norm_rel zs r (sp - 1) b nb v pos hz h (by omega) (by omega) hn hn1 hb
    rw [show sp - 1 + 1 = sp by omega] at n1 n2
    rw [e]
    exact ⟨rfl, n1, n2⟩

/-- As long as the package's decoder has bytes, both decide alike. -/
theorem step_rel (zs : List Int) (d : DS) (s : SS) (h : OKP zs d) (hz : Bytes zs) (h255 : zs.getD 0 0 ≠ 255) (hr : Rel zs d s) (hne : ¬ (d.nb < 8 ∧ zs.length ≤ d.r)) (prob : Int) (hp0 : 0 ≤ prob) (hp1 : prob ≤ 255) :
    (stepP zs d prob).1 = (stepS zs s prob).1 ∧ Rel zs (stepP zs d prob).2 (stepS zs s prob).2 := by
  obtain ⟨v, z, pos⟩ := s
  obtain ⟨rfl, hr⟩ := hr
  unfold stepP
  by_cases h1 : d.nb < 8
  · rw [if_pos h1, if_neg (by omega)]
    obtain ⟨a1, a2, a3, a4, a5⟩ := load_ok zs d h hz h255 h1
    have hd := h.2.2.2.2.2.2.1
    have h4 := h.2.2.2.1
    refine goP_rel zs _ _ _ _ _ _ _ _ hz ⟨?_, fun _ => ⟨(hr.2.2 h1).1, by omega, ?_⟩, fun h => absurd h (by omega)⟩ h.1 h.2.1 hp0 hp1 (by omega) (by omega) a3 a5
    · have := hr.1; simp only at this ⊢; omega
    · have := (hr.2.2 h1).2
      rw [Nat.add_sub_cancel]
      have hx := hz d.r
      obtain ⟨r, m, b, nb, eof⟩ := d
      simp only at *
      generalize zs.getD r 0 = x at *
      obtain rfl | rfl | rfl | rfl | rfl | rfl | rfl | rfl := nb_cases nb h4 h1
      all_goals
        simp only [Int.reduceSub, Int.reduceAdd, Int.reduceToNat, Int.reducePow] at hd ⊢
        omega
  · rw [if_neg h1]
    obtain ⟨b1, b2, b3, b4, b5, b6, b7, b8⟩ := h
    exact goP_rel zs _ _ _ _ _ _ _ _ hz hr b1 b2 hp0 hp1 (by omega) b5 b3 (by rcases b8 with h | h; exact h; omega)

/-- What holds of the reference's decoder whatever it reads. -/
def OKS (zs : List Int) (s : SS) : Prop := 0 ≤ s.v ∧ s.v < s.z ∧ 128 ≤ s.z ∧ s.z ≤ 255

theorem bitAt_range (zs : List Int) (i : Nat) : 0 ≤ bitAt zs i ∧ bitAt zs i ≤ 1 := by
  unfold bitAt; generalize zs.getD (i / 8) 0 / 2 ^ (7 - i % 8) = x; omega
theorem shiftsS_range (zs : List Int) (k : Nat) : ∀ (v z : Int) (pos : Nat), 0 ≤ v → v < z → 0 ≤ shiftsS zs k v pos ∧ shiftsS zs k v pos < z * 2 ^ k := by
  induction k with
  | zero => intro v z pos h1 h2; simpa [shiftsS] using ⟨h1, h2⟩
  | succ k ih =>
    intro v z pos h1 h2
    have hb := bitAt_range zs pos
    have := ih (2 * v + bitAt zs pos) (2 * z) (pos + 1) (by omega) (by omega)
    have e : 2 * z * 2 ^ k = z * 2 ^ (k + 1) := by rw [Int.pow_succ, Int.mul_comm 2 z, Int.mul_assoc, Int.mul_comm 2]
    rw [e] at this
    exact this
theorem kOf_range (z : Int) (h1 : 1 ≤ z) (h2 : z ≤ 255) : 128 ≤ z * 2 ^ kOf z ∧ z * 2 ^ kOf z ≤ 255 ∧ kOf z ≤ 7 := by
  unfold kOf
  by_cases h : z < 128
  · rw [if_pos h]
    obtain ⟨k, rfl⟩ : ∃ k : Nat, z = k + 1 := ⟨(z - 1).toNat, by omega⟩
    obtain ⟨t1, t2, t3, t4⟩ := shiftTab_range k (by omega)
    rw [show ((k : Int) + 1 - 1).toNat = k by omega]
    omega
  · rw [if_neg h]; simp; omega
theorem stepS_ok (zs : List Int) (s : SS) (h : OKS zs s) (p : Int) (hp0 : 0 ≤ p) (hp1 : p ≤ 255) : OKS zs (stepS zs s p).2 ∧ (stepS zs s p).2.pos ≤ s.pos + 7 := by
  obtain ⟨h1, h2, h3, h4⟩ := h
  obtain ⟨s0, s1, s2⟩ := sp_bounds (s.z - 1) p (by omega) (by omega) hp0 hp1
  have hs2 := s2 (by omega)
  unfold stepS
  generalize (s.z - 1) * p / 256 + 1 = sp at *
  by_cases hh : sp ≤ s.v
  · rw [if_pos hh]
    obtain ⟨a1, a2, a3⟩ := kOf_range (s.z - sp) (by omega) (by omega)
    obtain ⟨c1, c2⟩ := shiftsS_range zs (kOf (s.z - sp)) (s.v - sp) (s.z - sp) s.pos (by omega) (by omega)
    exact ⟨⟨c1, c2, a1, a2⟩, by simp only; omega⟩
  · rw [if_neg hh]
    obtain ⟨a1, a2, a3⟩ := kOf_range sp (by omega) (by omega)
    obtain ⟨c1, c2⟩ := shiftsS_range zs (kOf sp) s.v sp s.pos (by omega) (by omega)
    exact ⟨⟨c1, c2, a1, a2⟩, by simp only; omega⟩

/-- The states at the begin. -/
def ds0 : DS := ⟨0, 254, 0, 0, false⟩
def ss0 (zs : List Int) : SS := ⟨zs.getD 0 0, 255, 8⟩
theorem ds0_ok (zs : List Int) : OKP zs ds0 := ⟨by decide, by decide, by decide, by decide, by decide, Nat.zero_le _, by decide, .inr ⟨rfl, rfl, rfl, rfl⟩⟩
theorem ss0_ok (zs : List Int) (hz : Bytes zs) (h255 : zs.getD 0 0 ≠ 255) : OKS zs (ss0 zs) := by
  have := hz 0
  exact ⟨this.1, by simp only [ss0]; omega, by simp [ss0], by simp [ss0]⟩
theorem rel0 (zs : List Int) (hz : Bytes zs) : Rel zs ds0 (ss0 zs) := by
  have := hz 0
  refine ⟨rfl, by simp [ss0, ds0], fun h => absurd h (by simp [ds0]), fun _ => ?_⟩
  simp only [ss0, ds0, Int.reduceSub, Int.reduceToNat, Int.reducePow]
  omega
end Go.Proofs.YthmkmemocjnleaaDoor
