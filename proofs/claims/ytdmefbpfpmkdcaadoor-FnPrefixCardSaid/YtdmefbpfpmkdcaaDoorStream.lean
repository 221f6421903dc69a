/- A stream of bits as one number, the first bit lowest: how it is written bit by bit, and read byte by byte. Plain laws. -/
namespace Go.Proofs.YtdmefbpfpmkdcaaDoor

/-- Numbers as naturals. -/
def natF (f : Nat → Int) (i : Nat) : Nat := (f i).toNat
/-- Byte j of a number. -/
def byteOf (S j : Nat) : Nat := S / 256 ^ j % 256
/-- The number of n bytes. -/
def numOf (f : Nat → Nat) : Nat → Nat
  | 0 => 0
  | n + 1 => numOf f n + f n * 256 ^ n

theorem pow256 (j : Nat) : 256 ^ j = 2 ^ (8 * j) := by rw [Nat.pow_mul]
theorem byteOf_lt (S j : Nat) : byteOf S j < 256 := Nat.mod_lt _ (by decide)
theorem numOf_lt (f : Nat → Nat) : ∀ n, (∀ i, i < n → f i < 256) → numOf f n < 256 ^ n
  | 0, _ => by simp [numOf]
  | n + 1, h => by
    have ih := numOf_lt f n (fun i hi => h i (by omega))
    have hn := h n (by omega)
    rw [numOf, Nat.pow_succ]
    have : f n * 256 ^ n ≤ 255 * 256 ^ n := Nat.mul_le_mul_right _ (by omega)
    omega
theorem numOf_byte (f : Nat → Nat) : ∀ n, (∀ i, i < n → f i < 256) → ∀ j, j < n → byteOf (numOf f n) j = f j
  | 0, _, j, hj => absurd hj (by omega)
  | n + 1, h, j, hj => by
    have hl := numOf_lt f n (fun i hi => h i (by omega))
    by_cases e : j = n
    · subst e
      unfold byteOf
      rw [numOf, Nat.add_mul_div_right _ _ (Nat.pow_pos (by decide)), Nat.div_eq_of_lt hl, Nat.zero_add]
      exact Nat.mod_eq_of_lt (h j (by omega))
    · have ih := numOf_byte f n (fun i hi => h i (by omega)) j (by omega)
      rw [← ih]
      unfold byteOf
      have ep : 256 ^ n = 256 ^ (n - j - 1) * 256 * 256 ^ j := by
        rw [Nat.mul_assoc, ← Nat.pow_succ', ← Nat.pow_add]; congr 1; omega
      rw [numOf, ep, ← Nat.mul_assoc, Nat.add_mul_div_right _ _ (Nat.pow_pos (by decide)), ← Nat.mul_assoc, Nat.add_mul_mod_self_right]
theorem numOf_congr (f g : Nat → Nat) : ∀ n, (∀ i, i < n → f i = g i) → numOf f n = numOf g n
  | 0, _ => rfl
  | n + 1, h => by rw [numOf, numOf, numOf_congr f g n (fun i hi => h i (by omega)), h n (by omega)]
theorem numOf_bytes (S : Nat) : ∀ n, numOf (byteOf S) n = S % 256 ^ n
  | 0 => by simp [numOf, Nat.mod_one]
  | n + 1 => by rw [numOf, numOf_bytes S n, Nat.pow_succ, Nat.mod_mul, byteOf, Nat.mul_comm]
theorem numOf_more (f : Nat → Nat) (n : Nat) : ∀ m, ∃ R, numOf f (n + m) = numOf f n + R * 256 ^ n
  | 0 => ⟨0, by simp⟩
  | m + 1 => by
    obtain ⟨R, hR⟩ := numOf_more f n m
    refine ⟨R + f (n + m) * 256 ^ m, ?_⟩
    rw [← Nat.add_assoc, numOf, hR, Nat.add_mul, Nat.mul_assoc, ← Nat.pow_add, Nat.add_comm m n, Nat.add_assoc]

/-- A bit behind the q bits of T: the byte that it lies in. -/
theorem bit_in (T q b : Nat) (hT : T < 2 ^ q) (hb : b ≤ 1) : byteOf T (q / 8) < 2 ^ (q % 8) ∧ byteOf (T + b * 2 ^ q) (q / 8) = byteOf T (q / 8) + b * 2 ^ (q % 8) := by
  have e : 2 ^ q = 2 ^ (q % 8) * 256 ^ (q / 8) := by rw [pow256, ← Nat.pow_add]; congr 1; omega
  have hp : 0 < 256 ^ (q / 8) := Nat.pow_pos (by decide)
  have h1 : T / 256 ^ (q / 8) < 2 ^ (q % 8) := by
    rw [Nat.div_lt_iff_lt_mul hp, ← e]; exact hT
  have h8 : 2 ^ (q % 8) ≤ 128 := by
    have : 2 ^ (q % 8) ≤ 2 ^ 7 := Nat.pow_le_pow_right (by decide) (by omega)
    simpa using this
  have hbm : b * 2 ^ (q % 8) ≤ 2 ^ (q % 8) := by
    have := Nat.mul_le_mul_right (2 ^ (q % 8)) hb
    simpa using this
  unfold byteOf
  rw [Nat.mod_eq_of_lt (a := T / _) (by omega)]
  refine ⟨h1, ?_⟩
  rw [e, ← Nat.mul_assoc, Nat.add_mul_div_right _ _ hp, Nat.mod_eq_of_lt (by omega)]
theorem bit_other (T q b j : Nat) (hj : j < q / 8) : byteOf (T + b * 2 ^ q) j = byteOf T j := by
  have e : 2 ^ q = 2 ^ (q - 8 * j - 8) * 256 * 256 ^ j := by
    rw [pow256, show (256 : Nat) = 2 ^ 8 from rfl, ← Nat.pow_add, ← Nat.pow_add]; congr 1; omega
  unfold byteOf
  rw [e, ← Nat.mul_assoc, Nat.add_mul_div_right _ _ (Nat.pow_pos (by decide)), ← Nat.mul_assoc, Nat.add_mul_mod_self_right]
theorem byte_past (T q j : Nat) (hT : T < 2 ^ q) (hj : q ≤ 8 * j) : byteOf T j = 0 := by
  have : 2 ^ q ≤ 2 ^ (8 * j) := Nat.pow_le_pow_right (by decide) hj
  unfold byteOf
  rw [pow256, Nat.div_eq_of_lt (by omega)]
/-- One bit more of v. -/
theorem more_bit (S v p k : Nat) : S + v % 2 ^ (k + 1) * 2 ^ p = S + v % 2 ^ k * 2 ^ p + (v / 2 ^ k % 2) * 2 ^ (p + k) := by
  rw [Nat.pow_succ, Nat.mod_mul, Nat.add_mul, Nat.mul_comm (2 ^ k) (_ % 2), Nat.mul_assoc, ← Nat.pow_add, Nat.add_comm k p, Nat.add_assoc]
theorem bits_lt (S v p k : Nat) (hS : S < 2 ^ p) : S + v % 2 ^ k * 2 ^ p < 2 ^ (p + k) := by
  have h := Nat.mod_lt v (show 0 < 2 ^ k from Nat.pow_pos (by decide))
  have : (v % 2 ^ k + 1) * 2 ^ p ≤ 2 ^ k * 2 ^ p := Nat.mul_le_mul_right _ h
  rw [Nat.add_mul, Nat.one_mul] at this
  rw [Nat.pow_add, Nat.mul_comm (2 ^ p)]
  omega

/-- What is at hand of the stream: the bits from p on, k of them. -/
def hand (S p k : Nat) : Nat := S / 2 ^ p % 2 ^ k
theorem hand_lt (S p k : Nat) : hand S p k < 2 ^ k := Nat.mod_lt _ (Nat.pow_pos (by decide))
theorem hand_zero (S p : Nat) : hand S p 0 = 0 := by simp [hand, Nat.mod_one]
/-- A byte more at hand. -/
theorem hand_byte (S p i : Nat) (h : p ≤ 8 * i) : hand S p (8 * (i + 1) - p) = hand S p (8 * i - p) + byteOf S i * 2 ^ (8 * i - p) := by
  unfold hand byteOf
  have e1 : 2 ^ (8 * (i + 1) - p) = 2 ^ (8 * i - p) * 256 := by rw [show (256 : Nat) = 2 ^ 8 from rfl, ← Nat.pow_add]; congr 1; omega
  have e2 : S / 2 ^ p / 2 ^ (8 * i - p) = S / 256 ^ i := by rw [Nat.div_div_eq_div_mul, ← Nat.pow_add, pow256]; congr 2; omega
  rw [e1, Nat.mod_mul, e2, Nat.mul_comm (2 ^ _)]
theorem hand_low (S p k n : Nat) (h : n ≤ k) : hand S p k % 2 ^ n = hand S p n := by
  unfold hand
  exact Nat.mod_mod_of_dvd _ (Nat.pow_dvd_pow 2 h)
theorem hand_rest (S p k n : Nat) (h : n ≤ k) : hand S p k / 2 ^ n = hand S (p + n) (k - n) := by
  unfold hand
  rw [show 2 ^ k = 2 ^ n * 2 ^ (k - n) by rw [← Nat.pow_add]; congr 1; omega, Nat.mod_mul_right_div_self, Nat.div_div_eq_div_mul, ← Nat.pow_add]
/-- Bits low in the stream do not see what stands above. -/
theorem hand_more (T R q p k : Nat) (h : p + k ≤ q) : hand (T + R * 2 ^ q) p k = hand T p k := by
  unfold hand
  rw [show 2 ^ q = 2 ^ (q - p - k) * 2 ^ k * 2 ^ p by rw [← Nat.pow_add, ← Nat.pow_add]; congr 1; omega, ← Nat.mul_assoc, Nat.add_mul_div_right _ _ (Nat.pow_pos (by decide)), ← Nat.mul_assoc, Nat.add_mul_mod_self_right]

/-- Numbers written one behind the other: where each begins, and the stream. -/
def placeOf (sz : Nat → Nat) : Nat → Nat
  | 0 => 0
  | k + 1 => placeOf sz k + sz k
def streamOf (sz v : Nat → Nat) : Nat → Nat
  | 0 => 0
  | k + 1 => streamOf sz v k + v k % 2 ^ sz k * 2 ^ placeOf sz k
theorem streamOf_lt (sz v : Nat → Nat) : ∀ k, streamOf sz v k < 2 ^ placeOf sz k
  | 0 => by simp [streamOf, placeOf]
  | k + 1 => bits_lt _ _ _ _ (streamOf_lt sz v k)
theorem placeOf_mono (sz : Nat → Nat) : ∀ {i k : Nat}, i ≤ k → placeOf sz i ≤ placeOf sz k := by
  intro i k h
  induction h with
  | refl => exact Nat.le_refl _
  | step _ ih => exact Nat.le_trans ih (Nat.le_add_right _ _)
theorem placeOf_le (sz : Nat → Nat) (m : Nat) : ∀ k, (∀ i, i < k → sz i ≤ m) → placeOf sz k ≤ k * m
  | 0, _ => by simp [placeOf]
  | k + 1, h => by
    have := placeOf_le sz m k (fun i hi => h i (by omega))
    have := h k (by omega)
    rw [placeOf, Nat.add_mul]; omega
theorem stream_at (sz v : Nat → Nat) : ∀ k i, i < k → hand (streamOf sz v k) (placeOf sz i) (sz i) = v i % 2 ^ sz i
  | 0, i, h => absurd h (by omega)
  | k + 1, i, h => by
    rw [streamOf]
    by_cases e : i = k
    · subst e
      unfold hand
      rw [Nat.add_mul_div_right _ _ (Nat.pow_pos (by decide)), Nat.div_eq_of_lt (streamOf_lt sz v i), Nat.zero_add, Nat.mod_mod]
    · have := placeOf_mono sz (show i + 1 ≤ k by omega)
      rw [hand_more _ _ _ _ _ (by rw [placeOf] at this; exact this)]
      exact stream_at sz v k i (by omega)
end Go.Proofs.YtdmefbpfpmkdcaaDoor
