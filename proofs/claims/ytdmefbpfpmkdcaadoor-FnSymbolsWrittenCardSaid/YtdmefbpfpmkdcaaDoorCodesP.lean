/- Canonical codes of lengths: plain laws. -/
namespace Go.Proofs.YtdmefbpfpmkdcaaDoor

/-- How many of the first n have length l. -/
def cnt (c : Nat → Nat) (l : Nat) : Nat → Nat
  | 0 => 0
  | n + 1 => cnt c l n + (if c n = l then 1 else 0)
/-- The first code of length l, from how many there are of each length. -/
def cur (h : Nat → Nat) : Nat → Nat
  | 0 => 0
  | l + 1 => 2 * (cur h l + h l)
/-- The sum of what the first n take of the tree. -/
def krf (c : Nat → Nat) : Nat → Nat
  | 0 => 0
  | n + 1 => krf c n + (if 0 < c n then 2 ^ (15 - c n) else 0)
/-- The code of symbol s of n. -/
def codeOf (c : Nat → Nat) (n s : Nat) : Nat := cur (fun l => cnt c l n) (c s) + cnt c (c s) s

theorem cnt_le (c : Nat → Nat) (l : Nat) : ∀ {s t : Nat}, s ≤ t → cnt c l s ≤ cnt c l t := by
  intro s t h
  induction h with
  | refl => exact Nat.le_refl _
  | step _ ih => exact Nat.le_trans ih (Nat.le_add_right _ _)
theorem cnt_lt (c : Nat → Nat) {s t : Nat} (h : s < t) : cnt c (c s) s + 1 ≤ cnt c (c s) t := by
  have : cnt c (c s) (s + 1) = cnt c (c s) s + 1 := by simp [cnt]
  rw [← this]; exact cnt_le c _ h
theorem cnt_n (c : Nat → Nat) (l n : Nat) : cnt c l n ≤ n := by
  induction n with
  | zero => exact Nat.le_refl _
  | succ n ih => simp only [cnt]; split <;> omega
theorem krf_cnt (c : Nat → Nat) : ∀ n, (∀ i, i < n → c i ≤ 15) → krf c n = 16384 * cnt c 1 n + 8192 * cnt c 2 n + 4096 * cnt c 3 n + 2048 * cnt c 4 n + 1024 * cnt c 5 n + 512 * cnt c 6 n + 256 * cnt c 7 n + 128 * cnt c 8 n + 64 * cnt c 9 n + 32 * cnt c 10 n + 16 * cnt c 11 n + 8 * cnt c 12 n + 4 * cnt c 13 n + 2 * cnt c 14 n + cnt c 15 n
  | 0, _ => rfl
  | n + 1, h => by
    have ih := krf_cnt c n (fun i hi => h i (by omega))
    have hn := h n (by omega)
    simp only [krf, cnt]
    rw [ih]
    generalize c n = x at hn
    have : x = 0 ∨ x = 1 ∨ x = 2 ∨ x = 3 ∨ x = 4 ∨ x = 5 ∨ x = 6 ∨ x = 7 ∨ x = 8 ∨ x = 9 ∨ x = 10 ∨ x = 11 ∨ x = 12 ∨ x = 13 ∨ x = 14 ∨ x = 15 := by omega
    rcases this with rfl | rfl | rfl | rfl | rfl | rfl | rfl | rfl | rfl | rfl | rfl | rfl | rfl | rfl | rfl | rfl <;> simp <;> omega
theorem cur_step (h : Nat → Nat) (l : Nat) (hl : l < 15) : cur h (l + 1) * 2 ^ (15 - (l + 1)) = (cur h l + h l) * 2 ^ (15 - l) := by
  have e : 15 - l = (15 - (l + 1)) + 1 := by omega
  rw [e, Nat.pow_succ]
  simp only [cur]
  rw [Nat.mul_comm 2, Nat.mul_assoc, Nat.mul_comm (2 ^ _) 2]
theorem cur_mono (h : Nat → Nat) : ∀ {a b : Nat}, a ≤ b → b ≤ 15 → cur h a * 2 ^ (15 - a) ≤ cur h b * 2 ^ (15 - b) := by
  intro a b hab
  induction hab with
  | refl => intro _; exact Nat.le_refl _
  | @step m _ ih =>
    intro hm
    refine Nat.le_trans (ih (by omega)) ?_
    show cur h m * _ ≤ cur h (m + 1) * 2 ^ (15 - (m + 1))
    rw [cur_step h m (by omega)]
    exact Nat.mul_le_mul_right _ (Nat.le_add_right _ _)
theorem cur_one (h : Nat → Nat) : cur h 1 * 2 ^ (15 - 1) = h 0 * 2 ^ 15 := by simp [cur]; omega
theorem cur_end (h : Nat → Nat) : cur h 15 + h 15 = 32768 * h 0 + (16384 * h 1 + 8192 * h 2 + 4096 * h 3 + 2048 * h 4 + 1024 * h 5 + 512 * h 6 + 256 * h 7 + 128 * h 8 + 64 * h 9 + 32 * h 10 + 16 * h 11 + 8 * h 12 + 4 * h 13 + 2 * h 14 + h 15) := by
  simp only [cur]; omega
/-- The next length begins behind all of this one. -/
theorem code_next (c : Nat → Nat) (n s b : Nat) (hs : s < n) (hb : c s < b) (hb15 : b ≤ 15) : (codeOf c n s + 1) * 2 ^ (15 - c s) ≤ cur (fun l => cnt c l n) b * 2 ^ (15 - b) := by
  refine Nat.le_trans ?_ (cur_mono (fun l => cnt c l n) (show c s + 1 ≤ b by omega) hb15)
  rw [cur_step _ _ (by omega)]
  refine Nat.mul_le_mul_right _ ?_
  unfold codeOf
  have := cnt_lt c hs
  omega
theorem code_low (c : Nat → Nat) (n s : Nat) (h0 : 0 < c s) (h15 : c s ≤ 15) : cnt c 0 n * 2 ^ 15 ≤ codeOf c n s * 2 ^ (15 - c s) := by
  have := cur_mono (fun l => cnt c l n) (show 1 ≤ c s by omega) h15
  rw [cur_one] at this
  refine Nat.le_trans this (Nat.mul_le_mul_right _ ?_)
  exact Nat.le_add_right _ _
theorem code_high (c : Nat → Nat) (n s : Nat) (hc : ∀ i, i < n → c i ≤ 15) (hk : krf c n = 32768) (hs : s < n) : (codeOf c n s + 1) * 2 ^ (15 - c s) ≤ (cnt c 0 n + 1) * 2 ^ 15 := by
  have he := cur_end (fun l => cnt c l n)
  rw [krf_cnt c n hc] at hk
  have hc15 := hc s hs
  have top : cur (fun l => cnt c l n) 15 + cnt c 15 n = (cnt c 0 n + 1) * 2 ^ 15 := by omega
  by_cases h : c s = 15
  · rw [h, Nat.sub_self, Nat.pow_zero, Nat.mul_one, ← top]
    unfold codeOf
    rw [h]
    have := cnt_lt c hs
    rw [h] at this
    omega
  · have := code_next c n s 15 hs (by omega) (Nat.le_refl _)
    rw [Nat.sub_self, Nat.pow_zero, Nat.mul_one] at this
    omega
theorem mod_of {H p x : Nat} (h1 : H * p ≤ x) (h2 : x < (H + 1) * p) : x % p = x - H * p := by
  rw [Nat.add_mul, Nat.one_mul] at h2
  have e : x = (x - H * p) + H * p := by omega
  conv => lhs; rw [e]
  rw [Nat.add_mul_mod_self_right, Nat.mod_eq_of_lt (by omega)]
theorem pow_split {a b : Nat} (h : a ≤ b) : 2 ^ b = 2 ^ (b - a) * 2 ^ a := by rw [← Nat.pow_add]; congr 1; omega
/-- A code within its length. -/
theorem code_in (c : Nat → Nat) (n s : Nat) (hc : ∀ i, i < n → c i ≤ 15) (hk : krf c n = 32768) (hs : s < n) (h0 : 0 < c s) : cnt c 0 n * 2 ^ c s ≤ codeOf c n s ∧ codeOf c n s < (cnt c 0 n + 1) * 2 ^ c s := by
  have h1 := code_low c n s h0 (hc s hs)
  have h2 := code_high c n s hc hk hs
  have e : 2 ^ 15 = 2 ^ c s * 2 ^ (15 - c s) := by rw [Nat.mul_comm]; exact pow_split (hc s hs)
  rw [e, ← Nat.mul_assoc] at h1 h2
  have hp : 0 < 2 ^ (15 - c s) := Nat.two_pow_pos _
  have := Nat.le_of_mul_le_mul_right h1 hp
  have := Nat.le_of_mul_le_mul_right h2 hp
  omega
theorem code_bd (c : Nat → Nat) (n s : Nat) (hc : ∀ i, i < n → c i ≤ 15) (hk : krf c n = 32768) (hs : s < n) (h0 : 0 < c s) : codeOf c n s % 2 ^ c s = codeOf c n s - cnt c 0 n * 2 ^ c s := by
  obtain ⟨h1, h2⟩ := code_in c n s hc hk hs h0
  exact mod_of h1 h2
theorem codes_apart (c : Nat → Nat) (n i k : Nat) (hc : ∀ i, i < n → c i ≤ 15) (hk : krf c n = 32768) (hi : i < n) (hkn : k < n) (hne : i ≠ k) (h0 : 0 < c i) (hle : c i ≤ c k) :
    (codeOf c n k % 2 ^ c k) / 2 ^ (c k - c i) ≠ codeOf c n i % 2 ^ c i := by
  rw [code_bd c n i hc hk hi h0, code_bd c n k hc hk hkn (by omega)]
  obtain ⟨i1, i2⟩ := code_in c n i hc hk hi h0
  obtain ⟨k1, k2⟩ := code_in c n k hc hk hkn (by omega)
  by_cases he : c i = c k
  · rw [he, Nat.sub_self, Nat.pow_zero, Nat.div_one]
    have hd : codeOf c n k ≠ codeOf c n i := by
      unfold codeOf
      rw [he]
      rcases Nat.lt_or_gt_of_ne hne with h | h
      · have := cnt_lt c h
        rw [he] at this; omega
      · have := cnt_lt c h
        omega
    rw [he] at i1
    omega
  · have hlt : c i < c k := by omega
    have hn := code_next c n i (c k) hi hlt (hc k hkn)
    have hB : 2 ^ (15 - c i) = 2 ^ (c k - c i) * 2 ^ (15 - c k) := by rw [← Nat.pow_add]; congr 1; have := hc k hkn; omega
    have hle2 : cur (fun l => cnt c l n) (c k) * 2 ^ (15 - c k) ≤ codeOf c n k * 2 ^ (15 - c k) := Nat.mul_le_mul_right _ (Nat.le_add_right _ _)
    have h3 := Nat.le_trans hn hle2
    rw [hB, ← Nat.mul_assoc] at h3
    have h4 := Nat.le_of_mul_le_mul_right h3 (Nat.two_pow_pos _)
    have e : 2 ^ c k = 2 ^ (c k - c i) * 2 ^ c i := pow_split (by omega)
    have h5 : (codeOf c n i - cnt c 0 n * 2 ^ c i + 1) * 2 ^ (c k - c i) ≤ codeOf c n k - cnt c 0 n * 2 ^ c k := by
      rw [e, Nat.mul_comm (2 ^ (c k - c i)) (2 ^ c i), ← Nat.mul_assoc]
      rw [show codeOf c n i - cnt c 0 n * 2 ^ c i + 1 = (codeOf c n i + 1) - cnt c 0 n * 2 ^ c i by omega, Nat.sub_mul]
      omega
    have h6 := (Nat.le_div_iff_mul_le (Nat.two_pow_pos (c k - c i))).2 h5
    omega
theorem codes_up (c : Nat → Nat) (n i k : Nat) (hc : ∀ i, i < n → c i ≤ 15) (hk : krf c n = 32768) (hkn : k < n) (hik : i < k) (h0 : 0 < c i) (he : c i = c k) :
    codeOf c n i % 2 ^ c i < codeOf c n k % 2 ^ c k := by
  rw [code_bd c n i hc hk (by omega) h0, code_bd c n k hc hk hkn (by omega)]
  obtain ⟨i1, i2⟩ := code_in c n i hc hk (by omega) h0
  have hd : codeOf c n i < codeOf c n k := by
    unfold codeOf
    rw [he]
    have := cnt_lt c hik
    rw [he] at this; omega
  rw [he] at i1 ⊢
  omega
/-- Within 32 bits. -/
theorem code_32 (c : Nat → Nat) (n s : Nat) (hc : ∀ i, i < n → c i ≤ 15) (hk : krf c n = 32768) (hs : s < n) (h0 : 0 < c s) (hn : n ≤ 4096) : codeOf c n s < 4294967296 := by
  have h := (code_in c n s hc hk hs h0).2
  have h1 : (cnt c 0 n + 1) * 2 ^ c s ≤ 4097 * 2 ^ 15 := Nat.mul_le_mul (by have := cnt_n c 0 n; omega) (Nat.pow_le_pow_right (by omega) (hc s hs))
  omega
end Go.Proofs.YtdmefbpfpmkdcaaDoor
