/- The canonical code of the lengths of a whole tree is a prefix code (Code). Plain laws. -/
import Derived.Test.YtdmefbpfpmkdcaaDoorCodesP
import Derived.Test.YtdmefbpfpmkdcaaDoorHufP
namespace Go.Proofs.YtdmefbpfpmkdcaaDoor

/-- How many of n have length l; none has length 0. -/
def hh (c : Nat → Nat) (n l : Nat) : Nat := if l = 0 then 0 else cnt c l n
/-- The first code behind those of length l. -/
def En (c : Nat → Nat) (n l : Nat) : Nat := cur (hh c n) l + hh c n l
/-- The code of symbol s. -/
def vOf (c : Nat → Nat) (n s : Nat) : Nat := cur (hh c n) (c s) + cnt c (c s) s
theorem cur_zero (c : Nat → Nat) (n : Nat) : ∀ l, 1 ≤ l → cur (fun l => cnt c l n) l = cnt c 0 n * 2 ^ l + cur (hh c n) l
  | 0, h => absurd h (by omega)
  | 1, _ => by simp [cur, hh]; omega
  | l + 2, _ => by
    have ih := cur_zero c n (l + 1) (by omega)
    show 2 * (cur (fun l => cnt c l n) (l + 1) + cnt c (l + 1) n) = _
    rw [ih, Nat.pow_succ 2 (l + 1)]
    show _ = _ + 2 * (cur (hh c n) (l + 1) + hh c n (l + 1))
    unfold hh
    rw [if_neg (by omega)]
    generalize cnt c 0 n = a
    generalize 2 ^ (l + 1) = b
    rw [show a * (b * 2) = 2 * (a * b) by rw [Nat.mul_comm b 2, ← Nat.mul_assoc, Nat.mul_comm a 2, Nat.mul_assoc]]
    omega
theorem cur_En (c : Nat → Nat) (n l : Nat) : cur (hh c n) (l + 1) = 2 * En c n l := rfl
theorem En_zero (c : Nat → Nat) (n : Nat) : En c n 0 = 0 := rfl
theorem En_succ (c : Nat → Nat) (n l : Nat) : En c n (l + 1) = 2 * En c n l + cnt c (l + 1) n := by
  unfold En; rw [cur_En]; simp [hh, En]

/-- What is asked of lengths: a whole tree. -/
structure Whole (c : Nat → Nat) (n : Nat) : Prop where
  le : ∀ i, i < n → c i ≤ 15
  krf : krf c n = 32768
  max : n ≤ 65536

theorem Whole.end (c : Nat → Nat) (n : Nat) (h : Whole c n) : En c n 15 = 32768 := by
  have h1 := h.krf
  rw [krf_cnt c n h.le] at h1
  have h2 := cur_end (hh c n)
  unfold En
  rw [h2]
  simp only [hh]
  simp
  omega
theorem En_step (c : Nat → Nat) (n l k : Nat) : En c n l * 2 ^ k ≤ En c n (l + k) := by
  induction k with
  | zero => simp
  | succ k ih =>
    rw [← Nat.add_assoc, En_succ, Nat.pow_succ, ← Nat.mul_assoc]
    omega
theorem En_cur (c : Nat → Nat) (n l k : Nat) (hk : 1 ≤ k) : En c n l * 2 ^ k ≤ cur (hh c n) (l + k) := by
  obtain ⟨k, rfl⟩ : ∃ j, k = j + 1 := ⟨k - 1, by omega⟩
  rw [← Nat.add_assoc, cur_En, Nat.pow_succ, ← Nat.mul_assoc]
  have := En_step c n l k
  omega
theorem Whole.En_le {c : Nat → Nat} {n : Nat} (h : Whole c n) {l : Nat} (hl : l ≤ 15) : En c n l ≤ 2 ^ l := by
  have h1 := En_step c n l (15 - l)
  rw [show l + (15 - l) = 15 by omega, h.end] at h1
  have e : 32768 = 2 ^ l * 2 ^ (15 - l) := by rw [← Nat.pow_add, show l + (15 - l) = 15 by omega]
  rw [e] at h1
  exact Nat.le_of_mul_le_mul_right h1 (Nat.two_pow_pos _)
theorem vOf_lt {c : Nat → Nat} {n s : Nat} (hs : s < n) (h0 : 0 < c s) : cur (hh c n) (c s) ≤ vOf c n s ∧ vOf c n s < En c n (c s) := by
  have := cnt_lt c hs
  unfold vOf En hh
  rw [if_neg (by omega)]
  omega
theorem vOf_code {c : Nat → Nat} {n s : Nat} (h : Whole c n) (hs : s < n) (h0 : 0 < c s) : codeOf c n s % 2 ^ c s = vOf c n s ∧ vOf c n s < 2 ^ c s := by
  have h1 := code_bd c n s h.le h.krf hs h0
  have h2 := cur_zero c n (c s) h0
  have h3 := (vOf_lt hs h0).2
  have h4 := h.En_le (h.le s hs)
  refine ⟨?_, by omega⟩
  rw [h1]
  unfold codeOf vOf
  rw [h2]
  omega

/-- The paths of the first m symbols, with these. -/
def codesL (c : Nat → Nat) (n : Nat) : Nat → List (Nat × Nat)
  | 0 => []
  | m + 1 => codesL c n m ++ (if 0 < c m then [(cod (c m) (codeOf c n m), m)] else [])
theorem mem_codesL (c : Nat → Nat) (n u s : Nat) : ∀ m, ((u, s) ∈ codesL c n m ↔ s < m ∧ 0 < c s ∧ u = cod (c s) (codeOf c n s))
  | 0 => by simp [codesL]
  | m + 1 => by
    rw [codesL, List.mem_append, mem_codesL c n u s m]
    constructor
    · rintro (⟨h1, h2, h3⟩ | h)
      · exact ⟨by omega, h2, h3⟩
      · split at h
        · rw [List.mem_singleton] at h
          injection h with h1 h2
          subst h2
          exact ⟨by omega, by assumption, h1⟩
        · simp at h
    · rintro ⟨h1, h2, h3⟩
      by_cases e : s = m
      · subst e; right; rw [if_pos h2, h3]; simp
      · exact .inl ⟨by omega, h2, h3⟩
theorem codesL_len (c : Nat → Nat) (n : Nat) : ∀ m, (∀ i, i < m → c i ≤ 15) → (codesL c n m).length = cnt c 1 m + cnt c 2 m + cnt c 3 m + cnt c 4 m + cnt c 5 m + cnt c 6 m + cnt c 7 m + cnt c 8 m + cnt c 9 m + cnt c 10 m + cnt c 11 m + cnt c 12 m + cnt c 13 m + cnt c 14 m + cnt c 15 m
  | 0, _ => rfl
  | m + 1, h => by
    have ih := codesL_len c n m (fun i hi => h i (by omega))
    have hn := h m (by omega)
    rw [codesL, List.length_append, ih]
    simp only [cnt]
    generalize c m = x at hn
    have : x = 0 ∨ x = 1 ∨ x = 2 ∨ x = 3 ∨ x = 4 ∨ x = 5 ∨ x = 6 ∨ x = 7 ∨ x = 8 ∨ x = 9 ∨ x = 10 ∨ x = 11 ∨ x = 12 ∨ x = 13 ∨ x = 14 ∨ x = 15 := by omega
    rcases this with rfl | rfl | rfl | rfl | rfl | rfl | rfl | rfl | rfl | rfl | rfl | rfl | rfl | rfl | rfl | rfl <;> simp <;> omega

/-- The paths within the tree, of fewer than L bits. -/
def inn (c : Nat → Nat) (n : Nat) : Nat → List Nat
  | 0 => []
  | d + 1 => inn c n d ++ (List.range (2 ^ d - En c n d)).map (fun i => 2 ^ d + En c n d + i)
theorem mem_inn (c : Nat → Nat) (n w : Nat) : ∀ L, (w ∈ inn c n L ↔ ∃ d x, d < L ∧ En c n d ≤ x ∧ x < 2 ^ d ∧ w = 2 ^ d + x)
  | 0 => by simp [inn]
  | L + 1 => by
    rw [inn, List.mem_append, mem_inn c n w L, List.mem_map]
    constructor
    · rintro (⟨d, x, h1, h2, h3, h4⟩ | ⟨i, h1, h2⟩)
      · exact ⟨d, x, by omega, h2, h3, h4⟩
      · rw [List.mem_range] at h1
        exact ⟨L, En c n L + i, by omega, by omega, by omega, by omega⟩
    · rintro ⟨d, x, h1, h2, h3, h4⟩
      by_cases e : d = L
      · subst e; exact .inr ⟨x - En c n d, by rw [List.mem_range]; omega, by omega⟩
      · exact .inl ⟨d, x, by omega, h2, h3, h4⟩
theorem inn_len (c : Nat → Nat) (n d : Nat) : (inn c n (d + 1)).length = (inn c n d).length + (2 ^ d - En c n d) := by
  rw [inn, List.length_append, List.length_map, List.length_range]

theorem cnt_onto (c : Nat → Nat) (l : Nat) : ∀ n j, j < cnt c l n → ∃ s, s < n ∧ c s = l ∧ cnt c l s = j
  | 0, j, h => absurd h (by simp [cnt])
  | n + 1, j, h => by
    rw [cnt] at h
    by_cases hj : j < cnt c l n
    · obtain ⟨s, h1, h2, h3⟩ := cnt_onto c l n j hj
      exact ⟨s, by omega, h2, h3⟩
    · split at h
      · exact ⟨n, by omega, by assumption, by omega⟩
      · omega

theorem codesL_nodup (c : Nat → Nat) (n : Nat) (h : Whole c n) : ∀ m, m ≤ n → ((codesL c n m).map Prod.fst).Nodup
  | 0, _ => by simp [codesL]
  | m + 1, hm => by
    have ih := codesL_nodup c n h m (by omega)
    rw [codesL, List.map_append, List.nodup_append]
    refine ⟨ih, by split <;> simp, ?_⟩
    intro a ha b hb
    obtain ⟨⟨u, s⟩, hu, rfl⟩ := List.mem_map.1 ha
    obtain ⟨hs, h0, hus⟩ := (mem_codesL c n u s m).1 hu
    split at hb
    · rename_i hm0
      simp only [List.map_cons, List.map_nil, List.mem_singleton] at hb
      rw [hb]
      show u ≠ _
      rw [hus]
      intro e
      have v1 := vOf_code h (show s < n by omega) h0
      have v2 := vOf_code h (show m < n by omega) hm0
      unfold cod at e
      rw [v1.1, v2.1] at e
      have hl : c s = c m := by
        rcases Nat.lt_trichotomy (c s) (c m) with hl | hl | hl
        · have := Nat.pow_le_pow_right (n := 2) (by decide) (show c s + 1 ≤ c m by omega)
          rw [Nat.pow_succ] at this; omega
        · exact hl
        · have := Nat.pow_le_pow_right (n := 2) (by decide) (show c m + 1 ≤ c s by omega)
          rw [Nat.pow_succ] at this; omega
      have hc := cnt_lt c hs
      unfold vOf at e
      rw [hl] at e hc
      omega
    · simp at hb

theorem kid_or {c : Nat → Nat} {n : Nat} (h : Whole c n) {d x b : Nat} (hd : d < 15) (h1 : En c n d ≤ x) (h2 : x < 2 ^ d) (hb : b < 2) :
    (∃ s, (2 * (2 ^ d + x) + b, s) ∈ codesL c n n) ∨ d + 1 < 15 ∧ En c n (d + 1) ≤ 2 * x + b ∧ 2 * x + b < 2 ^ (d + 1) := by
  have hp : (2 : Nat) ^ (d + 1) = 2 * 2 ^ d := Nat.pow_succ'
  by_cases hl : 2 * x + b < En c n (d + 1)
  · left
    rw [En_succ] at hl
    obtain ⟨s, hs, hcs, hcn⟩ := cnt_onto c (d + 1) n (2 * x + b - 2 * En c n d) (by omega)
    refine ⟨s, (mem_codesL c n _ s n).2 ⟨hs, by omega, ?_⟩⟩
    have := (vOf_code h hs (by omega)).1
    unfold cod
    rw [this]
    unfold vOf
    rw [hcs, hcn, cur_En]
    omega
  · right
    refine ⟨?_, by omega, by omega⟩
    rcases Nat.lt_or_ge (d + 1) 15 with hlt | hge
    · exact hlt
    · obtain rfl : d = 14 := by omega
      have h15 : En c n (14 + 1) = 32768 := h.end
      exfalso
      have e : (2 : Nat) ^ 14 = 16384 := rfl
      omega

theorem ext_of {c : Nat → Nat} {n : Nat} (h : Whole c n) : ∀ f d x, 15 - d ≤ f → d < 15 → En c n d ≤ x → x < 2 ^ d → ∃ u s k, (u, s) ∈ codesL c n n ∧ 1 ≤ k ∧ u / 2 ^ k = 2 ^ d + x
  | 0, d, x, hf, hd, _, _ => absurd hf (by omega)
  | f + 1, d, x, hf, hd, h1, h2 => by
    have hp : (2 : Nat) ^ (d + 1) = 2 * 2 ^ d := Nat.pow_succ'
    rcases kid_or h hd h1 h2 (show 0 < 2 by decide) with ⟨s, hs⟩ | ⟨a1, a2, a3⟩
    · exact ⟨_, s, 1, hs, Nat.le_refl _, by omega⟩
    · obtain ⟨u, s, k, k1, k2, k3⟩ := ext_of h f (d + 1) (2 * x + 0) (by omega) a1 a2 a3
      refine ⟨u, s, k + 1, k1, by omega, ?_⟩
      rw [Nat.pow_succ, ← Nat.div_div_eq_div_mul, k3]
      omega

/-- The canonical code of a whole tree. -/
theorem Whole.code {c : Nat → Nat} {n : Nat} (h : Whole c n) : Code (codesL c n n) (inn c n 15) := by
  have hmem : ∀ u s, (u, s) ∈ codesL c n n → s < n ∧ 0 < c s ∧ c s ≤ 15 ∧ u = 2 ^ c s + vOf c n s ∧ vOf c n s < 2 ^ c s ∧ vOf c n s < En c n (c s) ∧ cur (hh c n) (c s) ≤ vOf c n s := fun u s hu => by
    obtain ⟨h1, h2, h3⟩ := (mem_codesL c n u s n).1 hu
    obtain ⟨e1, e2⟩ := vOf_code h h1 h2
    obtain ⟨e3, e4⟩ := vOf_lt h1 h2
    refine ⟨h1, h2, h.le s h1, ?_, e2, e4, e3⟩
    rw [h3]; unfold cod; rw [e1]
  refine ⟨fun u s hu k hk hk1 => ?_, fun v hv => ?_, fun v hv b hb => ?_, .inl ?_, fun u s hu hI => ?_, codesL_nodup c n h n (Nat.le_refl _), ?_, fun v hv => ?_, fun u s hu => ?_⟩
  · obtain ⟨h1, h2, h3, h4, h5, h6, h7⟩ := hmem u s hu
    have hkl : k ≤ c s := by
      rcases Nat.lt_or_ge (c s) k with hl | hl
      · exfalso
        have := Nat.pow_le_pow_right (n := 2) (by decide) (show c s + 1 ≤ k by omega)
        rw [Nat.div_eq_of_lt (by rw [Nat.pow_succ] at this; omega)] at hk1
        omega
      · exact hl
    rw [mem_inn]
    refine ⟨c s - k, vOf c n s / 2 ^ k, by omega, ?_, ?_, ?_⟩
    · rw [Nat.le_div_iff_mul_le (Nat.two_pow_pos k)]
      have := En_cur c n (c s - k) k hk
      rw [show c s - k + k = c s by omega] at this
      omega
    · rw [Nat.div_lt_iff_lt_mul (Nat.two_pow_pos k), ← Nat.pow_add, show c s - k + k = c s by omega]
      exact h5
    · have e : (2 : Nat) ^ c s = 2 ^ k * 2 ^ (c s - k) := by rw [← Nat.pow_add]; congr 1; omega
      rw [h4, e, Nat.mul_add_div (Nat.two_pow_pos k)]
  · rw [mem_inn] at hv
    obtain ⟨d, x, h1, h2, h3, rfl⟩ := hv
    exact ext_of h 15 d x (by omega) h1 h2 h3
  · rw [mem_inn] at hv
    obtain ⟨d, x, h1, h2, h3, rfl⟩ := hv
    rcases kid_or h h1 h2 h3 hb with h | ⟨a1, a2, a3⟩
    · exact .inr h
    · left
      rw [mem_inn]
      exact ⟨d + 1, 2 * x + b, a1, a2, a3, by rw [Nat.pow_succ]; omega⟩
  · rw [mem_inn]
    exact ⟨0, 0, by decide, Nat.le_refl _, by decide, rfl⟩
  · obtain ⟨h1, h2, h3, h4, h5, h6, h7⟩ := hmem u s hu
    rw [mem_inn] at hI
    obtain ⟨d, x, a1, a2, a3, a4⟩ := hI
    have hl : d = c s := by
      rcases Nat.lt_trichotomy d (c s) with hl | hl | hl
      · have := Nat.pow_le_pow_right (n := 2) (by decide) (show d + 1 ≤ c s by omega)
        rw [Nat.pow_succ] at this; omega
      · exact hl
      · have := Nat.pow_le_pow_right (n := 2) (by decide) (show c s + 1 ≤ d by omega)
        rw [Nat.pow_succ] at this; omega
    subst hl
    omega
  · have e := codesL_len c n n h.le
    have s0 : (inn c n 0).length = 0 := rfl
    have E0 := En_zero c n
    have p0 := En_succ c n 0
    have p1 := En_succ c n 1
    have p2 := En_succ c n 2
    have p3 := En_succ c n 3
    have p4 := En_succ c n 4
    have p5 := En_succ c n 5
    have p6 := En_succ c n 6
    have p7 := En_succ c n 7
    have p8 := En_succ c n 8
    have p9 := En_succ c n 9
    have p10 := En_succ c n 10
    have p11 := En_succ c n 11
    have p12 := En_succ c n 12
    have p13 := En_succ c n 13
    have p14 := En_succ c n 14
    have b1 := h.En_le (l := 1) (by decide)
    have b2 := h.En_le (l := 2) (by decide)
    have b3 := h.En_le (l := 3) (by decide)
    have b4 := h.En_le (l := 4) (by decide)
    have b5 := h.En_le (l := 5) (by decide)
    have b6 := h.En_le (l := 6) (by decide)
    have b7 := h.En_le (l := 7) (by decide)
    have b8 := h.En_le (l := 8) (by decide)
    have b9 := h.En_le (l := 9) (by decide)
    have b10 := h.En_le (l := 10) (by decide)
    have b11 := h.En_le (l := 11) (by decide)
    have b12 := h.En_le (l := 12) (by decide)
    have b13 := h.En_le (l := 13) (by decide)
    have b14 := h.En_le (l := 14) (by decide)
    have e15 := h.end
    simp only [inn_len]
    rw [e, s0]
    simp only [show (2 : Nat) ^ 0 = 1 from rfl, show (2 : Nat) ^ 1 = 2 from rfl, show (2 : Nat) ^ 2 = 4 from rfl, show (2 : Nat) ^ 3 = 8 from rfl, show (2 : Nat) ^ 4 = 16 from rfl, show (2 : Nat) ^ 5 = 32 from rfl, show (2 : Nat) ^ 6 = 64 from rfl, show (2 : Nat) ^ 7 = 128 from rfl, show (2 : Nat) ^ 8 = 256 from rfl, show (2 : Nat) ^ 9 = 512 from rfl, show (2 : Nat) ^ 10 = 1024 from rfl, show (2 : Nat) ^ 11 = 2048 from rfl, show (2 : Nat) ^ 12 = 4096 from rfl, show (2 : Nat) ^ 13 = 8192 from rfl, show (2 : Nat) ^ 14 = 16384 from rfl] at *
    simp only [show 0 + 1 = 1 from rfl, show 1 + 1 = 2 from rfl, show 2 + 1 = 3 from rfl, show 3 + 1 = 4 from rfl, show 4 + 1 = 5 from rfl, show 5 + 1 = 6 from rfl, show 6 + 1 = 7 from rfl, show 7 + 1 = 8 from rfl, show 8 + 1 = 9 from rfl, show 9 + 1 = 10 from rfl, show 10 + 1 = 11 from rfl, show 11 + 1 = 12 from rfl, show 12 + 1 = 13 from rfl, show 13 + 1 = 14 from rfl, show 14 + 1 = 15 from rfl] at *
    omega
  · rw [mem_inn] at hv
    obtain ⟨d, x, h1, h2, h3, rfl⟩ := hv
    have := Nat.two_pow_pos d
    omega
  · obtain ⟨h1, h2, h3, h4, h5, h6, h7⟩ := hmem u s hu
    have hp := Nat.two_pow_pos (c s)
    have hp2 : (2 : Nat) ^ c s ≤ 2 ^ 15 := Nat.pow_le_pow_right (by decide) h3
    have := h.max
    have e : (2 : Nat) ^ 15 = 32768 := rfl
    omega
end Go.Proofs.YtdmefbpfpmkdcaaDoor
