/- Words and lemmas that the walks share: CodesP, HufP, HufC, HufS, Base, Mem (merged by a program). No condition is added. -/
import Derived.Test.YtdmefbpfpmkdcaaDoorRows
import Derived.WalkKit
import Derived.IntWalk
import Derived.Lib.Hide
import Derived.Deep.Draws
namespace Go.Proofs.YtdmefbpfpmkdcaaDoor

/-- How many of the first n have length l. -/
def cnt (c : Nat → Nat) (l : Nat) : Nat → Nat
  | 0 => 0
  | n + 1 => cnt c l n + (if c n = l then 1 else 0)
/-- The first code of length l, from how many there are of each length. -/
def cur (h : Nat → Nat) : Nat → Nat
  | 0 => 0
  | l + 1 => 2 * (cur h l + h l)
/-- The sum of what the first n take of the tree. -/
def krf (c : Nat → Nat) : Nat → Nat
  | 0 => 0
  | n + 1 => krf c n + (if 0 < c n then 2 ^ (15 - c n) else 0)
/-- The code of symbol s of n. -/
def codeOf (c : Nat → Nat) (n s : Nat) : Nat := cur (fun l => cnt c l n) (c s) + cnt c (c s) s

theorem cnt_le (c : Nat → Nat) (l : Nat) : ∀ {s t : Nat}, s ≤ t → cnt c l s ≤ cnt c l t := by
  intro s t h
  induction h with
  | refl => exact Nat.le_refl _
  | step _ ih => exact Nat.le_trans ih (Nat.le_add_right _ _)
theorem cnt_lt (c : Nat → Nat) {s t : Nat} (h : s < t) : cnt c (c s) s + 1 ≤ cnt c (c s) t := by
  have : cnt c (c s) (s + 1) = cnt c (c s) s + 1 := by simp [cnt]
  rw [← this]; exact cnt_le c _ h
theorem cnt_n (c : Nat → Nat) (l n : Nat) : cnt c l n ≤ n := by
  induction n with
  | zero => exact Nat.le_refl _
  | succ n ih => simp only [cnt]; split <;> omega
theorem krf_cnt (c : Nat → Nat) : ∀ n, (∀ i, i < n → c i ≤ 15) → krf c n = 16384 * cnt c 1 n + 8192 * cnt c 2 n + 4096 * cnt c 3 n + 2048 * cnt c 4 n + 1024 * cnt c 5 n + 512 * cnt c 6 n + 256 * cnt c 7 n + 128 * cnt c 8 n + 64 * cnt c 9 n + 32 * cnt c 10 n + 16 * cnt c 11 n + 8 * cnt c 12 n + 4 * cnt c 13 n + 2 * cnt c 14 n + cnt c 15 n
  | 0, _ => rfl
  | n + 1, h => by
    have ih := krf_cnt c n (fun i hi => h i (by omega))
    have hn := h n (by omega)
    simp only [krf, cnt]
    rw [ih]
    generalize c n = x at hn
    have : x = 0 ∨ x = 1 ∨ x = 2 ∨ x = 3 ∨ x = 4 ∨ x = 5 ∨ x = 6 ∨ x = 7 ∨ x = 8 ∨ x = 9 ∨ x = 10 ∨ x = 11 ∨ x = 12 ∨ x = 13 ∨ x = 14 ∨ x = 15 := by omega
    rcases this with rfl | rfl | rfl | rfl | rfl | rfl | rfl | rfl | rfl | rfl | rfl | rfl | rfl | rfl | rfl | rfl <;> simp <;> omega
theorem cur_step (h : Nat → Nat) (l : Nat) (hl : l < 15) : cur h (l + 1) * 2 ^ (15 - (l + 1)) = (cur h l + h l) * 2 ^ (15 - l) := by
  have e : 15 - l = (15 - (l + 1)) + 1 := by omega
  rw [e, Nat.pow_succ]
  simp only [cur]
  rw [Nat.mul_comm 2, Nat.mul_assoc, Nat.mul_comm (2 ^ _) 2]
theorem cur_mono (h : Nat → Nat) : ∀ {a b : Nat}, a ≤ b → b ≤ 15 → cur h a * 2 ^ (15 - a) ≤ cur h b * 2 ^ (15 - b) := by
  intro a b hab
  induction hab with
  | refl => intro _; exact Nat.le_refl _
  | @step m _ ih =>
    intro hm
    refine Nat.le_trans (ih (by omega)) ?_
    show cur h m * _ ≤ cur h (m + 1) * 2 ^ (15 - (m + 1))
    rw [cur_step h m (by omega)]
    exact Nat.mul_le_mul_right _ (Nat.le_add_right _ _)
theorem cur_one (h : Nat → Nat) : cur h 1 * 2 ^ (15 - 1) = h 0 * 2 ^ 15 := by simp [cur]; omega
theorem cur_end (h : Nat → Nat) : cur h 15 + h 15 = 32768 * h 0 + (16384 * h 1 + 8192 * h 2 + 4096 * h 3 + 2048 * h 4 + 1024 * h 5 + 512 * h 6 + 256 * h 7 + 128 * h 8 + 64 * h 9 + 32 * h 10 + 16 * h 11 + 8 * h 12 + 4 * h 13 + 2 * h 14 + h 15) := by
  simp only [cur]; omega
/-- The next length begins behind all of this one. -/
theorem code_next (c : Nat → Nat) (n s b : Nat) (hs : s < n) (hb : c s < b) (hb15 : b ≤ 15) : (codeOf c n s + 1) * 2 ^ (15 - c s) ≤ cur (fun l => cnt c l n) b * 2 ^ (15 - b) := by
  refine Nat.le_trans ?_ (cur_mono (fun l => cnt c l n) (show c s + 1 ≤ b by omega) hb15)
  rw [cur_step _ _ (by omega)]
  refine Nat.mul_le_mul_right _ ?_
  unfold codeOf
  have := cnt_lt c hs
  omega
theorem code_low (c : Nat → Nat) (n s : Nat) (h0 : 0 < c s) (h15 : c s ≤ 15) : cnt c 0 n * 2 ^ 15 ≤ codeOf c n s * 2 ^ (15 - c s) := by
  have := cur_mono (fun l => cnt c l n) (show 1 ≤ c s by omega) h15
  rw [cur_one] at this
  refine Nat.le_trans this (Nat.mul_le_mul_right _ ?_)
  exact Nat.le_add_right _ _
theorem code_high (c : Nat → Nat) (n s : Nat) (hc : ∀ i, i < n → c i ≤ 15) (hk : krf c n = 32768) (hs : s < n) : (codeOf c n s + 1) * 2 ^ (15 - c s) ≤ (cnt c 0 n + 1) * 2 ^ 15 := by
  have he := cur_end (fun l => cnt c l n)
  rw [krf_cnt c n hc] at hk
  have hc15 := hc s hs
  have top : cur (fun l => cnt c l n) 15 + cnt c 15 n = (cnt c 0 n + 1) * 2 ^ 15 := by omega
  by_cases h : c s = 15
  · rw [h, Nat.sub_self, Nat.pow_zero, Nat.mul_one, ← top]
    unfold codeOf
    rw [h]
    have := cnt_lt c hs
    rw [h] at this
    omega
  · have := code_next c n s 15 hs (by omega) (Nat.le_refl _)
    rw [Nat.sub_self, Nat.pow_zero, Nat.mul_one] at this
    omega
theorem mod_of {H p x : Nat} (h1 : H * p ≤ x) (h2 : x < (H + 1) * p) : x % p = x - H * p := by
  rw [Nat.add_mul, Nat.one_mul] at h2
  have e : x = (x - H * p) + H * p := by omega
  conv => lhs; rw [e]
  rw [Nat.add_mul_mod_self_right, Nat.mod_eq_of_lt (by omega)]
theorem pow_split {a b : Nat} (h : a ≤ b) : 2 ^ b = 2 ^ (b - a) * 2 ^ a := by rw [← Nat.pow_add]; congr 1; omega
/-- A code within its length. -/
theorem code_in (c : Nat → Nat) (n s : Nat) (hc : ∀ i, i < n → c i ≤ 15) (hk : krf c n = 32768) (hs : s < n) (h0 : 0 < c s) : cnt c 0 n * 2 ^ c s ≤ codeOf c n s ∧ codeOf c n s < (cnt c 0 n + 1) * 2 ^ c s := by
  have h1 := code_low c n s h0 (hc s hs)
  have h2 := code_high c n s hc hk hs
  have e : 2 ^ 15 = 2 ^ c s * 2 ^ (15 - c s) := by rw [Nat.mul_comm]; exact pow_split (hc s hs)
  rw [e, ← Nat.mul_assoc] at h1 h2
  have hp : 0 < 2 ^ (15 - c s) := Nat.two_pow_pos _
  have := Nat.le_of_mul_le_mul_right h1 hp
  have := Nat.le_of_mul_le_mul_right h2 hp
  omega
theorem code_bd (c : Nat → Nat) (n s : Nat) (hc : ∀ i, i < n → c i ≤ 15) (hk : krf c n = 32768) (hs : s < n) (h0 : 0 < c s) : codeOf c n s % 2 ^ c s = codeOf c n s - cnt c 0 n * 2 ^ c s := by
  obtain ⟨h1, h2⟩ := code_in c n s hc hk hs h0
  exact mod_of h1 h2
theorem codes_apart (c : Nat → Nat) (n i k : Nat) (hc : ∀ i, i < n → c i ≤ 15) (hk : krf c n = 32768) (hi : i < n) (hkn : k < n) (hne : i ≠ k) (h0 : 0 < c i) (hle : c i ≤ c k) :
    (codeOf c n k % 2 ^ c k) / 2 ^ (c k - c i) ≠ codeOf c n i % 2 ^ c i := by
  rw [code_bd c n i hc hk hi h0, code_bd c n k hc hk hkn (by omega)]
  obtain ⟨i1, i2⟩ := code_in c n i hc hk hi h0
  obtain ⟨k1, k2⟩ := code_in c n k hc hk hkn (by omega)
  by_cases he : c i = c k
  · rw [he, Nat.sub_self, Nat.pow_zero, Nat.div_one]
    have hd : codeOf c n k ≠ codeOf c n i := by
      unfold codeOf
      rw [he]
      rcases Nat.lt_or_gt_of_ne hne with h | h
      · have := cnt_lt c h
        rw [he] at this; omega
      · have := cnt_lt c h
        omega
    rw [he] at i1
    omega
  · have hlt : c i < c k := by omega
    have hn := code_next c n i (c k) hi hlt (hc k hkn)
    have hB : 2 ^ (15 - c i) = 2 ^ (c k - c i) * 2 ^ (15 - c k) := by rw [← Nat.pow_add]; congr 1; have := hc k hkn; omega
    have hle2 : cur (fun l => cnt c l n) (c k) * 2 ^ (15 - c k) ≤ codeOf c n k * 2 ^ (15 - c k) := Nat.mul_le_mul_right _ (Nat.le_add_right _ _)
    have h3 := Nat.le_trans hn hle2
    rw [hB, ← Nat.mul_assoc] at h3
    have h4 := Nat.le_of_mul_le_mul_right h3 (Nat.two_pow_pos _)
    have e : 2 ^ c k = 2 ^ (c k - c i) * 2 ^ c i := pow_split (by omega)
    have h5 : (codeOf c n i - cnt c 0 n * 2 ^ c i + 1) * 2 ^ (c k - c i) ≤ codeOf c n k - cnt c 0 n * 2 ^ c k := by
      rw [e, Nat.mul_comm (2 ^ (c k - c i)) (2 ^ c i), ← Nat.mul_assoc]
      rw [show codeOf c n i - cnt c 0 n * 2 ^ c i + 1 = (codeOf c n i + 1) - cnt c 0 n * 2 ^ c i by omega, Nat.sub_mul]
      omega
    have h6 := (Nat.le_div_iff_mul_le (Nat.two_pow_pos (c k - c i))).2 h5
    omega
theorem codes_up (c : Nat → Nat) (n i k : Nat) (hc : ∀ i, i < n → c i ≤ 15) (hk : krf c n = 32768) (hkn : k < n) (hik : i < k) (h0 : 0 < c i) (he : c i = c k) :
    codeOf c n i % 2 ^ c i < codeOf c n k % 2 ^ c k := by
  rw [code_bd c n i hc hk (by omega) h0, code_bd c n k hc hk hkn (by omega)]
  obtain ⟨i1, i2⟩ := code_in c n i hc hk (by omega) h0
  have hd : codeOf c n i < codeOf c n k := by
    unfold codeOf
    rw [he]
    have := cnt_lt c hik
    rw [he] at this; omega
  rw [he] at i1 ⊢
  omega
/-- Within 32 bits. -/
theorem code_32 (c : Nat → Nat) (n s : Nat) (hc : ∀ i, i < n → c i ≤ 15) (hk : krf c n = 32768) (hs : s < n) (h0 : 0 < c s) (hn : n ≤ 4096) : codeOf c n s < 4294967296 := by
  have h := (code_in c n s hc hk hs h0).2
  have h1 : (cnt c 0 n + 1) * 2 ^ c s ≤ 4097 * 2 ^ 15 := Nat.mul_le_mul (by have := cnt_n c 0 n; omega) (Nat.pow_le_pow_right (by omega) (hc s hs))
  omega
end Go.Proofs.YtdmefbpfpmkdcaaDoor
namespace Go.Proofs.YtdmefbpfpmkdcaaDoor

/-- The path that the first k bits of x tell, lowest bit first, behind a leading one. -/
def pth (x : Nat) : Nat → Nat
  | 0 => 1
  | k + 1 => 2 * pth x k + x / 2 ^ k % 2

theorem pth_low (x : Nat) : ∀ k, 2 ^ k ≤ pth x k
  | 0 => Nat.le_refl _
  | k + 1 => by have := pth_low x k; rw [pth, Nat.pow_succ]; omega
theorem pth_high (x : Nat) : ∀ k, pth x k < 2 ^ (k + 1)
  | 0 => by simp [pth]
  | k + 1 => by have := pth_high x k; rw [pth, Nat.pow_succ]; omega
theorem pth_pos (x k : Nat) : 1 ≤ pth x k := Nat.le_trans (Nat.two_pow_pos k) (pth_low x k)
theorem bit_mod (x k j : Nat) (h : j < k) : x % 2 ^ k / 2 ^ j % 2 = x / 2 ^ j % 2 := by
  have e : (2 : Nat) ^ k = 2 ^ j * 2 ^ (k - j) := by rw [← Nat.pow_add]; congr 1; omega
  have e2 : (2 : Nat) ^ (k - j) = 2 * 2 ^ (k - j - 1) := by rw [← Nat.pow_succ']; congr 1; omega
  rw [e, Nat.mod_mul_right_div_self, e2, Nat.mod_mul_right_mod]
theorem pth_mod (x m : Nat) : ∀ k, k ≤ m → pth (x % 2 ^ m) k = pth x k
  | 0, _ => rfl
  | k + 1, h => by rw [pth, pth, pth_mod x m k (by omega), bit_mod x m k (by omega)]
/-- Two numbers tell the same path if their low bits are the same. -/
theorem pth_eq (x y : Nat) : ∀ k, (pth x k = pth y k ↔ x % 2 ^ k = y % 2 ^ k)
  | 0 => by simp [pth, Nat.mod_one]
  | k + 1 => by
    have ih := pth_eq x y k
    rw [pth, pth, Nat.pow_succ, Nat.mod_mul, Nat.mod_mul]
    have h1 := Nat.mod_lt x (Nat.two_pow_pos k)
    have h2 := Nat.mod_lt y (Nat.two_pow_pos k)
    constructor
    · intro h
      have ha : pth x k = pth y k := by omega
      have hb : x / 2 ^ k % 2 = y / 2 ^ k % 2 := by omega
      rw [ih.1 ha, hb]
    · intro h
      have hb : x / 2 ^ k % 2 = y / 2 ^ k % 2 := by
        rcases Nat.mod_two_eq_zero_or_one (x / 2 ^ k) with e | e <;> rcases Nat.mod_two_eq_zero_or_one (y / 2 ^ k) with e' | e' <;> rw [e, e'] at h ⊢ <;> omega
      rw [hb] at h
      have ha : x % 2 ^ k = y % 2 ^ k := by omega
      rw [ih.2 ha, hb]
theorem pth_up (x k : Nat) : ∀ j, pth x (k + j) / 2 ^ j = pth x k
  | 0 => by simp
  | j + 1 => by
    rw [← Nat.add_assoc, pth, Nat.pow_succ, Nat.mul_comm (2 ^ j) 2, ← Nat.div_div_eq_div_mul]
    rw [show (2 * pth x (k + j) + x / 2 ^ (k + j) % 2) / 2 = pth x (k + j) by omega]
    exact pth_up x k j
/-- Paths of one length. -/
theorem pth_len {x y k j : Nat} (h : pth x k = pth y j) : k = j := by
  have h1 := pth_low x k
  have h2 := pth_high x k
  have h3 := pth_low y j
  have h4 := pth_high y j
  rcases Nat.lt_trichotomy k j with e | e | e
  · have := Nat.pow_le_pow_right (n := 2) (by decide) (show k + 1 ≤ j by omega); omega
  · exact e
  · have := Nat.pow_le_pow_right (n := 2) (by decide) (show j + 1 ≤ k by omega); omega
/-- The path of l bits whose number is v, the first bit highest. -/
def cod (l v : Nat) : Nat := 2 ^ l + v % 2 ^ l
theorem cod_low (l v : Nat) : 2 ^ l ≤ cod l v := Nat.le_add_right _ _
theorem cod_high (l v : Nat) : cod l v < 2 ^ (l + 1) := by
  have := Nat.mod_lt v (Nat.two_pow_pos l)
  rw [Nat.pow_succ]; unfold cod; omega
theorem cod_up (l v j : Nat) (h : j ≤ l) : cod l v / 2 ^ j = cod (l - j) (v / 2 ^ j) := by
  unfold cod
  have e : (2 : Nat) ^ l = 2 ^ j * 2 ^ (l - j) := by rw [← Nat.pow_add]; congr 1; omega
  conv => lhs; rw [e]
  rw [Nat.mul_add_div (Nat.two_pow_pos j), Nat.mod_mul_right_div_self]
theorem cod_step (l v c : Nat) (h : c < l) : cod l v / 2 ^ c = 2 * (cod l v / 2 ^ (c + 1)) + v / 2 ^ c % 2 := by
  rw [Nat.pow_succ, ← Nat.div_div_eq_div_mul, cod_up l v c (by omega)]
  have h1 : cod (l - c) (v / 2 ^ c) % 2 = v / 2 ^ c % 2 := by
    unfold cod
    have e : (2 : Nat) ^ (l - c) = 2 * 2 ^ (l - c - 1) := by rw [← Nat.pow_succ']; congr 1; omega
    rw [e, Nat.mul_add_mod, Nat.mod_mul_right_mod]
  omega
theorem cod_top (l v : Nat) : cod l v / 2 ^ l = 1 := by
  rw [cod_up l v l (Nat.le_refl _), Nat.sub_self]; simp [cod, Nat.mod_one]
theorem cod_pos (l v : Nat) : 1 ≤ cod l v := Nat.le_trans (Nat.two_pow_pos l) (cod_low l v)

/-- A prefix code: paths with their symbols (C) and the paths within the tree (I). -/
structure Code (C : List (Nat × Nat)) (I : List Nat) : Prop where
  pre : ∀ u s, (u, s) ∈ C → ∀ k, 1 ≤ k → 1 ≤ u / 2 ^ k → u / 2 ^ k ∈ I
  ext : ∀ v, v ∈ I → ∃ u s k, (u, s) ∈ C ∧ 1 ≤ k ∧ u / 2 ^ k = v
  kids : ∀ v, v ∈ I → ∀ b, b < 2 → 2 * v + b ∈ I ∨ ∃ s, (2 * v + b, s) ∈ C
  root : 1 ∈ I ∨ ∃ s, (1, s) ∈ C
  sep : ∀ u s, (u, s) ∈ C → u ∉ I
  one : (C.map Prod.fst).Nodup
  card : I.length + 1 = C.length
  pos : ∀ v, v ∈ I → 1 ≤ v
  low : ∀ u s, (u, s) ∈ C → 1 ≤ u ∧ u < 65536 ∧ s ≤ 65535

/-- The place of a path's node, where P are the paths that have children, in the order in which they got them. -/
def idx (P : List Nat) (v : Nat) : Nat := if v = 1 then 0 else 1 + 2 * P.idxOf (v / 2) + v % 2
/-- A path that has a node. -/
def Has (P : List Nat) (v : Nat) : Prop := v = 1 ∨ 2 ≤ v ∧ v / 2 ∈ P

theorem idx_one (P : List Nat) : idx P 1 = 0 := rfl
theorem idx_kid (P : List Nat) (v b : Nat) (hv : 1 ≤ v) (hb : b < 2) : idx P (2 * v + b) = 1 + 2 * P.idxOf v + b := by
  unfold idx
  rw [if_neg (by omega), show (2 * v + b) / 2 = v by omega, show (2 * v + b) % 2 = b by omega]
theorem idx_lt {P : List Nat} {v : Nat} (h : Has P v) : idx P v < 1 + 2 * P.length := by
  unfold idx
  rcases h with h | ⟨h, h2⟩
  · rw [if_pos h]; omega
  · rw [if_neg (by omega)]
    have := List.idxOf_lt_length_of_mem h2
    omega
theorem idx_inj {P : List Nat} {v v' : Nat} (h : Has P v) (h' : Has P v') (e : idx P v = idx P v') : v = v' := by
  unfold idx at e
  rcases h with h | ⟨h, h2⟩ <;> rcases h' with h' | ⟨h', h2'⟩
  · omega
  · rw [if_pos h, if_neg (by omega)] at e; omega
  · rw [if_pos h', if_neg (by omega)] at e; omega
  · rw [if_neg (by omega), if_neg (by omega)] at e
    have l1 := List.idxOf_lt_length_of_mem h2
    have l2 := List.idxOf_lt_length_of_mem h2'
    have e1 := List.getElem_idxOf l1
    have e2 := List.getElem_idxOf l2
    have e3 : List.idxOf (v / 2) P = List.idxOf (v' / 2) P := by omega
    have e4 : v / 2 = v' / 2 := by
      rw [← e1, ← e2]
      congr 1
    omega
theorem idx_app {P : List Nat} {v w : Nat} (h : Has P v) : idx (P ++ [w]) v = idx P v := by
  unfold idx
  rcases h with h | ⟨h, h2⟩
  · rw [if_pos h, if_pos h]
  · rw [if_neg (by omega), if_neg (by omega), List.idxOf_append, if_pos h2]
theorem Has.app {P : List Nat} {v : Nat} (h : Has P v) (w : Nat) : Has (P ++ [w]) v := by
  rcases h with h | ⟨h, h2⟩
  · exact .inl h
  · exact .inr ⟨h, List.mem_append.2 (.inl h2)⟩
theorem idxOf_new {P : List Nat} {w : Nat} (h : w ∉ P) : List.idxOf w (P ++ [w]) = P.length := by
  rw [List.idxOf_append, if_neg h]; simp

/-- The nodes (symbol, children) as they stand: A are the paths that have a symbol, P those that have children. -/
structure Grow (P : List Nat) (A : List (Nat × Nat)) (nd : Nat → Nat × Int) : Prop where
  nodup : P.Nodup
  pos : ∀ v, v ∈ P → 1 ≤ v
  has : ∀ v, v ∈ P → Has P v
  mem : ∀ u s, (u, s) ∈ A → Has P u
  sep : ∀ u s, (u, s) ∈ A → u ∉ P
  inner : ∀ v, v ∈ P → (nd (idx P v)).2 = (idx P (2 * v) : Int)
  leaf : ∀ u s, (u, s) ∈ A → nd (idx P u) = (s, -1)
  bare : ∀ v, Has P v → v ∉ P → (∀ s, (v, s) ∉ A) → (nd (idx P v)).2 = 0
  fresh : ∀ k, 1 + 2 * P.length ≤ k → (nd k).2 = 0

def upN (nd : Nat → Nat × Int) (k : Nat) (x : Nat × Int) : Nat → Nat × Int := fun i => if i = k then x else nd i
theorem upN_at (nd : Nat → Nat × Int) (k : Nat) (x : Nat × Int) : upN nd k x k = x := if_pos rfl
theorem upN_ne (nd : Nat → Nat × Int) {k i : Nat} (x : Nat × Int) (h : i ≠ k) : upN nd k x i = nd i := if_neg h

theorem Grow.start : Grow [] [] (fun _ => (0, 0)) := by
  refine ⟨List.nodup_nil, ?_, ?_, ?_, ?_, ?_, ?_, fun _ _ _ _ => rfl, fun _ _ => rfl⟩ <;> intro v <;> simp

/-- Two children more. -/
theorem Grow.split {P : List Nat} {A : List (Nat × Nat)} {nd : Nat → Nat × Int} (g : Grow P A nd) {v : Nat} (hv : Has P v) (hn : v ∉ P) (ha : ∀ s, (v, s) ∉ A) :
    Grow (P ++ [v]) A (upN nd (idx P v) ((nd (idx P v)).1, ((1 + 2 * P.length : Nat) : Int))) := by
  have hv1 : 1 ≤ v := by rcases hv with h | ⟨h, _⟩ <;> omega
  have up : ∀ w, Has P w → w ≠ v → upN nd (idx P v) ((nd (idx P v)).1, ((1 + 2 * P.length : Nat) : Int)) (idx (P ++ [v]) w) = nd (idx P w) := fun w hw hne => by
    rw [idx_app hw, upN_ne _ _ (fun e => hne (idx_inj hw hv e))]
  have hsplit : ∀ w, Has (P ++ [v]) w → Has P w ∨ ∃ b, b < 2 ∧ w = 2 * v + b := fun w hw => by
    rcases hw with h | ⟨h, h2⟩
    · exact .inl (.inl h)
    · rcases List.mem_append.1 h2 with h3 | h3
      · exact .inl (.inr ⟨h, h3⟩)
      · rw [List.mem_singleton] at h3
        exact .inr ⟨w % 2, by omega, by omega⟩
  have new : ∀ b, b < 2 → idx (P ++ [v]) (2 * v + b) = 1 + 2 * P.length + b := fun b hb => by
    rw [idx_kid _ _ _ hv1 hb, idxOf_new hn]
  have hlt := idx_lt hv
  refine ⟨?_, ?_, ?_, ?_, ?_, ?_, ?_, ?_, ?_⟩
  · rw [List.nodup_append]
    refine ⟨g.nodup, by simp, ?_⟩
    intro a haP b hb
    rw [List.mem_singleton] at hb
    subst hb
    intro e; subst e; exact hn haP
  · intro w hw
    rcases List.mem_append.1 hw with h | h
    · exact g.pos w h
    · rw [List.mem_singleton] at h; omega
  · intro w hw
    rcases List.mem_append.1 hw with h | h
    · exact (g.has w h).app v
    · rw [List.mem_singleton] at h; subst h; exact hv.app w
  · intro u s hus; exact (g.mem u s hus).app v
  · intro u s hus hu
    rcases List.mem_append.1 hu with h | h
    · exact g.sep u s hus h
    · rw [List.mem_singleton] at h; subst h; exact ha s hus
  · intro w hw
    rcases List.mem_append.1 hw with h | h
    · have hne : w ≠ v := fun e => hn (e ▸ h)
      rw [up w (g.has w h) hne, g.inner w h]
      have hk : Has P (2 * w) := .inr ⟨by have := g.pos w h; omega, by rw [show 2 * w / 2 = w by omega]; exact h⟩
      rw [idx_app hk]
    · rw [List.mem_singleton] at h; subst h
      rw [idx_app hv, upN_at]
      have := new 0 (by omega)
      rw [Nat.add_zero, Nat.add_zero] at this
      rw [this]
  · intro u s hus
    have hne : u ≠ v := fun e => ha s (e ▸ hus)
    rw [up u (g.mem u s hus) hne]
    exact g.leaf u s hus
  · intro w hw hwn hwa
    have hne : w ≠ v := fun e => hwn (List.mem_append.2 (.inr (by rw [e]; simp)))
    have hwp : w ∉ P := fun h => hwn (List.mem_append.2 (.inl h))
    rcases hsplit w hw with h | ⟨b, hb, rfl⟩
    · rw [up w h hne]; exact g.bare w h hwp hwa
    · rw [new b hb, upN_ne _ _ (by omega)]; exact g.fresh _ (by omega)
  · intro k hk
    rw [List.length_append, List.length_singleton] at hk
    rw [upN_ne _ _ (by omega)]; exact g.fresh _ (by omega)

/-- A symbol more. -/
theorem Grow.put {P : List Nat} {A : List (Nat × Nat)} {nd : Nat → Nat × Int} (g : Grow P A nd) {u s : Nat} (hu : Has P u) (hn : u ∉ P) (ha : ∀ s, (u, s) ∉ A) :
    Grow P (A ++ [(u, s)]) (upN nd (idx P u) (s, -1)) := by
  have up : ∀ w, Has P w → w ≠ u → upN nd (idx P u) (s, -1) (idx P w) = nd (idx P w) := fun w hw hne => upN_ne _ _ (fun e => hne (idx_inj hw hu e))
  have hlt := idx_lt hu
  have hA : ∀ {x t}, (x, t) ∈ A ++ [(u, s)] → (x, t) ∈ A ∨ x = u ∧ t = s := fun h => by
    rcases List.mem_append.1 h with h | h
    · exact .inl h
    · rw [List.mem_singleton] at h; injection h with h1 h2; exact .inr ⟨h1, h2⟩
  refine ⟨g.nodup, g.pos, g.has, ?_, ?_, ?_, ?_, ?_, ?_⟩
  · intro x t h
    rcases hA h with h | ⟨rfl, rfl⟩
    · exact g.mem x t h
    · exact hu
  · intro x t h
    rcases hA h with h | ⟨rfl, rfl⟩
    · exact g.sep x t h
    · exact hn
  · intro v hv
    rw [up v (g.has v hv) (fun e => hn (e ▸ hv))]; exact g.inner v hv
  · intro x t h
    rcases hA h with h | ⟨rfl, rfl⟩
    · rw [up x (g.mem x t h) (fun e => ha t (e ▸ h))]; exact g.leaf x t h
    · exact upN_at _ _ _
  · intro v hv hvn hva
    have hne : v ≠ u := fun e => hva s (List.mem_append.2 (.inr (by rw [e]; simp)))
    rw [up v hv hne]
    exact g.bare v hv hvn (fun t ht => hva t (List.mem_append.2 (.inl ht)))
  · intro k hk
    rw [upN_ne _ _ (by omega)]; exact g.fresh _ hk
/-- The tree behind some of the code's symbols. -/
structure Built (C : List (Nat × Nat)) (P : List Nat) (A : List (Nat × Nat)) (nd : Nat → Nat × Int) : Prop where
  grow : Grow P A nd
  sub : ∀ u s, (u, s) ∈ A → (u, s) ∈ C
  ext : ∀ v, v ∈ P → ∃ u s k, (u, s) ∈ A ∧ 1 ≤ k ∧ u / 2 ^ k = v
  full : ∀ u s, (u, s) ∈ A → ∀ k, 1 ≤ k → 1 ≤ u / 2 ^ k → u / 2 ^ k ∈ P
/-- The tree while the path u is laid, c bits of which are left. -/
structure Mid (C : List (Nat × Nat)) (I P : List Nat) (A : List (Nat × Nat)) (nd : Nat → Nat × Int) (u c : Nat) : Prop where
  grow : Grow P A nd
  asub : ∀ u s, (u, s) ∈ A → (u, s) ∈ C
  sub : ∀ v, v ∈ P → v ∈ I
  has : Has P (u / 2 ^ c)
  ext : ∀ v, v ∈ P → (∃ u s k, (u, s) ∈ A ∧ 1 ≤ k ∧ u / 2 ^ k = v) ∨ ∃ k, c < k ∧ u / 2 ^ k = v
  fullA : ∀ u s, (u, s) ∈ A → ∀ k, 1 ≤ k → 1 ≤ u / 2 ^ k → u / 2 ^ k ∈ P
  full : ∀ k, c < k → 1 ≤ u / 2 ^ k → u / 2 ^ k ∈ P

theorem Built.start (C : List (Nat × Nat)) : Built C [] [] (fun _ => (0, 0)) :=
  ⟨Grow.start, fun _ _ h => (by simp at h), fun _ h => (by simp at h), fun _ _ h => (by simp at h)⟩
theorem div_pow_add (u c k : Nat) : u / 2 ^ c / 2 ^ k = u / 2 ^ (c + k) := by rw [Nat.div_div_eq_div_mul, Nat.pow_add]

theorem Built.mid {C : List (Nat × Nat)} {I P : List Nat} {A : List (Nat × Nat)} {nd : Nat → Nat × Int} (hC : Code C I) (b : Built C P A nd) (l v : Nat) : Mid C I P A nd (cod l v) l := by
  refine ⟨b.grow, b.sub, fun v hv => ?_, ?_, fun v hv => .inl (b.ext v hv), b.full, fun k hk h1 => ?_⟩
  · obtain ⟨u, s, k, h1, h2, rfl⟩ := b.ext v hv
    exact hC.pre u s (b.sub u s h1) k h2 (b.grow.pos _ hv)
  · rw [cod_top]; exact .inl rfl
  · exfalso
    have h := div_pow_add (cod l v) l (k - l)
    rw [cod_top, show l + (k - l) = k by omega] at h
    have h2 : (2 : Nat) ^ 1 ≤ 2 ^ (k - l) := Nat.pow_le_pow_right (by decide) (by omega)
    rw [Nat.div_eq_of_lt (by omega)] at h
    omega

/-- One bit of a path. -/
theorem Mid.step {C : List (Nat × Nat)} {I P : List Nat} {A : List (Nat × Nat)} {nd : Nat → Nat × Int} {u s c : Nat} (hC : Code C I) (m : Mid C I P A nd u (c + 1)) (hu : (u, s) ∈ C) (h1 : 1 ≤ u / 2 ^ (c + 1)) :
    (u / 2 ^ (c + 1) ∈ P ∧ (nd (idx P (u / 2 ^ (c + 1)))).2 = (idx P (2 * (u / 2 ^ (c + 1))) : Int) ∧ 1 ≤ idx P (2 * (u / 2 ^ (c + 1))) ∧ idx P (2 * (u / 2 ^ (c + 1))) + 1 < 1 + 2 * P.length ∧ idx P (u / 2 ^ c) = idx P (2 * (u / 2 ^ (c + 1))) + u / 2 ^ c % 2 ∧ Mid C I P A nd u c) ∨
    ((nd (idx P (u / 2 ^ (c + 1)))).2 = 0 ∧ 1 + 2 * P.length + 2 ≤ 2 * C.length - 1 ∧ idx (P ++ [u / 2 ^ (c + 1)]) (u / 2 ^ c) = 1 + 2 * P.length + u / 2 ^ c % 2 ∧
      Mid C I (P ++ [u / 2 ^ (c + 1)]) A (upN nd (idx P (u / 2 ^ (c + 1))) ((nd (idx P (u / 2 ^ (c + 1)))).1, ((1 + 2 * P.length : Nat) : Int))) u c) := by
  obtain ⟨x, hx⟩ : ∃ x, x = u / 2 ^ (c + 1) := ⟨_, rfl⟩
  have hdiv : u / 2 ^ c / 2 = x := by rw [hx, Nat.pow_succ, Nat.div_div_eq_div_mul]
  have hbit : u / 2 ^ c = 2 * x + u / 2 ^ c % 2 := by omega
  rw [← hx] at h1 ⊢
  have hhas := m.has
  rw [← hx] at hhas
  have hA : ∀ t, (x, t) ∉ A := fun t ht => hC.sep x t (m.asub x t ht) (by rw [hx]; exact hC.pre u s hu (c + 1) (by omega) (by rw [← hx]; exact h1))
  have hI : x ∈ I := by rw [hx]; exact hC.pre u s hu (c + 1) (by omega) (by rw [← hx]; exact h1)
  by_cases hP : x ∈ P
  · left
    have hi := idx_kid P x 0 h1 (by omega)
    rw [Nat.add_zero, Nat.add_zero] at hi
    have hlt := List.idxOf_lt_length_of_mem hP
    refine ⟨hP, m.grow.inner x hP, by omega, by omega, ?_, ?_⟩
    · rw [hbit, idx_kid P x _ h1 (by omega), hi]; omega
    · refine ⟨m.grow, m.asub, m.sub, .inr ⟨by omega, by rw [hdiv]; exact hP⟩, fun v hv => ?_, m.fullA, fun k hk hk1 => ?_⟩
      · rcases m.ext v hv with h | ⟨k, hk, h⟩
        · exact .inl h
        · exact .inr ⟨k, by omega, h⟩
      · by_cases e : k = c + 1
        · subst e; rw [← hx]; exact hP
        · exact m.full k (by omega) hk1
  · right
    refine ⟨m.grow.bare x hhas hP hA, ?_, ?_, ?_⟩
    · have hnd : (P ++ [x]).Nodup := (m.grow.split hhas hP hA).nodup
      have hsub : P ++ [x] ⊆ I := fun v hv => by
        rcases List.mem_append.1 hv with h | h
        · exact m.sub v h
        · rw [List.mem_singleton] at h; rw [h]; exact hI
      have := hnd.length_le_of_subset hsub
      rw [List.length_append, List.length_singleton] at this
      have := hC.card
      omega
    · rw [hbit, idx_kid _ _ _ h1 (by omega), idxOf_new hP]; omega
    · refine ⟨m.grow.split hhas hP hA, m.asub, fun v hv => ?_, ?_, fun v hv => ?_, fun a b h k hk hk1 => List.mem_append.2 (.inl (m.fullA a b h k hk hk1)), fun k hk hk1 => ?_⟩
      · rcases List.mem_append.1 hv with h | h
        · exact m.sub v h
        · rw [List.mem_singleton] at h; rw [h]; exact hI
      · exact .inr ⟨by omega, List.mem_append.2 (.inr (by rw [hdiv]; simp))⟩
      · rcases List.mem_append.1 hv with h | h
        · rcases m.ext v h with h | ⟨k, hk, h⟩
          · exact .inl h
          · exact .inr ⟨k, by omega, h⟩
        · rw [List.mem_singleton] at h; exact .inr ⟨c + 1, by omega, by rw [h, hx]⟩
      · by_cases e : k = c + 1
        · subst e; exact List.mem_append.2 (.inr (by rw [← hx]; simp))
        · exact List.mem_append.2 (.inl (m.full k (by omega) hk1))

/-- The end of a path. -/
theorem Mid.done {C : List (Nat × Nat)} {I P : List Nat} {A : List (Nat × Nat)} {nd : Nat → Nat × Int} {u s : Nat} (hC : Code C I) (m : Mid C I P A nd u 0) (hu : (u, s) ∈ C) (hn : ∀ t, (u, t) ∉ A) :
    (nd (idx P u)).2 = 0 ∧ Has P u ∧ Built C P (A ++ [(u, s)]) (upN nd (idx P u) (s, -1)) := by
  have hh := m.has
  rw [Nat.pow_zero, Nat.div_one] at hh
  have hP : u ∉ P := fun h => hC.sep u s hu (m.sub u h)
  have hA : ∀ {x t}, (x, t) ∈ A ++ [(u, s)] → (x, t) ∈ A ∨ x = u ∧ t = s := fun h => by
    rcases List.mem_append.1 h with h | h
    · exact .inl h
    · rw [List.mem_singleton] at h; injection h with h1 h2; exact .inr ⟨h1, h2⟩
  refine ⟨m.grow.bare u hh hP hn, hh, m.grow.put hh hP hn, fun x t h => ?_, fun v hv => ?_, fun x t h k hk hk1 => ?_⟩
  · rcases hA h with h | ⟨rfl, rfl⟩
    · exact m.asub x t h
    · exact hu
  · rcases m.ext v hv with ⟨x, t, k, h, h2, h3⟩ | ⟨k, hk, h⟩
    · exact ⟨x, t, k, List.mem_append.2 (.inl h), h2, h3⟩
    · exact ⟨u, s, k, List.mem_append.2 (.inr (by simp)), by omega, h⟩
  · rcases hA h with h | ⟨rfl, rfl⟩
    · exact m.fullA x t h k hk hk1
    · exact m.full k (by omega) hk1

/-- The look-up table. -/
structure Lut (P : List Nat) (A : List (Nat × Nat)) (lut : Nat → Nat) : Prop where
  short : ∀ u s, (u, s) ∈ A → ∀ k, k ≤ 7 → ∀ x, x < 128 → pth x k = u → lut x = s * 256 + (k + 1)
  long : ∀ u s, (u, s) ∈ A → ∀ j, 1 ≤ j → ∀ x, x < 128 → u / 2 ^ j = pth x 7 → lut x = idx P (pth x 7) * 256
  none : ∀ x, x < 128 → (∀ u s, (u, s) ∈ A → ∀ k, k ≤ 7 → pth x k ≠ u) → (∀ u s, (u, s) ∈ A → ∀ j, 1 ≤ j → u / 2 ^ j ≠ pth x 7) → lut x = 0
theorem Lut.start : Lut [] [] (fun _ => 0) := ⟨fun _ _ h => (by simp at h), fun _ _ h => (by simp at h), fun _ _ _ _ => rfl⟩
theorem has_of {P : List Nat} {A : List (Nat × Nat)} {nd : Nat → Nat × Int} (g : Grow P A nd) {v : Nat} (h : v ∈ P) : Has P v := g.has v h
theorem Lut.app {C : List (Nat × Nat)} {I P : List Nat} {A : List (Nat × Nat)} {nd : Nat → Nat × Int} {lut : Nat → Nat} {u c : Nat} (m : Mid C I P A nd u c) (h : Lut P A lut) (w : Nat) : Lut (P ++ [w]) A lut := by
  refine ⟨h.short, fun u s hu j hj x hx e => ?_, h.none⟩
  have hm := m.fullA u s hu j hj (by rw [e]; exact pth_pos x 7)
  rw [e] at hm
  rw [idx_app (m.grow.has _ hm)]
  exact h.long u s hu j hj x hx e

/-- No path of a code lies on the way to another one. -/
theorem code_apart {C : List (Nat × Nat)} {I : List Nat} (hC : Code C I) {u s u' s' : Nat} (hu : (u, s) ∈ C) (hu' : (u', s') ∈ C) {j : Nat} (hj : 1 ≤ j) : u / 2 ^ j ≠ u' := fun e => by
  have h1 := (hC.low u' s' hu').1
  exact hC.sep u' s' hu' (by rw [← e]; exact hC.pre u s hu j hj (by omega))
theorem nodup_fst {C : List (Nat × Nat)} (h : (C.map Prod.fst).Nodup) {u s t : Nat} (h1 : (u, s) ∈ C) (h2 : (u, t) ∈ C) : s = t := by
  induction C with
  | nil => simp at h1
  | cons a C ih =>
    rw [List.map_cons, List.nodup_cons] at h
    rcases List.mem_cons.1 h1 with e1 | e1 <;> rcases List.mem_cons.1 h2 with e2 | e2
    · rw [← e1] at e2; injection e2 with _ e; exact e.symm
    · exact absurd (List.mem_map.2 ⟨_, e2, by rw [← e1]⟩) h.1
    · exact absurd (List.mem_map.2 ⟨_, e1, by rw [← e2]⟩) h.1
    · exact ih h.2 e1 e2

def upL (lut : Nat → Nat) (q : Nat → Prop) [DecidablePred q] (y : Nat) : Nat → Nat := fun x => if q x then y else lut x

/-- A short path more. -/
theorem Lut.putShort {C : List (Nat × Nat)} {I P : List Nat} {A : List (Nat × Nat)} {lut : Nat → Nat} (hC : Code C I) (hs : ∀ u s, (u, s) ∈ A → (u, s) ∈ C) (h : Lut P A lut) {b k s : Nat} (hk : k ≤ 7) (hb : b < 2 ^ k) (hu : (pth b k, s) ∈ C) :
    Lut P (A ++ [(pth b k, s)]) (upL lut (fun x => x % 2 ^ k = b) (s * 256 + (k + 1))) := by
  have hq : ∀ x, (x % 2 ^ k = b ↔ pth x k = pth b k) := fun x => by rw [pth_eq, Nat.mod_eq_of_lt hb]
  have hA : ∀ {x t}, (x, t) ∈ A ++ [(pth b k, s)] → (x, t) ∈ A ∨ x = pth b k ∧ t = s := fun h => by
    rcases List.mem_append.1 h with h | h
    · exact .inl h
    · rw [List.mem_singleton] at h; injection h with h1 h2; exact .inr ⟨h1, h2⟩
  have hup : ∀ x, pth x k = pth b k → ∀ u t, (u, t) ∈ C → ∀ j, j ≤ 7 → pth x j = u → j = k ∧ t = s := fun x e u t hut j hj ej => by
    rcases Nat.lt_trichotomy j k with hl | hl | hl
    · exfalso
      refine code_apart hC hu hut (j := k - j) (by omega) ?_
      have := pth_up x j (k - j)
      rw [show j + (k - j) = k by omega, e, ej] at this
      exact this
    · subst hl
      refine ⟨rfl, nodup_fst hC.one (u := pth b j) (by rw [← e, ej]; exact hut) hu⟩
    · exfalso
      refine code_apart hC hut hu (j := j - k) (by omega) ?_
      have := pth_up x k (j - k)
      rw [show k + (j - k) = j by omega, e, ej] at this
      exact this
  refine ⟨fun u t ht j hj x hx e => ?_, fun u t ht j hj x hx e => ?_, fun x hx h1 h2 => ?_⟩
  · unfold upL
    rcases hA ht with ht | ⟨rfl, rfl⟩
    · split
      · rename_i hm
        obtain ⟨rfl, rfl⟩ := hup x ((hq x).1 hm) u t (hs u t ht) j hj e
        rfl
      · exact h.short u t ht j hj x hx e
    · obtain rfl : j = k := pth_len e
      rw [if_pos ((hq x).2 e)]
  · unfold upL
    rcases hA ht with ht | ⟨rfl, rfl⟩
    · rw [if_neg (fun hm => ?_)]
      · exact h.long u t ht j hj x hx e
      · have e2 := (hq x).1 hm
        refine code_apart hC (hs u t ht) hu (j := j + (7 - k)) (by omega) ?_
        rw [← div_pow_add, e]
        have := pth_up x k (7 - k)
        rw [show k + (7 - k) = 7 by omega, e2] at this
        exact this
    · exfalso
      have h1 := pth_low x 7
      have h2 := pth_high b k
      have h3 : (2 : Nat) ^ (k + 1) ≤ 2 ^ 8 := Nat.pow_le_pow_right (by decide) (by omega)
      have h4 : pth b k / 2 ^ j ≤ pth b k / 2 ^ 1 := Nat.div_le_div_left (Nat.pow_le_pow_right (by decide) hj) (by decide)
      omega
  · unfold upL
    rw [if_neg (fun hm => ?_)]
    · exact h.none x hx (fun u t ht => h1 u t (List.mem_append.2 (.inl ht))) (fun u t ht => h2 u t (List.mem_append.2 (.inl ht)))
    · exact h1 _ _ (List.mem_append.2 (.inr (List.mem_singleton.2 rfl))) k hk ((hq x).1 hm)

/-- What stands in the table ahead of a long path. -/
theorem Lut.ahead {C : List (Nat × Nat)} {I P : List Nat} {A : List (Nat × Nat)} {lut : Nat → Nat} (hC : Code C I) (hs : ∀ u s, (u, s) ∈ A → (u, s) ∈ C) (h : Lut P A lut) {u s j b : Nat} (hu : (u, s) ∈ C) (hj : 1 ≤ j) (hb : b < 128) (e : u / 2 ^ j = pth b 7) :
    lut b = 0 ∨ lut b = idx P (pth b 7) * 256 := by
  by_cases h1 : ∃ u' s' k, (u', s') ∈ A ∧ k ≤ 7 ∧ pth b k = u'
  · exfalso
    obtain ⟨u', s', k, h1, h2, h3⟩ := h1
    refine code_apart hC hu (hs u' s' h1) (j := j + (7 - k)) (by omega) ?_
    rw [← div_pow_add, e]
    have := pth_up b k (7 - k)
    rw [show k + (7 - k) = 7 by omega, h3] at this
    exact this
  · by_cases h2 : ∃ u' s' j, (u', s') ∈ A ∧ 1 ≤ j ∧ u' / 2 ^ j = pth b 7
    · obtain ⟨u', s', j', h3, h4, h5⟩ := h2
      exact .inr (h.long u' s' h3 j' h4 b hb h5)
    · exact .inl (h.none b hb (fun u' s' h3 k hk e => h1 ⟨u', s', k, h3, hk, e⟩) (fun u' s' h3 k hk e => h2 ⟨u', s', k, h3, hk, e⟩))

/-- A long path more. -/
theorem Lut.putLong {C : List (Nat × Nat)} {I P : List Nat} {A : List (Nat × Nat)} {lut : Nat → Nat} (hC : Code C I) (hs : ∀ u s, (u, s) ∈ A → (u, s) ∈ C) (h : Lut P A lut) {u s j b : Nat} (hu : (u, s) ∈ C) (hj : 1 ≤ j) (hb : b < 128) (e : u / 2 ^ j = pth b 7) :
    Lut P (A ++ [(u, s)]) (upL lut (fun x => x = b) (idx P (pth b 7) * 256)) := by
  have hA : ∀ {x t}, (x, t) ∈ A ++ [(u, s)] → (x, t) ∈ A ∨ x = u ∧ t = s := fun h => by
    rcases List.mem_append.1 h with h | h
    · exact .inl h
    · rw [List.mem_singleton] at h; injection h with h1 h2; exact .inr ⟨h1, h2⟩
  have hq : ∀ x, x < 128 → pth x 7 = pth b 7 → x = b := fun x hx e => by
    have := (pth_eq x b 7).1 e
    rwa [Nat.mod_eq_of_lt hx, Nat.mod_eq_of_lt hb] at this
  refine ⟨fun u' t ht k hk x hx e' => ?_, fun u' t ht k hk x hx e' => ?_, fun x hx h1 h2 => ?_⟩
  · unfold upL
    rcases hA ht with ht | ⟨rfl, rfl⟩
    · rw [if_neg (fun hm => ?_)]
      · exact h.short u' t ht k hk x hx e'
      · subst hm
        refine code_apart hC hu (hs u' t ht) (j := j + (7 - k)) (by omega) ?_
        rw [← div_pow_add, e]
        have := pth_up x k (7 - k)
        rw [show k + (7 - k) = 7 by omega, e'] at this
        exact this
    · exfalso
      have h1 := pth_low b 7
      have h2 := pth_high x k
      have h3 : (2 : Nat) ^ (k + 1) ≤ 2 ^ 8 := Nat.pow_le_pow_right (by decide) (by omega)
      have h4 : u' / 2 ^ j ≤ u' / 2 ^ 1 := Nat.div_le_div_left (Nat.pow_le_pow_right (by decide) hj) (by decide)
      omega
  · unfold upL
    split
    · rename_i hm; subst hm; rfl
    · rename_i hm
      rcases hA ht with ht | ⟨rfl, rfl⟩
      · exact h.long u' t ht k hk x hx e'
      · exfalso
        apply hm
        refine hq x hx ?_
        have hkj : k = j := by
          have l1 := pth_low x 7
          have l2 := pth_high x 7
          have l3 := pth_low b 7
          have l4 := pth_high b 7
          rcases Nat.lt_trichotomy k j with hl | hl | hl
          · exfalso
            have := div_pow_add u' k (j - k)
            rw [show k + (j - k) = j by omega, e, e'] at this
            have h4 : pth x 7 / 2 ^ (j - k) ≤ pth x 7 / 2 ^ 1 := Nat.div_le_div_left (Nat.pow_le_pow_right (by decide) (by omega)) (by decide)
            omega
          · exact hl
          · exfalso
            have := div_pow_add u' j (k - j)
            rw [show j + (k - j) = k by omega, e, e'] at this
            have h4 : pth b 7 / 2 ^ (k - j) ≤ pth b 7 / 2 ^ 1 := Nat.div_le_div_left (Nat.pow_le_pow_right (by decide) (by omega)) (by decide)
            omega
        subst hkj
        rw [← e, e']
  · unfold upL
    rw [if_neg (fun hm => ?_)]
    · exact h.none x hx (fun u t ht => h1 u t (List.mem_append.2 (.inl ht))) (fun u t ht => h2 u t (List.mem_append.2 (.inl ht)))
    · subst hm
      exact h2 _ _ (List.mem_append.2 (.inr (List.mem_singleton.2 rfl))) j hj e

/-- What the whole tree tells of bits. -/
structure Dec (C : List (Nat × Nat)) (L : Nat) (nd : Nat → Nat × Int) (lut : Nat → Nat) (At : Nat → Nat → Prop) : Prop where
  root : At 0 1
  bound : ∀ n v, At n v → n < L
  step : ∀ n v, At n v → (∃ s, (v, s) ∈ C ∧ nd n = (s, -1)) ∨ ∃ c : Nat, 0 < c ∧ (nd n).2 = (c : Int) ∧ c + 1 < L ∧ (∀ s, (v, s) ∉ C) ∧ ∀ b, b < 2 → At (c + b) (2 * v + b)
  lut : ∀ x, x < 128 → (∃ k s, k ≤ 7 ∧ (pth x k, s) ∈ C ∧ lut x = s * 256 + (k + 1)) ∨ ∃ n, At n (pth x 7) ∧ lut x = n * 256 ∧ ∀ k s, k ≤ 7 → (pth x k, s) ∉ C

theorem Built.dec {C : List (Nat × Nat)} {I P : List Nat} {A : List (Nat × Nat)} {nd : Nat → Nat × Int} {lut : Nat → Nat} (hC : Code C I) (b : Built C P A nd) (hl : Lut P A lut) (hA : ∀ u s, (u, s) ∈ C → (u, s) ∈ A) :
    Dec C (1 + 2 * P.length) nd lut (fun n v => Has P v ∧ idx P v = n) ∧ 1 + 2 * P.length ≤ 2 * C.length - 1 := by
  have hIP : ∀ v, v ∈ I → v ∈ P := fun v hv => by
    obtain ⟨u, s, k, h1, h2, rfl⟩ := hC.ext v hv
    exact b.full u s (hA u s h1) k h2 (hC.pos _ hv)
  have hPI : ∀ v, v ∈ P → v ∈ I := fun v hv => by
    obtain ⟨u, s, k, h1, h2, rfl⟩ := b.ext v hv
    exact hC.pre u s (b.sub u s h1) k h2 (b.grow.pos _ hv)
  have hlen : P.length ≤ I.length := b.grow.nodup.length_le_of_subset (fun v hv => hPI v hv)
  have hcard := hC.card
  have hor : ∀ v, Has P v → v ∈ P ∨ ∃ s, (v, s) ∈ C := fun v hv => by
    rcases hv with rfl | ⟨h, h2⟩
    · rcases hC.root with h | h
      · exact .inl (hIP _ h)
      · exact .inr h
    · have := hC.kids _ (hPI _ h2) (v % 2) (by omega)
      rw [show 2 * (v / 2) + v % 2 = v by omega] at this
      rcases this with h | h
      · exact .inl (hIP _ h)
      · exact .inr h
  refine ⟨⟨⟨.inl rfl, rfl⟩, fun n v h => ?_, fun n v h => ?_, fun x hx => ?_⟩, by omega⟩
  · have := idx_lt h.1
    rw [h.2] at this; exact this
  · obtain ⟨h, rfl⟩ := h
    by_cases hs : ∃ s, (v, s) ∈ C
    · obtain ⟨s, hs⟩ := hs
      exact .inl ⟨s, hs, b.grow.leaf v s (hA v s hs)⟩
    · rcases hor v h with hP | hP
      · right
        have hv1 := b.grow.pos v hP
        have hi := idx_kid P v 0 hv1 (by omega)
        rw [Nat.add_zero, Nat.add_zero] at hi
        have hlt := List.idxOf_lt_length_of_mem hP
        refine ⟨idx P (2 * v), by omega, b.grow.inner v hP, by omega, fun s h => hs ⟨s, h⟩, fun c hc => ⟨.inr ⟨by omega, ?_⟩, ?_⟩⟩
        · rw [show (2 * v + c) / 2 = v by omega]; exact hP
        · rw [idx_kid P v c hv1 hc, hi]
      · exact absurd hP hs
  · have hw : ∀ k, k ≤ 7 → (∃ j s, j ≤ k ∧ (pth x j, s) ∈ C) ∨ pth x k ∈ I := fun k => by
      induction k with
      | zero =>
        intro _
        rcases hC.root with h | ⟨s, h⟩
        · exact .inr h
        · exact .inl ⟨0, s, Nat.le_refl _, h⟩
      | succ k ih =>
        intro hk
        rcases ih (by omega) with ⟨j, s, h1, h2⟩ | h
        · exact .inl ⟨j, s, by omega, h2⟩
        · rcases hC.kids _ h (x / 2 ^ k % 2) (by omega) with h | ⟨s, h⟩
          · exact .inr h
          · exact .inl ⟨k + 1, s, Nat.le_refl _, h⟩
    rcases hw 7 (Nat.le_refl _) with ⟨k, s, h1, h2⟩ | h
    · exact .inl ⟨k, s, h1, h2, hl.short _ s (hA _ _ h2) k h1 x hx rfl⟩
    · right
      obtain ⟨u, s, k, h1, h2, h3⟩ := hC.ext _ h
      refine ⟨_, ⟨b.grow.has _ (hIP _ h), rfl⟩, hl.long u s (hA u s h1) k h2 x hx h3, fun j t hj ht => ?_⟩
      by_cases e : j = 7
      · subst e; exact hC.sep _ _ ht h
      · refine code_apart hC h1 ht (j := k + (7 - j)) (by omega) ?_
        rw [← div_pow_add, h3]
        have := pth_up x j (7 - j)
        rw [show j + (7 - j) = 7 by omega] at this
        exact this
end Go.Proofs.YtdmefbpfpmkdcaaDoor
namespace Go.Proofs.YtdmefbpfpmkdcaaDoor

/-- How many of n have length l; none has length 0. -/
def hh (c : Nat → Nat) (n l : Nat) : Nat := if l = 0 then 0 else cnt c l n
/-- The first code behind those of length l. -/
def En (c : Nat → Nat) (n l : Nat) : Nat := cur (hh c n) l + hh c n l
/-- The code of symbol s. -/
def vOf (c : Nat → Nat) (n s : Nat) : Nat := cur (hh c n) (c s) + cnt c (c s) s
theorem cur_zero (c : Nat → Nat) (n : Nat) : ∀ l, 1 ≤ l → cur (fun l => cnt c l n) l = cnt c 0 n * 2 ^ l + cur (hh c n) l
  | 0, h => absurd h (by omega)
  | 1, _ => by simp [cur, hh]; omega
  | l + 2, _ => by
    have ih := cur_zero c n (l + 1) (by omega)
    show 2 * (cur (fun l => cnt c l n) (l + 1) + cnt c (l + 1) n) = _
    rw [ih, Nat.pow_succ 2 (l + 1)]
    show _ = _ + 2 * (cur (hh c n) (l + 1) + hh c n (l + 1))
    unfold hh
    rw [if_neg (by omega)]
    generalize cnt c 0 n = a
    generalize 2 ^ (l + 1) = b
    rw [show a * (b * 2) = 2 * (a * b) by rw [Nat.mul_comm b 2, ← Nat.mul_assoc, Nat.mul_comm a 2, Nat.mul_assoc]]
    omega
theorem cur_En (c : Nat → Nat) (n l : Nat) : cur (hh c n) (l + 1) = 2 * En c n l := rfl
theorem En_zero (c : Nat → Nat) (n : Nat) : En c n 0 = 0 := rfl
theorem En_succ (c : Nat → Nat) (n l : Nat) : En c n (l + 1) = 2 * En c n l + cnt c (l + 1) n := by
  unfold En; rw [cur_En]; simp [hh, En]

/-- What is asked of lengths: a whole tree. -/
structure Whole (c : Nat → Nat) (n : Nat) : Prop where
  le : ∀ i, i < n → c i ≤ 15
  krf : krf c n = 32768
  max : n ≤ 65536

theorem Whole.end (c : Nat → Nat) (n : Nat) (h : Whole c n) : En c n 15 = 32768 := by
  have h1 := h.krf
  rw [krf_cnt c n h.le] at h1
  have h2 := cur_end (hh c n)
  unfold En
  rw [h2]
  simp only [hh]
  simp
  omega
theorem En_step (c : Nat → Nat) (n l k : Nat) : En c n l * 2 ^ k ≤ En c n (l + k) := by
  induction k with
  | zero => simp
  | succ k ih =>
    rw [← Nat.add_assoc, En_succ, Nat.pow_succ, ← Nat.mul_assoc]
    omega
theorem En_cur (c : Nat → Nat) (n l k : Nat) (hk : 1 ≤ k) : En c n l * 2 ^ k ≤ cur (hh c n) (l + k) := by
  obtain ⟨k, rfl⟩ : ∃ j, k = j + 1 := ⟨k - 1, by omega⟩
  rw [← Nat.add_assoc, cur_En, Nat.pow_succ, ← Nat.mul_assoc]
  have := En_step c n l k
  omega
theorem Whole.En_le {c : Nat → Nat} {n : Nat} (h : Whole c n) {l : Nat} (hl : l ≤ 15) : En c n l ≤ 2 ^ l := by
  have h1 := En_step c n l (15 - l)
  rw [show l + (15 - l) = 15 by omega, h.end] at h1
  have e : 32768 = 2 ^ l * 2 ^ (15 - l) := by rw [← Nat.pow_add, show l + (15 - l) = 15 by omega]
  rw [e] at h1
  exact Nat.le_of_mul_le_mul_right h1 (Nat.two_pow_pos _)
theorem vOf_lt {c : Nat → Nat} {n s : Nat} (hs : s < n) (h0 : 0 < c s) : cur (hh c n) (c s) ≤ vOf c n s ∧ vOf c n s < En c n (c s) := by
  have := cnt_lt c hs
  unfold vOf En hh
  rw [if_neg (by omega)]
  omega
theorem vOf_code {c : Nat → Nat} {n s : Nat} (h : Whole c n) (hs : s < n) (h0 : 0 < c s) : codeOf c n s % 2 ^ c s = vOf c n s ∧ vOf c n s < 2 ^ c s := by
  have h1 := code_bd c n s h.le h.krf hs h0
  have h2 := cur_zero c n (c s) h0
  have h3 := (vOf_lt hs h0).2
  have h4 := h.En_le (h.le s hs)
  refine ⟨?_, by omega⟩
  rw [h1]
  unfold codeOf vOf
  rw [h2]
  omega

/-- The paths of the first m symbols, with these. -/
def codesL (c : Nat → Nat) (n : Nat) : Nat → List (Nat × Nat)
  | 0 => []
  | m + 1 => codesL c n m ++ (if 0 < c m then [(cod (c m) (codeOf c n m), m)] else [])
theorem mem_codesL (c : Nat → Nat) (n u s : Nat) : ∀ m, ((u, s) ∈ codesL c n m ↔ s < m ∧ 0 < c s ∧ u = cod (c s) (codeOf c n s))
  | 0 => by simp [codesL]
  | m + 1 => by
    rw [codesL, List.mem_append, mem_codesL c n u s m]
    constructor
    · rintro (⟨h1, h2, h3⟩ | h)
      · exact ⟨by omega, h2, h3⟩
      · split at h
        · rw [List.mem_singleton] at h
          injection h with h1 h2
          subst h2
          exact ⟨by omega, by assumption, h1⟩
        · simp at h
    · rintro ⟨h1, h2, h3⟩
      by_cases e : s = m
      · subst e; right; rw [if_pos h2, h3]; simp
      · exact .inl ⟨by omega, h2, h3⟩
theorem codesL_len (c : Nat → Nat) (n : Nat) : ∀ m, (∀ i, i < m → c i ≤ 15) → (codesL c n m).length = cnt c 1 m + cnt c 2 m + cnt c 3 m + cnt c 4 m + cnt c 5 m + cnt c 6 m + cnt c 7 m + cnt c 8 m + cnt c 9 m + cnt c 10 m + cnt c 11 m + cnt c 12 m + cnt c 13 m + cnt c 14 m + cnt c 15 m
  | 0, _ => rfl
  | m + 1, h => by
    have ih := codesL_len c n m (fun i hi => h i (by omega))
    have hn := h m (by omega)
    rw [codesL, List.length_append, ih]
    simp only [cnt]
    generalize c m = x at hn
    have : x = 0 ∨ x = 1 ∨ x = 2 ∨ x = 3 ∨ x = 4 ∨ x = 5 ∨ x = 6 ∨ x = 7 ∨ x = 8 ∨ x = 9 ∨ x = 10 ∨ x = 11 ∨ x = 12 ∨ x = 13 ∨ x = 14 ∨ x = 15 := by omega
    rcases this with rfl | rfl | rfl | rfl | rfl | rfl | rfl | rfl | rfl | rfl | rfl | rfl | rfl | rfl | rfl | rfl <;> simp <;> omega

/-- The paths within the tree, of fewer than L bits. -/
def inn (c : Nat → Nat) (n : Nat) : Nat → List Nat
  | 0 => []
  | d + 1 => inn c n d ++ (List.range (2 ^ d - En c n d)).map (fun i => 2 ^ d + En c n d + i)
theorem mem_inn (c : Nat → Nat) (n w : Nat) : ∀ L, (w ∈ inn c n L ↔ ∃ d x, d < L ∧ En c n d ≤ x ∧ x < 2 ^ d ∧ w = 2 ^ d + x)
  | 0 => by simp [inn]
  | L + 1 => by
    rw [inn, List.mem_append, mem_inn c n w L, List.mem_map]
    constructor
    · rintro (⟨d, x, h1, h2, h3, h4⟩ | ⟨i, h1, h2⟩)
      · exact ⟨d, x, by omega, h2, h3, h4⟩
      · rw [List.mem_range] at h1
        exact ⟨L, En c n L + i, by omega, by omega, by omega, by omega⟩
    · rintro ⟨d, x, h1, h2, h3, h4⟩
      by_cases e : d = L
      · subst e; exact .inr ⟨x - En c n d, by rw [List.mem_range]; omega, by omega⟩
      · exact .inl ⟨d, x, by omega, h2, h3, h4⟩
theorem inn_len (c : Nat → Nat) (n d : Nat) : (inn c n (d + 1)).length = (inn c n d).length + (2 ^ d - En c n d) := by
  rw [inn, List.length_append, List.length_map, List.length_range]

theorem cnt_onto (c : Nat → Nat) (l : Nat) : ∀ n j, j < cnt c l n → ∃ s, s < n ∧ c s = l ∧ cnt c l s = j
  | 0, j, h => absurd h (by simp [cnt])
  | n + 1, j, h => by
    rw [cnt] at h
    by_cases hj : j < cnt c l n
    · obtain ⟨s, h1, h2, h3⟩ := cnt_onto c l n j hj
      exact ⟨s, by omega, h2, h3⟩
    · split at h
      · exact ⟨n, by omega, by assumption, by omega⟩
      · omega

theorem codesL_nodup (c : Nat → Nat) (n : Nat) (h : Whole c n) : ∀ m, m ≤ n → ((codesL c n m).map Prod.fst).Nodup
  | 0, _ => by simp [codesL]
  | m + 1, hm => by
    have ih := codesL_nodup c n h m (by omega)
    rw [codesL, List.map_append, List.nodup_append]
    refine ⟨ih, by split <;> simp, ?_⟩
    intro a ha b hb
    obtain ⟨⟨u, s⟩, hu, rfl⟩ := List.mem_map.1 ha
    obtain ⟨hs, h0, hus⟩ := (mem_codesL c n u s m).1 hu
    split at hb
    · rename_i hm0
      simp only [List.map_cons, List.map_nil, List.mem_singleton] at hb
      rw [hb]
      show u ≠ _
      rw [hus]
      intro e
      have v1 := vOf_code h (show s < n by omega) h0
      have v2 := vOf_code h (show m < n by omega) hm0
      unfold cod at e
      rw [v1.1, v2.1] at e
      have hl : c s = c m := by
        rcases Nat.lt_trichotomy (c s) (c m) with hl | hl | hl
        · have := Nat.pow_le_pow_right (n := 2) (by decide) (show c s + 1 ≤ c m by omega)
          rw [Nat.pow_succ] at this; omega
        · exact hl
        · have := Nat.pow_le_pow_right (n := 2) (by decide) (show c m + 1 ≤ c s by omega)
          rw [Nat.pow_succ] at this; omega
      have hc := cnt_lt c hs
      unfold vOf at e
      rw [hl] at e hc
      omega
    · simp at hb

theorem kid_or {c : Nat → Nat} {n : Nat} (h : Whole c n) {d x b : Nat} (hd : d < 15) (h1 : En c n d ≤ x) (h2 : x < 2 ^ d) (hb : b < 2) :
    (∃ s, (2 * (2 ^ d + x) + b, s) ∈ codesL c n n) ∨ d + 1 < 15 ∧ En c n (d + 1) ≤ 2 * x + b ∧ 2 * x + b < 2 ^ (d + 1) := by
  have hp : (2 : Nat) ^ (d + 1) = 2 * 2 ^ d := Nat.pow_succ'
  by_cases hl : 2 * x + b < En c n (d + 1)
  · left
    rw [En_succ] at hl
    obtain ⟨s, hs, hcs, hcn⟩ := cnt_onto c (d + 1) n (2 * x + b - 2 * En c n d) (by omega)
    refine ⟨s, (mem_codesL c n _ s n).2 ⟨hs, by omega, ?_⟩⟩
    have := (vOf_code h hs (by omega)).1
    unfold cod
    rw [this]
    unfold vOf
    rw [hcs, hcn, cur_En]
    omega
  · right
    refine ⟨?_, by omega, by omega⟩
    rcases Nat.lt_or_ge (d + 1) 15 with hlt | hge
    · exact hlt
    · obtain rfl : d = 14 := by omega
      have h15 : En c n (14 + 1) = 32768 := h.end
      exfalso
      have e : (2 : Nat) ^ 14 = 16384 := rfl
      omega

theorem ext_of {c : Nat → Nat} {n : Nat} (h : Whole c n) : ∀ f d x, 15 - d ≤ f → d < 15 → En c n d ≤ x → x < 2 ^ d → ∃ u s k, (u, s) ∈ codesL c n n ∧ 1 ≤ k ∧ u / 2 ^ k = 2 ^ d + x
  | 0, d, x, hf, hd, _, _ => absurd hf (by omega)
  | f + 1, d, x, hf, hd, h1, h2 => by
    have hp : (2 : Nat) ^ (d + 1) = 2 * 2 ^ d := Nat.pow_succ'
    rcases kid_or h hd h1 h2 (show 0 < 2 by decide) with ⟨s, hs⟩ | ⟨a1, a2, a3⟩
    · exact ⟨_, s, 1, hs, Nat.le_refl _, by omega⟩
    · obtain ⟨u, s, k, k1, k2, k3⟩ := ext_of h f (d + 1) (2 * x + 0) (by omega) a1 a2 a3
      refine ⟨u, s, k + 1, k1, by omega, ?_⟩
      rw [Nat.pow_succ, ← Nat.div_div_eq_div_mul, k3]
      omega

/-- The canonical code of a whole tree. -/
theorem Whole.code {c : Nat → Nat} {n : Nat} (h : Whole c n) : Code (codesL c n n) (inn c n 15) := by
  have hmem : ∀ u s, (u, s) ∈ codesL c n n → s < n ∧ 0 < c s ∧ c s ≤ 15 ∧ u = 2 ^ c s + vOf c n s ∧ vOf c n s < 2 ^ c s ∧ vOf c n s < En c n (c s) ∧ cur (hh c n) (c s) ≤ vOf c n s := fun u s hu => by
    obtain ⟨h1, h2, h3⟩ := (mem_codesL c n u s n).1 hu
    obtain ⟨e1, e2⟩ := vOf_code h h1 h2
    obtain ⟨e3, e4⟩ := vOf_lt h1 h2
    refine ⟨h1, h2, h.le s h1, ?_, e2, e4, e3⟩
    rw [h3]; unfold cod; rw [e1]
  refine ⟨fun u s hu k hk hk1 => ?_, fun v hv => ?_, fun v hv b hb => ?_, .inl ?_, fun u s hu hI => ?_, codesL_nodup c n h n (Nat.le_refl _), ?_, fun v hv => ?_, fun u s hu => ?_⟩
  · obtain ⟨h1, h2, h3, h4, h5, h6, h7⟩ := hmem u s hu
    have hkl : k ≤ c s := by
      rcases Nat.lt_or_ge (c s) k with hl | hl
      · exfalso
        have := Nat.pow_le_pow_right (n := 2) (by decide) (show c s + 1 ≤ k by omega)
        rw [Nat.div_eq_of_lt (by rw [Nat.pow_succ] at this; omega)] at hk1
        omega
      · exact hl
    rw [mem_inn]
    refine ⟨c s - k, vOf c n s / 2 ^ k, by omega, ?_, ?_, ?_⟩
    · rw [Nat.le_div_iff_mul_le (Nat.two_pow_pos k)]
      have := En_cur c n (c s - k) k hk
      rw [show c s - k + k = c s by omega] at this
      omega
    · rw [Nat.div_lt_iff_lt_mul (Nat.two_pow_pos k), ← Nat.pow_add, show c s - k + k = c s by omega]
      exact h5
    · have e : (2 : Nat) ^ c s = 2 ^ k * 2 ^ (c s - k) := by rw [← Nat.pow_add]; congr 1; omega
      rw [h4, e, Nat.mul_add_div (Nat.two_pow_pos k)]
  · rw [mem_inn] at hv
    obtain ⟨d, x, h1, h2, h3, rfl⟩ := hv
    exact ext_of h 15 d x (by omega) h1 h2 h3
  · rw [mem_inn] at hv
    obtain ⟨d, x, h1, h2, h3, rfl⟩ := hv
    rcases kid_or h h1 h2 h3 hb with h | ⟨a1, a2, a3⟩
    · exact .inr h
    · left
      rw [mem_inn]
      exact ⟨d + 1, 2 * x + b, a1, a2, a3, by rw [Nat.pow_succ]; omega⟩
  · rw [mem_inn]
    exact ⟨0, 0, by decide, Nat.le_refl _, by decide, rfl⟩
  · obtain ⟨h1, h2, h3, h4, h5, h6, h7⟩ := hmem u s hu
    rw [mem_inn] at hI
    obtain ⟨d, x, a1, a2, a3, a4⟩ := hI
    have hl : d = c s := by
      rcases Nat.lt_trichotomy d (c s) with hl | hl | hl
      · have := Nat.pow_le_pow_right (n := 2) (by decide) (show d + 1 ≤ c s by omega)
        rw [Nat.pow_succ] at this; omega
      · exact hl
      · have := Nat.pow_le_pow_right (n := 2) (by decide) (show c s + 1 ≤ d by omega)
        rw [Nat.pow_succ] at this; omega
    subst hl
    omega
  · have e := codesL_len c n n h.le
    have s0 : (inn c n 0).length = 0 := rfl
    have E0 := En_zero c n
    have p0 := En_succ c n 0
    have p1 := En_succ c n 1
    have p2 := En_succ c n 2
    have p3 := En_succ c n 3
    have p4 := En_succ c n 4
    have p5 := En_succ c n 5
    have p6 := En_succ c n 6
    have p7 := En_succ c n 7
    have p8 := En_succ c n 8
    have p9 := En_succ c n 9
    have p10 := En_succ c n 10
    have p11 := En_succ c n 11
    have p12 := En_succ c n 12
    have p13 := En_succ c n 13
    have p14 := En_succ c n 14
    have b1 := h.En_le (l := 1) (by decide)
    have b2 := h.En_le (l := 2) (by decide)
    have b3 := h.En_le (l := 3) (by decide)
    have b4 := h.En_le (l := 4) (by decide)
    have b5 := h.En_le (l := 5) (by decide)
    have b6 := h.En_le (l := 6) (by decide)
    have b7 := h.En_le (l := 7) (by decide)
    have b8 := h.En_le (l := 8) (by decide)
    have b9 := h.En_le (l := 9) (by decide)
    have b10 := h.En_le (l := 10) (by decide)
    have b11 := h.En_le (l := 11) (by decide)
    have b12 := h.En_le (l := 12) (by decide)
    have b13 := h.En_le (l := 13) (by decide)
    have b14 := h.En_le (l := 14) (by decide)
    have e15 := h.end
    simp only [inn_len]
    rw [e, s0]
    simp only [show (2 : Nat) ^ 0 = 1 from rfl, show (2 : Nat) ^ 1 = 2 from rfl, show (2 : Nat) ^ 2 = 4 from rfl, show (2 : Nat) ^ 3 = 8 from rfl, show (2 : Nat) ^ 4 = 16 from rfl, show (2 : Nat) ^ 5 = 32 from rfl, show (2 : Nat) ^ 6 = 64 from rfl, show (2 : Nat) ^ 7 = 128 from rfl, show (2 : Nat) ^ 8 = 256 from rfl, show (2 : Nat) ^ 9 = 512 from rfl, show (2 : Nat) ^ 10 = 1024 from rfl, show (2 : Nat) ^ 11 = 2048 from rfl, show (2 : Nat) ^ 12 = 4096 from rfl, show (2 : Nat) ^ 13 = 8192 from rfl, show (2 : Nat) ^ 14 = 16384 from rfl] at *
    simp only [show 0 + 1 = 1 from rfl, show 1 + 1 = 2 from rfl, show 2 + 1 = 3 from rfl, show 3 + 1 = 4 from rfl, show 4 + 1 = 5 from rfl, show 5 + 1 = 6 from rfl, show 6 + 1 = 7 from rfl, show 7 + 1 = 8 from rfl, show 8 + 1 = 9 from rfl, show 9 + 1 = 10 from rfl, show 10 + 1 = 11 from rfl, show 11 + 1 = 12 from rfl, show 12 + 1 = 13 from rfl, show 13 + 1 = 14 from rfl, show 14 + 1 = 15 from rfl] at *
    omega
  · rw [mem_inn] at hv
    obtain ⟨d, x, h1, h2, h3, rfl⟩ := hv
    have := Nat.two_pow_pos d
    omega
  · obtain ⟨h1, h2, h3, h4, h5, h6, h7⟩ := hmem u s hu
    have hp := Nat.two_pow_pos (c s)
    have hp2 : (2 : Nat) ^ c s ≤ 2 ^ 15 := Nat.pow_le_pow_right (by decide) h3
    have := h.max
    have e : (2 : Nat) ^ 15 = 32768 := rfl
    omega
end Go.Proofs.YtdmefbpfpmkdcaaDoor
namespace Go.Proofs.YtdmefbpfpmkdcaaDoor

/-- The first k bits of x are the path of symbol s. -/
def Tells (C : List (Nat × Nat)) (x k s : Nat) : Prop := (pth x k, s) ∈ C
theorem Tells.uniq {C : List (Nat × Nat)} {I : List Nat} (hC : Code C I) {x k s k' s' : Nat} (h : Tells C x k s) (h' : Tells C x k' s') : k = k' ∧ s = s' := by
  rcases Nat.lt_trichotomy k k' with e | e | e
  · exfalso
    refine code_apart hC h' h (j := k' - k) (by omega) ?_
    have := pth_up x k (k' - k)
    rwa [show k + (k' - k) = k' by omega] at this
  · subst e
    exact ⟨rfl, nodup_fst hC.one h h'⟩
  · exfalso
    refine code_apart hC h h' (j := k - k') (by omega) ?_
    have := pth_up x k' (k - k')
    rwa [show k' + (k - k') = k by omega] at this
theorem Tells.le {C : List (Nat × Nat)} {I : List Nat} (hC : Code C I) {x k s : Nat} (h : Tells C x k s) : k ≤ 15 ∧ s ≤ 65535 := by
  obtain ⟨h1, h2, h3⟩ := hC.low _ _ h
  refine ⟨?_, h3⟩
  rcases Nat.lt_or_ge 15 k with hl | hl
  · have := pth_low x k
    have := Nat.pow_le_pow_right (n := 2) (by decide) (show 16 ≤ k by omega)
    have e : (2 : Nat) ^ 16 = 65536 := rfl
    omega
  · exact hl
theorem Code.tells {C : List (Nat × Nat)} {I : List Nat} (hC : Code C I) (x : Nat) : ∃ k s, Tells C x k s := by
  have hw : ∀ k, (∃ j s, Tells C x j s) ∨ pth x k ∈ I := fun k => by
    induction k with
    | zero =>
      rcases hC.root with h | ⟨s, h⟩
      · exact .inr h
      · exact .inl ⟨0, s, h⟩
    | succ k ih =>
      rcases ih with h | h
      · exact .inl h
      · rcases hC.kids _ h (x / 2 ^ k % 2) (by omega) with h | ⟨s, h⟩
        · exact .inr h
        · exact .inl ⟨k + 1, s, h⟩
  rcases hw 16 with h | h
  · exact h
  · exfalso
    obtain ⟨u, s, k, h1, h2, h3⟩ := hC.ext _ h
    have h4 := (hC.low u s h1).2.1
    have h5 := pth_low x 16
    have h6 : u / 2 ^ k ≤ u := Nat.div_le_self _ _
    have e : (2 : Nat) ^ 16 = 65536 := rfl
    omega

/-- The symbols of length l, of m. -/
def syl (c : Nat → Nat) (l : Nat) : Nat → List Nat
  | 0 => []
  | m + 1 => syl c l m ++ (if c m = l then [m] else [])
/-- The symbols of length 1 to L, of n. -/
def sys (c : Nat → Nat) (n : Nat) : Nat → List Nat
  | 0 => []
  | L + 1 => sys c n L ++ syl c (L + 1) n
/-- How many these are. -/
def bef (c : Nat → Nat) (n : Nat) : Nat → Nat
  | 0 => 0
  | L + 1 => bef c n L + cnt c (L + 1) n
theorem syl_len (c : Nat → Nat) (l : Nat) : ∀ m, (syl c l m).length = cnt c l m
  | 0 => rfl
  | m + 1 => by rw [syl, List.length_append, syl_len, cnt]; split <;> simp
theorem sys_len (c : Nat → Nat) (n : Nat) : ∀ L, (sys c n L).length = bef c n L
  | 0 => rfl
  | L + 1 => by rw [sys, List.length_append, sys_len, syl_len, bef]
theorem syl_at (c : Nat → Nat) (l s : Nat) (hc : c s = l) : ∀ m, s < m → (syl c l m)[cnt c l s]? = some s
  | 0, h => absurd h (by omega)
  | m + 1, h => by
    rw [syl]
    by_cases e : s = m
    · subst e
      rw [List.getElem?_append_right (by rw [syl_len]; exact Nat.le_refl _), syl_len, Nat.sub_self, if_pos hc]; rfl
    · have ih := syl_at c l s hc m (by omega)
      have hl : cnt c l s < (syl c l m).length := (List.getElem?_eq_some_iff.1 ih).1
      rw [List.getElem?_append_left hl]; exact ih
theorem sys_at (c : Nat → Nat) (n l s : Nat) (hc : c s = l + 1) (hs : s < n) : ∀ L, l < L → (sys c n L)[bef c n l + cnt c (l + 1) s]? = some s
  | 0, h => absurd h (by omega)
  | L + 1, h => by
    have h0 := syl_at c (l + 1) s hc n hs
    have hl : cnt c (l + 1) s < (syl c (l + 1) n).length := (List.getElem?_eq_some_iff.1 h0).1
    rw [sys]
    by_cases e : l = L
    · subst e
      rw [List.getElem?_append_right (by rw [sys_len]; omega), sys_len, show bef c n l + cnt c (l + 1) s - bef c n l = cnt c (l + 1) s by omega]
      exact h0
    · have ih := sys_at c n l s hc hs L (by omega)
      have hl : bef c n l + cnt c (l + 1) s < (sys c n L).length := (List.getElem?_eq_some_iff.1 ih).1
      rw [List.getElem?_append_left hl]; exact ih
theorem mem_syl (c : Nat → Nat) (l s : Nat) : ∀ m, s ∈ syl c l m → s < m
  | 0, h => by simp [syl] at h
  | m + 1, h => by
    rw [syl] at h
    rcases List.mem_append.1 h with h | h
    · have := mem_syl c l s m h; omega
    · split at h
      · rw [List.mem_singleton] at h; omega
      · simp at h
theorem mem_sys (c : Nat → Nat) (n s : Nat) : ∀ L, s ∈ sys c n L → s < n
  | 0, h => by simp [sys] at h
  | L + 1, h => by
    rw [sys] at h
    rcases List.mem_append.1 h with h | h
    · exact mem_sys c n s L h
    · exact mem_syl c (L + 1) s n h

/-- The number that the first k bits of x are, the first one highest. -/
def nowOf (x k : Nat) : Nat := pth x k - 2 ^ k
theorem nowOf_zero (x : Nat) : nowOf x 0 = 0 := rfl
theorem nowOf_succ (x k : Nat) : nowOf x (k + 1) = 2 * nowOf x k + x / 2 ^ k % 2 := by
  unfold nowOf
  have := pth_low x k
  rw [pth, Nat.pow_succ]
  omega
theorem nowOf_lt (x k : Nat) : nowOf x k < 2 ^ k := by
  have := pth_high x k
  have := pth_low x k
  rw [Nat.pow_succ] at *
  unfold nowOf
  omega

/-- One round of reading a symbol: it is found, or all codes so far are passed. -/
theorem Whole.round {c : Nat → Nat} {n x k : Nat} (h : Whole c n) (hk : k < 15) (hlo : En c n k ≤ nowOf x k) :
    2 * En c n k ≤ nowOf x (k + 1) ∧
    (nowOf x (k + 1) - 2 * En c n k < cnt c (k + 1) n → ∃ s, s < n ∧ (sys c n 15)[bef c n k + (nowOf x (k + 1) - 2 * En c n k)]? = some s ∧ Tells (codesL c n n) x (k + 1) s) ∧
    (cnt c (k + 1) n ≤ nowOf x (k + 1) - 2 * En c n k → En c n (k + 1) ≤ nowOf x (k + 1)) := by
  have h1 : 2 * En c n k ≤ nowOf x (k + 1) := by rw [nowOf_succ]; omega
  refine ⟨h1, fun hlt => ?_, fun hge => by rw [En_succ]; omega⟩
  obtain ⟨s, hs, hcs, hcn⟩ := cnt_onto c (k + 1) n _ hlt
  refine ⟨s, hs, ?_, ?_⟩
  · rw [← hcn]; exact sys_at c n k s hcs hs 15 hk
  · refine (mem_codesL c n _ s n).2 ⟨hs, by omega, ?_⟩
    have := (vOf_code h hs (by omega)).1
    unfold cod
    rw [this]
    unfold vOf
    rw [hcs, hcn, cur_En]
    have := pth_low x (k + 1)
    unfold nowOf at *
    omega
/-- Fifteen bits tell a symbol. -/
theorem Whole.last {c : Nat → Nat} {n x : Nat} (h : Whole c n) (hlo : En c n 15 ≤ nowOf x 15) : False := by
  have := nowOf_lt x 15
  rw [h.end] at hlo
  have e : (2 : Nat) ^ 15 = 32768 := rfl
  omega

/-- The lowest bits of v in the opposite order. -/
def trn (v : Nat) : Nat → Nat
  | 0 => 0
  | n + 1 => trn v n * 2 + v / 2 ^ n % 2
theorem trn_lt (v : Nat) : ∀ n, trn v n < 2 ^ n
  | 0 => by simp [trn]
  | n + 1 => by have := trn_lt v n; rw [trn, Nat.pow_succ]; omega
/-- Bit j of the turned number. -/
theorem trn_bit (v : Nat) : ∀ n j, j < n → trn v n / 2 ^ j % 2 = v / 2 ^ (n - 1 - j) % 2
  | 0, j, h => absurd h (by omega)
  | n + 1, 0, _ => by
    rw [trn, Nat.pow_zero, Nat.div_one, Nat.add_sub_cancel, Nat.sub_zero]; omega
  | n + 1, j + 1, h => by
    rw [trn, Nat.pow_succ', ← Nat.div_div_eq_div_mul, show (trn v n * 2 + v / 2 ^ n % 2) / 2 = trn v n by omega, trn_bit v n j (by omega)]
    congr 3; omega
/-- The turned number of a code tells its path. -/
theorem pth_trn (v l : Nat) : ∀ k, k ≤ l → pth (trn v l) k = cod l v / 2 ^ (l - k)
  | 0, _ => by rw [Nat.sub_zero, cod_top]; rfl
  | k + 1, h => by
    rw [pth, pth_trn v l k (by omega), trn_bit v l k (by omega), cod_step l v (l - (k + 1)) (by omega)]
    rw [show l - (k + 1) + 1 = l - k by omega, show l - 1 - k = l - (k + 1) by omega]
theorem pth_trn_all (v l : Nat) : pth (trn v l) l = cod l v := by rw [pth_trn v l l (Nat.le_refl _), Nat.sub_self]; simp
end Go.Proofs.YtdmefbpfpmkdcaaDoor
namespace Go.Proofs.YtdmefbpfpmkdcaaDoor
open Go.RowKit

/-- What is known of a slice of integers that came in: it is nil, or it leads to a row of 'cap' cells. -/
def IsRow (k : IntKind) (w : World) (a : Option Addr) (len cap : Nat) (zs : List Int) : Prop :=
  (a = none ∧ len = 0 ∧ cap = 0 ∧ zs = []) ∨
  ∃ x, a = some x ∧ len ≤ cap ∧ cap ≤ maxLen ∧ zs.length = cap ∧ (∀ i, i < zs.length → w.cell? (x.add i) = some (.int k (zs.getD i 0))) ∧ ∀ n ∈ zs, (Lit.int k n).wf = true

theorem ret_int {k : IntKind} {a b : Int} (h : a = b) : Ending.returned (.int k a) = .returned (.int k b) := by rw [h]
theorem u8_bounds {n : Int} (h : (Lit.int .u8 n).wf = true) : 0 ≤ n ∧ n ≤ 255 := by simp [Lit.wf, IntKind.min, IntKind.max, IntKind.signed, IntKind.bits] at h; omega
end Go.Proofs.YtdmefbpfpmkdcaaDoor
namespace Go.Proofs.YtdmefbpfpmkdcaaDoor
open Go.RowKit

/-- The n cells of block g from place o on are the integers f 0, f 1, .. of kind k. -/
def Row (k : IntKind) (w : World) (g o n : Nat) (f : Nat → Int) : Prop := ∀ i, i < n → w.cell? ⟨g, o + i, none⟩ = some (.int k (f i))
/-- .. and may be written. -/
def Wr (w : World) (g o n : Nat) : Prop := ∀ i, i < n → w.frozen? ⟨g, o + i, none⟩ = false
/-- What a slice with address a and length n holds. -/
def Arg (k : IntKind) (w : World) (a : Option Addr) (n : Nat) (f : Nat → Int) : Prop := 0 < n → ∃ g o, a = some ⟨g, o, none⟩ ∧ g < w.heap.size ∧ Row k w g o n f
/-- The same of a slice in a block of the call's own (from B on), which may be written. -/
def Own (k : IntKind) (B : Nat) (w : World) (a : Option Addr) (n : Nat) (f : Nat → Int) : Prop :=
  0 < n → ∃ g, a = some ⟨g, 0, none⟩ ∧ B ≤ g ∧ g < w.heap.size ∧ Row k w g 0 n f ∧ Wr w g 0 n
def upd (f : Nat → Int) (i : Nat) (v : Int) : Nat → Int := fun j => if j = i then v else f j

theorem upd_same (f : Nat → Int) (i : Nat) (v : Int) : upd f i v i = v := by simp [upd]
theorem upd_other (f : Nat → Int) (i j : Nat) (v : Int) (h : j ≠ i) : upd f i v j = f j := by simp [upd, h]

theorem Own.arg {k : IntKind} {B : Nat} {w : World} {a : Option Addr} {n : Nat} {f : Nat → Int} (h : Own k B w a n f) : Arg k w a n f := fun hn => by
  obtain ⟨g, h1, _, h2, h3, _⟩ := h hn
  exact ⟨g, 0, h1, h2, h3⟩
theorem Row.below {k : IntKind} {w w' : World} {g o n B : Nat} {f : Nat → Int} (h : Row k w g o n f) (hb : Below B w w') (hg : g < B) : Row k w' g o n f := fun i hi => by
  rw [hb.cell (p := ⟨g, o + i, none⟩) hg]; exact h i hi
theorem Wr.below {w w' : World} {g o n B : Nat} (h : Wr w g o n) (hb : Below B w w') (hg : g < B) : Wr w' g o n := fun i hi => by
  rw [hb.frozen (p := ⟨g, o + i, none⟩) hg]; exact h i hi
theorem Arg.below {k : IntKind} {w w' : World} {a : Option Addr} {n : Nat} {f : Nat → Int} (h : Arg k w a n f) (hb : Below w.heap.size w w') : Arg k w' a n f := fun hn => by
  obtain ⟨g, o, h1, h2, h3⟩ := h hn
  exact ⟨g, o, h1, Nat.lt_of_lt_of_le h2 hb.size, h3.below hb h2⟩
theorem Own.below {k : IntKind} {B : Nat} {w w' : World} {a : Option Addr} {n : Nat} {f : Nat → Int} (h : Own k B w a n f) (hb : Below w.heap.size w w') : Own k B w' a n f := fun hn => by
  obtain ⟨g, h1, h2, h3, h4, h5⟩ := h hn
  exact ⟨g, h1, h2, Nat.lt_of_lt_of_le h3 hb.size, h4.below hb h3, h5.below hb h3⟩
theorem Own.mono {k : IntKind} {B B' : Nat} {w : World} {a : Option Addr} {n : Nat} {f : Nat → Int} (h : Own k B w a n f) (hb : B' ≤ B) : Own k B' w a n f := fun hn => by
  obtain ⟨g, h1, h2, h3⟩ := h hn
  exact ⟨g, h1, Nat.le_trans hb h2, h3⟩
theorem Row.congr {k : IntKind} {w : World} {g o n : Nat} {f f' : Nat → Int} (h : Row k w g o n f) (he : ∀ i, i < n → f i = f' i) : Row k w g o n f' := fun i hi => by rw [← he i hi]; exact h i hi
theorem Arg.congr {k : IntKind} {w : World} {a : Option Addr} {n : Nat} {f f' : Nat → Int} (h : Arg k w a n f) (he : ∀ i, i < n → f i = f' i) : Arg k w a n f' := fun hn => by
  obtain ⟨g, o, h1, h2, h3⟩ := h hn
  exact ⟨g, o, h1, h2, h3.congr he⟩
theorem Own.congr {k : IntKind} {B : Nat} {w : World} {a : Option Addr} {n : Nat} {f f' : Nat → Int} (h : Own k B w a n f) (he : ∀ i, i < n → f i = f' i) : Own k B w a n f' := fun hn => by
  obtain ⟨g, h1, h2, h3, h4, h5⟩ := h hn
  exact ⟨g, h1, h2, h3, h4.congr he, h5⟩

theorem Row.drew {k : IntKind} {w : World} {g o n : Nat} {f : Nat → Int} (h : Row k w g o n f) (d : Nat) : Row k (w.drewN d) g o n f := h
theorem Wr.drew {w : World} {g o n : Nat} (h : Wr w g o n) (d : Nat) : Wr (w.drewN d) g o n := h
theorem Row.set {k : IntKind} {w : World} {g o n : Nat} {f : Nat → Int} (h : Row k w g o n f) (i : Nat) (hi : i < n) (v : Int) : Row k (w.setCell ⟨g, o + i, none⟩ (.int k v)) g o n (upd f i v) := fun j hj => by
  by_cases e : j = i
  · subst e; rw [World.cell?_setCell_same _ _ _ (h j hj), upd_same]
  · rw [World.cell?_setCell_other _ _ _ _ (by intro h; injection h with _ h2 _; omega), upd_other _ _ _ _ e]; exact h j hj
theorem Wr.set {w : World} {g o n : Nat} (h : Wr w g o n) (p : Addr) (v : Value) : Wr (w.setCell p v) g o n := fun j hj => by rw [World.frozen?_setCell]; exact h j hj
theorem Row.far {k : IntKind} {w : World} {g o n : Nat} {f : Nat → Int} (h : Row k w g o n f) (p : Addr) (hp : p.block ≠ g) (v : Value) : Row k (w.setCell p v) g o n f := fun j hj => by
  rw [World.cell?_setCell_other _ _ _ _ (by intro h; rw [h] at hp; exact hp rfl)]; exact h j hj
theorem size_setCell (w : World) (p : Addr) (v : Value) : (w.setCell p v).heap.size = w.heap.size := by simp [World.setCell]

/-- From 'grownBy': a row of another block. -/
theorem Row.grown {k : IntKind} {w w' : World} {g o n : Nat} {f : Nat → Int} {row : Option Nat} (h : Row k w g o n f) (hg : w.grownBy w' row) (hlt : g < w.heap.size) (hne : some g ≠ row) : Row k w' g o n f := fun i hi => by
  rw [World.cell?_of_block (w := w) (hg.block g hlt hne)]; exact h i hi
theorem Arg.grown {k : IntKind} {w w' : World} {a : Option Addr} {n : Nat} {f : Nat → Int} {row : Option Nat} (h : Arg k w a n f) (hg : w.grownBy w' row) (hne : ∀ r, row = some r → ∀ p, a = some p → p.block ≠ r) : Arg k w' a n f := fun hn => by
  obtain ⟨g, o, rfl, h2, h3⟩ := h hn
  refine ⟨g, o, rfl, Nat.lt_of_lt_of_le h2 hg.size, h3.grown hg h2 ?_⟩
  intro e
  exact hne g e.symm _ rfl rfl
theorem below_of_grown {w w' : World} {row : Option Nat} (hg : w.grownBy w' row) {B : Nat} (hB : B ≤ w.heap.size) (hr : ∀ r, row = some r → B ≤ r) : Below B w w' := (Below.refl B w).grown hg hB hr
theorem grown_of_below {w w' : World} (h : Below w.heap.size w w') (row : Option Nat) : w.grownBy w' row := ⟨h.os, h.tape, h.output, h.size, fun k hk _ => h.block k hk⟩
theorem grownBy.trans {a b c : World} {row : Option Nat} (h : a.grownBy b row) (h' : b.grownBy c row) : a.grownBy c row :=
  ⟨h'.os.trans h.os, h'.tape.trans h.tape, h'.output.trans h.output, Nat.le_trans h.size h'.size, fun k hk hne => (h'.block k (Nat.lt_of_lt_of_le hk h.size) hne).trans (h.block k hk hne)⟩
theorem grownBy_setCell (w : World) (p : Addr) (v : Value) : w.grownBy (w.setCell p v) (some p.block) :=
  ⟨rfl, rfl, rfl, by simp [World.setCell], fun k _ hne => Below.heap_setCell _ _ _ _ (fun e => hne (by rw [e]))⟩
theorem grownBy_drewN (w : World) (d : Nat) (row : Option Nat) : w.grownBy (w.drewN d) row := ⟨rfl, rfl, rfl, Nat.le_refl _, fun _ _ _ => rfl⟩

/-- From the law on append to the words here. -/
theorem own_of_ownsRow {k : IntKind} {w : World} {B : Nat} {e : TypeId} {v : Value} {n : Nat} {l : List Int} (h : w.ownsRow B e 1 v n (l.map (Value.int k))) :
    ∃ a c, v = .slice a n c ∧ n = l.length ∧ Own k B w a n (fun i => l.getD i 0) := by
  have hl : n = l.length := by have := h.1; simp at this; omega
  rcases h.2 with ⟨rfl, h0⟩ | ⟨g, cap, cur, rfl, hb, hg, _⟩
  · subst h0; exact ⟨none, 0, rfl, hl, fun h => absurd h (by omega)⟩
  · refine ⟨_, cap, rfl, hl, fun _ => ⟨g, rfl, hb, (Array.getElem?_eq_some_iff.1 hg).1, fun i hi => ?_, fun i hi => ?_⟩⟩
    · rw [Nat.zero_add, h.cellAt i (by omega)]
      simp [List.getD, show i < l.length by omega]
    · exact h.frozenAt _

theorem IsRow.arg {k : IntKind} {w : World} {a : Option Addr} {len cap : Nat} {zs : List Int} (h : IsRow k w a len cap zs) :
    Arg k w a len (fun i => zs.getD i 0) ∧ len ≤ cap ∧ cap ≤ maxLen ∧ (a = none → len = 0) ∧ ∀ i, (Lit.int k (zs.getD i 0)).wf = true := by
  have h00 : (Lit.int k 0).wf = true := by cases k <;> decide
  rcases h with ⟨rfl, rfl, rfl, rfl⟩ | ⟨x, rfl, hl, hm, hz, hcell, hwf⟩
  · exact ⟨fun h => absurd h (by omega), Nat.le_refl _, Nat.zero_le _, fun _ => rfl, fun i => by simpa using h00⟩
  · refine ⟨fun hn => ?_, hl, hm, fun h => (by cases h), fun i => ?_⟩
    · obtain ⟨b, off, spot⟩ := x
      have hc := hcell 0 (by omega)
      have hspot : spot = none := by simpa [Addr.add] using World.cell?_spot hc
      subst hspot
      refine ⟨b, off, rfl, World.block_lt_of_cell? w _ hc, fun i hi => ?_⟩
      have := hcell i (by omega)
      rwa [Addr.add_lit] at this
    · by_cases hi : i < zs.length
      · have e : zs.getD i 0 = zs[i] := by simp [List.getD, hi]
        rw [e]; exact hwf _ (List.getElem_mem hi)
      · have e : zs.getD i 0 = 0 := by simp [List.getD, show ¬ i < zs.length from hi]
        rw [e]; exact h00

/-- The cells of a slice, as a list: what the laws on append ask for. -/
def cellsOf (k : IntKind) (n : Nat) (f : Nat → Int) : List Value := (List.range n).map fun i => Value.int k (f i)
theorem cellsOf_length (k : IntKind) (n : Nat) (f : Nat → Int) : (cellsOf k n f).length = n * 1 := by simp [cellsOf]
theorem cellsOf_one (k : IntKind) (n : Nat) (f : Nat → Int) : ∀ u ∈ cellsOf k n f, u.oneCell' = true := by
  intro u hu
  obtain ⟨_, _, rfl⟩ := List.mem_map.1 hu
  rfl
theorem Arg.news {k : IntKind} {w : World} {ad : Addr} {n : Nat} {f : Nat → Int} (h : Arg k w (some ad) n f) : ∀ j u, (cellsOf k n f)[j]? = some u → w.cell? (ad.add j) = some u := by
  intro j u hj
  have hjn : j < n := by have := (List.getElem?_eq_some_iff.1 hj).1; simpa [cellsOf] using this
  obtain ⟨g, o, e, _, hr⟩ := h (by omega)
  obtain rfl := Option.some.inj e
  have hu : u = .int k (f j) := by simp [cellsOf, hjn] at hj; exact hj.symm
  rw [Addr.add_lit, hu]
  exact hr j hjn
theorem Arg.alloc {k : IntKind} {w : World} {a : Option Addr} {n : Nat} {f : Nat → Int} (h : Arg k w a n f) (ob : Obj) : Arg k (w.alloc ob) a n f := h.below ((Below.refl _ _).alloc (Nat.le_refl _) ob)
theorem Arg.drewN {k : IntKind} {w : World} {a : Option Addr} {n : Nat} {f : Nat → Int} (h : Arg k w a n f) (d : Nat) : Arg k (w.drewN d) a n f := h
/-- A row that was built by append, read as an Own. -/
theorem own_of_cells {k : IntKind} {w : World} {B : Nat} {e : TypeId} {v : Value} {n : Nat} {f : Nat → Int} (h : w.ownsRow B e 1 v n (cellsOf k n f)) :
    ∃ a c, v = .slice a n c ∧ n ≤ c ∧ Own k B w a n f := by
  have e1 : cellsOf k n f = ((List.range n).map f).map (Value.int k) := by simp [cellsOf]
  have h0 := h
  rw [e1] at h
  obtain ⟨a, c, rfl, _, ho⟩ := own_of_ownsRow h
  refine ⟨a, c, rfl, ?_, ho.congr (fun i hi => by simp [List.getD, hi])⟩
  rcases h0.2 with ⟨h1, h2⟩ | ⟨_, _, _, h1, _, _, h2, _⟩
  · simp at h1; omega
  · simp at h1; omega
theorem cellsOf_succ (k : IntKind) (n : Nat) (f : Nat → Int) : cellsOf k (n + 1) f = cellsOf k n f ++ [.int k (f n)] := by simp [cellsOf, List.range_succ]
end Go.Proofs.YtdmefbpfpmkdcaaDoor
