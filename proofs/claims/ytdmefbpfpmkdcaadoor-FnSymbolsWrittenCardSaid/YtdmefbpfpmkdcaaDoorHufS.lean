/- What bits tell by a prefix code; how a table of counts and a list of symbols tell it. Plain laws. -/
import Derived.Test.YtdmefbpfpmkdcaaDoorHufC
namespace Go.Proofs.YtdmefbpfpmkdcaaDoor

/-- The first k bits of x are the path of symbol s. -/
def Tells (C : List (Nat × Nat)) (x k s : Nat) : Prop := (pth x k, s) ∈ C
theorem Tells.uniq {C : List (Nat × Nat)} {I : List Nat} (hC : Code C I) {x k s k' s' : Nat} (h : Tells C x k s) (h' : Tells C x k' s') : k = k' ∧ s = s' := by
  rcases Nat.lt_trichotomy k k' with e | e | e
  · exfalso
    refine code_apart hC h' h (j := k' - k) (by omega) ?_
    have := pth_up x k (k' - k)
    rwa [show k + (k' - k) = k' by omega] at this
  · subst e
    exact ⟨rfl, nodup_fst hC.one h h'⟩
  · exfalso
    refine code_apart hC h h' (j := k - k') (by omega) ?_
    have := pth_up x k' (k - k')
    rwa [show k' + (k - k') = k by omega] at this
theorem Tells.le {C : List (Nat × Nat)} {I : List Nat} (hC : Code C I) {x k s : Nat} (h : Tells C x k s) : k ≤ 15 ∧ s ≤ 65535 := by
  obtain ⟨h1, h2, h3⟩ := hC.low _ _ h
  refine ⟨?_, h3⟩
  rcases Nat.lt_or_ge 15 k with hl | hl
  · have := pth_low x k
    have := Nat.pow_le_pow_right (n := 2) (by decide) (show 16 ≤ k by omega)
    have e : (2 : Nat) ^ 16 = 65536 := rfl
    omega
  · exact hl
theorem Code.tells {C : List (Nat × Nat)} {I : List Nat} (hC : Code C I) (x : Nat) : ∃ k s, Tells C x k s := by
  have hw : ∀ k, (∃ j s, Tells C x j s) ∨ pth x k ∈ I := fun k => by
    induction k with
    | zero =>
      rcases hC.root with h | ⟨s, h⟩
      · exact .inr h
      · exact .inl ⟨0, s, h⟩
    | succ k ih =>
      rcases ih with h | h
      · exact .inl h
      · rcases hC.kids _ h (x / 2 ^ k % 2) (by omega) with h | ⟨s, h⟩
        · exact .inr h
        · exact .inl ⟨k + 1, s, h⟩
  rcases hw 16 with h | h
  · exact h
  · exfalso
    obtain ⟨u, s, k, h1, h2, h3⟩ := hC.ext _ h
    have h4 := (hC.low u s h1).2.1
    have h5 := pth_low x 16
    have h6 : u / 2 ^ k ≤ u := Nat.div_le_self _ _
    have e : (2 : Nat) ^ 16 = 65536 := rfl
    omega

/-- The symbols of length l, of m. -/
def syl (c : Nat → Nat) (l : Nat) : Nat → List Nat
  | 0 => []
  | m + 1 => syl c l m ++ (if c m = l then [m] else [])
/-- The symbols of length 1 to L, of n. -/
def sys (c : Nat → Nat) (n : Nat) : Nat → List Nat
  | 0 => []
  | L + 1 => sys c n L ++ syl c (L + 1) n
/-- How many these are. -/
def bef (c : Nat → Nat) (n : Nat) : Nat → Nat
  | 0 => 0
  | L + 1 => bef c n L + cnt c (L + 1) n
theorem syl_len (c : Nat → Nat) (l : Nat) : ∀ m, (syl c l m).length = cnt c l m
  | 0 => rfl
  | m + 1 => by rw [syl, List.length_append, syl_len, cnt]; split <;> simp
theorem sys_len (c : Nat → Nat) (n : Nat) : ∀ L, (sys c n L).length = bef c n L
  | 0 => rfl
  | L + 1 => by rw [sys, List.length_append, sys_len, syl_len, bef]
theorem syl_at (c : Nat → Nat) (l s : Nat) (hc : c s = l) : ∀ m, s < m → (syl c l m)[cnt c l s]? = some s
  | 0, h => absurd h (by omega)
  | m + 1, h => by
    rw [syl]
    by_cases e : s = m
    · subst e
      rw [List.getElem?_append_right (by rw [syl_len]; exact Nat.le_refl _), syl_len, Nat.sub_self, if_pos hc]; rfl
    · have ih := syl_at c l s hc m (by omega)
      have hl : cnt c l s < (syl c l m).length := (List.getElem?_eq_some_iff.1 ih).1
      rw [List.getElem?_append_left hl]; exact ih
theorem sys_at (c : Nat → Nat) (n l s : Nat) (hc : c s = l + 1) (hs : s < n) : ∀ L, l < L → (sys c n L)[bef c n l + cnt c (l + 1) s]? = some s
  | 0, h => absurd h (by omega)
  | L + 1, h => by
    have h0 := syl_at c (l + 1) s hc n hs
    have hl : cnt c (l + 1) s < (syl c (l + 1) n).length := (List.getElem?_eq_some_iff.1 h0).1
    rw [sys]
    by_cases e : l = L
    · subst e
      rw [List.getElem?_append_right (by rw [sys_len]; omega), sys_len, show bef c n l + cnt c (l + 1) s - bef c n l = cnt c (l + 1) s by omega]
      exact h0
    · have ih := sys_at c n l s hc hs L (by omega)
      have hl : bef c n l + cnt c (l + 1) s < (sys c n L).length := (List.getElem?_eq_some_iff.1 ih).1
      rw [List.getElem?_append_left hl]; exact ih
theorem mem_syl (c : Nat → Nat) (l s : Nat) : ∀ m, s ∈ syl c l m → s < m
  | 0, h => by simp [syl] at h
  | m + 1, h => by
    rw [syl] at h
    rcases List.mem_append.1 h with h | h
    · have := mem_syl c l s m h; omega
    · split at h
      · rw [List.mem_singleton] at h; omega
      · simp at h
theorem mem_sys (c : Nat → Nat) (n s : Nat) : ∀ L, s ∈ sys c n L → s < n
  | 0, h => by simp [sys] at h
  | L + 1, h => by
    rw [sys] at h
    rcases List.mem_append.1 h with h | h
    · exact mem_sys c n s L h
    · exact mem_syl c (L + 1) s n h

/-- The number that the first k bits of x are, the first one highest. -/
def nowOf (x k : Nat) : Nat := pth x k - 2 ^ k
theorem nowOf_zero (x : Nat) : nowOf x 0 = 0 := rfl
theorem nowOf_succ (x k : Nat) : nowOf x (k + 1) = 2 * nowOf x k + x / 2 ^ k % 2 := by
  unfold nowOf
  have := pth_low x k
  rw [pth, Nat.pow_succ]
  omega
theorem nowOf_lt (x k : Nat) : nowOf x k < 2 ^ k := by
  have := pth_high x k
  have := pth_low x k
  rw [Nat.pow_succ] at *
  unfold nowOf
  omega

/-- One round of reading a symbol: it is found, or all codes so far are passed. -/
theorem Whole.round {c : Nat → Nat} {n x k : Nat} (h : Whole c n) (hk : k < 15) (hlo : En c n k ≤ nowOf x k) :
    2 * En c n k ≤ nowOf x (k + 1) ∧
    (nowOf x (k + 1) - 2 * En c n k < cnt c (k + 1) n → ∃ s, s < n ∧ (sys c n 15)[bef c n k + (nowOf x (k + 1) - 2 * En c n k)]? = some s ∧ Tells (codesL c n n) x (k + 1) s) ∧
    (cnt c (k + 1) n ≤ nowOf x (k + 1) - 2 * En c n k → En c n (k + 1) ≤ nowOf x (k + 1)) := by
  have h1 : 2 * En c n k ≤ nowOf x (k + 1) := by rw [nowOf_succ]; omega
  refine ⟨h1, fun hlt => ?_, fun hge => by rw [En_succ]; omega⟩
  obtain ⟨s, hs, hcs, hcn⟩ := cnt_onto c (k + 1) n _ hlt
  refine ⟨s, hs, ?_, ?_⟩
  · rw [← hcn]; exact sys_at c n k s hcs hs 15 hk
  · refine (mem_codesL c n _ s n).2 ⟨hs, by omega, ?_⟩
    have := (vOf_code h hs (by omega)).1
    unfold cod
    rw [this]
    unfold vOf
    rw [hcs, hcn, cur_En]
    have := pth_low x (k + 1)
    unfold nowOf at *
    omega
/-- Fifteen bits tell a symbol. -/
theorem Whole.last {c : Nat → Nat} {n x : Nat} (h : Whole c n) (hlo : En c n 15 ≤ nowOf x 15) : False := by
  have := nowOf_lt x 15
  rw [h.end] at hlo
  have e : (2 : Nat) ^ 15 = 32768 := rfl
  omega

/-- The lowest bits of v in the opposite order. -/
def trn (v : Nat) : Nat → Nat
  | 0 => 0
  | n + 1 => trn v n * 2 + v / 2 ^ n % 2
theorem trn_lt (v : Nat) : ∀ n, trn v n < 2 ^ n
  | 0 => by simp [trn]
  | n + 1 => by have := trn_lt v n; rw [trn, Nat.pow_succ]; omega
/-- Bit j of the turned number. -/
theorem trn_bit (v : Nat) : ∀ n j, j < n → trn v n / 2 ^ j % 2 = v / 2 ^ (n - 1 - j) % 2
  | 0, j, h => absurd h (by omega)
  | n + 1, 0, _ => by
    rw [trn, Nat.pow_zero, Nat.div_one, Nat.add_sub_cancel, Nat.sub_zero]; omega
  | n + 1, j + 1, h => by
    rw [trn, Nat.pow_succ', ← Nat.div_div_eq_div_mul, show (trn v n * 2 + v / 2 ^ n % 2) / 2 = trn v n by omega, trn_bit v n j (by omega)]
    congr 3; omega
/-- The turned number of a code tells its path. -/
theorem pth_trn (v l : Nat) : ∀ k, k ≤ l → pth (trn v l) k = cod l v / 2 ^ (l - k)
  | 0, _ => by rw [Nat.sub_zero, cod_top]; rfl
  | k + 1, h => by
    rw [pth, pth_trn v l k (by omega), trn_bit v l k (by omega), cod_step l v (l - (k + 1)) (by omega)]
    rw [show l - (k + 1) + 1 = l - k by omega, show l - 1 - k = l - (k + 1) by omega]
theorem pth_trn_all (v l : Nat) : pth (trn v l) l = cod l v := by rw [pth_trn v l l (Nat.le_refl _), Nat.sub_self]; simp
end Go.Proofs.YtdmefbpfpmkdcaaDoor
