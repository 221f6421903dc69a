/- The head's filters: what is read, as a plain function over any decoder; what the package makes of it for each segment (plain). -/
import Derived.Test.YthmkmemocjnleaaDoorSegP
import Derived.Test.YthmkmemocjnleaaDoorSegB
namespace Go.Proofs.YthmkmemocjnleaaDoor
open Go.RowKit
set_option linter.unusedVariables false

structure FG where
  simple : Bool
  level : Int
  sharp : Int
  deltas : Bool
  ref : Nat → Int
  mode : Nat → Int
def filD {σ : Type} (step : σ → Int → Bool × σ) (sm : Bool) (lv sh : Int) (s : σ) : FG × σ :=
  (⟨sm, lv, sh, true, itV (optG step 128 6) s, itV (optG step 128 6) (itS (optG step 128 6) 4 s)⟩, itS (optG step 128 6) 4 (itS (optG step 128 6) 4 s))
def filB {σ : Type} (step : σ → Int → Bool × σ) (sm : Bool) (lv sh : Int) (s : σ) : FG × σ :=
  if (step s 128).1 then filD step sm lv sh (step s 128).2 else (⟨sm, lv, sh, true, fun _ => 0, fun _ => 0⟩, (step s 128).2)
def filC {σ : Type} (step : σ → Int → Bool × σ) (sm : Bool) (lv sh : Int) (s : σ) : FG × σ :=
  if (step s 128).1 then filB step sm lv sh (step s 128).2 else (⟨sm, lv, sh, false, fun _ => 0, fun _ => 0⟩, (step s 128).2)
def filG {σ : Type} (step : σ → Int → Bool × σ) (s : σ) : FG × σ :=
  filC step (step s 128).1 (bitsG step 128 6 0 (step s 128).2).1 (bitsG step 128 3 0 (bitsG step 128 6 0 (step s 128).2).2).1 (bitsG step 128 3 0 (bitsG step 128 6 0 (step s 128).2).2).2

/-- The level of a segment, and that of a block (8 bits with a sign). -/
def baseI (u r : Bool) (lv st : Int) : Int := if u then (if r then IntKind.i8.wrap (st + lv) else st) else lv
def lvlI (dl : Bool) (b r m : Int) (j : Nat) : Int := if dl then (if j = 0 then IntKind.i8.wrap (b + r) else IntKind.i8.wrap (IntKind.i8.wrap (b + r) + m)) else b
def ilA (sh L : Int) : Int := if 0 < sh then (if 9 - sh < (if 4 < sh then L / 4 else L / 2) then 9 - sh else (if 4 < sh then L / 4 else L / 2)) else L
def ilI (sh L : Int) : Int := if ilA sh L < 1 then 1 else ilA sh L
def capI (l : Int) : Int := if 63 < l then 63 else l
def hiI (L : Int) : Int := if L < 15 then 0 else if L < 40 then 1 else 2
def parI (sh l : Int) (k : Nat) : Int := if l ≤ 0 then 0 else if k = 0 then 2 * capI l + ilI sh (capI l) else if k = 1 then ilI sh (capI l) else hiI (capI l)
/-- The numbers of a block, m = 2 * segment + kind. -/
def parM (u r : Bool) (v : FG) (st : Nat → Int) (m k : Nat) : Int := parI v.sharp (lvlI v.deltas (baseI u r v.level (st (m / 2))) (v.ref 0) (v.mode 0) (m % 2)) k

theorem capI_bd {l : Int} (h : 0 < l) : 1 ≤ capI l ∧ capI l ≤ 63 := by unfold capI; split <;> omega
theorem ilA_bd {sh L : Int} (h0 : 0 ≤ sh) (h1 : sh ≤ 7) (hL : 1 ≤ L) (hL1 : L ≤ 63) : 0 ≤ ilA sh L ∧ ilA sh L ≤ 63 := by
  unfold ilA
  repeat' split
  all_goals omega
theorem ilI_bd {sh L : Int} (h0 : 0 ≤ sh) (h1 : sh ≤ 7) (hL : 1 ≤ L) (hL1 : L ≤ 63) : 1 ≤ ilI sh L ∧ ilI sh L ≤ 63 := by
  have := ilA_bd h0 h1 hL hL1
  unfold ilI
  split <;> omega
theorem w8_bd (x : Int) : -128 ≤ IntKind.i8.wrap x ∧ IntKind.i8.wrap x ≤ 127 := by
  simp [IntKind.wrap, IntKind.signed, IntKind.bits]; omega
theorem baseI_bd (u r : Bool) {lv st : Int} (h0 : 0 ≤ lv) (h1 : lv ≤ 63) (s0 : -128 ≤ st) (s1 : st ≤ 127) : -128 ≤ baseI u r lv st ∧ baseI u r lv st ≤ 127 := by
  have := w8_bd (st + lv)
  unfold baseI
  repeat' split
  all_goals omega
theorem lvlI_bd (dl : Bool) {b r m : Int} (j : Nat) (s0 : -128 ≤ b) (s1 : b ≤ 127) : -128 ≤ lvlI dl b r m j ∧ lvlI dl b r m j ≤ 127 := by
  have := w8_bd (b + r)
  have := w8_bd (IntKind.i8.wrap (b + r) + m)
  unfold lvlI
  repeat' split
  all_goals omega

/-- The first n blocks' numbers stand in the cells from 1188 on, of the others nothing yet. -/
def Par (P : Nat → Nat → Int) (R : Nat → Option Value) (n : Nat) : Prop :=
  (∀ m k, m < 8 → k < 3 → R (1188 + 4 * m + k) = some (.int .u8 (if m < n then P m k else 0))) ∧ ∀ m, m < 8 → R (1188 + 4 * m + 3) = some (.bool (decide (m < n) && decide (m % 2 = 1)))
theorem Par.step {P : Nat → Nat → Int} {R R' : Nat → Option Value} {n : Nat} (h : Par P R n) (hn : n < 8) (h3 : ∀ k, k < 3 → R' (1188 + 4 * n + k) = some (.int .u8 (P n k))) (hi : R' (1188 + 4 * n + 3) = some (.bool (decide (n % 2 = 1))))
    (ho : ∀ i, 1188 ≤ i → (i < 1188 + 4 * n ∨ 1188 + 4 * n + 4 ≤ i) → R' i = R i) : Par P R' (n + 1) := by
  refine ⟨fun m k hm hk => ?_, fun m hm => ?_⟩
  · by_cases e : m = n
    · subst e; rw [h3 k hk, if_pos (by omega)]
    · rw [ho _ (by omega) (by omega), h.1 m k hm hk]
      by_cases hl : m < n
      · rw [if_pos hl, if_pos (by omega)]
      · rw [if_neg hl, if_neg (by omega)]
  · by_cases e : m = n
    · subst e; rw [hi]; simp
    · rw [ho _ (by omega) (by omega), h.2 m hm]
      have : decide (m < n) = decide (m < n + 1) := by
        by_cases hl : m < n
        · rw [decide_eq_true hl, decide_eq_true (by omega)]
        · rw [decide_eq_false hl, decide_eq_false (by omega)]
      rw [this]
end Go.Proofs.YthmkmemocjnleaaDoor
