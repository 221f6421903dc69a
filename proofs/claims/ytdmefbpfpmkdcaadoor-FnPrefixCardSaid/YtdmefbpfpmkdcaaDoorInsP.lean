/- hTree.insert: what it makes of the tree and of its table. Plain laws. -/
import Derived.Test.YtdmefbpfpmkdcaaDoorHTree
import Derived.Test.YtdmefbpfpmkdcaaDoorBits
import Derived.Test.YtdmefbpfpmkdcaaDoorQuietTail
import Derived.Deep.LoopGhost
import Derived.Deep.Cut
import Derived.Deep.CutRange
import Derived.BigRegion
import Derived.BigQuiet
import Derived.RegionTactic
import Derived.WalkSmall
namespace Go.Proofs.YtdmefbpfpmkdcaaDoor
open Go.RowKit
set_option linter.unusedVariables false

theorem Mid.lt {C : List (Nat × Nat)} {I P : List Nat} {A : List (Nat × Nat)} {nd : Nat → Nat × Int} {u c : Nat} (hC : Code C I) (m : Mid C I P A nd u c) : 1 + 2 * P.length ≤ 2 * C.length - 1 ∧ idx P (u / 2 ^ c) < 1 + 2 * P.length := by
  refine ⟨?_, idx_lt m.has⟩
  have h1 : P.length ≤ I.length := m.grow.nodup.length_le_of_subset (fun v hv => m.sub v hv)
  have := hC.card
  omega
/-- The table while the path of a symbol is laid, c bits of which are left. -/
def LM (P : List Nat) (A : List (Nat × Nat)) (u s l c : Nat) (lut : Nat → Nat) : Prop := if l ≤ 7 ∨ c + 7 ≤ l then Lut P (A ++ [(u, s)]) lut else Lut P A lut
theorem Lut.app2 {P : List Nat} {A : List (Nat × Nat)} {lut : Nat → Nat} (h : Lut P A lut) (w : Nat) (hh : ∀ u s, (u, s) ∈ A → ∀ j, 1 ≤ j → ∀ x, x < 128 → u / 2 ^ j = pth x 7 → Has P (pth x 7)) : Lut (P ++ [w]) A lut := by
  refine ⟨h.short, fun u s hu j hj x hx e => ?_, h.none⟩
  rw [idx_app (hh u s hu j hj x hx e)]
  exact h.long u s hu j hj x hx e
theorem base_path (code l : Nat) (h : 7 < l) : cod l code / 2 ^ (l - 7) = pth (trn (code / 2 ^ (l - 7)) 7) 7 := by
  rw [pth_trn_all, cod_up l code (l - 7) (by omega), show l - (l - 7) = 7 by omega]
theorem len_of_path {l code j x : Nat} (h : cod l code / 2 ^ j = pth x 7) : j + 7 = l := by
  rcases Nat.lt_or_ge l j with hl | hl
  · exfalso
    have h1 := cod_high l code
    have h2 : (2 : Nat) ^ (l + 1) ≤ 2 ^ j := Nat.pow_le_pow_right (by decide) (by omega)
    have h3 := pth_pos x 7
    rw [Nat.div_eq_of_lt (by omega)] at h
    omega
  · rw [cod_up l code j hl] at h
    have h1 := cod_low (l - j) (code / 2 ^ j)
    have h2 := cod_high (l - j) (code / 2 ^ j)
    have h3 := pth_low x 7
    have h4 := pth_high x 7
    rcases Nat.lt_trichotomy (l - j) 7 with e | e | e
    · have := Nat.pow_le_pow_right (n := 2) (by decide) (show l - j + 1 ≤ 7 by omega); omega
    · omega
    · have := Nat.pow_le_pow_right (n := 2) (by decide) (show 7 + 1 ≤ l - j by omega); omega
/-- Children more: the table stays. -/
theorem LM.app {C : List (Nat × Nat)} {I P : List Nat} {A : List (Nat × Nat)} {nd : Nat → Nat × Int} {s l code c : Nat} {lut : Nat → Nat} (m : Mid C I P A nd (cod l code) c) (h : LM P A (cod l code) s l c lut) (w : Nat) : LM (P ++ [w]) A (cod l code) s l c lut := by
  unfold LM at h ⊢
  have hA : ∀ u t, (u, t) ∈ A → ∀ j, 1 ≤ j → ∀ x, x < 128 → u / 2 ^ j = pth x 7 → Has P (pth x 7) := fun u t hu j hj x hx e => by
    rw [← e]; exact m.grow.has _ (m.fullA u t hu j hj (by rw [e]; exact pth_pos x 7))
  split
  · rename_i hc
    rw [if_pos hc] at h
    refine h.app2 w fun u t hu j hj x hx e => ?_
    rcases List.mem_append.1 hu with hu | hu
    · exact hA u t hu j hj x hx e
    · rw [List.mem_singleton] at hu
      injection hu with h1 h2
      subst h1
      have hl := len_of_path e
      have hcj : c ≤ j := by omega
      rw [← e]
      rcases Nat.lt_or_ge c j with hlt | hge
      · exact m.grow.has _ (m.full j hlt (by rw [e]; exact pth_pos x 7))
      · obtain rfl : c = j := by omega
        exact m.has
  · rename_i hc
    rw [if_neg hc] at h
    exact h.app2 w hA
/-- What the look at the table, behind a bit, finds and makes of it. -/
theorem LM.look {C : List (Nat × Nat)} {I P : List Nat} {A : List (Nat × Nat)} {nd : Nat → Nat × Int} {s l code c : Nat} {lut : Nat → Nat} (hC : Code C I) (m : Mid C I P A nd (cod l code) c) (hu : (cod l code, s) ∈ C) (h : LM P A (cod l code) s l (c + 1) lut) (hc : c < l) :
    (l = c + 7 → lut (if l ≤ 7 then trn code l else trn (code / 2 ^ (l - 7)) 7) = 0 → LM P A (cod l code) s l c (upL lut (fun x => x = (if l ≤ 7 then trn code l else trn (code / 2 ^ (l - 7)) 7)) (idx P (cod l code / 2 ^ c) * 256))) ∧
    ((l = c + 7 → lut (if l ≤ 7 then trn code l else trn (code / 2 ^ (l - 7)) 7) ≠ 0) → LM P A (cod l code) s l c lut) := by
  have hb : trn (code / 2 ^ (l - 7)) 7 < 128 := trn_lt _ 7
  unfold LM at h ⊢
  by_cases hl : l ≤ 7
  · rw [if_pos (.inl hl)] at h
    simp only [hl, true_or, if_true]
    refine ⟨fun e h0 => ?_, fun _ => h⟩
    exfalso
    obtain rfl : l = 7 := by omega
    have := h.short _ s (List.mem_append.2 (.inr (List.mem_singleton.2 rfl))) 7 (Nat.le_refl _) (trn code 7) (trn_lt _ 7) (pth_trn_all code 7)
    omega
  · rw [if_neg hl]
    by_cases h7 : l = c + 7
    · rw [if_neg (by omega)] at h
      rw [if_pos (by omega), if_pos (by omega)]
      have hbp := base_path code l (by omega)
      have hlc : l - 7 = c := by omega
      rw [hlc] at hbp hb ⊢
      have h1 : 1 ≤ c := by omega
      have hp := h.putLong hC m.asub hu h1 hb hbp
      rw [← hbp] at hp
      refine ⟨fun _ _ => hp, fun hne => ?_⟩
      have ha := h.ahead hC m.asub hu h1 hb hbp
      rw [← hbp] at ha
      have ha := ha.resolve_left (hne h7)
      have e : upL lut (fun x => x = trn (code / 2 ^ c) 7) (idx P (cod l code / 2 ^ c) * 256) = lut := by
        funext x
        unfold upL
        split
        · rename_i hx; rw [hx]; exact ha.symm
        · rfl
      rw [e] at hp
      exact hp
    · refine ⟨fun e => absurd e h7, fun _ => ?_⟩
      by_cases hc7 : c + 7 ≤ l
      · rw [if_pos (by omega)] at h
        rw [if_pos (by omega)]; exact h
      · rw [if_neg (by omega)] at h
        rw [if_neg (by omega)]; exact h
/-- The table at the start of the path. -/
theorem LM.start {C : List (Nat × Nat)} {I P : List Nat} {A : List (Nat × Nat)} {lut : Nat → Nat} {s l code : Nat} (hC : Code C I) (hs : ∀ u s, (u, s) ∈ A → (u, s) ∈ C) (h : Lut P A lut) (hu : (cod l code, s) ∈ C) :
    LM P A (cod l code) s l l (if l ≤ 7 then upL lut (fun x => x % 2 ^ l = trn code l) (s * 256 + (l + 1)) else lut) := by
  unfold LM
  by_cases hl : l ≤ 7
  · rw [if_pos (.inl hl), if_pos hl]
    have e := pth_trn_all code l
    have := h.putShort hC hs (b := trn code l) (k := l) (s := s) hl (trn_lt _ _) (by rw [e]; exact hu)
    rw [e] at this
    exact this
  · rw [if_neg (by omega), if_neg hl]; exact h

theorem ins_code (code j : Nat) (h : code < 4294967296) : bits .and .u32 ((code : Int) / 2 ^ j) 255 = ((code / 2 ^ j % 256 : Nat) : Int) := by
  have h1 : code / 2 ^ j ≤ code := Nat.div_le_self _ _
  have h2 := u32_and_nat (code / 2 ^ j) 255 (by omega) (by omega)
  rw [show ((255 : Nat) : Int) = 255 from rfl] at h2
  have e : (code : Int) / 2 ^ j = ((code / 2 ^ j : Nat) : Int) := by simp
  rw [e, h2, show (255 : Nat) = 2 ^ 8 - 1 from rfl, Nat.and_two_pow_sub_one_eq_mod]
theorem ins_code0 (code : Nat) (h : code < 4294967296) : bits .and .u32 (code : Int) 255 = ((code % 256 : Nat) : Int) := by
  have := ins_code code 0 h
  simpa using this
end Go.Proofs.YtdmefbpfpmkdcaaDoor
