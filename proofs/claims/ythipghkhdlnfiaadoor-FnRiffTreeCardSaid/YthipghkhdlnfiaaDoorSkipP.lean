/- Chunks that are gone over, as a tree; bounds of what is written. Plain. -/
import Derived.Test.YthipghkhdlnfiaaDoorTree
import Derived.Test.YthipghkhdlnfiaaDoorWrit
import Derived.Test.YthipghkhdlnfiaaDoorRiffQ
namespace Go.Proofs.YthipghkhdlnfiaaDoor
open Go.RowKit
set_option linter.unusedVariables false

def skipOk (len0 len1 len2 len3 : Nat) (L1 : Nat → Nat) : Prop := len0 ≤ 4096 ∧ fits2 L1 len1 = true ∧ len2 ≤ 1048576 ∧ len3 ≤ 4096 ∧ sumI L1 len1 len1 ≤ 1048576
/-- How much is read of the i-th chunk. -/
def nI (R : Nat → Int) (nr : Nat) (L : Nat → Nat) (i : Nat) : Nat := if i < nr ∧ 0 < R i ∧ R i < (L i : Int) then (R i).toNat else 0
def trS (f : Nat → Int) (L : Nat → Nat) (Z : Nat → Nat → Int) (n : Nat → Nat) : Nat → Tr
  | 0 => .nil
  | i + 1 => (trS f L Z n i).app (.leaf (idL f i) (dtL L Z i) (n i) .nil)
theorem trS_bytes (f : Nat → Int) (L : Nat → Nat) (Z : Nat → Nat → Int) (n : Nat → Nat) : ∀ i, (trS f L Z n i).bytes = bodyB f L Z i
  | 0 => rfl
  | i + 1 => by
    show ((trS f L Z n i).app _).bytes = bodyB f L Z i ++ _
    rw [Tr.app_bytes, trS_bytes f L Z n i]
    show _ ++ (chunkB _ _ ++ []) = _
    rw [List.append_nil]
theorem trS_steps (f : Nat → Int) (L : Nat → Nat) (Z : Nat → Nat → Int) (n : Nat → Nat) (i : Nat) : (trS f L Z n (i + 1)).steps = ((trS f L Z n i).steps ++ [(0, 0)]) ++ if 0 < n i then [(1, (n i : Int))] else [] := by
  show ((trS f L Z n i).app _).steps = _
  rw [Tr.app_steps]
  show _ ++ (((0, 0) :: (if 0 < n i then [(1, (n i : Int))] else [])) ++ []) = _
  rw [List.append_nil, List.append_assoc]; rfl
def ckI (f : Nat → Int) (L : Nat → Nat) (Z : Nat → Nat → Int) (n : Nat → Nat) (i : Nat) : Ck := ⟨idL f i, (dtL L Z i).length, (dtL L Z i).take (n i), if (dtL L Z i).length < n i then 0 else 2⟩
theorem trS_want (f : Nat → Int) (L : Nat → Nat) (Z : Nat → Nat → Int) (n : Nat → Nat) : ∀ i, (trS f L Z n i).want = (List.range i).map (ckI f L Z n)
  | 0 => rfl
  | i + 1 => by
    show ((trS f L Z n i).app _).want = _
    rw [Tr.app_want, trS_want f L Z n i, List.range_succ, List.map_append]
    rfl
theorem trS_steps_len (f : Nat → Int) (L : Nat → Nat) (Z : Nat → Nat → Int) (n : Nat → Nat) : ∀ i, (trS f L Z n i).steps.length ≤ 2 * i
  | 0 => Nat.le_refl _
  | i + 1 => by
    have := trS_steps_len f L Z n i
    rw [trS_steps]
    split <;> simp <;> omega
theorem trS_ok (f : Nat → Int) (L : Nat → Nat) (Z : Nat → Nat → Int) (n : Nat → Nat) (N : Nat) : ∀ i, (∀ r, r < i → L r < 4294967296 ∧ n r ≤ N + 1) → (trS f L Z n i).Ok N
  | 0, _ => trivial
  | i + 1, h => Tr.app_ok N _ _ (trS_ok f L Z n N i (fun r hr => h r (by omega))) ⟨rfl, by rw [dtL_length]; exact (h i (by omega)).1, (h i (by omega)).2, trivial⟩
/-- Steps that memory can hold. -/
def Fit (ps : List (Int × Int)) : Prop := ∀ p ∈ ps, -9223372036854775808 ≤ p.1 ∧ p.1 ≤ 9223372036854775807 ∧ -9223372036854775808 ≤ p.2 ∧ p.2 ≤ 9223372036854775807
theorem Fit.get {ps : List (Int × Int)} (h : Fit ps) (i : Nat) : -9223372036854775808 ≤ (ps.getD i (0, 0)).1 ∧ (ps.getD i (0, 0)).1 ≤ 9223372036854775807 ∧ -9223372036854775808 ≤ (ps.getD i (0, 0)).2 ∧ (ps.getD i (0, 0)).2 ≤ 9223372036854775807 := by
  by_cases hi : i < ps.length
  · have e : ps.getD i (0, 0) = ps[i] := by simp [List.getD, List.getElem?_eq_getElem hi]
    rw [e]; exact h _ (List.getElem_mem hi)
  · have e : ps.getD i (0, 0) = (0, 0) := by simp [List.getD, List.getElem?_eq_none (Nat.not_lt.1 hi)]
    rw [e]; decide
theorem Fit.app {ps qs : List (Int × Int)} (h : Fit ps) (h' : Fit qs) : Fit (ps ++ qs) := fun p hp => by
  rcases List.mem_append.1 hp with h1 | h1
  · exact h p h1
  · exact h' p h1
theorem trS_fit (f : Nat → Int) (L : Nat → Nat) (Z : Nat → Nat → Int) (n : Nat → Nat) : ∀ i, (∀ r, r < i → n r ≤ 1048576) → Fit (trS f L Z n i).steps
  | 0, _ => fun p hp => by cases hp
  | i + 1, h => by
    rw [trS_steps]
    have h0 := h i (by omega)
    refine ((trS_fit f L Z n i (fun r hr => h r (by omega))).app (fun p hp => ?_)).app (fun p hp => ?_)
    · simp at hp; subst hp; decide
    · split at hp
      · simp at hp; subst hp; simp; omega
      · cases hp
/-- Bytes. -/
def U8 (l : List Int) : Prop := ∀ x ∈ l, 0 ≤ x ∧ x ≤ 255
theorem U8.app {a b : List Int} (h : U8 a) (h' : U8 b) : U8 (a ++ b) := fun p hp => by
  rcases List.mem_append.1 hp with h1 | h1
  · exact h p h1
  · exact h' p h1
theorem U8.nil : U8 [] := fun p hp => by cases hp
theorem u8_le4 (n : Nat) : U8 (le4 n) := fun p hp => by
  simp [le4] at hp
  rcases hp with rfl | rfl | rfl | rfl <;> omega
theorem u8_chunk {id l : List Int} (h : U8 id) (h' : U8 l) : U8 (chunkB id l) := by
  unfold chunkB
  refine ((h.app (u8_le4 _)).app h').app ?_
  split
  · intro p hp; simp at hp; omega
  · exact U8.nil
theorem u8_one {n : Int} (h : (Lit.int .u8 n).wf = true) : 0 ≤ n ∧ n ≤ 255 := by
  simp [Lit.wf, IntKind.min, IntKind.max, IntKind.signed, IntKind.bits] at h
  omega
theorem u8_body {f : Nat → Int} {L : Nat → Nat} {Z : Nat → Nat → Int} (hf : ∀ i, (Lit.int .u8 (f i)).wf = true) : ∀ i, (∀ r, r < i → ∀ j, (Lit.int .u8 (Z r j)).wf = true) → U8 (bodyB f L Z i)
  | 0, _ => U8.nil
  | i + 1, hz => (u8_body hf i (fun r hr => hz r (by omega))).app (u8_chunk (fun p hp => by
      simp only [idL, List.mem_cons, List.not_mem_nil, or_false] at hp
      rcases hp with rfl | rfl | rfl | rfl <;> exact u8_one (hf _)) (fun p hp => by
      obtain ⟨j, _, rfl⟩ := List.mem_map.1 hp
      exact u8_one (hz i (by omega) j)))
theorem lens_mono {L : Nat → Nat} (i : Nat) : ∀ j, lens L i ≤ lens L (i + j)
  | 0 => Nat.le_refl _
  | j + 1 => Nat.le_trans (lens_mono i j) (Nat.le_add_right _ _)
theorem body_le (f : Nat → Int) (L : Nat → Nat) (Z : Nat → Nat → Int) : ∀ i r, r < i → L r ≤ (bodyB f L Z i).length
  | 0, r, h => by omega
  | i + 1, r, h => by
    show L r ≤ (bodyB f L Z i ++ chunkB (idL f i) (dtL L Z i)).length
    rw [List.length_append]
    by_cases hi : r < i
    · have := body_le f L Z i r hi; omega
    · obtain rfl : r = i := by omega
      rw [chunkB_length rfl, dtL_length]; omega
/-- Steps in memory. -/
def stC (ps : List (Int × Int)) : List Value := ps.flatMap fun p => [.int .i64 p.1, .int .i64 p.2]
theorem stC_app (ps qs : List (Int × Int)) : stC (ps ++ qs) = stC ps ++ stC qs := by unfold stC; rw [List.flatMap_append]
theorem stC_get : ∀ (ps : List (Int × Int)) (i : Nat), i < ps.length → (stC ps)[i * 2]? = some (.int .i64 (ps.getD i (0, 0)).1) ∧ (stC ps)[i * 2 + 1]? = some (.int .i64 (ps.getD i (0, 0)).2)
  | [], i, h => by simp at h
  | p :: ps, 0, h => ⟨rfl, rfl⟩
  | p :: ps, i + 1, h => by
    obtain ⟨h1, h2⟩ := stC_get ps i (by simpa using h)
    have e : stC (p :: ps) = [.int .i64 p.1, .int .i64 p.2] ++ stC ps := rfl
    rw [e]
    constructor
    · rw [List.getElem?_append_right (by simp; omega)]
      show (stC ps)[(i + 1) * 2 - 2]? = _
      rw [show (i + 1) * 2 - 2 = i * 2 by omega, h1]; rfl
    · rw [List.getElem?_append_right (by simp; omega)]
      show (stC ps)[(i + 1) * 2 + 1 - 2]? = _
      rw [show (i + 1) * 2 + 1 - 2 = i * 2 + 1 by omega, h2]; rfl
theorem steps_own {w : World} {B n : Nat} {v : Value} {ps : List (Int × Int)} (h : w.ownsRow B 34 2 v n (stC ps)) (hn : n = ps.length) : ∃ a c, v = .slice a n c ∧ Steps w a ps := by
  obtain ⟨a, c, hv⟩ := row_shape h
  refine ⟨a, c, hv, fun h0 => ?_⟩
  obtain ⟨g, cap, cur, hv2, _, ho, _⟩ := own_block h (by omega)
  rw [hv] at hv2
  injection hv2 with e1 e2 e3
  refine ⟨g, 0, e1, ho.lt, fun i hi => ?_⟩
  obtain ⟨h1, h2⟩ := stC_get ps i hi
  have hc := World.ownsRow.cells h (g := g) (by rw [hv, e1]; rfl)
  have c1 := hc _ _ h1
  have c2 := hc _ _ h2
  rw [Addr.add_lit] at c1 c2
  exact ⟨c1, by rw [Nat.add_assoc]; exact c2⟩
/-- A cell of the chunks that are wanted. -/
theorem wantC_get (f : Nat → Int) (A : Nat → Option Addr) (L C : Nat → Nat) (j : Nat) (hj : j < 7) : ∀ (K i : Nat), i < K → (wantC f A L C K)[i * 7 + j]? = (wantCell f A L C i)[j]?
  | 0, i, h => by omega
  | K + 1, i, h => by
    have hl : ∀ K, (wantC f A L C K).length = K * 7 := fun K => by
      induction K with
      | zero => rfl
      | succ K ih => show (wantC f A L C K ++ _).length = _; rw [List.length_append, ih]; simp [wantCell]; omega
    show (wantC f A L C K ++ wantCell f A L C K)[i * 7 + j]? = _
    by_cases hi : i < K
    · rw [List.getElem?_append_left (by rw [hl]; omega)]
      exact wantC_get f A L C j hj K i hi
    · obtain rfl : i = K := by omega
      rw [List.getElem?_append_right (by rw [hl]; omega), hl]
      congr 1; omega
end Go.Proofs.YthipghkhdlnfiaaDoor
