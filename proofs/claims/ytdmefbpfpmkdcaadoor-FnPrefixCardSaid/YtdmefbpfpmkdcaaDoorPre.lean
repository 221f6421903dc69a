/- What bits tell of a code as it is written. Plain laws. -/
import Derived.Test.YtdmefbpfpmkdcaaDoorBuild
import Derived.Test.YtdmefbpfpmkdcaaDoorSMade
import Derived.Test.YtdmefbpfpmkdcaaDoorSSim
namespace Go.Proofs.YtdmefbpfpmkdcaaDoor
open Go.RowKit
set_option linter.unusedVariables false

/-- A number of k bits behind p bits of N bytes; none where the bits end. -/
def rdv (S N p k : Nat) : Nat := if p + k ≤ 8 * N then hand S p k else 0
/-- The place behind it. -/
def nx (N p k : Nat) : Nat := if p + k ≤ 8 * N then p + k else 8 * N
theorem rdv_lt (S N p k : Nat) : rdv S N p k < 2 ^ k := by
  unfold rdv; split
  · exact hand_lt _ _ _
  · exact Nat.two_pow_pos k
theorem nx_le (N p k : Nat) : nx N p k ≤ 8 * N := by unfold nx; split <;> omega
theorem rdv_in {S N p k : Nat} (h : p + k ≤ 8 * N) : rdv S N p k = hand S p k := by unfold rdv; rw [if_pos h]
theorem nx_in {N p k : Nat} (h : p + k ≤ 8 * N) : nx N p k = p + k := by unfold nx; rw [if_pos h]

/-- What lengths told one by one come to. -/
inductive Lens | opened | short | got (o : Nat → Nat) (q : Nat)
/-- What a code as it is written comes to. -/
inductive Pre | opened | short | tree (C : List (Nat × Nat)) (q : Nat)

noncomputable def tellF (C : List (Nat × Nat)) (x : Nat) : Nat × Nat :=
  open Classical in if h : ∃ y : Nat × Nat, Tells C x y.1 y.2 then Classical.choose h else (0, 0)
theorem tellF_eq {C : List (Nat × Nat)} {I : List Nat} (hC : Code C I) {x k s : Nat} (h : Tells C x k s) : tellF C x = (k, s) := by
  have he : ∃ y : Nat × Nat, Tells C x y.1 y.2 := ⟨(k, s), h⟩
  unfold tellF
  rw [dif_pos he]
  obtain ⟨e1, e2⟩ := Tells.uniq hC (Classical.choose_spec he) h
  exact Prod.ext e1 e2
/-- How many bits tell how often a length stands again, and the least number. -/
def extB (s : Nat) : Nat := if s = 16 then 2 else if s = 17 then 3 else 7
def extO (s : Nat) : Nat := if s = 16 then 3 else if s = 17 then 3 else 11
def updN (o : Nat → Nat) (i v j : Nat) : Nat := if j = i then v else o j
/-- r numbers laid from i on. -/
def filN (o : Nat → Nat) (i r v j : Nat) : Nat := if i ≤ j ∧ j < i + r then v else o j
theorem filN_zero (o : Nat → Nat) (i v j : Nat) : filN o i 0 v j = o j := by unfold filN; rw [if_neg (by omega)]
theorem filN_next (o : Nat → Nat) (i r v j : Nat) : (if j = i + r then v else filN o i r v j) = filN o i (r + 1) v j := by
  unfold filN
  by_cases h : j = i + r
  · rw [if_pos h, if_pos (by omega)]
  · rw [if_neg h]
    by_cases h2 : i ≤ j ∧ j < i + r
    · rw [if_pos h2, if_pos (by omega)]
    · rw [if_neg h2, if_neg (by omega)]

noncomputable def lensF (C : List (Nat × Nat)) (S N size : Nat) : Nat → Nat → Nat → Nat → (Nat → Nat) → Lens
  | 0, p, i, last, o => .got o p
  | m + 1, p, i, last, o =>
    if i < size then
      if 8 * N < p + (tellF C (S / 2 ^ p)).1 then .short
      else if (tellF C (S / 2 ^ p)).2 < 16 then
        lensF C S N size m (p + (tellF C (S / 2 ^ p)).1) (i + 1) (if 0 < (tellF C (S / 2 ^ p)).2 then (tellF C (S / 2 ^ p)).2 else last) (updN o i (tellF C (S / 2 ^ p)).2)
      else if size - i < extO (tellF C (S / 2 ^ p)).2 + rdv S N (p + (tellF C (S / 2 ^ p)).1) (extB (tellF C (S / 2 ^ p)).2) then .opened
      else if 8 * N < p + (tellF C (S / 2 ^ p)).1 + extB (tellF C (S / 2 ^ p)).2 then .short
      else lensF C S N size m (p + (tellF C (S / 2 ^ p)).1 + extB (tellF C (S / 2 ^ p)).2) (i + (extO (tellF C (S / 2 ^ p)).2 + rdv S N (p + (tellF C (S / 2 ^ p)).1) (extB (tellF C (S / 2 ^ p)).2))) last
        (filN o i (extO (tellF C (S / 2 ^ p)).2 + rdv S N (p + (tellF C (S / 2 ^ p)).1) (extB (tellF C (S / 2 ^ p)).2)) (if (tellF C (S / 2 ^ p)).2 = 16 then last else 0))
    else .got o p
theorem lensF_zero (C : List (Nat × Nat)) (S N size p i last : Nat) (o : Nat → Nat) : lensF C S N size 0 p i last o = .got o p := by rw [lensF]
theorem lensF_full (C : List (Nat × Nat)) (S N size m p i last : Nat) (o : Nat → Nat) (h : size ≤ i) : lensF C S N size m p i last o = .got o p := by
  cases m with
  | zero => rw [lensF]
  | succ m => rw [lensF, if_neg (by omega)]
theorem lensF_step {C : List (Nat × Nat)} {I : List Nat} (hC : Code C I) (S N size m p i last k s : Nat) (o : Nat → Nat) (hi : i < size) (h : Tells C (S / 2 ^ p) k s) :
    lensF C S N size (m + 1) p i last o = if 8 * N < p + k then .short else if s < 16 then lensF C S N size m (p + k) (i + 1) (if 0 < s then s else last) (updN o i s)
      else if size - i < extO s + rdv S N (p + k) (extB s) then .opened else if 8 * N < p + k + extB s then .short
      else lensF C S N size m (p + k + extB s) (i + (extO s + rdv S N (p + k) (extB s))) last (filN o i (extO s + rdv S N (p + k) (extB s)) (if s = 16 then last else 0)) := by
  rw [lensF, if_pos hi, tellF_eq hC h]

/-- The place in which own length k stands, and back. -/
def ordI (k : Nat) : Nat := if k ≤ 5 then k + 2 else if k ≤ 15 then k + 3 else if k = 16 then 8 else k - 17
def ordP (i : Nat) : Nat := if i ≤ 1 then i + 17 else if i ≤ 7 then i - 2 else if i = 8 then 16 else i - 3
theorem ordI_P : ∀ i, i < 19 → ordI (ordP i) = i ∧ ordP i < 19 := by decide
theorem ordP_I : ∀ k, k < 19 → ordP (ordI k) = k ∧ ordI k < 19 := by decide
/-- The own lengths: the first n of them in their order, behind p bits. -/
def ownF (S N p n k : Nat) : Nat := if ordI k < n ∧ p + 3 * ordI k + 3 ≤ 8 * N then hand S (p + 3 * ordI k) 3 else 0
theorem ownF_lt (S N p n k : Nat) : ownF S N p n k < 8 := by
  unfold ownF; split
  · exact hand_lt S _ 3
  · decide
theorem ownF_zero (S N p k : Nat) : ownF S N p 0 k = 0 := by unfold ownF; rw [if_neg (by omega)]
/-- Behind i own lengths. -/
def nx3 (N p i : Nat) : Nat := if p + 3 * i ≤ 8 * N then p + 3 * i else 8 * N
theorem ownF_next (S N p i k : Nat) (hi : i < 19) (hk : k < 19) : (if k = ordP i then rdv S N (nx3 N p i) 3 else ownF S N p i k) = ownF S N p (i + 1) k := by
  obtain ⟨e1, e2⟩ := ordI_P i hi
  obtain ⟨e3, e4⟩ := ordP_I k hk
  have hq : k = ordP i ↔ ordI k = i := ⟨fun h => by rw [h, e1], fun h => by rw [← h, e3]⟩
  obtain ⟨j, hj⟩ : ∃ j, j = ordI k := ⟨_, rfl⟩
  unfold ownF
  rw [← hj] at hq ⊢
  clear hj e1 e3 e4
  by_cases h : k = ordP i
  · rw [if_pos h]
    have hj := hq.1 h
    subst hj
    unfold rdv nx3
    by_cases h2 : p + 3 * j + 3 ≤ 8 * N
    · rw [if_pos (show p + 3 * j ≤ 8 * N by omega), if_pos h2, if_pos ⟨by omega, h2⟩]
    · rw [if_neg (show ¬ (j < j + 1 ∧ p + 3 * j + 3 ≤ 8 * N) from fun h => h2 h.2), if_neg (by split <;> omega)]
  · rw [if_neg h]
    have hj : ¬ j = i := fun e => h (hq.2 e)
    by_cases h2 : j < i ∧ p + 3 * j + 3 ≤ 8 * N
    · rw [if_pos h2, if_pos ⟨by omega, h2.2⟩]
    · rw [if_neg h2, if_neg (fun e => h2 ⟨by omega, e.2⟩)]

noncomputable def normL (S N size p : Nat) : Lens :=
  let n := 4 + rdv S N p 4
  let p1 := nx N p 4
  let own := ownF S N p1 n
  let p2 := nx3 N p1 n
  let u := rdv S N p2 1
  let p3 := nx N p2 1
  let e := 2 + 2 * rdv S N p3 3
  let p4 := nx N p3 3
  let most := if u = 1 then 2 + rdv S N p4 e else size
  let p5 := if u = 1 then nx N p4 e else p3
  if wholeB own 19 = false ∨ size < most then .opened
  else if 8 * N < p + 4 ∨ 8 * N < p1 + 3 * n ∨ 8 * N < p2 + 1 ∨ u = 1 ∧ (8 * N < p3 + 3 ∨ 8 * N < p4 + e) then .short
  else lensF (codesL own 19 19) S N size most p5 0 8 (fun _ => 0)
def simpF (S N size p : Nat) : Pre :=
  let two := rdv S N p 1
  let p1 := nx N p 1
  let k := 1 + 7 * rdv S N p1 1
  let p2 := nx N p1 1
  let a := rdv S N p2 k
  let p3 := nx N p2 k
  let b := rdv S N p3 8
  let p4 := nx N p3 8
  if size ≤ a ∨ two = 1 ∧ (b ≤ a ∨ size ≤ b) then .opened
  else if 8 * N < p + 1 ∨ 8 * N < p1 + 1 ∨ 8 * N < p2 + k ∨ two = 1 ∧ 8 * N < p3 + 8 then .short
  else .tree (simC a b (two + 1)) (if two = 1 then p4 else p3)
def lensP (size : Nat) : Lens → Pre
  | .opened => .opened
  | .short => .short
  | .got o q => if wholeB o size = true then .tree (codesL o size size) q else .opened
noncomputable def preF (S N size : Nat) : Pre := if rdv S N 0 1 = 1 then simpF S N size (nx N 0 1) else lensP size (normL S N size (nx N 0 1))

/-- A whole tree of two symbols or more. -/
theorem whole_of {c : Nat → Nat} {n : Nat} (h : wholeB c n = true) (hc : ∀ i, i < n → c i ≤ 15) (hn : n ≤ 65536) : Whole c n ∧ 1 < used c n := by
  unfold wholeB at h
  have := of_decide_eq_true h
  exact ⟨⟨hc, this.2, hn⟩, this.1⟩
theorem used_sys (c : Nat → Nat) (n : Nat) (hc : ∀ i, i < n → c i ≤ 15) : used c n = (sys c n 15).length := by
  rw [sys_len, ← codesL_used c n n, codesL_len c n n hc]
  simp only [bef, Nat.zero_add, Nat.reduceAdd]
theorem made_whole (c : Nat → Nat) (n : Nat) (hc : ∀ i, i < n → c i ≤ 15) : wholeB c n = (madeB c n && decide (1 < (sys c n 15).length)) := by
  unfold wholeB madeB
  rw [used_sys c n hc]
  by_cases h0 : (sys c n 15).length = 0
  · rw [if_pos h0, h0]; simp
  · rw [if_neg h0]
    by_cases h1 : (sys c n 15).length = 1
    · rw [if_pos h1, h1]; simp
    · rw [if_neg h1]
      by_cases h2 : krf c n = 32768 <;> simp [h2]
theorem syl_lt (c : Nat → Nat) (l s : Nat) : ∀ m, s ∈ syl c l m → s < m
  | 0, h => by simp [syl] at h
  | m + 1, h => by
    rw [syl, List.mem_append] at h
    rcases h with h | h
    · have := syl_lt c l s m h; omega
    · split at h
      · rw [List.mem_singleton] at h; omega
      · simp at h
theorem sys_lt (c : Nat → Nat) (n s : Nat) : ∀ L, s ∈ sys c n L → s < n
  | 0, h => by simp [sys] at h
  | L + 1, h => by
    rw [sys, List.mem_append] at h
    rcases h with h | h
    · exact sys_lt c n s L h
    · exact syl_lt c (L + 1) s n h
/-- The code that made makes of lengths that are one. -/
theorem made_ok {c : Nat → Nat} {n : Nat} (hc : ∀ i, i < n → c i ≤ 15) (hn : n ≤ 65536) (h : madeB c n = true) (w : World) (cs : Array Value) (sa : Option Addr) (sc : Nat) (hr : CodeR w (hh c n) (sys c n 15) cs sa sc) :
    ∃ C I, Code C I ∧ CodeOK C w cs sa sc (sys c n 15).length ∧ (wholeB c n = true → C = codesL c n n) ∧ ∀ u s, (u, s) ∈ C → s < n := by
  by_cases h1 : (sys c n 15).length = 1
  · obtain ⟨s, hs⟩ := List.length_eq_one_iff.1 h1
    have hsn : s < n := sys_lt c n s 15 (by rw [hs]; simp)
    refine ⟨[(1, s)], _, simC_code s 0 1 (.inl rfl) (by omega) (fun h => absurd h (by decide)), .inr ⟨s, hh c n, rfl, h1, by rw [hs] at hr; exact hr⟩, fun hw => ?_, fun u t hu => ?_⟩
    · rw [made_whole c n hc, h1] at hw
      simp at hw
    · rw [List.mem_singleton] at hu
      injection hu with e1 e2
      omega
  · have h0 : ¬ (sys c n 15).length = 0 := fun e => by unfold madeB at h; rw [if_pos e] at h; cases h
    have hw : Whole c n := ⟨hc, by unfold madeB at h; rw [if_neg h0, if_neg h1] at h; exact of_decide_eq_true h, hn⟩
    exact ⟨codesL c n n, _, hw.code, .inl ⟨c, n, rfl, hw, rfl, h1, hr⟩, fun _ => rfl, fun u s hu => ((mem_codesL c n u s n).1 hu).1⟩
end Go.Proofs.YtdmefbpfpmkdcaaDoor
