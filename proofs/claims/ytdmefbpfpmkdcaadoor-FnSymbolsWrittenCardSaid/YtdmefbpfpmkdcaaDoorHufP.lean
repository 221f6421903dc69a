/- Prefix codes as paths: a tree that grows, its look-up table, and what is read by them. Plain laws. -/
namespace Go.Proofs.YtdmefbpfpmkdcaaDoor

/-- The path that the first k bits of x tell, lowest bit first, behind a leading one. -/
def pth (x : Nat) : Nat → Nat
  | 0 => 1
  | k + 1 => 2 * pth x k + x / 2 ^ k % 2

theorem pth_low (x : Nat) : ∀ k, 2 ^ k ≤ pth x k
  | 0 => Nat.le_refl _
  | k + 1 => by have := pth_low x k; rw [pth, Nat.pow_succ]; omega
theorem pth_high (x : Nat) : ∀ k, pth x k < 2 ^ (k + 1)
  | 0 => by simp [pth]
  | k + 1 => by have := pth_high x k; rw [pth, Nat.pow_succ]; omega
theorem pth_pos (x k : Nat) : 1 ≤ pth x k := Nat.le_trans (Nat.two_pow_pos k) (pth_low x k)
theorem bit_mod (x k j : Nat) (h : j < k) : x % 2 ^ k / 2 ^ j % 2 = x / 2 ^ j % 2 := by
  have e : (2 : Nat) ^ k = 2 ^ j * 2 ^ (k - j) := by rw [← Nat.pow_add]; congr 1; omega
  have e2 : (2 : Nat) ^ (k - j) = 2 * 2 ^ (k - j - 1) := by rw [← Nat.pow_succ']; congr 1; omega
  rw [e, Nat.mod_mul_right_div_self, e2, Nat.mod_mul_right_mod]
theorem pth_mod (x m : Nat) : ∀ k, k ≤ m → pth (x % 2 ^ m) k = pth x k
  | 0, _ => rfl
  | k + 1, h => by rw [pth, pth, pth_mod x m k (by omega), bit_mod x m k (by omega)]
/-- Two numbers tell the same path if their low bits are the same. -/
theorem pth_eq (x y : Nat) : ∀ k, (pth x k = pth y k ↔ x % 2 ^ k = y % 2 ^ k)
  | 0 => by simp [pth, Nat.mod_one]
  | k + 1 => by
    have ih := pth_eq x y k
    rw [pth, pth, Nat.pow_succ, Nat.mod_mul, Nat.mod_mul]
    have h1 := Nat.mod_lt x (Nat.two_pow_pos k)
    have h2 := Nat.mod_lt y (Nat.two_pow_pos k)
    constructor
    · intro h
      have ha : pth x k = pth y k := by omega
      have hb : x / 2 ^ k % 2 = y / 2 ^ k % 2 := by omega
      rw [ih.1 ha, hb]
    · intro h
      have hb : x / 2 ^ k % 2 = y / 2 ^ k % 2 := by
        rcases Nat.mod_two_eq_zero_or_one (x / 2 ^ k) with e | e <;> rcases Nat.mod_two_eq_zero_or_one (y / 2 ^ k) with e' | e' <;> rw [e, e'] at h ⊢ <;> omega
      rw [hb] at h
      have ha : x % 2 ^ k = y % 2 ^ k := by omega
      rw [ih.2 ha, hb]
theorem pth_up (x k : Nat) : ∀ j, pth x (k + j) / 2 ^ j = pth x k
  | 0 => by simp
  | j + 1 => by
    rw [← Nat.add_assoc, pth, Nat.pow_succ, Nat.mul_comm (2 ^ j) 2, ← Nat.div_div_eq_div_mul]
    rw [show (2 * pth x (k + j) + x / 2 ^ (k + j) % 2) / 2 = pth x (k + j) by omega]
    exact pth_up x k j
/-- Paths of one length. -/
theorem pth_len {x y k j : Nat} (h : pth x k = pth y j) : k = j := by
  have h1 := pth_low x k
  have h2 := pth_high x k
  have h3 := pth_low y j
  have h4 := pth_high y j
  rcases Nat.lt_trichotomy k j with e | e | e
  · have := Nat.pow_le_pow_right (n := 2) (by decide) (show k + 1 ≤ j by omega); omega
  · exact e
  · have := Nat.pow_le_pow_right (n := 2) (by decide) (show j + 1 ≤ k by omega); omega
/-- The path of l bits whose number is v, the first bit highest. -/
def cod (l v : Nat) : Nat := 2 ^ l + v % 2 ^ l
theorem cod_low (l v : Nat) : 2 ^ l ≤ cod l v := Nat.le_add_right _ _
theorem cod_high (l v : Nat) : cod l v < 2 ^ (l + 1) := by
  have := Nat.mod_lt v (Nat.two_pow_pos l)
  rw [Nat.pow_succ]; unfold cod; omega
theorem cod_up (l v j : Nat) (h : j ≤ l) : cod l v / 2 ^ j = cod (l - j) (v / 2 ^ j) := by
  unfold cod
  have e : (2 : Nat) ^ l = 2 ^ j * 2 ^ (l - j) := by rw [← Nat.pow_add]; congr 1; omega
  conv => lhs; rw [e]
  rw [Nat.mul_add_div (Nat.two_pow_pos j), Nat.mod_mul_right_div_self]
theorem cod_step (l v c : Nat) (h : c < l) : cod l v / 2 ^ c = 2 * (cod l v / 2 ^ (c + 1)) + v / 2 ^ c % 2 := by
  rw [Nat.pow_succ, ← Nat.div_div_eq_div_mul, cod_up l v c (by omega)]
  have h1 : cod (l - c) (v / 2 ^ c) % 2 = v / 2 ^ c % 2 := by
    unfold cod
    have e : (2 : Nat) ^ (l - c) = 2 * 2 ^ (l - c - 1) := by rw [← Nat.pow_succ']; congr 1; omega
    rw [e, Nat.mul_add_mod, Nat.mod_mul_right_mod]
  omega
theorem cod_top (l v : Nat) : cod l v / 2 ^ l = 1 := by
  rw [cod_up l v l (Nat.le_refl _), Nat.sub_self]; simp [cod, Nat.mod_one]
theorem cod_pos (l v : Nat) : 1 ≤ cod l v := Nat.le_trans (Nat.two_pow_pos l) (cod_low l v)

/-- A prefix code: paths with their symbols (C) and the paths within the tree (I). -/
structure Code (C : List (Nat × Nat)) (I : List Nat) : Prop where
  pre : ∀ u s, (u, s) ∈ C → ∀ k, 1 ≤ k → 1 ≤ u / 2 ^ k → u / 2 ^ k ∈ I
  ext : ∀ v, v ∈ I → ∃ u s k, (u, s) ∈ C ∧ 1 ≤ k ∧ u / 2 ^ k = v
  kids : ∀ v, v ∈ I → ∀ b, b < 2 → 2 * v + b ∈ I ∨ ∃ s, (2 * v + b, s) ∈ C
  root : 1 ∈ I ∨ ∃ s, (1, s) ∈ C
  sep : ∀ u s, (u, s) ∈ C → u ∉ I
  one : (C.map Prod.fst).Nodup
  card : I.length + 1 = C.length
  pos : ∀ v, v ∈ I → 1 ≤ v
  low : ∀ u s, (u, s) ∈ C → 1 ≤ u ∧ u < 65536 ∧ s ≤ 65535

/-- The place of a path's node, where P are the paths that have children, in the order in which they got them. -/
def idx (P : List Nat) (v : Nat) : Nat := if v = 1 then 0 else 1 + 2 * P.idxOf (v / 2) + v % 2
/-- A path that has a node. -/
def Has (P : List Nat) (v : Nat) : Prop := v = 1 ∨ 2 ≤ v ∧ v / 2 ∈ P

theorem idx_one (P : List Nat) : idx P 1 = 0 := rfl
theorem idx_kid (P : List Nat) (v b : Nat) (hv : 1 ≤ v) (hb : b < 2) : idx P (2 * v + b) = 1 + 2 * P.idxOf v + b := by
  unfold idx
  rw [if_neg (by omega), show (2 * v + b) / 2 = v by omega, show (2 * v + b) % 2 = b by omega]
theorem idx_lt {P : List Nat} {v : Nat} (h : Has P v) : idx P v < 1 + 2 * P.length := by
  unfold idx
  rcases h with h | ⟨h, h2⟩
  · rw [if_pos h]; omega
  · rw [if_neg (by omega)]
    have := List.idxOf_lt_length_of_mem h2
    omega
theorem idx_inj {P : List Nat} {v v' : Nat} (h : Has P v) (h' : Has P v') (e : idx P v = idx P v') : v = v' := by
  unfold idx at e
  rcases h with h | ⟨h, h2⟩ <;> rcases h' with h' | ⟨h', h2'⟩
  · omega
  · rw [if_pos h, if_neg (by omega)] at e; omega
  · rw [if_pos h', if_neg (by omega)] at e; omega
  · rw [if_neg (by omega), if_neg (by omega)] at e
    have l1 := List.idxOf_lt_length_of_mem h2
    have l2 := List.idxOf_lt_length_of_mem h2'
    have e1 := List.getElem_idxOf l1
    have e2 := List.getElem_idxOf l2
    have e3 : List.idxOf (v / 2) P = List.idxOf (v' / 2) P := by omega
    have e4 : v / 2 = v' / 2 := by
      rw [← e1, ← e2]
      congr 1
    omega
theorem idx_app {P : List Nat} {v w : Nat} (h : Has P v) : idx (P ++ [w]) v = idx P v := by
  unfold idx
  rcases h with h | ⟨h, h2⟩
  · rw [if_pos h, if_pos h]
  · rw [if_neg (by omega), if_neg (by omega), List.idxOf_append, if_pos h2]
theorem Has.app {P : List Nat} {v : Nat} (h : Has P v) (w : Nat) : Has (P ++ [w]) v := by
  rcases h with h | ⟨h, h2⟩
  · exact .inl h
  · exact .inr ⟨h, List.mem_append.2 (.inl h2)⟩
theorem idxOf_new {P : List Nat} {w : Nat} (h : w ∉ P) : List.idxOf w (P ++ [w]) = P.length := by
  rw [List.idxOf_append, if_neg h]; simp

/-- The nodes (symbol, children) as they stand: A are the paths that have a symbol, P those that have children. -/
structure Grow (P : List Nat) (A : List (Nat × Nat)) (nd : Nat → Nat × Int) : Prop where
  nodup : P.Nodup
  pos : ∀ v, v ∈ P → 1 ≤ v
  has : ∀ v, v ∈ P → Has P v
  mem : ∀ u s, (u, s) ∈ A → Has P u
  sep : ∀ u s, (u, s) ∈ A → u ∉ P
  inner : ∀ v, v ∈ P → (nd (idx P v)).2 = (idx P (2 * v) : Int)
  leaf : ∀ u s, (u, s) ∈ A → nd (idx P u) = (s, -1)
  bare : ∀ v, Has P v → v ∉ P → (∀ s, (v, s) ∉ A) → (nd (idx P v)).2 = 0
  fresh : ∀ k, 1 + 2 * P.length ≤ k → (nd k).2 = 0

def upN (nd : Nat → Nat × Int) (k : Nat) (x : Nat × Int) : Nat → Nat × Int := fun i => if i = k then x else nd i
theorem upN_at (nd : Nat → Nat × Int) (k : Nat) (x : Nat × Int) : upN nd k x k = x := if_pos rfl
theorem upN_ne (nd : Nat → Nat × Int) {k i : Nat} (x : Nat × Int) (h : i ≠ k) : upN nd k x i = nd i := if_neg h

theorem Grow.start : Grow [] [] (fun _ => (0, 0)) := by
  refine ⟨List.nodup_nil, ?_, ?_, ?_, ?_, ?_, ?_, fun _ _ _ _ => rfl, fun _ _ => rfl⟩ <;> intro v <;> simp

/-- Two children more. -/
theorem Grow.split {P : List Nat} {A : List (Nat × Nat)} {nd : Nat → Nat × Int} (g : Grow P A nd) {v : Nat} (hv : Has P v) (hn : v ∉ P) (ha : ∀ s, (v, s) ∉ A) :
    Grow (P ++ [v]) A (upN nd (idx P v) ((nd (idx P v)).1, ((1 + 2 * P.length : Nat) : Int))) := by
  have hv1 : 1 ≤ v := by rcases hv with h | ⟨h, _⟩ <;> omega
  have up : ∀ w, Has P w → w ≠ v → upN nd (idx P v) ((nd (idx P v)).1, ((1 + 2 * P.length : Nat) : Int)) (idx (P ++ [v]) w) = nd (idx P w) := fun w hw hne => by
    rw [idx_app hw, upN_ne _ _ (fun e => hne (idx_inj hw hv e))]
  have hsplit : ∀ w, Has (P ++ [v]) w → Has P w ∨ ∃ b, b < 2 ∧ w = 2 * v + b := fun w hw => by
    rcases hw with h | ⟨h, h2⟩
    · exact .inl (.inl h)
    · rcases List.mem_append.1 h2 with h3 | h3
      · exact .inl (.inr ⟨h, h3⟩)
      · rw [List.mem_singleton] at h3
        exact .inr ⟨w % 2, by omega, by omega⟩
  have new : ∀ b, b < 2 → idx (P ++ [v]) (2 * v + b) = 1 + 2 * P.length + b := fun b hb => by
    rw [idx_kid _ _ _ hv1 hb, idxOf_new hn]
  have hlt := idx_lt hv
  refine ⟨?_, ?_, ?_, ?_, ?_, ?_, ?_, ?_, ?_⟩
  · rw [List.nodup_append]
    refine ⟨g.nodup, by simp, ?_⟩
    intro a haP b hb
    rw [List.mem_singleton] at hb
    subst hb
    intro e; subst e; exact hn haP
  · intro w hw
    rcases List.mem_append.1 hw with h | h
    · exact g.pos w h
    · rw [List.mem_singleton] at h; omega
  · intro w hw
    rcases List.mem_append.1 hw with h | h
    · exact (g.has w h).app v
    · rw [List.mem_singleton] at h; subst h; exact hv.app w
  · intro u s hus; exact (g.mem u s hus).app v
  · intro u s hus hu
    rcases List.mem_append.1 hu with h | h
    · exact g.sep u s hus h
    · rw [List.mem_singleton] at h; subst h; exact ha s hus
  · intro w hw
    rcases List.mem_append.1 hw with h | h
    · have hne : w ≠ v := fun e => hn (e ▸ h)
      rw [up w (g.has w h) hne, g.inner w h]
      have hk : Has P (2 * w) := .inr ⟨by have := g.pos w h; omega, by rw [show 2 * w / 2 = w by omega]; exact h⟩
      rw [idx_app hk]
    · rw [List.mem_singleton] at h; subst h
      rw [idx_app hv, upN_at]
      have := new 0 (by omega)
      rw [Nat.add_zero, Nat.add_zero] at this
      rw [this]
  · intro u s hus
    have hne : u ≠ v := fun e => ha s (e ▸ hus)
    rw [up u (g.mem u s hus) hne]
    exact g.leaf u s hus
  · intro w hw hwn hwa
    have hne : w ≠ v := fun e => hwn (List.mem_append.2 (.inr (by rw [e]; simp)))
    have hwp : w ∉ P := fun h => hwn (List.mem_append.2 (.inl h))
    rcases hsplit w hw with h | ⟨b, hb, rfl⟩
    · rw [up w h hne]; exact g.bare w h hwp hwa
    · rw [new b hb, upN_ne _ _ (by omega)]; exact g.fresh _ (by omega)
  · intro k hk
    rw [List.length_append, List.length_singleton] at hk
    rw [upN_ne _ _ (by omega)]; exact g.fresh _ (by omega)

/-- A symbol more. -/
theorem Grow.put {P : List Nat} {A : List (Nat × Nat)} {nd : Nat → Nat × Int} (g : Grow P A nd) {u s : Nat} (hu : Has P u) (hn : u ∉ P) (ha : ∀ s, (u, s) ∉ A) :
    Grow P (A ++ [(u, s)]) (upN nd (idx P u) (s, -1)) := by
  have up : ∀ w, Has P w → w ≠ u → upN nd (idx P u) (s, -1) (idx P w) = nd (idx P w) := fun w hw hne => upN_ne _ _ (fun e => hne (idx_inj hw hu e))
  have hlt := idx_lt hu
  have hA : ∀ {x t}, (x, t) ∈ A ++ [(u, s)] → (x, t) ∈ A ∨ x = u ∧ t = s := fun h => by
    rcases List.mem_append.1 h with h | h
    · exact .inl h
    · rw [List.mem_singleton] at h; injection h with h1 h2; exact .inr ⟨h1, h2⟩
  refine ⟨g.nodup, g.pos, g.has, ?_, ?_, ?_, ?_, ?_, ?_⟩
  · intro x t h
    rcases hA h with h | ⟨rfl, rfl⟩
    · exact g.mem x t h
    · exact hu
  · intro x t h
    rcases hA h with h | ⟨rfl, rfl⟩
    · exact g.sep x t h
    · exact hn
  · intro v hv
    rw [up v (g.has v hv) (fun e => hn (e ▸ hv))]; exact g.inner v hv
  · intro x t h
    rcases hA h with h | ⟨rfl, rfl⟩
    · rw [up x (g.mem x t h) (fun e => ha t (e ▸ h))]; exact g.leaf x t h
    · exact upN_at _ _ _
  · intro v hv hvn hva
    have hne : v ≠ u := fun e => hva s (List.mem_append.2 (.inr (by rw [e]; simp)))
    rw [up v hv hne]
    exact g.bare v hv hvn (fun t ht => hva t (List.mem_append.2 (.inl ht)))
  · intro k hk
    rw [upN_ne _ _ (by omega)]; exact g.fresh _ hk
/-- The tree behind some of the code's symbols. -/
structure Built (C : List (Nat × Nat)) (P : List Nat) (A : List (Nat × Nat)) (nd : Nat → Nat × Int) : Prop where
  grow : Grow P A nd
  sub : ∀ u s, (u, s) ∈ A → (u, s) ∈ C
  ext : ∀ v, v ∈ P → ∃ u s k, (u, s) ∈ A ∧ 1 ≤ k ∧ u / 2 ^ k = v
  full : ∀ u s, (u, s) ∈ A → ∀ k, 1 ≤ k → 1 ≤ u / 2 ^ k → u / 2 ^ k ∈ P
/-- The tree while the path u is laid, c bits of which are left. -/
structure Mid (C : List (Nat × Nat)) (I P : List Nat) (A : List (Nat × Nat)) (nd : Nat → Nat × Int) (u c : Nat) : Prop where
  grow : Grow P A nd
  asub : ∀ u s, (u, s) ∈ A → (u, s) ∈ C
  sub : ∀ v, v ∈ P → v ∈ I
  has : Has P (u / 2 ^ c)
  ext : ∀ v, v ∈ P → (∃ u s k, (u, s) ∈ A ∧ 1 ≤ k ∧ u / 2 ^ k = v) ∨ ∃ k, c < k ∧ u / 2 ^ k = v
  fullA : ∀ u s, (u, s) ∈ A → ∀ k, 1 ≤ k → 1 ≤ u / 2 ^ k → u / 2 ^ k ∈ P
  full : ∀ k, c < k → 1 ≤ u / 2 ^ k → u / 2 ^ k ∈ P

theorem Built.start (C : List (Nat × Nat)) : Built C [] [] (fun _ => (0, 0)) :=
  ⟨Grow.start, fun _ _ h => (by simp at h), fun _ h => (by simp at h), fun _ _ h => (by simp at h)⟩
theorem div_pow_add (u c k : Nat) : u / 2 ^ c / 2 ^ k = u / 2 ^ (c + k) := by rw [Nat.div_div_eq_div_mul, Nat.pow_add]

theorem Built.mid {C : List (Nat × Nat)} {I P : List Nat} {A : List (Nat × Nat)} {nd : Nat → Nat × Int} (hC : Code C I) (b : Built C P A nd) (l v : Nat) : Mid C I P A nd (cod l v) l := by
  refine ⟨b.grow, b.sub, fun v hv => ?_, ?_, fun v hv => .inl (b.ext v hv), b.full, fun k hk h1 => ?_⟩
  · obtain ⟨u, s, k, h1, h2, rfl⟩ := b.ext v hv
    exact hC.pre u s (b.sub u s h1) k h2 (b.grow.pos _ hv)
  · rw [cod_top]; exact .inl rfl
  · exfalso
    have h := div_pow_add (cod l v) l (k - l)
    rw [cod_top, show l + (k - l) = k by omega] at h
    have h2 : (2 : Nat) ^ 1 ≤ 2 ^ (k - l) := Nat.pow_le_pow_right (by decide) (by omega)
    rw [Nat.div_eq_of_lt (by omega)] at h
    omega

/-- One bit of a path. -/
theorem Mid.step {C : List (Nat × Nat)} {I P : List Nat} {A : List (Nat × Nat)} {nd : Nat → Nat × Int} {u s c : Nat} (hC : Code C I) (m : Mid C I P A nd u (c + 1)) (hu : (u, s) ∈ C) (h1 : 1 ≤ u / 2 ^ (c + 1)) :
    (u / 2 ^ (c + 1) ∈ P ∧ (nd (idx P (u / 2 ^ (c + 1)))).2 = (idx P (2 * (u / 2 ^ (c + 1))) : Int) ∧ 1 ≤ idx P (2 * (u / 2 ^ (c + 1))) ∧ idx P (2 * (u / 2 ^ (c + 1))) + 1 < 1 + 2 * P.length ∧ idx P (u / 2 ^ c) = idx P (2 * (u / 2 ^ (c + 1))) + u / 2 ^ c % 2 ∧ Mid C I P A nd u c) ∨
    ((nd (idx P (u / 2 ^ (c + 1)))).2 = 0 ∧ 1 + 2 * P.length + 2 ≤ 2 * C.length - 1 ∧ idx (P ++ [u / 2 ^ (c + 1)]) (u / 2 ^ c) = 1 + 2 * P.length + u / 2 ^ c % 2 ∧
      Mid C I (P ++ [u / 2 ^ (c + 1)]) A (upN nd (idx P (u / 2 ^ (c + 1))) ((nd (idx P (u / 2 ^ (c + 1)))).1, ((1 + 2 * P.length : Nat) : Int))) u c) := by
  obtain ⟨x, hx⟩ : ∃ x, x = u / 2 ^ (c + 1) := ⟨_, rfl⟩
  have hdiv : u / 2 ^ c / 2 = x := by rw [hx, Nat.pow_succ, Nat.div_div_eq_div_mul]
  have hbit : u / 2 ^ c = 2 * x + u / 2 ^ c % 2 := by omega
  rw [← hx] at h1 ⊢
  have hhas := m.has
  rw [← hx] at hhas
  have hA : ∀ t, (x, t) ∉ A := fun t ht => hC.sep x t (m.asub x t ht) (by rw [hx]; exact hC.pre u s hu (c + 1) (by omega) (by rw [← hx]; exact h1))
  have hI : x ∈ I := by rw [hx]; exact hC.pre u s hu (c + 1) (by omega) (by rw [← hx]; exact h1)
  by_cases hP : x ∈ P
  · left
    have hi := idx_kid P x 0 h1 (by omega)
    rw [Nat.add_zero, Nat.add_zero] at hi
    have hlt := List.idxOf_lt_length_of_mem hP
    refine ⟨hP, m.grow.inner x hP, by omega, by omega, ?_, ?_⟩
    · rw [hbit, idx_kid P x _ h1 (by omega), hi]; omega
    · refine ⟨m.grow, m.asub, m.sub, .inr ⟨by omega, by rw [hdiv]; exact hP⟩, fun v hv => ?_, m.fullA, fun k hk hk1 => ?_⟩
      · rcases m.ext v hv with h | ⟨k, hk, h⟩
        · exact .inl h
        · exact .inr ⟨k, by omega, h⟩
      · by_cases e : k = c + 1
        · subst e; rw [← hx]; exact hP
        · exact m.full k (by omega) hk1
  · right
    refine ⟨m.grow.bare x hhas hP hA, ?_, ?_, ?_⟩
    · have hnd : (P ++ [x]).Nodup := (m.grow.split hhas hP hA).nodup
      have hsub : P ++ [x] ⊆ I := fun v hv => by
        rcases List.mem_append.1 hv with h | h
        · exact m.sub v h
        · rw [List.mem_singleton] at h; rw [h]; exact hI
      have := hnd.length_le_of_subset hsub
      rw [List.length_append, List.length_singleton] at this
      have := hC.card
      omega
    · rw [hbit, idx_kid _ _ _ h1 (by omega), idxOf_new hP]; omega
    · refine ⟨m.grow.split hhas hP hA, m.asub, fun v hv => ?_, ?_, fun v hv => ?_, fun a b h k hk hk1 => List.mem_append.2 (.inl (m.fullA a b h k hk hk1)), fun k hk hk1 => ?_⟩
      · rcases List.mem_append.1 hv with h | h
        · exact m.sub v h
        · rw [List.mem_singleton] at h; rw [h]; exact hI
      · exact .inr ⟨by omega, List.mem_append.2 (.inr (by rw [hdiv]; simp))⟩
      · rcases List.mem_append.1 hv with h | h
        · rcases m.ext v h with h | ⟨k, hk, h⟩
          · exact .inl h
          · exact .inr ⟨k, by omega, h⟩
        · rw [List.mem_singleton] at h; exact .inr ⟨c + 1, by omega, by rw [h, hx]⟩
      · by_cases e : k = c + 1
        · subst e; exact List.mem_append.2 (.inr (by rw [← hx]; simp))
        · exact List.mem_append.2 (.inl (m.full k (by omega) hk1))

/-- The end of a path. -/
theorem Mid.done {C : List (Nat × Nat)} {I P : List Nat} {A : List (Nat × Nat)} {nd : Nat → Nat × Int} {u s : Nat} (hC : Code C I) (m : Mid C I P A nd u 0) (hu : (u, s) ∈ C) (hn : ∀ t, (u, t) ∉ A) :
    (nd (idx P u)).2 = 0 ∧ Has P u ∧ Built C P (A ++ [(u, s)]) (upN nd (idx P u) (s, -1)) := by
  have hh := m.has
  rw [Nat.pow_zero, Nat.div_one] at hh
  have hP : u ∉ P := fun h => hC.sep u s hu (m.sub u h)
  have hA : ∀ {x t}, (x, t) ∈ A ++ [(u, s)] → (x, t) ∈ A ∨ x = u ∧ t = s := fun h => by
    rcases List.mem_append.1 h with h | h
    · exact .inl h
    · rw [List.mem_singleton] at h; injection h with h1 h2; exact .inr ⟨h1, h2⟩
  refine ⟨m.grow.bare u hh hP hn, hh, m.grow.put hh hP hn, fun x t h => ?_, fun v hv => ?_, fun x t h k hk hk1 => ?_⟩
  · rcases hA h with h | ⟨rfl, rfl⟩
    · exact m.asub x t h
    · exact hu
  · rcases m.ext v hv with ⟨x, t, k, h, h2, h3⟩ | ⟨k, hk, h⟩
    · exact ⟨x, t, k, List.mem_append.2 (.inl h), h2, h3⟩
    · exact ⟨u, s, k, List.mem_append.2 (.inr (by simp)), by omega, h⟩
  · rcases hA h with h | ⟨rfl, rfl⟩
    · exact m.fullA x t h k hk hk1
    · exact m.full k (by omega) hk1

/-- The look-up table. -/
structure Lut (P : List Nat) (A : List (Nat × Nat)) (lut : Nat → Nat) : Prop where
  short : ∀ u s, (u, s) ∈ A → ∀ k, k ≤ 7 → ∀ x, x < 128 → pth x k = u → lut x = s * 256 + (k + 1)
  long : ∀ u s, (u, s) ∈ A → ∀ j, 1 ≤ j → ∀ x, x < 128 → u / 2 ^ j = pth x 7 → lut x = idx P (pth x 7) * 256
  none : ∀ x, x < 128 → (∀ u s, (u, s) ∈ A → ∀ k, k ≤ 7 → pth x k ≠ u) → (∀ u s, (u, s) ∈ A → ∀ j, 1 ≤ j → u / 2 ^ j ≠ pth x 7) → lut x = 0
theorem Lut.start : Lut [] [] (fun _ => 0) := ⟨fun _ _ h => (by simp at h), fun _ _ h => (by simp at h), fun _ _ _ _ => rfl⟩
theorem has_of {P : List Nat} {A : List (Nat × Nat)} {nd : Nat → Nat × Int} (g : Grow P A nd) {v : Nat} (h : v ∈ P) : Has P v := g.has v h
theorem Lut.app {C : List (Nat × Nat)} {I P : List Nat} {A : List (Nat × Nat)} {nd : Nat → Nat × Int} {lut : Nat → Nat} {u c : Nat} (m : Mid C I P A nd u c) (h : Lut P A lut) (w : Nat) : Lut (P ++ [w]) A lut := by
  refine ⟨h.short, fun u s hu j hj x hx e => ?_, h.none⟩
  have hm := m.fullA u s hu j hj (by rw [e]; exact pth_pos x 7)
  rw [e] at hm
  rw [idx_app (m.grow.has _ hm)]
  exact h.long u s hu j hj x hx e

/-- No path of a code lies on the way to another one. -/
theorem code_apart {C : List (Nat × Nat)} {I : List Nat} (hC : Code C I) {u s u' s' : Nat} (hu : (u, s) ∈ C) (hu' : (u', s') ∈ C) {j : Nat} (hj : 1 ≤ j) : u / 2 ^ j ≠ u' := fun e => by
  have h1 := (hC.low u' s' hu').1
  exact hC.sep u' s' hu' (by rw [← e]; exact hC.pre u s hu j hj (by omega))
theorem nodup_fst {C : List (Nat × Nat)} (h : (C.map Prod.fst).Nodup) {u s t : Nat} (h1 : (u, s) ∈ C) (h2 : (u, t) ∈ C) : s = t := by
  induction C with
  | nil => simp at h1
  | cons a C ih =>
    rw [List.map_cons, List.nodup_cons] at h
    rcases List.mem_cons.1 h1 with e1 | e1 <;> rcases List.mem_cons.1 h2 with e2 | e2
    · rw [← e1] at e2; injection e2 with _ e; exact e.symm
    · exact absurd (List.mem_map.2 ⟨_, e2, by rw [← e1]⟩) h.1
    · exact absurd (List.mem_map.2 ⟨_, e1, by rw [← e2]⟩) h.1
    · exact ih h.2 e1 e2

def upL (lut : Nat → Nat) (q : Nat → Prop) [DecidablePred q] (y : Nat) : Nat → Nat := fun x => if q x then y else lut x

/-- A short path more. -/
theorem Lut.putShort {C : List (Nat × Nat)} {I P : List Nat} {A : List (Nat × Nat)} {lut : Nat → Nat} (hC : Code C I) (hs : ∀ u s, (u, s) ∈ A → (u, s) ∈ C) (h : Lut P A lut) {b k s : Nat} (hk : k ≤ 7) (hb : b < 2 ^ k) (hu : (pth b k, s) ∈ C) :
    Lut P (A ++ [(pth b k, s)]) (upL lut (fun x => x % 2 ^ k = b) (s * 256 + (k + 1))) := by
  have hq : ∀ x, (x % 2 ^ k = b ↔ pth x k = pth b k) := fun x => by rw [pth_eq, Nat.mod_eq_of_lt hb]
  have hA : ∀ {x t}, (x, t) ∈ A ++ [(pth b k, s)] → (x, t) ∈ A ∨ x = pth b k ∧ t = s := fun h => by
    rcases List.mem_append.1 h with h | h
    · exact .inl h
    · rw [List.mem_singleton] at h; injection h with h1 h2; exact .inr ⟨h1, h2⟩
  have hup : ∀ x, pth x k = pth b k → ∀ u t, (u, t) ∈ C → ∀ j, j ≤ 7 → pth x j = u → j = k ∧ t = s := fun x e u t hut j hj ej => by
    rcases Nat.lt_trichotomy j k with hl | hl | hl
    · exfalso
      refine code_apart hC hu hut (j := k - j) (by omega) ?_
      have := pth_up x j (k - j)
      rw [show j + (k - j) = k by omega, e, ej] at this
      exact this
    · subst hl
      refine ⟨rfl, nodup_fst hC.one (u := pth b j) (by rw [← e, ej]; exact hut) hu⟩
    · exfalso
      refine code_apart hC hut hu (j := j - k) (by omega) ?_
      have := pth_up x k (j - k)
      rw [show k + (j - k) = j by omega, e, ej] at this
      exact this
  refine ⟨fun u t ht j hj x hx e => ?_, fun u t ht j hj x hx e => ?_, fun x hx h1 h2 => ?_⟩
  · unfold upL
    rcases hA ht with ht | ⟨rfl, rfl⟩
    · split
      · rename_i hm
        obtain ⟨rfl, rfl⟩ := hup x ((hq x).1 hm) u t (hs u t ht) j hj e
        rfl
      · exact h.short u t ht j hj x hx e
    · obtain rfl : j = k := pth_len e
      rw [if_pos ((hq x).2 e)]
  · unfold upL
    rcases hA ht with ht | ⟨rfl, rfl⟩
    · rw [if_neg (fun hm => ?_)]
      · exact h.long u t ht j hj x hx e
      · have e2 := (hq x).1 hm
        refine code_apart hC (hs u t ht) hu (j := j + (7 - k)) (by omega) ?_
        rw [← div_pow_add, e]
        have := pth_up x k (7 - k)
        rw [show k + (7 - k) = 7 by omega, e2] at this
        exact this
    · exfalso
      have h1 := pth_low x 7
      have h2 := pth_high b k
      have h3 : (2 : Nat) ^ (k + 1) ≤ 2 ^ 8 := Nat.pow_le_pow_right (by decide) (by omega)
      have h4 : pth b k / 2 ^ j ≤ pth b k / 2 ^ 1 := Nat.div_le_div_left (Nat.pow_le_pow_right (by decide) hj) (by decide)
      omega
  · unfold upL
    rw [if_neg (fun hm => ?_)]
    · exact h.none x hx (fun u t ht => h1 u t (List.mem_append.2 (.inl ht))) (fun u t ht => h2 u t (List.mem_append.2 (.inl ht)))
    · exact h1 _ _ (List.mem_append.2 (.inr (List.mem_singleton.2 rfl))) k hk ((hq x).1 hm)

/-- What stands in the table ahead of a long path. -/
theorem Lut.ahead {C : List (Nat × Nat)} {I P : List Nat} {A : List (Nat × Nat)} {lut : Nat → Nat} (hC : Code C I) (hs : ∀ u s, (u, s) ∈ A → (u, s) ∈ C) (h : Lut P A lut) {u s j b : Nat} (hu : (u, s) ∈ C) (hj : 1 ≤ j) (hb : b < 128) (e : u / 2 ^ j = pth b 7) :
    lut b = 0 ∨ lut b = idx P (pth b 7) * 256 := by
  by_cases h1 : ∃ u' s' k, (u', s') ∈ A ∧ k ≤ 7 ∧ pth b k = u'
  · exfalso
    obtain ⟨u', s', k, h1, h2, h3⟩ := h1
    refine code_apart hC hu (hs u' s' h1) (j := j + (7 - k)) (by omega) ?_
    rw [← div_pow_add, e]
    have := pth_up b k (7 - k)
    rw [show k + (7 - k) = 7 by omega, h3] at this
    exact this
  · by_cases h2 : ∃ u' s' j, (u', s') ∈ A ∧ 1 ≤ j ∧ u' / 2 ^ j = pth b 7
    · obtain ⟨u', s', j', h3, h4, h5⟩ := h2
      exact .inr (h.long u' s' h3 j' h4 b hb h5)
    · exact .inl (h.none b hb (fun u' s' h3 k hk e => h1 ⟨u', s', k, h3, hk, e⟩) (fun u' s' h3 k hk e => h2 ⟨u', s', k, h3, hk, e⟩))

/-- A long path more. -/
theorem Lut.putLong {C : List (Nat × Nat)} {I P : List Nat} {A : List (Nat × Nat)} {lut : Nat → Nat} (hC : Code C I) (hs : ∀ u s, (u, s) ∈ A → (u, s) ∈ C) (h : Lut P A lut) {u s j b : Nat} (hu : (u, s) ∈ C) (hj : 1 ≤ j) (hb : b < 128) (e : u / 2 ^ j = pth b 7) :
    Lut P (A ++ [(u, s)]) (upL lut (fun x => x = b) (idx P (pth b 7) * 256)) := by
  have hA : ∀ {x t}, (x, t) ∈ A ++ [(u, s)] → (x, t) ∈ A ∨ x = u ∧ t = s := fun h => by
    rcases List.mem_append.1 h with h | h
    · exact .inl h
    · rw [List.mem_singleton] at h; injection h with h1 h2; exact .inr ⟨h1, h2⟩
  have hq : ∀ x, x < 128 → pth x 7 = pth b 7 → x = b := fun x hx e => by
    have := (pth_eq x b 7).1 e
    rwa [Nat.mod_eq_of_lt hx, Nat.mod_eq_of_lt hb] at this
  refine ⟨fun u' t ht k hk x hx e' => ?_, fun u' t ht k hk x hx e' => ?_, fun x hx h1 h2 => ?_⟩
  · unfold upL
    rcases hA ht with ht | ⟨rfl, rfl⟩
    · rw [if_neg (fun hm => ?_)]
      · exact h.short u' t ht k hk x hx e'
      · subst hm
        refine code_apart hC hu (hs u' t ht) (j := j + (7 - k)) (by omega) ?_
        rw [← div_pow_add, e]
        have := pth_up x k (7 - k)
        rw [show k + (7 - k) = 7 by omega, e'] at this
        exact this
    · exfalso
      have h1 := pth_low b 7
      have h2 := pth_high x k
      have h3 : (2 : Nat) ^ (k + 1) ≤ 2 ^ 8 := Nat.pow_le_pow_right (by decide) (by omega)
      have h4 : u' / 2 ^ j ≤ u' / 2 ^ 1 := Nat.div_le_div_left (Nat.pow_le_pow_right (by decide) hj) (by decide)
      omega
  · unfold upL
    split
    · rename_i hm; subst hm; rfl
    · rename_i hm
      rcases hA ht with ht | ⟨rfl, rfl⟩
      · exact h.long u' t ht k hk x hx e'
      · exfalso
        apply hm
        refine hq x hx ?_
        have hkj : k = j := by
          have l1 := pth_low x 7
          have l2 := pth_high x 7
          have l3 := pth_low b 7
          have l4 := pth_high b 7
          rcases Nat.lt_trichotomy k j with hl | hl | hl
          · exfalso
            have := div_pow_add u' k (j - k)
            rw [show k + (j - k) = j by omega, e, e'] at this
            have h4 : pth x 7 / 2 ^ (j - k) ≤ pth x 7 / 2 ^ 1 := Nat.div_le_div_left (Nat.pow_le_pow_right (by decide) (by omega)) (by decide)
            omega
          · exact hl
          · exfalso
            have := div_pow_add u' j (k - j)
            rw [show j + (k - j) = k by omega, e, e'] at this
            have h4 : pth b 7 / 2 ^ (k - j) ≤ pth b 7 / 2 ^ 1 := Nat.div_le_div_left (Nat.pow_le_pow_right (by decide) (by omega)) (by decide)
            omega
        subst hkj
        rw [← e, e']
  · unfold upL
    rw [if_neg (fun hm => ?_)]
    · exact h.none x hx (fun u t ht => h1 u t (List.mem_append.2 (.inl ht))) (fun u t ht => h2 u t (List.mem_append.2 (.inl ht)))
    · subst hm
      exact h2 _ _ (List.mem_append.2 (.inr (List.mem_singleton.2 rfl))) j hj e

/-- What the whole tree tells of bits. -/
structure Dec (C : List (Nat × Nat)) (L : Nat) (nd : Nat → Nat × Int) (lut : Nat → Nat) (At : Nat → Nat → Prop) : Prop where
  root : At 0 1
  bound : ∀ n v, At n v → n < L
  step : ∀ n v, At n v → (∃ s, (v, s) ∈ C ∧ nd n = (s, -1)) ∨ ∃ c : Nat, 0 < c ∧ (nd n).2 = (c : Int) ∧ c + 1 < L ∧ (∀ s, (v, s) ∉ C) ∧ ∀ b, b < 2 → At (c + b) (2 * v + b)
  lut : ∀ x, x < 128 → (∃ k s, k ≤ 7 ∧ (pth x k, s) ∈ C ∧ lut x = s * 256 + (k + 1)) ∨ ∃ n, At n (pth x 7) ∧ lut x = n * 256 ∧ ∀ k s, k ≤ 7 → (pth x k, s) ∉ C

theorem Built.dec {C : List (Nat × Nat)} {I P : List Nat} {A : List (Nat × Nat)} {nd : Nat → Nat × Int} {lut : Nat → Nat} (hC : Code C I) (b : Built C P A nd) (hl : Lut P A lut) (hA : ∀ u s, (u, s) ∈ C → (u, s) ∈ A) :
    Dec C (1 + 2 * P.length) nd lut (fun n v => Has P v ∧ idx P v = n) ∧ 1 + 2 * P.length ≤ 2 * C.length - 1 := by
  have hIP : ∀ v, v ∈ I → v ∈ P := fun v hv => by
    obtain ⟨u, s, k, h1, h2, rfl⟩ := hC.ext v hv
    exact b.full u s (hA u s h1) k h2 (hC.pos _ hv)
  have hPI : ∀ v, v ∈ P → v ∈ I := fun v hv => by
    obtain ⟨u, s, k, h1, h2, rfl⟩ := b.ext v hv
    exact hC.pre u s (b.sub u s h1) k h2 (b.grow.pos _ hv)
  have hlen : P.length ≤ I.length := b.grow.nodup.length_le_of_subset (fun v hv => hPI v hv)
  have hcard := hC.card
  have hor : ∀ v, Has P v → v ∈ P ∨ ∃ s, (v, s) ∈ C := fun v hv => by
    rcases hv with rfl | ⟨h, h2⟩
    · rcases hC.root with h | h
      · exact .inl (hIP _ h)
      · exact .inr h
    · have := hC.kids _ (hPI _ h2) (v % 2) (by omega)
      rw [show 2 * (v / 2) + v % 2 = v by omega] at this
      rcases this with h | h
      · exact .inl (hIP _ h)
      · exact .inr h
  refine ⟨⟨⟨.inl rfl, rfl⟩, fun n v h => ?_, fun n v h => ?_, fun x hx => ?_⟩, by omega⟩
  · have := idx_lt h.1
    rw [h.2] at this; exact this
  · obtain ⟨h, rfl⟩ := h
    by_cases hs : ∃ s, (v, s) ∈ C
    · obtain ⟨s, hs⟩ := hs
      exact .inl ⟨s, hs, b.grow.leaf v s (hA v s hs)⟩
    · rcases hor v h with hP | hP
      · right
        have hv1 := b.grow.pos v hP
        have hi := idx_kid P v 0 hv1 (by omega)
        rw [Nat.add_zero, Nat.add_zero] at hi
        have hlt := List.idxOf_lt_length_of_mem hP
        refine ⟨idx P (2 * v), by omega, b.grow.inner v hP, by omega, fun s h => hs ⟨s, h⟩, fun c hc => ⟨.inr ⟨by omega, ?_⟩, ?_⟩⟩
        · rw [show (2 * v + c) / 2 = v by omega]; exact hP
        · rw [idx_kid P v c hv1 hc, hi]
      · exact absurd hP hs
  · have hw : ∀ k, k ≤ 7 → (∃ j s, j ≤ k ∧ (pth x j, s) ∈ C) ∨ pth x k ∈ I := fun k => by
      induction k with
      | zero =>
        intro _
        rcases hC.root with h | ⟨s, h⟩
        · exact .inr h
        · exact .inl ⟨0, s, Nat.le_refl _, h⟩
      | succ k ih =>
        intro hk
        rcases ih (by omega) with ⟨j, s, h1, h2⟩ | h
        · exact .inl ⟨j, s, by omega, h2⟩
        · rcases hC.kids _ h (x / 2 ^ k % 2) (by omega) with h | ⟨s, h⟩
          · exact .inr h
          · exact .inl ⟨k + 1, s, Nat.le_refl _, h⟩
    rcases hw 7 (Nat.le_refl _) with ⟨k, s, h1, h2⟩ | h
    · exact .inl ⟨k, s, h1, h2, hl.short _ s (hA _ _ h2) k h1 x hx rfl⟩
    · right
      obtain ⟨u, s, k, h1, h2, h3⟩ := hC.ext _ h
      refine ⟨_, ⟨b.grow.has _ (hIP _ h), rfl⟩, hl.long u s (hA u s h1) k h2 x hx h3, fun j t hj ht => ?_⟩
      by_cases e : j = 7
      · subst e; exact hC.sep _ _ ht h
      · refine code_apart hC h1 ht (j := k + (7 - j)) (by omega) ?_
        rw [← div_pow_add, h3]
        have := pth_up x j (7 - j)
        rw [show j + (7 - j) = 7 by omega] at this
        exact this
end Go.Proofs.YtdmefbpfpmkdcaaDoor
