/- A tree of chunks and lists: as it is written, and what steps through it tell. Plain Lean: no program, no memory. -/
import Derived.Test.YthipghkhdlnfiaaDoorRfT
namespace Go.Proofs.YthipghkhdlnfiaaDoor
open Go.RowKit
set_option linter.unusedVariables false
set_option linter.unusedSimpArgs false

/-- A tree of chunks and lists, from left to right: of a chunk its name, its bytes and how many are asked for; of a list its type and whether it is entered. -/
inductive Tr where
  | nil
  | leaf (id data : List Int) (n : Nat) (rest : Tr)
  | list (kind : List Int) (into : Bool) (body rest : Tr)
def listId : List Int := [76, 73, 83, 84]
def Tr.bytes : Tr → List Int
  | .nil => []
  | .leaf id d _ r => chunkB id d ++ r.bytes
  | .list k _ b r => chunkB listId (k ++ b.bytes) ++ r.bytes
def Tr.steps : Tr → List (Int × Int)
  | .nil => []
  | .leaf _ _ n r => ((0, 0) :: (if 0 < n then [(1, (n : Int))] else [])) ++ r.steps
  | .list _ g b r => ((0, 0) :: (if g then (2, 0) :: (b.steps ++ [(0, 0), (3, 0)]) else [])) ++ r.steps
def Tr.want : Tr → List Ck
  | .nil => []
  | .leaf id d n r => [⟨id, d.length, d.take n, if d.length < n then 0 else 2⟩] ++ r.want
  | .list k g b r => (⟨listId, (k ++ b.bytes).length, [], 2⟩ :: (if g then b.want else [])) ++ r.want
def Tr.kinds : Tr → List Nat
  | .nil => []
  | .leaf _ _ n r => (0 :: (if 0 < n then [0] else [])) ++ r.kinds
  | .list _ g b r => (0 :: (if g then 0 :: (b.kinds ++ [1, 0]) else [])) ++ r.kinds
/-- Names of four bytes; lengths that four bytes hold; nothing is asked beyond N. -/
def Tr.Ok (N : Nat) : Tr → Prop
  | .nil => True
  | .leaf id d n r => id.length = 4 ∧ d.length < 4294967296 ∧ n ≤ N + 1 ∧ r.Ok N
  | .list k _ b r => k.length = 4 ∧ (k ++ b.bytes).length < 4294967296 ∧ b.Ok N ∧ r.Ok N

/-- The readers around: each one's chunk has as much left as the next one within; behind it stand the chunks that follow. -/
def Outs : List RS → Nat → List (List Int) → Prop
  | [], _, [] => True
  | r :: rs, t, b :: bs => r.chk = t ∧ r.pad = false ∧ r.tot = t + b.length ∧ Outs rs r.tot bs
  | _, _, _ => False
theorem Outs.av : ∀ {rs : List RS} {t : Nat} {bs : List (List Int)}, Outs rs t bs → avR rs (t + bs.flatten.length) = t
  | [], t, [], _ => by simp [avR]
  | r :: rs, t, b :: bs, h => by
    obtain ⟨h1, _, h3, h4⟩ := h
    have := h4.av
    rw [h3] at this
    show min r.chk (avR rs _) = t
    rw [List.flatten_cons, List.length_append, ← Nat.add_assoc, this, h1]
    omega
  | [], _, _ :: _, h => h.elim
  | _ :: _, _, [], h => h.elim
theorem Outs.dec : ∀ {rs : List RS} {t : Nat} {bs : List (List Int)} (k : Nat), Outs rs t bs → k ≤ t → Outs (rs.map (RS.dec k)) (t - k) bs
  | [], t, [], k, _, _ => trivial
  | r :: rs, t, b :: bs, k, h, hk => by
    obtain ⟨h1, h2, h3, h4⟩ := h
    refine ⟨by show r.chk - k = _; omega, h2, by show r.tot - k = _; omega, ?_⟩
    exact h4.dec k (by omega)
  | [], _, _ :: _, _, h, _ => h.elim
  | _ :: _, _, [], _, h, _ => h.elim
def due (r : RS) : Nat := r.chk + if r.pad then 1 else 0
/-- The written chunks b are next, behind what is left of the chunk at hand; then those of bs, list by list. -/
structure Inv (s : St) (b : List Int) (bs : List (List Int)) (sk : List Int) : Prop where
  bad : s.bad = 0
  len : sk.length = due s.now
  rest : s.rest = sk ++ (b ++ bs.flatten)
  tot : s.now.tot = sk.length + b.length
  outs : Outs s.outer s.now.tot bs
theorem Inv.av {s : St} {b : List Int} {bs : List (List Int)} {sk : List Int} (h : Inv s b bs sk) : s.av = s.now.tot := by
  have := h.outs.av
  unfold St.av
  rw [h.rest]
  simp only [List.length_append]
  rw [← Nat.add_assoc, ← h.tot]
  exact this
theorem le32_at {id : List Int} (hid : id.length = 4) (n : Nat) (hn : n < 4294967296) (r : List Int) : le32 (id ++ (le4 n ++ r)) 4 = n := by
  match id, hid with
  | [a, b, c, d], _ =>
    simp [le32, le4, List.getD]
    omega
theorem chunkB_app (id l b : List Int) : chunkB id l ++ b = id ++ (le4 l.length ++ (l ++ ((if l.length % 2 = 1 then [0] else []) ++ b))) := by
  simp [chunkB, List.append_assoc]
theorem chunkB_length {id : List Int} (hid : id.length = 4) (l : List Int) : (chunkB id l).length = 8 + (l.length + if l.length % 2 = 1 then 1 else 0) := by
  simp only [chunkB, List.length_append, hid, le4, List.length_cons, List.length_nil]
  split <;> simp <;> omega
theorem name4 {id : List Int} (hid : id.length = 4) (r : List Int) : [(id ++ r).getD 0 0, (id ++ r).getD 1 0, (id ++ r).getD 2 0, (id ++ r).getD 3 0] = id := by
  match id, hid with
  | [a, b, c, d], _ => rfl
theorem nextM_at {s : St} {b : List Int} {bs : List (List Int)} {sk : List Int} (h : Inv s b bs sk) : nextM s.rest s.av s.now.tot s.now.chk s.now.pad = nextT s.rest s.now.tot b.length sk.length := by
  have h1 := h.len
  have h2 := h.tot
  rw [h.av]
  unfold due at h1
  unfold nextM
  rw [if_neg (by omega)]
  cases hp : s.now.pad
  · rw [hp] at h1
    simp only [Bool.false_eq_true, if_false, Nat.add_zero] at h1 ⊢
    rw [show s.now.tot - s.now.chk = b.length by omega, ← h1]
  · rw [hp] at h1
    simp only [if_true] at h1 ⊢
    rw [if_neg (by omega), if_neg (by omega), show s.now.tot - s.now.chk - 1 = b.length by omega, ← h1]
theorem step_next {N : Nat} {s : St} {id l b : List Int} {bs : List (List Int)} {sk : List Int} (h : Inv s (chunkB id l ++ b) bs sk) (hid : id.length = 4) (hl : l.length < 4294967296) :
    ∃ s', stepM N s (0, 0) = s' ∧ Inv s' b bs (l ++ if l.length % 2 = 1 then [0] else []) ∧ s'.now.chk = l.length ∧ s'.now.pad = decide (l.length % 2 = 1) ∧ s'.dat = true ∧ s'.out = s.out ++ [⟨id, l.length, [], 2⟩] ∧ s'.kinds = s.kinds ++ [0] := by
  refine ⟨_, rfl, ?_⟩
  have hn := nextM_at h
  have hr := h.rest
  have ht := h.tot
  have hcl : (chunkB id l ++ b).length = 8 + (l.length + if l.length % 2 = 1 then 1 else 0) + b.length := by rw [List.length_append, chunkB_length hid]
  have hd : s.rest.drop sk.length = id ++ (le4 l.length ++ (l ++ ((if l.length % 2 = 1 then [0] else []) ++ (b ++ bs.flatten)))) := by
    rw [hr, List.drop_left, chunkB_app]
    simp [List.append_assoc]
  have e : nextT s.rest s.now.tot (chunkB id l ++ b).length sk.length = .ok (sk.length + 8) ((chunkB id l ++ b).length - 8) l.length := by
    unfold nextT
    rw [hd, le32_at hid _ hl, if_neg (by omega), if_neg (by omega), if_neg (by omega), if_neg (by omega)]
  rw [e] at hn
  have ho : opM N s (0, 0) = ({ s with rest := s.rest.drop (sk.length + 8), now := ⟨(chunkB id l ++ b).length - 8, l.length, decide (l.length % 2 = 1)⟩, dat := true, outer := s.outer.map (RS.dec (sk.length + 8)), out := s.out ++ [⟨[(s.rest.drop (sk.length + 8 - 8)).getD 0 0, (s.rest.drop (sk.length + 8 - 8)).getD 1 0, (s.rest.drop (sk.length + 8 - 8)).getD 2 0, (s.rest.drop (sk.length + 8 - 8)).getD 3 0], l.length, [], 2⟩] }, 0) := by
    unfold opM opNext
    simp only [if_true, h.bad, ne_eq, not_true_eq_false, if_false, hn]
  have hpl : (l ++ if l.length % 2 = 1 then [0] else []).length = l.length + if l.length % 2 = 1 then 1 else 0 := by
    rw [List.length_append]; split <;> rfl
  unfold stepM
  rw [ho]
  refine ⟨⟨h.bad, ?_, ?_, ?_, ?_⟩, rfl, rfl, rfl, ?_, rfl⟩
  · show _ = l.length + if decide (l.length % 2 = 1) = true then 1 else 0
    rw [hpl]; simp
  · show s.rest.drop (sk.length + 8) = _
    rw [← List.drop_drop, hd]
    have e8 : (id ++ le4 l.length).length = 8 := by rw [List.length_append, hid]; rfl
    rw [← List.append_assoc, ← e8, List.drop_left]
    simp [List.append_assoc]
  · show (chunkB id l ++ b).length - 8 = _
    rw [hpl]; omega
  · show Outs (s.outer.map (RS.dec (sk.length + 8))) ((chunkB id l ++ b).length - 8) bs
    have := h.outs.dec (sk.length + 8) (by omega)
    rw [show s.now.tot - (sk.length + 8) = (chunkB id l ++ b).length - 8 by omega] at this
    exact this
  · show s.out ++ [_] = _
    rw [show sk.length + 8 - 8 = sk.length by omega, hd, name4 hid]
theorem step_end {N : Nat} {s : St} {bs : List (List Int)} {sk : List Int} (h : Inv s [] bs sk) :
    ∃ s', stepM N s (0, 0) = s' ∧ s'.rest = bs.flatten ∧ s'.outer = s.outer.map (RS.dec sk.length) ∧ s'.out = s.out ∧ s'.kinds = s.kinds ++ [1] := by
  refine ⟨_, rfl, ?_⟩
  have hn := nextM_at h
  have e : nextT s.rest s.now.tot ([] : List Int).length sk.length = .bad 1 sk.length := by unfold nextT; exact if_pos List.length_nil
  rw [e] at hn
  have ho : opM N s (0, 0) = ({ s with rest := s.rest.drop sk.length, bad := 1, dat := false, outer := s.outer.map (RS.dec sk.length) }, 1) := by
    unfold opM opNext
    simp only [if_true, h.bad, ne_eq, not_true_eq_false, if_false, hn]
  unfold stepM
  rw [ho]
  refine ⟨?_, rfl, rfl, rfl⟩
  show s.rest.drop sk.length = _
  rw [h.rest, List.drop_left]; rfl
theorem step_read {N : Nat} {s : St} {b l : List Int} {bs : List (List Int)} {sk : List Int} {n : Nat} (h : Inv s b bs sk) (hc : s.now.chk = l.length) (hs : ∃ p, sk = l ++ p) (hd : s.dat = true) (hn0 : 0 < n) (hn : n ≤ N + 1) (os : List Ck) (k : Ck) (ho : s.out = os ++ [k]) :
    ∃ s', stepM N s (1, (n : Int)) = s' ∧ (∃ sk', Inv s' b bs sk') ∧ s'.out = os ++ [⟨k.id, k.len, k.data ++ l.take n, if l.length < n then 0 else k.fin⟩] ∧ s'.kinds = s.kinds ++ [0] := by
  refine ⟨_, rfl, ?_⟩
  have hav : s.avNow = l.length := by
    unfold St.avNow
    rw [h.av, hc]
    have h1 := h.len
    have h2 := h.tot
    unfold due at h1
    omega
  obtain ⟨p, hp⟩ := hs
  have hop : opM N s (1, (n : Int)) = ({ s.take (min n l.length) with out := readLast n l.length s.rest s.out }, 0) := by
    unfold opM
    rw [if_neg (by show ¬ (1 : Int) = 0; decide), if_pos ⟨rfl, hd⟩]
    unfold opRead
    rw [if_neg (by show ¬ (n : Int) ≤ 0; omega), hav]
    simp only [Int.toNat_natCast]
    rw [show min n (N + 1) = n by omega]
  have hlen := h.len
  have htot := h.tot
  unfold due at hlen
  unfold stepM
  rw [hop]
  have hskl : sk.length = l.length + p.length := by rw [hp, List.length_append]
  refine ⟨⟨sk.drop (min n l.length), ?_⟩, ?_, rfl⟩
  · refine ⟨h.bad, ?_, ?_, ?_, ?_⟩
    · show (sk.drop _).length = (s.now.chk - min n l.length) + if s.now.pad = true then 1 else 0
      rw [List.length_drop]; omega
    · show s.rest.drop _ = _
      rw [h.rest, List.drop_append_of_le_length (by omega)]
    · show s.now.tot - min n l.length = _
      rw [List.length_drop]; omega
    · exact h.outs.dec _ (by show min n l.length ≤ s.now.tot; omega)
  · show readLast n l.length s.rest s.out = _
    rw [ho, readLast_snoc]
    unfold Ck.read
    have : s.rest.take (min n l.length) = l.take n := by
      rw [h.rest, hp, List.append_assoc, List.take_append_of_le_length (by omega)]
      rw [← List.take_take, List.take_length]
    rw [this]
theorem step_into {N : Nat} {s : St} {k b c : List Int} {bs : List (List Int)} {sk : List Int} (h : Inv s c bs sk) (hk : k.length = 4) (hs : sk = k ++ b) (hc : s.now.chk = (k ++ b).length) (hp : s.now.pad = false) (hd : s.dat = true) (hl : lastLen s.out = (k ++ b).length) :
    ∃ s', stepM N s (2, 0) = s' ∧ Inv s' b (c :: bs) [] ∧ s'.out = s.out ∧ s'.kinds = s.kinds ++ [0] := by
  refine ⟨_, rfl, ?_⟩
  have hkb : (k ++ b).length = 4 + b.length := by rw [List.length_append, hk]
  have hskl : sk.length = 4 + b.length := by rw [hs, hkb]
  have htot := h.tot
  have hav : s.avNow = (k ++ b).length := by
    unfold St.avNow
    rw [h.av, hc]; omega
  have hop : opM N s (2, 0) = ({ s with rest := s.rest.drop 4, now := ⟨(k ++ b).length - 4, 0, false⟩, dat := false, outer := s.now.dec 4 :: s.outer.map (RS.dec 4) }, 0) := by
    unfold opM
    rw [if_neg (by show ¬ (2 : Int) = 0; decide), if_neg (by intro h; exact absurd h.1 (by decide)), if_pos ⟨rfl, hd⟩]
    unfold opInto
    rw [hl, hav, if_neg (by omega), if_neg (by omega)]
  unfold stepM
  rw [hop]
  refine ⟨⟨h.bad, rfl, ?_, ?_, ?_⟩, rfl, rfl⟩
  · show s.rest.drop 4 = _
    rw [h.rest, hs, ← hk, List.append_assoc, List.drop_left]
    simp [List.append_assoc]
  · show (k ++ b).length - 4 = _
    rw [hkb]; simp
  · refine ⟨?_, hp, ?_, ?_⟩
    · show s.now.chk - 4 = (k ++ b).length - 4
      rw [hc]
    · show s.now.tot - 4 = (k ++ b).length - 4 + c.length
      omega
    · exact h.outs.dec 4 (by omega)
theorem step_back {N : Nat} {s : St} {c : List Int} {bs : List (List Int)} {t : Nat} (hr : s.rest = (c :: bs).flatten) (ho : Outs s.outer 0 (c :: bs)) :
    ∃ s', stepM N s (3, 0) = s' ∧ Inv s' c bs [] ∧ s'.out = s.out ∧ s'.kinds = s.kinds ++ [0] := by
  match hso : s.outer, ho with
  | r :: rs, ho =>
    obtain ⟨h1, h2, h3, h4⟩ := ho
    refine ⟨_, rfl, ?_⟩
    have hop : opM N s (3, 0) = ({ s with now := r, bad := 0, dat := false, outer := rs }, 0) := by
      unfold opM
      rw [if_neg (by show ¬ (3 : Int) = 0; decide), if_neg (by intro h; exact absurd h.1 (by decide)), if_neg (by intro h; exact absurd h.1 (by decide)), if_pos rfl]
      unfold opBack
      rw [hso]
    unfold stepM
    rw [hop]
    refine ⟨⟨rfl, ?_, ?_, ?_, h4⟩, rfl, rfl⟩
    · show 0 = r.chk + if r.pad = true then 1 else 0
      rw [h1, h2]; rfl
    · show s.rest = _
      rw [hr]; simp
    · show r.tot = _
      rw [h3]; simp
theorem runM_cons (N : Nat) (s : St) (p : Int × Int) (l : List (Int × Int)) : runM N s (p :: l) = runM N (stepM N s p) l := rfl
theorem runM_append (N : Nat) (s : St) (l m : List (Int × Int)) : runM N s (l ++ m) = runM N (runM N s l) m := by unfold runM; rw [List.foldl_append]
theorem chunkB_even {k b : List Int} (hk : k.length = 4) (hb : b.length % 2 = 0) : (k ++ b).length % 2 = 0 := by rw [List.length_append, hk]; omega
theorem Tr.even : ∀ (N : Nat) (t : Tr), t.Ok N → t.bytes.length % 2 = 0
  | N, .nil, _ => rfl
  | N, .leaf id d n r, h => by
    have := r.even N h.2.2.2
    show (chunkB id d ++ r.bytes).length % 2 = 0
    rw [List.length_append, chunkB_length h.1]
    split <;> omega
  | N, .list k g b r, h => by
    have := r.even N h.2.2.2
    show (chunkB listId (k ++ b.bytes) ++ r.bytes).length % 2 = 0
    rw [List.length_append, chunkB_length rfl]
    split <;> omega
theorem run_tree (N : Nat) : ∀ (t : Tr) (s : St) (b : List Int) (bs : List (List Int)) (sk : List Int), t.Ok N → Inv s (t.bytes ++ b) bs sk →
    ∃ sk', Inv (runM N s t.steps) b bs sk' ∧ (runM N s t.steps).out = s.out ++ t.want ∧ (runM N s t.steps).kinds = s.kinds ++ t.kinds
  | .nil, s, b, bs, sk, hk, h => ⟨sk, h, by simp [Tr.steps, Tr.want, runM], by simp [Tr.steps, Tr.kinds, runM]⟩
  | .leaf id d n r, s, b, bs, sk, hk, h => by
    obtain ⟨h1, h2, h3, h4⟩ := hk
    have h : Inv s (chunkB id d ++ (r.bytes ++ b)) bs sk := by rw [← List.append_assoc]; exact h
    obtain ⟨s1, e1, i1, c1, p1, d1, o1, k1⟩ := step_next (N := N) h h1 h2
    by_cases hn : 0 < n
    · obtain ⟨s2, e2, ⟨sk2, i2⟩, o2, k2⟩ := step_read (N := N) i1 c1 ⟨_, rfl⟩ d1 hn h3 s.out _ o1
      obtain ⟨sk3, i3, o3, k3⟩ := run_tree N r s2 b bs sk2 h4 i2
      have e : runM N s (Tr.leaf id d n r).steps = runM N s2 r.steps := by
        show runM N s (((0, 0) :: (if 0 < n then [(1, (n : Int))] else [])) ++ r.steps) = _
        rw [if_pos hn, List.cons_append, runM_cons, e1, List.cons_append, runM_cons, e2, List.nil_append]
      rw [e]
      refine ⟨sk3, i3, ?_, ?_⟩
      · rw [o3, o2]
        show _ = s.out ++ ([⟨id, d.length, d.take n, if d.length < n then 0 else 2⟩] ++ r.want)
        simp [List.append_assoc]
      · rw [k3, k2, k1]
        show _ = s.kinds ++ ((0 :: (if 0 < n then [0] else [])) ++ r.kinds)
        rw [if_pos hn]
        simp [List.append_assoc]
    · have hn0 : n = 0 := by omega
      subst hn0
      obtain ⟨sk3, i3, o3, k3⟩ := run_tree N r s1 b bs _ h4 i1
      have e : runM N s (Tr.leaf id d 0 r).steps = runM N s1 r.steps := by
        show runM N s (((0, 0) :: []) ++ r.steps) = _
        rw [List.cons_append, runM_cons, e1, List.nil_append]
      rw [e]
      refine ⟨sk3, i3, ?_, ?_⟩
      · rw [o3, o1]
        show _ = s.out ++ ([⟨id, d.length, d.take 0, if d.length < 0 then 0 else 2⟩] ++ r.want)
        simp [List.append_assoc]
      · rw [k3, k1]
        show _ = s.kinds ++ ([0] ++ r.kinds)
        simp [List.append_assoc]
  | .list k g b0 r, s, b, bs, sk, hk, h => by
    obtain ⟨h1, h2, h3, h4⟩ := hk
    have h : Inv s (chunkB listId (k ++ b0.bytes) ++ (r.bytes ++ b)) bs sk := by rw [← List.append_assoc]; exact h
    obtain ⟨s1, e1, i1, c1, p1, d1, o1, k1⟩ := step_next (N := N) h rfl h2
    have hev := chunkB_even h1 (b0.even N h3)
    cases g
    · obtain ⟨sk3, i3, o3, k3⟩ := run_tree N r s1 b bs _ h4 i1
      have e : runM N s (Tr.list k false b0 r).steps = runM N s1 r.steps := by
        show runM N s (((0, 0) :: []) ++ r.steps) = _
        rw [List.cons_append, runM_cons, e1, List.nil_append]
      rw [e]
      refine ⟨sk3, i3, ?_, ?_⟩
      · rw [o3, o1]
        show _ = s.out ++ ((⟨listId, (k ++ b0.bytes).length, [], 2⟩ :: []) ++ r.want)
        simp [List.append_assoc]
      · rw [k3, k1]
        show _ = s.kinds ++ ([0] ++ r.kinds)
        simp [List.append_assoc]
    · rw [if_neg (by omega), List.append_nil] at i1
      obtain ⟨s2, e2, i2, o2, k2⟩ := step_into (N := N) i1 h1 rfl c1 (by rw [p1]; exact decide_eq_false (by omega)) d1 (by rw [o1, lastLen_snoc])
      have i2 : Inv s2 (b0.bytes ++ []) ((r.bytes ++ b) :: bs) [] := by rw [List.append_nil]; exact i2
      obtain ⟨sk3, i3, o3, k3⟩ := run_tree N b0 s2 [] _ _ h3 i2
      obtain ⟨s4, e4, r4, u4, o4, k4⟩ := step_end (N := N) i3
      have hout : Outs s4.outer 0 ((r.bytes ++ b) :: bs) := by
        have := i3.outs.dec sk3.length (by rw [i3.tot]; simp)
        rw [i3.tot] at this
        simp only [List.length_nil, Nat.add_zero, Nat.sub_self] at this
        rw [u4]; exact this
      obtain ⟨s5, e5, i5, o5, k5⟩ := step_back (N := N) (t := 0) r4 hout
      obtain ⟨sk6, i6, o6, k6⟩ := run_tree N r s5 b bs _ h4 i5
      have e : runM N s (Tr.list k true b0 r).steps = runM N s5 r.steps := by
        show runM N s (((0, 0) :: (2, 0) :: (b0.steps ++ [(0, 0), (3, 0)])) ++ r.steps) = _
        rw [List.cons_append, runM_cons, e1, List.cons_append, runM_cons, e2, List.append_assoc, runM_append]
        show runM N (runM N s2 b0.steps) ((0, 0) :: (3, 0) :: r.steps) = _
        rw [runM_cons, e4, runM_cons, e5]
      rw [e]
      refine ⟨sk6, i6, ?_, ?_⟩
      · rw [o6, o5, o4, o3, o2, o1]
        show _ = s.out ++ ((⟨listId, (k ++ b0.bytes).length, [], 2⟩ :: b0.want) ++ r.want)
        simp [List.append_assoc]
      · rw [k6, k5, k4, k3, k2, k1]
        show _ = s.kinds ++ ((0 :: 0 :: (b0.kinds ++ [1, 0])) ++ r.kinds)
        simp [List.append_assoc]
/-- A file of a tree is gone through as it was put together. -/
theorem riff_tree (form : List Int) (hf : form.length = 4) (t : Tr) (hl : 4 + t.bytes.length < 4294967296) (hk : t.Ok (fileB form t.bytes).length) :
    okHead (fileB form t.bytes) = true ∧ riffM (fileB form t.bytes) (t.steps ++ [(0, 0)]) = (t.want, 0 :: (t.kinds ++ [1])) := by
  have hfl : (form ++ t.bytes).length = 4 + t.bytes.length := by rw [List.length_append, hf]
  have hev : (form ++ t.bytes).length % 2 = 0 := by have := t.even _ hk; omega
  have hB : fileB form t.bytes = [82, 73, 70, 70] ++ (le4 (4 + t.bytes.length) ++ (form ++ t.bytes)) := by
    unfold fileB chunkB
    rw [hfl, if_neg (by omega)]
    simp [List.append_assoc]
  have h32 : le32 (fileB form t.bytes) 4 = 4 + t.bytes.length := by rw [hB]; exact le32_at rfl _ hl _
  have hlen : (fileB form t.bytes).length = 12 + t.bytes.length := by
    rw [hB]; simp only [List.length_append, hf]
    simp [le4]; omega
  have hok : okHead (fileB form t.bytes) = true := by
    unfold okHead
    refine decide_eq_true ⟨by omega, ?_, ?_, ?_, ?_, by omega⟩ <;> (rw [hB]; rfl)
  refine ⟨hok, ?_⟩
  have hinv : Inv (start (fileB form t.bytes)) (t.bytes ++ []) [] [] := by
    refine ⟨rfl, rfl, ?_, ?_, trivial⟩
    · show (fileB form t.bytes).drop 12 = _
      have e12 : ([82, 73, 70, 70] ++ (le4 (4 + t.bytes.length) ++ form) : List Int).length = 12 := by
        simp only [List.length_append, hf]; rfl
      rw [hB, show ([82, 73, 70, 70] ++ (le4 (4 + t.bytes.length) ++ (form ++ t.bytes)) : List Int) = ([82, 73, 70, 70] ++ (le4 (4 + t.bytes.length) ++ form)) ++ t.bytes by simp [List.append_assoc], ← e12, List.drop_left]
      simp
    · show le32 (fileB form t.bytes) 4 - 4 = _
      rw [h32]; simp
  obtain ⟨sk, i1, o1, k1⟩ := run_tree (fileB form t.bytes).length t _ [] [] [] hk hinv
  obtain ⟨s2, e2, _, _, o2, k2⟩ := step_end (N := (fileB form t.bytes).length) i1
  unfold riffM
  rw [if_pos hok, runM_append, runM_cons, e2]
  show (s2.out, s2.kinds) = _
  rw [o2, k2, o1, k1]
  simp [start]

theorem Tr.kinds_length : ∀ t : Tr, t.kinds.length = t.steps.length
  | .nil => rfl
  | .leaf id d n r => by
    have := r.kinds_length
    show ((0 :: (if 0 < n then [0] else [])) ++ r.kinds).length = (((0, 0) :: (if 0 < n then [(1, (n : Int))] else [])) ++ r.steps : List (Int × Int)).length
    rw [List.length_append, List.length_append, this]
    split <;> rfl
  | .list k g b r => by
    have := r.kinds_length
    have := b.kinds_length
    show ((0 :: (if g then 0 :: (b.kinds ++ [1, 0]) else [])) ++ r.kinds).length = (((0, 0) :: (if g then (2, 0) :: (b.steps ++ [(0, 0), (3, 0)]) else [])) ++ r.steps : List (Int × Int)).length
    cases g <;> simp <;> omega
/-- More behind a tree. -/
def Tr.app : Tr → Tr → Tr
  | .nil, u => u
  | .leaf id d n r, u => .leaf id d n (r.app u)
  | .list k g b r, u => .list k g b (r.app u)
theorem Tr.app_bytes : ∀ t u : Tr, (t.app u).bytes = t.bytes ++ u.bytes
  | .nil, u => rfl
  | .leaf id d n r, u => by show chunkB id d ++ (r.app u).bytes = (chunkB id d ++ r.bytes) ++ u.bytes; rw [r.app_bytes u, List.append_assoc]
  | .list k g b r, u => by show chunkB listId (k ++ b.bytes) ++ (r.app u).bytes = (chunkB listId (k ++ b.bytes) ++ r.bytes) ++ u.bytes; rw [r.app_bytes u, List.append_assoc]
theorem Tr.app_steps : ∀ t u : Tr, (t.app u).steps = t.steps ++ u.steps
  | .nil, u => rfl
  | .leaf id d n r, u => by
    show ((0, 0) :: (if 0 < n then [(1, (n : Int))] else [])) ++ (r.app u).steps = (((0, 0) :: (if 0 < n then [(1, (n : Int))] else [])) ++ r.steps) ++ u.steps
    rw [r.app_steps u, List.append_assoc]
  | .list k g b r, u => by
    show ((0, 0) :: (if g then (2, 0) :: (b.steps ++ [(0, 0), (3, 0)]) else [])) ++ (r.app u).steps = (((0, 0) :: (if g then (2, 0) :: (b.steps ++ [(0, 0), (3, 0)]) else [])) ++ r.steps) ++ u.steps
    rw [r.app_steps u, List.append_assoc]
theorem Tr.app_want : ∀ t u : Tr, (t.app u).want = t.want ++ u.want
  | .nil, u => rfl
  | .leaf id d n r, u => by
    show [_] ++ (r.app u).want = ([_] ++ r.want) ++ u.want
    rw [r.app_want u, List.append_assoc]
  | .list k g b r, u => by
    show (⟨listId, (k ++ b.bytes).length, [], 2⟩ :: (if g then b.want else [])) ++ (r.app u).want = ((⟨listId, (k ++ b.bytes).length, [], 2⟩ :: (if g then b.want else [])) ++ r.want) ++ u.want
    rw [r.app_want u, List.append_assoc]
theorem Tr.app_kinds : ∀ t u : Tr, (t.app u).kinds = t.kinds ++ u.kinds
  | .nil, u => rfl
  | .leaf id d n r, u => by
    show (0 :: (if 0 < n then [0] else [])) ++ (r.app u).kinds = ((0 :: (if 0 < n then [0] else [])) ++ r.kinds) ++ u.kinds
    rw [r.app_kinds u, List.append_assoc]
  | .list k g b r, u => by
    show (0 :: (if g then 0 :: (b.kinds ++ [1, 0]) else [])) ++ (r.app u).kinds = ((0 :: (if g then 0 :: (b.kinds ++ [1, 0]) else [])) ++ r.kinds) ++ u.kinds
    rw [r.app_kinds u, List.append_assoc]
theorem Tr.app_ok (N : Nat) : ∀ t u : Tr, t.Ok N → u.Ok N → (t.app u).Ok N
  | .nil, u, _, h => h
  | .leaf id d n r, u, h, h' => ⟨h.1, h.2.1, h.2.2.1, r.app_ok N u h.2.2.2 h'⟩
  | .list k g b r, u, h, h' => ⟨h.1, h.2.1, h.2.2.1, r.app_ok N u h.2.2.2 h'⟩
theorem Tr.Ok.mono {N N' : Nat} (hN : N ≤ N') : ∀ {t : Tr}, t.Ok N → t.Ok N'
  | .nil, _ => trivial
  | .leaf id d n r, h => ⟨h.1, h.2.1, by have := h.2.2.1; omega, h.2.2.2.mono hN⟩
  | .list k g b r, h => ⟨h.1, h.2.1, h.2.2.1.mono hN, h.2.2.2.mono hN⟩
end Go.Proofs.YthipghkhdlnfiaaDoor
