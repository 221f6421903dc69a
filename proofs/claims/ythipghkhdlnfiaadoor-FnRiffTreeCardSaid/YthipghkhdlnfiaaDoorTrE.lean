/- The law's walker: all that it holds, and how it stands behind what its methods do. -/
import Derived.Test.YthipghkhdlnfiaaDoorTrF
import Derived.Test.YthipghkhdlnfiaaDoorTrB
namespace Go.Proofs.YthipghkhdlnfiaaDoor
open Go.RowKit
set_option linter.unusedVariables false

theorem chunksF_all (gw gc : Nat) (ba : Option Addr) (bn bc : Nat) (f : Nat → Int) : ∀ (d : Nat), d ≤ 6 → ∀ (w : World) (s0 : Value) (xa : Option Addr) (xn xc : Nat) (k0 : Value), WQ w gw gc ba bn bc f s0 (.slice xa xn xc) k0 → Calls Tryd.prog 17 #[.pointer (some ⟨gw, 0, none⟩), .int .i64 d, .bool false] w (FP gc ba bn bc f (4 * qD d) w)
  | 0, hd, w, s0, xa, xn, xc, k0, h => chunksF gw gc ba bn bc f 0 hd (fun d' _ _ _ _ _ _ e => by omega) w s0 xa xn xc k0 h
  | d + 1, hd, w, s0, xa, xn, xc, k0, h => chunksF gw gc ba bn bc f (d + 1) hd (fun d' w' s0' xa' xn' xc' k0' e h' => by
      obtain rfl : d' = d := by omega
      exact chunksF_all gw gc ba bn bc f d' (by omega) w' s0' xa' xn' xc' k0' h') w s0 xa xn xc k0 h

def kC (ks : List Nat) : List Value := ks.map fun k => Value.int .i64 (k : Nat)
/-- What is wanted of each chunk's bytes: a slice of a block of bytes. -/
def DS (w : World) (cks : List Ck) (ds : List Value) : Prop := ds.length = cks.length ∧ ∀ (i : Nat) (k : Ck), cks[i]? = some k → ∃ a cc, ds[i]? = some (.slice a k.data.length cc) ∧ Arg .u8 w a k.data.length (fun j => k.data.getD j 0) ∧ (0 < k.data.length → ∀ p, a = some p → OfTy w 5 p.block)
theorem DS.only {S : Nat → Prop} {w w' : World} {cks : List Ck} {ds : List Value} (h : DS w cks ds) (ho : Only S w w') (hn : ∀ p n cc, Value.slice (some p) n cc ∈ ds → 0 < n → OfTy w 5 p.block → ¬ S p.block) : DS w' cks ds := by
  refine ⟨h.1, fun i k hk => ?_⟩
  obtain ⟨a, cc, h1, h2, h3⟩ := h.2 i k hk
  have hmem := List.mem_of_getElem? h1
  refine ⟨a, cc, h1, h2.only ho (fun h0 p hp => by rw [hp] at hmem; exact hn p _ cc hmem h0 (h3 h0 p hp)), fun h0 p hp => ?_⟩
  have ht := h3 h0 p hp
  rw [hp] at hmem
  have hns := hn p _ cc hmem h0 ht
  obtain ⟨c, fr, hc⟩ := ht
  exact ⟨c, fr, by rw [ho.block p.block (Array.getElem?_eq_some_iff.1 hc).1 hns]; exact hc⟩
theorem DS.snoc {w : World} {cks : List Ck} {ds : List Value} (h : DS w cks ds) (k : Ck) (a : Option Addr) (cc : Nat) (ha : Arg .u8 w a k.data.length (fun j => k.data.getD j 0)) (ht : 0 < k.data.length → ∀ p, a = some p → OfTy w 5 p.block) : DS w (cks ++ [k]) (ds ++ [.slice a k.data.length cc]) := by
  refine ⟨by rw [List.length_append, List.length_append, h.1]; rfl, fun i k' hk => ?_⟩
  by_cases hi : i < cks.length
  · rw [List.getElem?_append_left hi] at hk
    obtain ⟨a', cc', h1, h2⟩ := h.2 i k' hk
    exact ⟨a', cc', by rw [List.getElem?_append_left (by rw [h.1]; exact hi)]; exact h1, h2⟩
  · have hi2 : i = cks.length := by
      have := (List.getElem?_eq_some_iff.1 hk).1
      rw [List.length_append] at this; simp at this; omega
    subst hi2
    rw [List.getElem?_append_right (Nat.le_refl _), Nat.sub_self] at hk
    obtain rfl : k = k' := by simpa using hk
    exact ⟨a, cc, by rw [← h.1, List.getElem?_append_right (Nat.le_refl _), Nat.sub_self]; rfl, ha, ht⟩
/-- All that a walker holds. -/
structure WK (c : WC) (w : World) (sv wv kv : Value) (ps : List (Int × Int)) (cks : List Ck) (ks : List Nat) (ds : List Value) : Prop where
  wq : WQ w c.gw c.gc c.ba c.bn c.bc c.f sv wv kv
  st : w.ownsRow c.B 34 2 sv ps.length (stC ps)
  wa : w.ownsRow c.B 43 7 wv cks.length (ckCells cks ds)
  ki : w.ownsRow c.B 3 1 kv ks.length (kC ks)
  da : DS w cks ds
  bs : c.B ≤ w.heap.size
  ar : 0 < c.bn → ∀ p, c.ba = some p → p.block < c.B
  gB : c.B ≤ c.gw
theorem WK.gcT {c : WC} {w : World} {sv wv kv : Value} {ps : List (Int × Int)} {cks : List Ck} {ks : List Nat} {ds : List Value} (h : WK c w sv wv kv ps cks ks ds) : OfTy w 77 c.gc := by
  obtain ⟨i, _, hs⟩ := h.wq.2.obj
  exact hs.ty
theorem WK.nop {c : WC} {w w' : World} {sv wv kv : Value} {ps : List (Int × Int)} {cks : List Ck} {ks : List Nat} {ds : List Value} (h : WK c w sv wv kv ps cks ks ds) (ho : Only (fun _ => False) w w') : WK c w' sv wv kv ps cks ks ds :=
  ⟨h.wq.none ho, ownsRow_only h.st ho (fun _ _ h => h), ownsRow_only h.wa ho (fun _ _ h => h), ownsRow_only h.ki ho (fun _ _ h => h), h.da.only ho (fun _ _ _ _ _ _ h => h), Nat.le_trans h.bs ho.size, h.ar, h.gB⟩
theorem WK.ch {c : WC} {w w' : World} {sv wv kv : Value} {ps : List (Int × Int)} {cks : List Ck} {ks : List Nat} {ds : List Value} (h : WK c w sv wv kv ps cks ks ds) (hc : CH w' c.gc c.ba c.bn c.bc c.f) (ho : Only (fun k => k = c.gc) w w') : WK c w' sv wv kv ps cks ks ds := by
  have hg := h.gcT
  refine ⟨h.wq.ch hc ho, ownsRow_only h.st ho (fun k hk e => ?_), ownsRow_only h.wa ho (fun k hk e => ?_), ownsRow_only h.ki ho (fun k hk e => ?_), h.da.only ho (fun p n cc _ _ ht e => ?_), Nat.le_trans h.bs ho.size, h.ar, h.gB⟩
  · have e : k = c.gc := e
    rw [e] at hk; exact absurd (hg.inj (ownsRow_ty h.st hk).1) (by decide)
  · have e : k = c.gc := e
    rw [e] at hk; exact absurd (hg.inj (ownsRow_ty h.wa hk).1) (by decide)
  · have e : k = c.gc := e
    rw [e] at hk; exact absurd (hg.inj (ownsRow_ty h.ki hk).1) (by decide)
  · have e : p.block = c.gc := e
    rw [e] at ht; exact absurd (hg.inj ht) (by decide)
/-- No wanted bytes lie in a row. -/
def ApartW (ds : List Value) (v : Value) : Prop := ∀ p n cc, Value.slice (some p) n cc ∈ ds → 0 < n → v.ownBlock ≠ some p.block
/-- Behind an append to a row of bytes. -/
theorem WK.row {c : WC} {w w' : World} {sv wv kv : Value} {ps : List (Int × Int)} {cks : List Ck} {ks : List Nat} {ds : List Value} (h : WK c w sv wv kv ps cks ks ds) {C n : Nat} {v : Value} {xs : List Value} (hr : w.ownsRow C 5 1 v n xs) (hC : c.B ≤ C) (ha : ApartW ds v) (ho : Only (fun k => v.ownBlock = some k) w w') : WK c w' sv wv kv ps cks ks ds := by
  refine ⟨h.wq.row hr (fun h0 p hp => by have := h.ar h0 p hp; omega) ho, ownsRow_only h.st ho (fun k hk e => ?_), ownsRow_only h.wa ho (fun k hk e => ?_), ownsRow_only h.ki ho (fun k hk e => ?_), h.da.only ho (fun p n cc hm h0 _ e => ha p n cc hm h0 e), Nat.le_trans h.bs ho.size, h.ar, h.gB⟩
  · exact absurd ((ownsRow_ty hr e).1.inj (ownsRow_ty h.st hk).1) (by decide)
  · exact absurd ((ownsRow_ty hr e).1.inj (ownsRow_ty h.wa hk).1) (by decide)
  · exact absurd ((ownsRow_ty hr e).1.inj (ownsRow_ty h.ki hk).1) (by decide)
/-- Behind a step. -/
theorem wkStep {c : WC} {w : World} {sv wv kv : Value} {ps : List (Int × Int)} {cks : List Ck} {ks : List Nat} {ds : List Value} (h : WK c w sv wv kv ps cks ks ds) (op n kdI : Int) (kd : Nat) (hk : kdI = (kd : Int)) (b1 : ps.length ≤ 10000000) (b2 : ks.length ≤ 10000000) :
    Calls Tryd.prog 18 #[.pointer (some ⟨c.gw, 0, none⟩), .int .i64 op, .int .i64 n, .int .i64 kdI] w fun e w' => e = .returned (.tuple #[]) ∧ ∃ sv' kv', WK c w' sv' wv kv' (ps ++ [(op, n)]) cks (ks ++ [kd]) ds ∧ Only (WS c w) w w' := by
  have hst : ST c w w sv wv kv sv ps.length (stC ps) kv ks.length (kC ks) := ⟨h.wq.1, h.st, h.ki, Only.refl _ _, h.bs⟩
  refine (wkStep_any c op n kdI w sv wv kv ps.length (stC ps) ks.length (kC ks) hst b1 b2).mono ?_
  rintro _ w' ⟨rfl, sv', kv', h'⟩
  have ho := h'.on
  have hg := h.gcT
  refine ⟨rfl, sv', kv', ⟨⟨h'.obj, h.wq.2.only ho (fun e => ?_) (fun h0 p hp e => ?_)⟩, ?_, ownsRow_only h.wa ho (fun k hk e => ?_), ?_, h.da.only ho (fun p n cc _ _ ht e => ?_), h'.bs, h.ar, h.gB⟩, ho⟩
  · rcases e with e | ⟨_, e | e⟩
    · exact h.wq.ne e.symm
    · exact absurd (hg.inj e) (by decide)
    · exact absurd (hg.inj e) (by decide)
  · have h1 := h.ar h0 p hp
    rcases e with e | ⟨e, _⟩
    · obtain ⟨g, o, hba, hgl, hrow⟩ := h.wq.2.row h0
      rw [hba] at hp; injection hp with hp
      rw [← hp] at e
      have e : g = c.gw := e
      have hc := hrow 0 h0
      have h2 := h.wq.1.cell 0 rfl
      have hB := h.gB
      rw [← hp] at h1
      simp only at h1
      omega
    · omega
  · have e : (ps ++ [(op, n)]).length = ps.length + 1 := by rw [List.length_append]; rfl
    rw [e, stC_app]; exact h'.st
  · rcases e with e | ⟨_, e | e⟩
    · rw [e] at hk; exact absurd (h.wq.1.ty.inj (ownsRow_ty h.wa hk).1) (by decide)
    · exact absurd (e.inj (ownsRow_ty h.wa hk).1) (by decide)
    · exact absurd (e.inj (ownsRow_ty h.wa hk).1) (by decide)
  · have e : (ks ++ [kd]).length = ks.length + 1 := by rw [List.length_append]; rfl
    have e2 : kC (ks ++ [kd]) = kC ks ++ [.int .i64 kdI] := by unfold kC; rw [List.map_append, hk]; rfl
    rw [e, e2]; exact h'.ki
  · rcases e with e | ⟨_, e | e⟩
    · rw [e] at ht; exact absurd (h.wq.1.ty.inj ht) (by decide)
    · exact absurd (e.inj ht) (by decide)
    · exact absurd (e.inj ht) (by decide)
/-- Behind one more chunk that is wanted. -/
theorem WK.push {c : WC} {w w' : World} {sv wv kv v' : Value} {ps : List (Int × Int)} {cks : List Ck} {ks : List Nat} {ds : List Value} (h : WK c w sv wv kv ps cks ks ds) (o : Go.Obj) (k : Ck) (a : Option Addr) (cc : Nat) (hda : Arg .u8 w a k.data.length (fun j => k.data.getD j 0)) (hdt : 0 < k.data.length → ∀ p, a = some p → OfTy w 5 p.block)
    (hown : w'.ownsRow c.B 43 7 v' (cks.length + 1) (ckCells cks ds ++ ckCell k (.slice a k.data.length cc))) (hg : (w.alloc o).grownBy w' wv.ownBlock) :
    WK c (w'.setCell ⟨c.gw, 2, none⟩ v') sv v' kv ps (cks ++ [k]) ks (ds ++ [.slice a k.data.length cc]) ∧ Only (WR c w) w (w'.setCell ⟨c.gw, 2, none⟩ v') := by
  have ho1 : Only (fun k => wv.ownBlock = some k) w w' := (Only.alloc _ w o).tr (Only.of_grown hg (fun k hk => hk))
  have hgwv : wv.ownBlock ≠ some c.gw := fun e => absurd (h.wq.1.ty.inj (ownsRow_ty h.wa e).1) (by decide)
  have hobj : SObj w' c.gw 51 [.pointer (some ⟨c.gc, 0, none⟩), sv, wv, kv] := h.wq.1.only ho1 hgwv
  have ho2 : Only (fun k => k = c.gw) w' (w'.setCell ⟨c.gw, 2, none⟩ v') := Only.setCell w' _ _ rfl
  have ho : Only (fun k => wv.ownBlock = some k ∨ k = c.gw) w (w'.setCell ⟨c.gw, 2, none⟩ v') := (ho1.mono (fun _ h => .inl h)).tr (ho2.mono (fun _ h => .inr h))
  have hgc := h.gcT
  have hd2 := h.da.only ho (fun p n cc _ _ ht e => by
    rcases e with e | e
    · exact absurd (ht.inj (ownsRow_ty h.wa e).1) (by decide)
    · rw [e] at ht; exact absurd (ht.inj h.wq.1.ty) (by decide))
  have hbx : ∀ p : Addr, OfTy w 5 p.block → ¬ (wv.ownBlock = some p.block ∨ p.block = c.gw) := fun p ht e => by
    rcases e with e | e
    · exact absurd (ht.inj (ownsRow_ty h.wa e).1) (by decide)
    · rw [e] at ht; exact absurd (ht.inj h.wq.1.ty) (by decide)
  refine ⟨⟨⟨hobj.set 2 v', h.wq.2.only ho (fun e => ?_) (fun h0 p hp e => ?_)⟩, ownsRow_only h.st ho (fun k hk e => ?_), ?_, ownsRow_only h.ki ho (fun k hk e => ?_), hd2.snoc k a cc (hda.only ho (fun h0 p hp => hbx p (hdt h0 p hp))) (fun h0 p hp => ?_), Nat.le_trans h.bs ho.size, h.ar, h.gB⟩, ho.mono (fun k e => ?_)⟩
  · rcases e with e | e
    · exact absurd (hgc.inj (ownsRow_ty h.wa e).1) (by decide)
    · exact h.wq.ne e.symm
  · have h1 := h.ar h0 p hp
    rcases e with e | e
    · have := (ownsRow_ty h.wa e).2.1; omega
    · have := h.gB; omega
  · rcases e with e | e
    · exact absurd ((ownsRow_ty h.wa e).1.inj (ownsRow_ty h.st hk).1) (by decide)
    · rw [e] at hk; exact absurd (h.wq.1.ty.inj (ownsRow_ty h.st hk).1) (by decide)
  · rw [List.length_append, ckCells_snoc cks ds k _ h.da.1.symm]
    exact ownsRow_only hown ho2 (fun k hk e => by
      have e : k = c.gw := e
      rw [e] at hk; exact absurd (hobj.ty.inj (ownsRow_ty hown hk).1) (by decide))
  · rcases e with e | e
    · exact absurd ((ownsRow_ty h.wa e).1.inj (ownsRow_ty h.ki hk).1) (by decide)
    · rw [e] at hk; exact absurd (h.wq.1.ty.inj (ownsRow_ty h.ki hk).1) (by decide)
  · obtain ⟨c', fr, hc⟩ := hdt h0 p hp
    exact ⟨c', fr, by rw [ho.block p.block (Array.getElem?_eq_some_iff.1 hc).1 (hbx p ⟨c', fr, hc⟩)]; exact hc⟩
  · rcases e with e | e
    · have ht := ownsRow_ty h.wa e
      exact .inr (.inr ⟨ht.2.1, .inr (.inl ht.1)⟩)
    · exact .inl e
theorem ckCells_set : ∀ (cks : List Ck) (ds : List Value) (i : Nat) (k : Ck) (n : Nat), cks.length = ds.length → cks[i]? = some k → (ckCells cks ds).set (i * 7 + 4) (.int .i64 n) = ckCells (cks.set i ⟨k.id, n, k.data, k.fin⟩) ds
  | k0 :: cks, d0 :: ds, 0, k, n, hl, hk => by
    obtain rfl : k0 = k := by simpa using hk
    show (ckCell k0 d0 ++ ckCells cks ds).set 4 _ = ckCell _ d0 ++ ckCells cks ds
    rfl
  | k0 :: cks, d0 :: ds, i + 1, k, n, hl, hk => by
    show (ckCell k0 d0 ++ ckCells cks ds).set ((i + 1) * 7 + 4) _ = ckCell k0 d0 ++ ckCells (cks.set i _) ds
    have h7 : (ckCell k0 d0).length = 7 := rfl
    rw [List.set_append_right _ _ (by rw [h7]; omega), h7, show (i + 1) * 7 + 4 - 7 = i * 7 + 4 by omega, ckCells_set cks ds i k n (by simpa using hl) (by simpa using hk)]
  | [], _, _, _, _, _, hk => by simp at hk
  | _ :: _, [], _, _, _, hl, _ => by simp at hl
/-- Behind a wanted chunk's length. -/
theorem WK.setLen {c : WC} {w : World} {sv wv kv : Value} {ps : List (Int × Int)} {cks : List Ck} {ks : List Nat} {ds : List Value} (h : WK c w sv wv kv ps cks ks ds) (i : Nat) (k : Ck) (hk : cks[i]? = some k) (n : Nat) :
    ∃ g cap, wv = .slice (some ⟨g, 0, none⟩) cks.length cap ∧ w.cell? ⟨g, i * 7 + 4, none⟩ = some (.int .i64 k.len) ∧ w.frozen? ⟨g, i * 7 + 4, none⟩ = false ∧
      WK c (w.setCell ⟨g, i * 7 + 4, none⟩ (.int .i64 n)) sv wv kv ps (cks.set i ⟨k.id, n, k.data, k.fin⟩) ks ds ∧ Only (WR c w) w (w.setCell ⟨g, i * 7 + 4, none⟩ (.int .i64 n)) := by
  have hi : i < cks.length := (List.getElem?_eq_some_iff.1 hk).1
  obtain ⟨g, cap, cur, hv, hgB, hobj, h1, h2, h3, h4⟩ := own_block h.wa (by omega)
  have hgT : OfTy w 43 g := hobj.ty
  have hdi : ∃ d, ds[i]? = some d := by
    obtain ⟨a, cc, hd, _⟩ := h.da.2 i k hk
    exact ⟨_, hd⟩
  obtain ⟨d, hd⟩ := hdi
  have hcell : w.cell? ⟨g, i * 7 + 4, none⟩ = some (.int .i64 k.len) := by
    refine hobj.cell (i * 7 + 4) ?_
    have e : (cur.take (cks.length * 7))[i * 7 + 4]? = cur[i * 7 + 4]? := by
      rw [List.getElem?_take, if_pos (by have : (i + 1) * 7 ≤ cks.length * 7 := Nat.mul_le_mul_right 7 hi; omega)]
    rw [← e, h4, ckCells_get cks ds i 4 k d hk hd (by decide)]
    rfl
  have ho : Only (fun j => j = g) w (w.setCell ⟨g, i * 7 + 4, none⟩ (.int .i64 n)) := Only.setCell w _ _ rfl
  have hne : ∀ (T : TypeId) (j : Nat), OfTy w T j → T ≠ 43 → j ≠ g := fun T j ht hT e => by rw [e] at ht; exact hT (ht.inj hgT)
  refine ⟨g, cap, hv, hcell, hobj.free _, ⟨⟨h.wq.1.only ho (hne _ _ h.wq.1.ty (by decide)), h.wq.2.only ho (hne _ _ h.gcT (by decide)) (fun h0 p hp e => ?_)⟩, ownsRow_only h.st ho (fun j hj => hne _ _ (ownsRow_ty h.st hj).1 (by decide)), ?_, ownsRow_only h.ki ho (fun j hj => hne _ _ (ownsRow_ty h.ki hj).1 (by decide)), ?_, Nat.le_trans h.bs ho.size, h.ar, h.gB⟩, ho.mono (fun j e => ?_)⟩
  · have := h.ar h0 p hp
    have e : p.block = g := e
    omega
  · rw [hv, List.length_set]
    have hs := hobj.set (i * 7 + 4) (.int .i64 n)
    refine own_of_block hgB hs h1 h2 (by rw [List.length_set]; exact h3) ?_ ?_
    · rw [List.take_set, h4, ckCells_set cks ds i k n h.da.1.symm hk]
    · rw [ckCells_length _ _ (by rw [List.length_set]; exact h.da.1.symm), List.length_set]
  · have hd2 := h.da.only ho (fun p _ _ _ _ ht => hne _ _ ht (by decide))
    refine ⟨by rw [List.length_set]; exact hd2.1, fun j k' hk' => ?_⟩
    rw [List.getElem?_set] at hk'
    split at hk'
    · rename_i e
      subst e
      simp only [Option.some.injEq] at hk'
      subst hk'
      exact hd2.2 i k hk
    · exact hd2.2 j k' hk'
  · have e : j = g := e
    rw [e]; exact .inr (.inr ⟨hgB, .inr (.inl hgT)⟩)
theorem set_mid {α : Type} (A : List α) (k k' : α) (B : List α) : (A ++ k :: B).set A.length k' = A ++ k' :: B := by
  rw [List.set_append_right _ _ (Nat.le_refl _), Nat.sub_self]; rfl
end Go.Proofs.YthipghkhdlnfiaaDoor
