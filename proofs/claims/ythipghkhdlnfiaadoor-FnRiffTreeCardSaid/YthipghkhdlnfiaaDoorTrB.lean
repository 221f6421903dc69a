/- The law's walker: what it holds in memory; its step. -/
import Derived.Test.YthipghkhdlnfiaaDoorTrA
import Derived.Test.YthipghkhdlnfiaaDoorSkipP
namespace Go.Proofs.YthipghkhdlnfiaaDoor
open Go.RowKit
set_option linter.unusedVariables false

/-- Where a walker lies: from which block on its rows are; its block, its choices'. -/
structure WC where
  B : Nat
  gw : Nat
  gc : Nat
  ba : Option Addr
  bn : Nat
  bc : Nat
  f : Nat → Int
/-- What a walker's method may change. -/
def WR (c : WC) (w : World) (k : Nat) : Prop := k = c.gw ∨ k = c.gc ∨ c.B ≤ k ∧ (OfTy w 34 k ∨ OfTy w 43 k ∨ OfTy w 3 k)
theorem WR.back {c : WC} {S : Nat → Prop} {w w' : World} {k : Nat} (h : WR c w' k) (ho : Only S w w') (hk : k < w.heap.size) (hn : ¬ S k) : WR c w k := by
  rcases h with h | h | ⟨h0, h | h | h⟩
  · exact .inl h
  · exact .inr (.inl h)
  · exact .inr (.inr ⟨h0, .inl (h.keep ho hk hn)⟩)
  · exact .inr (.inr ⟨h0, .inr (.inl (h.keep ho hk hn))⟩)
  · exact .inr (.inr ⟨h0, .inr (.inr (h.keep ho hk hn))⟩)
theorem wr_trans {c : WC} {w w1 w2 : World} (h : Only (WR c w) w w1) (k : Only (WR c w1) w1 w2) : Only (WR c w) w w2 :=
  h.trans k fun i hi hn hs => hn (hs.back h hi hn)
/-- What its step may change. -/
def WS (c : WC) (w : World) (k : Nat) : Prop := k = c.gw ∨ c.B ≤ k ∧ (OfTy w 34 k ∨ OfTy w 3 k)
theorem WS.wr {c : WC} {w : World} {k : Nat} (h : WS c w k) : WR c w k := by
  rcases h with h | ⟨h0, h | h⟩
  · exact .inl h
  · exact .inr (.inr ⟨h0, .inl h⟩)
  · exact .inr (.inr ⟨h0, .inr (.inr h)⟩)
/-- What a walker's two rows and its struct are meanwhile. -/
structure ST (c : WC) (w0 w : World) (s0 x0 k0 sv : Value) (n : Nat) (xs : List Value) (kv : Value) (m : Nat) (ys : List Value) : Prop where
  obj : SObj w c.gw 51 [.pointer (some ⟨c.gc, 0, none⟩), s0, x0, k0]
  st : w.ownsRow c.B 34 2 sv n xs
  ki : w.ownsRow c.B 3 1 kv m ys
  on : Only (WS c w0) w0 w
  bs : c.B ≤ w.heap.size
theorem ST.drew {c : WC} {w0 w : World} {s0 x0 k0 sv : Value} {n : Nat} {xs : List Value} {kv : Value} {m : Nat} {ys : List Value} (h : ST c w0 w s0 x0 k0 sv n xs kv m ys) : ST c w0 w.drew s0 x0 k0 sv n xs kv m ys :=
  ⟨h.obj.drew, h.st.drew, h.ki.drew, h.on.dr, h.bs⟩
theorem ST.alloc {c : WC} {w0 w : World} {s0 x0 k0 sv : Value} {n : Nat} {xs : List Value} {kv : Value} {m : Nat} {ys : List Value} (h : ST c w0 w s0 x0 k0 sv n xs kv m ys) (o : Go.Obj) : ST c w0 (w.alloc o) s0 x0 k0 sv n xs kv m ys :=
  ⟨h.obj.alloc o, h.st.alloc o, h.ki.alloc o, h.on.tr (Only.alloc _ w o), by simp; have := h.bs; omega⟩
/-- Behind an append to the steps' row. -/
theorem ST.steps {c : WC} {w0 w w' : World} {s0 x0 k0 sv sv' : Value} {n n' : Nat} {xs xs' : List Value} {kv : Value} {m : Nat} {ys : List Value} (h : ST c w0 w s0 x0 k0 sv n xs kv m ys) (hown : w'.ownsRow c.B 34 2 sv' n' xs') (hg : w.grownBy w' sv.ownBlock) : ST c w0 w' s0 x0 k0 sv' n' xs' kv m ys := by
  have ho : Only (fun k => sv.ownBlock = some k) w w' := Only.of_grown hg (fun k hk => hk)
  refine ⟨h.obj.only ho (fun e => ?_), hown, ownsRow_only h.ki ho (fun k hk e => ?_), h.on.trans ho (fun k hk hn e => hn ?_), Nat.le_trans h.bs ho.size⟩
  · exact absurd (h.obj.ty.inj (ownsRow_ty h.st e).1) (by decide)
  · exact absurd ((ownsRow_ty h.ki hk).1.inj (ownsRow_ty h.st e).1) (by decide)
  · have ht := ownsRow_ty h.st e
    exact .inr ⟨ht.2.1, .inl (ht.1.keep h.on hk hn)⟩
theorem ST.kinds {c : WC} {w0 w w' : World} {s0 x0 k0 sv : Value} {n : Nat} {xs : List Value} {kv kv' : Value} {m m' : Nat} {ys ys' : List Value} (h : ST c w0 w s0 x0 k0 sv n xs kv m ys) (hown : w'.ownsRow c.B 3 1 kv' m' ys') (hg : w.grownBy w' kv.ownBlock) : ST c w0 w' s0 x0 k0 sv n xs kv' m' ys' := by
  have ho : Only (fun k => kv.ownBlock = some k) w w' := Only.of_grown hg (fun k hk => hk)
  refine ⟨h.obj.only ho (fun e => ?_), ownsRow_only h.st ho (fun k hk e => ?_), hown, h.on.trans ho (fun k hk hn e => hn ?_), Nat.le_trans h.bs ho.size⟩
  · exact absurd (h.obj.ty.inj (ownsRow_ty h.ki e).1) (by decide)
  · exact absurd ((ownsRow_ty h.st hk).1.inj (ownsRow_ty h.ki e).1) (by decide)
  · have ht := ownsRow_ty h.ki e
    exact .inr ⟨ht.2.1, .inr (ht.1.keep h.on hk hn)⟩
/-- Behind the stores. -/
theorem ST.fin {c : WC} {w0 w : World} {s0 x0 k0 sv : Value} {n : Nat} {xs : List Value} {kv : Value} {m : Nat} {ys : List Value} (h : ST c w0 w s0 x0 k0 sv n xs kv m ys) : ST c w0 ((w.setCell ⟨c.gw, 1, none⟩ sv).setCell ⟨c.gw, 3, none⟩ kv) sv x0 kv sv n xs kv m ys := by
  have ho : Only (fun k => k = c.gw) w ((w.setCell ⟨c.gw, 1, none⟩ sv).setCell ⟨c.gw, 3, none⟩ kv) := (Only.setCell (S := fun k => k = c.gw) w ⟨c.gw, 1, none⟩ sv rfl).tr (Only.setCell (S := fun k => k = c.gw) _ ⟨c.gw, 3, none⟩ kv rfl)
  refine ⟨(h.obj.set 1 sv).set 3 kv, ownsRow_only h.st ho (fun k hk e => ?_), ownsRow_only h.ki ho (fun k hk e => ?_), h.on.trans ho (fun k hk hn e => hn (.inl e)), Nat.le_trans h.bs ho.size⟩
  · rw [e] at hk; exact absurd (h.obj.ty.inj (ownsRow_ty h.st hk).1) (by decide)
  · rw [e] at hk; exact absurd (h.obj.ty.inj (ownsRow_ty h.ki hk).1) (by decide)

/-- The cells of a block just made, in worlds a little later. -/
theorem news_d (w : World) (vs : List Value) (T : TypeId) : ∀ j u, vs[j]? = some u → (w.alloc (.cells vs.toArray T)).cell? ((⟨w.heap.size, 0, none⟩ : Addr).add j) = some u := cells_new w T vs
theorem news_a (w : World) (vs : List Value) (T : TypeId) : ∀ j u, vs[j]? = some u → (w.alloc (.cells vs.toArray T)).drew.cell? ((⟨w.heap.size, 0, none⟩ : Addr).add j) = some u := cells_new w T vs
theorem news_b (w : World) (vs : List Value) (T : TypeId) (o : Go.Obj) : ∀ j u, vs[j]? = some u → ((w.alloc (.cells vs.toArray T)).alloc o).drew.cell? ((⟨w.heap.size, 0, none⟩ : Addr).add j) = some u := fun j u h => by
  have h1 := cells_new w T vs j u h
  exact cell_later ((Below.refl _ (w.alloc (.cells vs.toArray T))).alloc (Nat.le_refl _) o) rfl h1
theorem news_c (w : World) (o : Go.Obj) (vs : List Value) (T : TypeId) : ∀ j u, vs[j]? = some u → ((w.alloc o).alloc (.cells vs.toArray T)).drew.cell? ((⟨w.heap.size + 1, 0, none⟩ : Addr).add j) = some u := fun j u h => by
  have h1 := cells_new (w.alloc o) T vs j u h
  have e : (w.alloc o).heap.size = w.heap.size + 1 := by simp
  rw [e] at h1; exact h1
theorem news_far {c : WC} {w w' : World} {e : TypeId} {size n : Nat} {v : Value} {xs vs : List Value} {ad : Nat} (hr : w.ownsRow c.B e size v n xs) (hg : w.grownBy w' v.ownBlock) (hne : ∀ k, v.ownBlock = some k → k ≠ ad) (h : ∀ j u, vs[j]? = some u → w.cell? ((⟨ad, 0, none⟩ : Addr).add j) = some u) : ∀ j u, vs[j]? = some u → w'.cell? ((⟨ad, 0, none⟩ : Addr).add j) = some u := fun j u hu => by
  have h1 := h j u hu
  rw [Addr.add_lit] at h1 ⊢
  rw [World.cell?_of_block (w := w) (hg.block ad (World.block_lt_of_cell? w _ h1) (fun e => hne ad e.symm rfl))]
  exact h1

set_option maxRecDepth 100000 in
set_option maxHeartbeats 8000000 in
theorem wkStep_any (c : WC) (op n kd : Int) (w : World) (s0 x0 k0 : Value) (ln : Nat) (xs : List Value) (m : Nat) (ys : List Value) (h : ST c w w s0 x0 k0 s0 ln xs k0 m ys) (b1 : ln ≤ 10000000) (b2 : m ≤ 10000000) :
    Calls Tryd.prog 18 #[.pointer (some ⟨c.gw, 0, none⟩), .int .i64 op, .int .i64 n, .int .i64 kd] w fun e w' => e = .returned (.tuple #[]) ∧ ∃ sv kv, ST c w w' sv x0 kv sv (ln + 1) (xs ++ [.int .i64 op, .int .i64 n]) kv (m + 1) (ys ++ [.int .i64 kd]) := by
  have HST := Lib.hid h
  obtain ⟨sa, sc, hs0⟩ := row_shape h.st
  subst hs0
  obtain ⟨ka, kc, hk0⟩ := row_shape h.ki
  subst hk0
  have k1 := h.obj.cell 1 rfl
  have k3 := h.obj.cell 3 rfl
  clear h
  obtain ⟨gw, hgw⟩ : ∃ g, g = c.gw := ⟨_, rfl⟩
  rw [← hgw] at k1 k3 ⊢
  have HG := Lib.hid hgw
  clear hgw
  obtain ⟨i0, hi, hz0, hz1, hz2⟩ := info_parts (show (Tryd.prog.info? 34).map (fun i => (i.zero, i.size, i.bytes)) = some (some (.agg #[.int .i64 0, .int .i64 0]), 2, 16) by kernel_rfl)
  obtain ⟨j0, hj, hy0, hy1, hy2⟩ := info_parts (show (Tryd.prog.info? 3).map (fun i => (i.zero, i.size, i.bytes)) = some (some (.int .i64 0), 1, 8) by kernel_rfl)
  go_enter Tryd.func18, Tryd.ntmps18
  go_wp2_with fail
  have m01 := (HST.out.alloc (.cells #[.int .i64 op, .int .i64 n] 34)).obj.cell 1 rfl
  have m03 := (HST.out.alloc (.cells #[.int .i64 op, .int .i64 n] 34)).obj.cell 3 rfl
  have m11 := (HST.out.alloc (.cells #[.int .i64 kd] 3)).obj.cell 1 rfl
  have m13 := (HST.out.alloc (.cells #[.int .i64 kd] 3)).obj.cell 3 rfl
  have m21 := ((HST.out.alloc (.cells #[.int .i64 op, .int .i64 n] 34)).alloc (.cells #[.int .i64 kd] 3)).obj.cell 1 rfl
  have m23 := ((HST.out.alloc (.cells #[.int .i64 op, .int .i64 n] 34)).alloc (.cells #[.int .i64 kd] 3)).obj.cell 3 rfl
  have m31 := ((HST.out.alloc (.cells #[.int .i64 kd] 3)).alloc (.cells #[.int .i64 op, .int .i64 n] 34)).obj.cell 1 rfl
  have m33 := ((HST.out.alloc (.cells #[.int .i64 kd] 3)).alloc (.cells #[.int .i64 op, .int .i64 n] 34)).obj.cell 3 rfl
  rw [HG.out.symm] at m01 m03 m11 m13 m21 m23 m31 m33
  go_region_law (first
    | (refine step_append_own rfl (.tmp 13) (.tmp 17) 24 rfl c.B 34 i0 _ 2 16 Tryd.underlying24 hi hz0 hz1 hz2 (by simp [Value.cells]) (by decide) _ ln xs rfl ((HST.out.alloc (.cells #[.int .i64 op, .int .i64 n] 34)).drew).st ⟨w.heap.size, 0, none⟩ 1 1 [.int .i64 op, .int .i64 n] rfl rfl (news_a w _ _) (by simp [Value.oneCell']) (by unfold maxLen; omega) (by omega) ((HST.out.alloc (.cells #[.int .i64 op, .int .i64 n] 34)).drew).bs ?_; intro v2 w2 hown2 hgr2; obtain ⟨va2, vc2, hv2⟩ := row_shape hown2; subst hv2; have H2 := Lib.hid (((HST.out.alloc (.cells #[.int .i64 op, .int .i64 n] 34)).drew).steps hown2 hgr2); have _u : True := trivial; have a1 := H2.out.obj.cell 1 rfl; have a3 := H2.out.obj.cell 3 rfl; have f1 := H2.out.obj.free 1; have f3 := H2.out.obj.free 3; have g3 := (H2.out.alloc (.cells #[.int .i64 kd] 3)).obj.cell 3 rfl; rw [HG.out.symm] at a1 a3 f1 f3 g3; clear hown2 hgr2 m01 m03 m11 m13 m21 m23 m31 m33)
    | (refine step_append_own rfl (.tmp 13) (.tmp 17) 24 rfl c.B 34 i0 _ 2 16 Tryd.underlying24 hi hz0 hz1 hz2 (by simp [Value.cells]) (by decide) _ ln xs rfl (((HST.out.alloc (.cells #[.int .i64 op, .int .i64 n] 34)).alloc (.cells #[.int .i64 kd] 3)).drew).st ⟨w.heap.size, 0, none⟩ 1 1 [.int .i64 op, .int .i64 n] rfl rfl (news_b w _ _ _) (by simp [Value.oneCell']) (by unfold maxLen; omega) (by omega) (((HST.out.alloc (.cells #[.int .i64 op, .int .i64 n] 34)).alloc (.cells #[.int .i64 kd] 3)).drew).bs ?_; intro v2 w2 hown2 hgr2; obtain ⟨va2, vc2, hv2⟩ := row_shape hown2; subst hv2; have H2 := Lib.hid ((((HST.out.alloc (.cells #[.int .i64 op, .int .i64 n] 34)).alloc (.cells #[.int .i64 kd] 3)).drew).steps hown2 hgr2); have HKN := Lib.hid (news_far (c := c) (ad := w.heap.size + 1) (((HST.out.alloc (.cells #[.int .i64 op, .int .i64 n] 34)).alloc (.cells #[.int .i64 kd] 3)).drew).st hgr2 (by have h0 := HST.out.st; intro k hk; have := (ownsRow_ty h0 hk).2.2; omega) (news_c w (.cells #[.int .i64 op, .int .i64 n] 34) [.int .i64 kd] 3)); have a1 := H2.out.obj.cell 1 rfl; have a3 := H2.out.obj.cell 3 rfl; have f1 := H2.out.obj.free 1; have f3 := H2.out.obj.free 3; have g3 := (H2.out.alloc (.cells #[.int .i64 kd] 3)).obj.cell 3 rfl; rw [HG.out.symm] at a1 a3 f1 f3 g3; clear hown2 hgr2 m01 m03 m11 m13 m21 m23 m31 m33)
    | (refine step_append_own rfl (.tmp 13) (.tmp 17) 24 rfl c.B 34 i0 _ 2 16 Tryd.underlying24 hi hz0 hz1 hz2 (by simp [Value.cells]) (by decide) _ ln xs rfl (((HST.out.alloc (.cells #[.int .i64 kd] 3)).alloc (.cells #[.int .i64 op, .int .i64 n] 34)).drew).st ⟨w.heap.size + 1, 0, none⟩ 1 1 [.int .i64 op, .int .i64 n] rfl rfl (news_c w _ _ _) (by simp [Value.oneCell']) (by unfold maxLen; omega) (by omega) (((HST.out.alloc (.cells #[.int .i64 kd] 3)).alloc (.cells #[.int .i64 op, .int .i64 n] 34)).drew).bs ?_; intro v2 w2 hown2 hgr2; obtain ⟨va2, vc2, hv2⟩ := row_shape hown2; subst hv2; have H2 := Lib.hid ((((HST.out.alloc (.cells #[.int .i64 kd] 3)).alloc (.cells #[.int .i64 op, .int .i64 n] 34)).drew).steps hown2 hgr2); have HKN := Lib.hid (news_far (c := c) (ad := w.heap.size) (((HST.out.alloc (.cells #[.int .i64 kd] 3)).alloc (.cells #[.int .i64 op, .int .i64 n] 34)).drew).st hgr2 (by have h0 := HST.out.st; intro k hk; have := (ownsRow_ty h0 hk).2.2; omega) (news_b w [.int .i64 kd] 3 (.cells #[.int .i64 op, .int .i64 n] 34))); have a1 := H2.out.obj.cell 1 rfl; have a3 := H2.out.obj.cell 3 rfl; have f1 := H2.out.obj.free 1; have f3 := H2.out.obj.free 3; have g3 := (H2.out.alloc (.cells #[.int .i64 kd] 3)).obj.cell 3 rfl; rw [HG.out.symm] at a1 a3 f1 f3 g3; clear hown2 hgr2 m01 m03 m11 m13 m21 m23 m31 m33)
    | (refine step_append_own rfl (.tmp 22) (.tmp 24) 23 rfl c.B 3 j0 _ 1 8 Tryd.underlying23 hj hy0 hy1 hy2 rfl (by decide) _ m ys rfl (H2.out.alloc (.cells #[.int .i64 kd] 3)).ki ⟨w2.heap.size, 0, none⟩ 1 1 [.int .i64 kd] rfl rfl (news_d w2 _ _) (by simp [Value.oneCell']) (by unfold maxLen; omega) (by omega) (H2.out.alloc (.cells #[.int .i64 kd] 3)).bs ?_; intro v3 w3 hown3 hgr3; obtain ⟨va3, vc3, hv3⟩ := row_shape hown3; subst hv3; have H3 := Lib.hid ((H2.out.alloc (.cells #[.int .i64 kd] 3)).kinds hown3 hgr3); have d1 := H3.out.obj.cell 1 rfl; have d3 := H3.out.obj.cell 3 rfl; have e1 := H3.out.obj.free 1; have e3 := H3.out.obj.free 3; rw [HG.out.symm] at d1 d3 e1 e3; clear hown3 hgr3)
    | (refine step_append_own rfl (.tmp 22) (.tmp 24) 23 rfl c.B 3 j0 _ 1 8 Tryd.underlying23 hj hy0 hy1 hy2 rfl (by decide) _ m ys rfl ((H2.out.alloc (.cells #[.int .i64 kd] 3)).drew).ki ⟨w2.heap.size, 0, none⟩ 1 1 [.int .i64 kd] rfl rfl (news_a w2 _ _) (by simp [Value.oneCell']) (by unfold maxLen; omega) (by omega) ((H2.out.alloc (.cells #[.int .i64 kd] 3)).drew).bs ?_; intro v3 w3 hown3 hgr3; obtain ⟨va3, vc3, hv3⟩ := row_shape hown3; subst hv3; have H3 := Lib.hid (((H2.out.alloc (.cells #[.int .i64 kd] 3)).drew).kinds hown3 hgr3); have d1 := H3.out.obj.cell 1 rfl; have d3 := H3.out.obj.cell 3 rfl; have e1 := H3.out.obj.free 1; have e3 := H3.out.obj.free 3; rw [HG.out.symm] at d1 d3 e1 e3; clear hown3 hgr3)
    | (refine step_append_own rfl (.tmp 22) (.tmp 24) 23 rfl c.B 3 j0 _ 1 8 Tryd.underlying23 hj hy0 hy1 hy2 rfl (by decide) _ m ys rfl (H2.out).ki ⟨w.heap.size + 1, 0, none⟩ 1 1 [.int .i64 kd] rfl rfl HKN.out (by simp [Value.oneCell']) (by unfold maxLen; omega) (by omega) (H2.out).bs ?_; intro v3 w3 hown3 hgr3; obtain ⟨va3, vc3, hv3⟩ := row_shape hown3; subst hv3; have H3 := Lib.hid ((H2.out).kinds hown3 hgr3); have d1 := H3.out.obj.cell 1 rfl; have d3 := H3.out.obj.cell 3 rfl; have e1 := H3.out.obj.free 1; have e3 := H3.out.obj.free 3; rw [HG.out.symm] at d1 d3 e1 e3; clear hown3 hgr3)
    | (refine step_append_own rfl (.tmp 22) (.tmp 24) 23 rfl c.B 3 j0 _ 1 8 Tryd.underlying23 hj hy0 hy1 hy2 rfl (by decide) _ m ys rfl (H2.out).ki ⟨w.heap.size, 0, none⟩ 1 1 [.int .i64 kd] rfl rfl HKN.out (by simp [Value.oneCell']) (by unfold maxLen; omega) (by omega) (H2.out).bs ?_; intro v3 w3 hown3 hgr3; obtain ⟨va3, vc3, hv3⟩ := row_shape hown3; subst hv3; have H3 := Lib.hid ((H2.out).kinds hown3 hgr3); have d1 := H3.out.obj.cell 1 rfl; have d3 := H3.out.obj.cell 3 rfl; have e1 := H3.out.obj.free 1; have e3 := H3.out.obj.free 3; rw [HG.out.symm] at d1 d3 e1 e3; clear hown3 hgr3))
  all_goals
    have HZ := Lib.hid H3.out.fin
    rw [HG.out.symm] at HZ
    go_end0
    exact ⟨rfl, _, _, HZ.out⟩
end Go.Proofs.YthipghkhdlnfiaaDoor
