/- The law's writer of chunks of names and bytes: written. -/
import Derived.Test.YthipghkhdlnfiaaDoorRfP
import Derived.Test.YthipghkhdlnfiaaDoorSum
import Derived.Test.YthipghkhdlnfiaaDoorQuietTail
import Derived.Test.YthipghkhdlnfiaaDoorRfR
import Derived.BigQuiet
import Derived.Deep.RegionHeld3
import Derived.Deep.AppendLies
namespace Go.Proofs.YthipghkhdlnfiaaDoor
open Go.RowKit
set_option linter.unusedVariables false

/-- The i-th name, the i-th bytes. -/
def idL (f : Nat → Int) (i : Nat) : List Int := [f (i * 4), f (i * 4 + 1), f (i * 4 + 2), f (i * 4 + 3)]
def dtL (L : Nat → Nat) (Z : Nat → Nat → Int) (i : Nat) : List Int := (List.range (L i)).map (Z i)
theorem dtL_length (L : Nat → Nat) (Z : Nat → Nat → Int) (i : Nat) : (dtL L Z i).length = L i := by simp [dtL]
/-- The first i chunks as they are written, and as they are read. -/
def bodyB (f : Nat → Int) (L : Nat → Nat) (Z : Nat → Nat → Int) : Nat → List Int
  | 0 => []
  | i + 1 => bodyB f L Z i ++ chunkB (idL f i) (dtL L Z i)
def wantCell (f : Nat → Int) (A : Nat → Option Addr) (L C : Nat → Nat) (i : Nat) : List Value := [.int .u8 (f (i * 4)), .int .u8 (f (i * 4 + 1)), .int .u8 (f (i * 4 + 2)), .int .u8 (f (i * 4 + 3)), .int .i64 (L i), .slice (A i) (L i) (C i), .int .i64 0]
def wantC (f : Nat → Int) (A : Nat → Option Addr) (L C : Nat → Nat) : Nat → List Value
  | 0 => []
  | i + 1 => wantC f A L C i ++ wantCell f A L C i
theorem wantCell_one (f : Nat → Int) (A : Nat → Option Addr) (L C : Nat → Nat) (i : Nat) : ∀ u ∈ wantCell f A L C i, u.oneCell' = true := by
  intro u hu
  simp only [wantCell, List.mem_cons, List.not_mem_nil, or_false] at hu
  rcases hu with rfl | rfl | rfl | rfl | rfl | rfl | rfl <;> rfl
theorem chunkB_len {id : List Int} (hid : id.length = 4) (l : List Int) : (chunkB id l).length ≤ l.length + 9 ∧ 8 ≤ (chunkB id l).length := by
  simp only [chunkB, List.length_append, hid, le4, List.length_cons, List.length_nil]
  split <;> simp <;> omega
theorem bodyB_len (f : Nat → Int) (L : Nat → Nat) (Z : Nat → Nat → Int) : ∀ i, (bodyB f L Z i).length ≤ lens L i + 9 * i
  | 0 => Nat.le_refl _
  | i + 1 => by
    have h1 := bodyB_len f L Z i
    have h2 := (chunkB_len (id := idL f i) rfl (dtL L Z i)).1
    rw [dtL_length] at h2
    show (bodyB f L Z i ++ chunkB (idL f i) (dtL L Z i)).length ≤ (lens L i + L i) + 9 * (i + 1)
    rw [List.length_append]; omega
theorem lens_le {L : Nat → Nat} {m : Nat} (h : ∀ r, r < m → L r ≤ 1048576) : ∀ i, i ≤ m → lens L i ≤ i * 1048576
  | 0, _ => Nat.zero_le _
  | i + 1, hi => by
    have h1 := lens_le h i (by omega)
    have h2 := h i (by omega)
    show lens L i + L i ≤ (i + 1) * 1048576
    omega
theorem drewN_below (w : World) (d : Nat) : Below w.heap.size w (w.drewN d) := ⟨rfl, rfl, rfl, Nat.le_refl _, fun _ _ => rfl⟩
/-- A row of bytes that came in, as it is read. -/
theorem rows2_src {w : World} {a : Option Addr} {n : Nat} {A : Nat → Option Addr} {L C : Nat → Nat} {Z : Nat → Nat → Int} (h : Rows2 .u8 w a n A L C Z) (r : Nat) (hr : r < n) : Src w (A r) (C r) (dtL L Z r) := by
  obtain ⟨_, h1, h2, h3, h4, _⟩ := h r hr
  match hA : A r with
  | none =>
    have := h4 hA
    refine .inl ⟨rfl, this, ?_⟩
    exact List.eq_nil_of_length_eq_zero (by rw [dtL_length]; omega)
  | some ad =>
    refine .inr ⟨ad, rfl, fun j u hu => ?_⟩
    have hj : j < L r := by
      have := (List.getElem?_eq_some_iff.1 hu).1
      rw [u8s_length, dtL_length] at this; exact this
    obtain ⟨g, o, ha, _, hrow⟩ := h3 (by omega)
    rw [hA] at ha
    injection ha with ha
    subst ha
    rw [Addr.add_lit, hrow j hj, ← hu]
    simp [u8s, dtL, hj]
theorem Rows2.below {w w' : World} {a : Option Addr} {n : Nat} {A : Nat → Option Addr} {L C : Nat → Nat} {Z : Nat → Nat → Int} (h : Rows2 .u8 w a n A L C Z) (hb : Below w.heap.size w w') : Rows2 .u8 w' a n A L C Z := fun r hr => by
  obtain ⟨⟨g, o, h0, h1⟩, h2, h3, h4, h5, h6⟩ := h r hr
  exact ⟨⟨g, o, h0, cell_later hb rfl h1⟩, h2, h3, h4.below hb, h5, h6⟩

/-- What is older than a row of the call's own stays where one appends to it. -/
theorem far_app {B : Nat} {e : TypeId} {size n : Nat} {v : Value} {xs : List Value} {w w' : World} (hg : w.grownBy w' v.ownBlock) (hr : w.ownsRow B e size v n xs) {p : Addr} {u : Value} (h : w.cell? p = some u) (hp : p.block < B) : w'.cell? p = some u := by
  rw [World.cell?_of_block (w := w) (hg.block p.block (World.block_lt_of_cell? w p h) (fun e => by have := (ownsRow_ty hr e.symm).2.1; omega))]; exact h

set_option maxRecDepth 100000 in
set_option maxHeartbeats 4000000 in
theorem written_any (a : Option Addr) (n c : Nat) (f : Nat → Int) (b : Option Addr) (m d : Nat) (A : Nat → Option Addr) (L C : Nat → Nat) (Z : Nat → Nat → Int) (w : World) (ha : Arg .u8 w a (n * 4) f) (hb : Rows2 .u8 w b m A L C Z) (hn : n ≤ 4096) (hL : ∀ r, r < m → L r ≤ 1048576) (hm : m ≤ 1048576) :
    Calls Tryd.prog 13 #[.slice a n c, .slice b m d] w fun e w' => ∃ v u, e = .returned (.tuple #[v, u]) ∧ w'.ownsRow w.heap.size 5 1 v (bodyB f L Z (min n m)).length (u8s (bodyB f L Z (min n m))) ∧ w'.ownsRow w.heap.size 43 7 u (min n m) (wantC f A L C (min n m)) ∧ Below w.heap.size w w' := by
  obtain ⟨B, hB⟩ : ∃ B, B = w.heap.size := ⟨_, rfl⟩
  rw [← hB]
  obtain ⟨K, hK⟩ : ∃ K, K = min n m := ⟨_, rfl⟩
  rw [← hK]
  have k1 : K ≤ n := by omega
  have k2 : K ≤ m := by omega
  have k3 : K = n ∨ K = m := by omega
  clear hK
  have HX := Lib.hid (And.intro hB (And.intro ha (And.intro hb hL)))
  clear hB ha hb hL
  obtain ⟨i0, hi, hz0, hz1, hz2⟩ := info_parts (show (Tryd.prog.info? 5).map (fun i => (i.zero, i.size, i.bytes)) = some (some (.int .u8 0), 1, 1) by kernel_rfl)
  have HI := Lib.hid (And.intro hi (And.intro hz0 (And.intro hz1 hz2)))
  clear hi hz0 hz1 hz2
  obtain ⟨j0, hj, hy0, hy1, hy2⟩ := info_parts (show (Tryd.prog.info? 43).map (fun i => (i.zero, i.size, i.bytes)) = some (some (.agg #[.int .u8 0, .int .u8 0, .int .u8 0, .int .u8 0, .int .i64 0, .slice none 0 0, .int .i64 0]), 7, 48) by kernel_rfl)
  have HJ := Lib.hid (And.intro hj (And.intro hy0 (And.intro hy1 hy2)))
  clear hj hy0 hy1 hy2
  go_enter Tryd.func13, Tryd.ntmps13
  go_wp2
  go_loopg [6, 7, 8] (K + 1) (fun g s6 s7 s8 wr => ∃ i : Nat, i ≤ K ∧ K - i + 1 ≤ g ∧ s8 = .int .i64 i ∧ Hid (wr.ownsRow B 5 1 s6 (bodyB f L Z i).length (u8s (bodyB f L Z i)) ∧ wr.ownsRow B 43 7 s7 i (wantC f A L C i) ∧ Below B w wr))
  case atStart => exact ⟨0, by omega, by omega, rfl, World.ownsRow_nil _ _ _ _, World.ownsRow_nil _ _ _ _, Below.refl _ _⟩
  case round =>
    obtain ⟨i, hi4, hg, rfl, hR⟩ := hrel
    have HG := Lib.hid hg; clear hg
    obtain ⟨sa, sc, hs⟩ := row_shape hR.out.1
    subst hs
    obtain ⟨ta, tc, hs⟩ := row_shape hR.out.2.1
    subst hs
    by_cases hlt : i < K
    · have hin : i < n := by omega
      have him : i < m := by omega
      obtain ⟨ga, oa, rfl, hga, hra⟩ := HX.out.2.1 (by omega)
      have hb0 := cell_later hR.out.2.2 HX.out.1 (hra (i * 4) (by omega))
      have hb1 := cell_later hR.out.2.2 HX.out.1 (hra (i * 4 + 1) (by omega))
      have hb2 := cell_later hR.out.2.2 HX.out.1 (hra (i * 4 + 2) (by omega))
      have hb3 := cell_later hR.out.2.2 HX.out.1 (hra (i * 4 + 3) (by omega))
      rw [← Nat.add_assoc] at hb1 hb2 hb3
      obtain ⟨⟨gb, ob, rfl, hcd⟩, hlc, hcm, _, _, _⟩ := HX.out.2.2.1 i him
      have hd0 := cell_later hR.out.2.2 HX.out.1 hcd
      have hLi := HX.out.2.2.2 i him
      have hbl : Hid ((bodyB f L Z i).length ≤ 5000000000 ∧ (chunkB (idL f i) (dtL L Z i)).length ≤ 5000000000 ∧ 8 ≤ (chunkB (idL f i) (dtL L Z i)).length ∧ wr.heap.size ≥ B) := Lib.hid (by
        have h1 := bodyB_len f L Z i
        have h2 := lens_le HX.out.2.2.2 i (by omega)
        have h3 := chunkB_len (id := idL f i) rfl (dtL L Z i)
        rw [dtL_length] at h3
        exact ⟨by omega, by omega, h3.2, Nat.le_trans (by have := HX.out.1; omega) hR.out.2.2.size⟩)
      have HC : Hid (Calls Tryd.prog 19 #[.agg #[.int .u8 (f (i * 4)), .int .u8 (f (i * 4 + 1)), .int .u8 (f (i * 4 + 2)), .int .u8 (f (i * 4 + 3))], .slice (A i) (L i) (C i)] wr.drew fun e w' => ∃ gl cl, e = .returned (.slice (some ⟨gl, 0, none⟩) (chunkB (idL f i) (dtL L Z i)).length cl) ∧ (∀ j u, (u8s (chunkB (idL f i) (dtL L Z i)))[j]? = some u → w'.cell? ((⟨gl, 0, none⟩ : Addr).add j) = some u) ∧ Below wr.heap.size wr w') := Lib.hid (by
        have h := chunk_any (f (i * 4)) (f (i * 4 + 1)) (f (i * 4 + 2)) (f (i * 4 + 3)) (A i) (C i) (dtL L Z i) wr.drew (((rows2_src HX.out.2.2.1 i him).below (by rw [← HX.out.1]; exact hR.out.2.2)).below (drewN_below wr 1)) (by rw [dtL_length]; omega)
        rw [dtL_length] at h
        refine h.mono ?_
        rintro _ w' ⟨v, rfl, ho, hb⟩
        obtain ⟨gl, cl, cur, hv, _⟩ := own_block ho (by have := hbl.out.2.2.1; exact Nat.lt_of_lt_of_le (by decide) this)
        subst hv
        exact ⟨gl, cl, rfl, World.ownsRow.cells ho rfl, (drewN_below wr 1).trans hb⟩)
      have hbt : Hid (ga < B ∧ gb < B) := Lib.hid (by
        have h1 := World.block_lt_of_cell? w _ hcd
        have h2 := HX.out.1
        exact ⟨by omega, by simp only at h1; omega⟩)
      have HRA := Lib.hid (And.intro hra hcd)
      clear hra hcd hga hlc hcm hLi
      go_wp2_with fail
      obtain ⟨hi, hz0, hz1, hz2⟩ := HI.out
      go_region_held3 (fun w' => w'.cell? ⟨ga, oa + i * 4, none⟩ = some (.int .u8 (f (i * 4))) ∧ w'.cell? ⟨ga, oa + i * 4 + 1, none⟩ = some (.int .u8 (f (i * 4 + 1))) ∧ w'.cell? ⟨ga, oa + i * 4 + 2, none⟩ = some (.int .u8 (f (i * 4 + 2))) ∧ w'.cell? ⟨ga, oa + i * 4 + 3, none⟩ = some (.int .u8 (f (i * 4 + 3))) ∧ w'.cell? ⟨gb, ob + i, none⟩ = some (.slice (A i) (L i) (C i)))
        (first
          | with_reducible exact ⟨hb0, hb1, hb2, hb3, hd0⟩
          | with_reducible exact ⟨kb0, kb1, kb2, kb3, kd0⟩
          | (simp only [drew_cell]; with_reducible exact ⟨hb0, hb1, hb2, hb3, hd0⟩)
          | (simp only [drew_cell]; with_reducible exact ⟨kb0, kb1, kb2, kb3, kd0⟩)
          | (with_reducible exact ⟨lb0, lb1, lb2, lb3, ld0⟩))
        (first
          | (go_at_call 19; refine HC.out.mono ?_; rintro _ w2 ⟨gl, cl, rfl, hcl, hbw⟩; have kb0 := cell_later hbw rfl hb0; have kb1 := cell_later hbw rfl hb1; have kb2 := cell_later hbw rfl hb2; have kb3 := cell_later hbw rfl hb3; have kd0 := cell_later hbw rfl hd0; have H2 : Hid (w2.ownsRow B 5 1 (.slice sa (bodyB f L Z i).length sc) (bodyB f L Z i).length (u8s (bodyB f L Z i)) ∧ w2.ownsRow B 43 7 (.slice ta i tc) i (wantC f A L C i) ∧ Below B w w2 ∧ B ≤ w2.heap.size ∧ (∀ j u, (u8s (chunkB (idL f i) (dtL L Z i)))[j]? = some u → w2.cell? ((⟨gl, 0, none⟩ : Addr).add j) = some u)) := Lib.hid (by
              have hb := hR.out.2.2.trans (hbw.mono hbl.out.2.2.2)
              exact ⟨ownsRow_only hR.out.1 (Only.of_below (S := fun _ => False) hbw) (fun _ _ h => h), ownsRow_only hR.out.2.1 (Only.of_below (S := fun _ => False) hbw) (fun _ _ h => h), hb, Nat.le_trans hbl.out.2.2.2 hbw.size, hcl⟩); clear hcl hbw)
          | (refine step_append_own rfl (.tmp 21) (.tmp 30) 22 rfl B 5 i0 (.int .u8 0) 1 1 Tryd.underlying22 hi hz0 hz1 hz2 rfl (by decide) _ _ _ rfl H2.out.1 ⟨gl, 0, none⟩ (chunkB (idL f i) (dtL L Z i)).length cl (u8s (chunkB (idL f i) (dtL L Z i))) rfl (by rw [u8s_length, Nat.mul_one]) H2.out.2.2.2.2 (u8s_one _) (by have := hbl.out; unfold maxLen; omega) (by have := hbl.out; omega) H2.out.2.2.2.1 ?_; intro v3 w3 hown3 hgr3; have lb0 := (far_app hgr3 H2.out.1 kb0 hbt.out.1); have lb1 := (far_app hgr3 H2.out.1 kb1 hbt.out.1); have lb2 := (far_app hgr3 H2.out.1 kb2 hbt.out.1); have lb3 := (far_app hgr3 H2.out.1 kb3 hbt.out.1); have ld0 := (far_app hgr3 H2.out.1 kd0 hbt.out.2); have H3 := Lib.hid (And.intro hown3 hgr3); clear hown3 hgr3))
      clear hb0 hb1 hb2 hb3 hd0 kb0 kb1 kb2 kb3 kd0
      obtain ⟨va, vc, hv3⟩ := row_shape H3.out.1
      subst hv3
      have HW : Hid (w3.ownsRow B 5 1 (.slice va ((bodyB f L Z i).length + (chunkB (idL f i) (dtL L Z i)).length) vc) ((bodyB f L Z i).length + (chunkB (idL f i) (dtL L Z i)).length) (u8s (bodyB f L Z i) ++ u8s (chunkB (idL f i) (dtL L Z i))) ∧ w3.ownsRow B 43 7 (.slice ta i tc) i (wantC f A L C i) ∧ Below B w w3 ∧ B ≤ w3.heap.size) := Lib.hid (by
        have hb := below_own H2.out.2.2.1 (by have := HX.out.1; omega) H2.out.1 H3.out.2
        exact ⟨H3.out.1, ownsRow_only H2.out.2.1 (Only.of_grown H3.out.2 (fun k hk => hk)) (fun k hk hs => absurd ((ownsRow_ty H2.out.1 hs).1.inj (ownsRow_ty H2.out.2.1 hk).1) (by decide)), hb, Nat.le_trans (by have := HX.out.1; omega) hb.size⟩)
      have HWD : Hid ((w3.alloc (.cells (wantCell f A L C i).toArray 43)).drew.ownsRow B 43 7 (.slice ta i tc) i (wantC f A L C i)) := Lib.hid (HW.out.2.1.alloc _).drew
      have HD : Hid (Below w3.heap.size w3 (w3.alloc (.cells (wantCell f A L C i).toArray 43)).drew) := Lib.hid (((Below.refl _ w3).alloc (Nat.le_refl _) _).trans (drewN_below _ 1 |>.mono (by simp)))
      unfold wantCell at HWD HD
      clear H2 H3
      obtain ⟨hj, hy0, hy1, hy2⟩ := HJ.out
      go_upto_region 7 with fail
      go_region_held3 (fun w' => w'.cell? ⟨ga, oa + i * 4, none⟩ = some (.int .u8 (f (i * 4))) ∧ w'.cell? ⟨ga, oa + i * 4 + 1, none⟩ = some (.int .u8 (f (i * 4 + 1))) ∧ w'.cell? ⟨ga, oa + i * 4 + 2, none⟩ = some (.int .u8 (f (i * 4 + 2))) ∧ w'.cell? ⟨ga, oa + i * 4 + 3, none⟩ = some (.int .u8 (f (i * 4 + 3))) ∧ w'.cell? ⟨gb, ob + i, none⟩ = some (.slice (A i) (L i) (C i)))
        (first
          | with_reducible exact ⟨lb0, lb1, lb2, lb3, ld0⟩
          | (simp only [drew_cell]; with_reducible exact ⟨lb0, lb1, lb2, lb3, ld0⟩)
          | with_reducible exact ⟨mb0, mb1, mb2, mb3, md0⟩
          | go_keep)
        (first
          | (refine step_append_own rfl (.tmp 32) (.tmp 47) 27 rfl B 43 j0 _ 7 48 Tryd.underlying27 hj hy0 hy1 hy2 (by simp [Value.cells]) (by decide) _ _ _ rfl HWD.out ⟨w3.heap.size, 0, none⟩ 1 1 (wantCell f A L C i) rfl rfl (World.news_of_block (heap_alloc_new w3 _)) (wantCell_one f A L C i) (by unfold maxLen; omega) (by omega) (by simp; have := HW.out.2.2.2; omega) ?_; intro v5 w5 hown5 hgr5; have mb0 := far_app hgr5 HWD.out (cell_later HD.out rfl lb0) hbt.out.1; have mb1 := far_app hgr5 HWD.out (cell_later HD.out rfl lb1) hbt.out.1; have mb2 := far_app hgr5 HWD.out (cell_later HD.out rfl lb2) hbt.out.1; have mb3 := far_app hgr5 HWD.out (cell_later HD.out rfl lb3) hbt.out.1; have md0 := far_app hgr5 HWD.out (cell_later HD.out rfl ld0) hbt.out.2; have H5 := Lib.hid (And.intro hown5 hgr5); clear hown5 hgr5))
      clear lb0 lb1 lb2 lb3 ld0 mb0 mb1 mb2 mb3 md0
      have H6 : Hid (w5.ownsRow B 5 1 (.slice va ((bodyB f L Z i).length + (chunkB (idL f i) (dtL L Z i)).length) vc) (bodyB f L Z (i + 1)).length (u8s (bodyB f L Z (i + 1))) ∧ w5.ownsRow B 43 7 v5 (i + 1) (wantC f A L C (i + 1)) ∧ Below B w w5) := Lib.hid (by
        have e1 : (bodyB f L Z (i + 1)).length = (bodyB f L Z i).length + (chunkB (idL f i) (dtL L Z i)).length := by
          show (bodyB f L Z i ++ chunkB (idL f i) (dtL L Z i)).length = _
          rw [List.length_append]
        have e2 : u8s (bodyB f L Z (i + 1)) = u8s (bodyB f L Z i) ++ u8s (chunkB (idL f i) (dtL L Z i)) := by
          show u8s (bodyB f L Z i ++ chunkB (idL f i) (dtL L Z i)) = _
          unfold u8s; rw [List.map_append]
        rw [e1, e2]
        have ho : Only (fun k => (Value.slice ta i tc).ownBlock = some k) w3 w5 := (Only.of_below HD.out).tr (Only.of_grown H5.out.2 (fun k hk => hk))
        refine ⟨ownsRow_only HW.out.1 ho (fun k hk hs => absurd ((ownsRow_ty HW.out.2.1 hs).1.inj (ownsRow_ty HW.out.1 hk).1) (by decide)), H5.out.1, ?_⟩
        exact HW.out.2.2.1.trans (ho.below HW.out.2.2.2 (fun k hk => (ownsRow_ty HW.out.2.1 hk).2.1)))
      clear H5 HW HWD HD
      go_upto_region 5 with fail
      generalize (Value.slice va _ vc) = v6 at H6 ⊢
      go_wp2
      go_roundg (gk - 1)
      case measure => have := HG.out; omega
      case rel => exact ⟨i + 1, by omega, by have := HG.out; omega, by go_num, H6.out.1, H6.out.2.1, H6.out.2.2⟩
    · obtain rfl : i = K := by omega
      by_cases h1 : i < n
      · have h2 : ¬ i < m := by omega
        go_wp2
        go_ret2
        exact ⟨_, _, rfl, hR.out.1, hR.out.2.1, hR.out.2.2⟩
      · go_wp2
        go_ret2
        exact ⟨_, _, rfl, hR.out.1, hR.out.2.1, hR.out.2.2⟩
end Go.Proofs.YthipghkhdlnfiaaDoor
