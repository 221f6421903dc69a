/- The reference's symbol: what bits tell by counts and a list of symbols. -/
import Derived.Test.YtdmefbpfpmkdcaaDoorSRead
namespace Go.Proofs.YtdmefbpfpmkdcaaDoor
open Go.RowKit
set_option linter.unusedVariables false

/-- The cells of the reference's code: how many codes of each length there are, and the symbols. -/
def cdCells (h : Nat → Nat) (v : Value) : List Value := (List.range 16).map (fun l => .int .i64 (h l : Int)) ++ [v]
theorem cdCells_at (h : Nat → Nat) (v : Value) (l : Nat) (hl : l < 16) : (cdCells h v)[l]? = some (.int .i64 (h l : Int)) := by
  unfold cdCells
  rw [List.getElem?_append_left (by simpa using hl)]
  simp [hl]
theorem cdCells_sym (h : Nat → Nat) (v : Value) : (cdCells h v)[16]? = some v := by
  unfold cdCells
  rw [List.getElem?_append_right (by simp)]
  simp
/-- Numbers of a list. -/
def listF (l : List Nat) (i : Nat) : Int := ((l.getD i 0 : Nat) : Int)
/-- The code of lengths c, as the reference has it: cs are its cells, its symbols lie where they lie. -/
structure CodeR (w : World) (h : Nat → Nat) (l : List Nat) (cs : Array Value) (sa : Option Addr) (sc : Nat) : Prop where
  cells : cs = (cdCells h (.slice sa l.length sc)).toArray
  row : Arg .i64 w sa l.length (listF l)
theorem CodeR.only {T : Nat → Prop} {w w' : World} {h : Nat → Nat} {l : List Nat} {cs : Array Value} {sa : Option Addr} {sc : Nat} (k : CodeR w h l cs sa sc) (ho : Only T w w') (hn : 0 < l.length → ∀ x, sa = some x → ¬ T x.block) : CodeR w' h l cs sa sc :=
  ⟨k.cells, k.row.only ho hn⟩

theorem bef_le (c : Nat → Nat) (n : Nat) : ∀ L, (∀ i, i < n → c i ≤ 15) → L ≤ 15 → bef c n L ≤ n := fun L hc hL => by
  have hm : ∀ m, m ≤ n → bef c m L ≤ m := fun m => by
    induction m with
    | zero =>
      intro _
      have : ∀ L, bef c 0 L = 0 := fun L => by
        induction L with
        | zero => rfl
        | succ L ih => rw [bef, ih]; rfl
      rw [this]; exact Nat.le_refl _
    | succ m ih =>
      intro hm
      have ih := ih (by omega)
      have hs : ∀ L, bef c (m + 1) L ≤ bef c m L + 1 ∧ (L < c m ∨ c m = 0 → bef c (m + 1) L = bef c m L) := fun L => by
        induction L with
        | zero => exact ⟨by simp [bef], fun _ => rfl⟩
        | succ L ih2 =>
          rw [bef, bef]
          simp only [cnt]
          split
          · rename_i e
            have := ih2.2 (by omega)
            exact ⟨by omega, fun h => by omega⟩
          · rename_i e
            refine ⟨by omega, fun h => ?_⟩
            have := ih2.2 (by omega)
            omega
      have := (hs L).1
      omega
  exact hm n (Nat.le_refl _)

set_option maxRecDepth 100000 in
set_option maxHeartbeats 400000 in
theorem ssym_any (g : Nat) (a : Option Addr) (nb cb : Nat) (f : Nat → Int) (S p : Nat) (op : Bool) (c : Nat → Nat) (n : Nat) (cs : Array Value) (sa : Option Addr) (sc k s : Nat) (w : World) (h : SB w g a nb cb f S p false op) (hw : Whole c n)
    (hr : CodeR w (hh c n) (sys c n 15) cs sa sc) (h1 : (sys c n 15).length ≠ 1) (hsg : 0 < (sys c n 15).length → ∀ x, sa = some x → x.block ≠ g) (ht : Tells (codesL c n n) (S / 2 ^ p) k s) :
    Calls Tryd.prog 59 #[.pointer (some ⟨g, 0, none⟩), .agg cs] w fun e w' =>
      ((p + k ≤ 8 * nb ∧ e = .returned (.int .i64 s) ∧ SB w' g a nb cb f S (p + k) false op) ∨ (8 * nb < p + k ∧ e = .returned (.int .i64 0) ∧ SB w' g a nb cb f S (8 * nb) true op)) ∧ Only (fun k => k = g) w w' := by
  obtain ⟨M, hM⟩ : ∃ M, M = (sys c n 15).length := ⟨_, rfl⟩
  have hgl := h.obj.lt
  have hcl := hr.cells
  subst hcl
  rw [← hM] at h1 hsg ⊢
  have hn := hw.max
  have HI : Hid (∀ i, i < M → 0 ≤ listF (sys c n 15) i) := Lib.hid (fun i _ => by unfold listF; omega)
  have H1 : Hid (SObj (w.alloc (.cells (cdCells (hh c n) (.slice sa M sc)).toArray 86)) w.heap.size 86 (cdCells (hh c n) (.slice sa M sc)) ∧ Only (fun _ => False) w (w.alloc (.cells (cdCells (hh c n) (.slice sa M sc)).toArray 86)) ∧ Arg .i64 w sa M (listF (sys c n 15))) := Lib.hid ⟨obj_new _ _ _, Only.alloc _ _ _, by rw [hM]; exact hr.row⟩
  have H := Lib.hid (And.intro h (And.intro hw (And.intro hsg (And.intro ht hM))))
  clear h hw hsg ht hr hM
  obtain ⟨cl, hcl⟩ : ∃ x, x = cdCells (hh c n) (.slice sa M sc) := ⟨_, rfl⟩
  rw [← hcl] at H1 ⊢
  obtain ⟨cs, hcs⟩ : ∃ x, x = cl.toArray := ⟨_, rfl⟩
  rw [← hcs] at H1 ⊢
  have HC := Lib.hid (And.intro hcl hcs)
  clear hcl hcs
  go_enter Tryd.func59, Tryd.ntmps59
  go_upto_region 1 with fail
  obtain ⟨gb, hgb⟩ : ∃ x, x = w.heap.size := ⟨_, rfl⟩
  rw [← hgb] at H1 ⊢
  have HGB := Lib.hid hgb
  have hne : ¬ gb = g := by omega
  clear hgb hgl
  generalize World.alloc _ _ = w1 at H1 ⊢
  have c16 := H1.out.1.cell 16 (by rw [HC.out.1]; exact cdCells_sym _ _)
  have hM1 : ((M : Int) == 1) = false := by simp; omega
  go_upto_region 3 with fail
  clear c16
  go_upto_region 4 with fail
  go_wp2_with fail
  go_loopg [5, 6, 7, 8] 16 (fun j s5 s6 s7 s8 wr => ∃ F B N q : Nat, s5 = .int .i64 F ∧ s6 = .int .i64 B ∧ s7 = .int .i64 N ∧ s8 = .int .i64 ((q : Int) + 1) ∧ q ≤ 15 ∧ 16 ≤ j + q ∧ F ≤ N ∧ N < 32768 ∧ B ≤ 65536 ∧ Hid (F = En c n q ∧ B = bef c n q ∧ N = nowOf (S / 2 ^ p) q ∧ SB wr g a nb cb f S (p + q) false op ∧ (∀ j, j ≤ q → ∀ s', ¬ Tells (codesL c n n) (S / 2 ^ p) j s') ∧ Only (fun k => k = g) w wr ∧ SObj wr gb 86 cl ∧ Arg .i64 wr sa M (listF (sys c n 15))))
  case atStart =>
    refine ⟨0, 0, 0, 0, rfl, rfl, rfl, rfl, by omega, by omega, by omega, by omega, by omega, rfl, rfl, rfl, ?_, ?_, H1.out.2.1.mono (fun _ h => h.elim), H1.out.1, H1.out.2.2.only H1.out.2.1 (fun _ _ _ h => h)⟩
    · exact H.out.1.only H1.out.2.1 (fun h => h) (fun _ _ _ h => h)
    · intro j hj s' ht
      obtain rfl : j = 0 := by omega
      obtain ⟨h2, h3, h4⟩ := (mem_codesL c n _ s' n).1 ht
      have := cod_low (c s') (codeOf c n s')
      have h5 : (2 : Nat) ^ 1 ≤ 2 ^ c s' := Nat.pow_le_pow_right (by decide) h3
      have e : pth (S / 2 ^ p) 0 = 1 := rfl
      omega
  case round =>
    obtain ⟨F, B, N, q, rfl, rfl, rfl, rfl, hq, hj, hFN, hN, hB, hR⟩ := hrel
    by_cases hq15 : q = 15
    · subst hq15
      exfalso
      exact H.out.2.1.last (by rw [← hR.out.1, ← hR.out.2.2.1]; exact hFN)
    · have HR1 := Lib.hid (H.out.2.1.round (show q < 15 by omega) (by rw [← hR.out.1, ← hR.out.2.2.1]; exact hFN))
      have hsr := sread_any g a nb cb f S (p + q) 1 false op wr hR.out.2.2.2.1 (by decide)
      go_wp2_with fail
      refine hsr.mono ?_
      rintro _ w2 ⟨h2, ho2⟩
      have hob : SObj w2 gb 86 cl := hR.out.2.2.2.2.2.2.1.only ho2 hne
      have har : Arg .i64 w2 sa M (listF (sys c n 15)) := hR.out.2.2.2.2.2.2.2.only ho2 H.out.2.2.1
      rcases h2 with ⟨h21, rfl, h23⟩ | ⟨h21, rfl, h23⟩
      · have hbit : hand S (p + q) 1 = S / 2 ^ p / 2 ^ q % 2 := by unfold hand; rw [Nat.div_div_eq_div_mul, ← Nat.pow_add]
        obtain ⟨bt, hbt⟩ : ∃ b, b = hand S (p + q) 1 := ⟨_, rfl⟩
        have hbt1 : bt ≤ 1 := by have := hand_lt S (p + q) 1; omega
        rw [← hbt] at hbit ⊢
        obtain ⟨N2, hN2⟩ : ∃ x, x = nowOf (S / 2 ^ p) (q + 1) := ⟨_, rfl⟩
        have hNN : N2 = 2 * N + bt := by rw [hN2, nowOf_succ, ← hR.out.2.2.1, ← hbit]
        have hN2b : N2 < 32768 := by
          have h1 := nowOf_lt (S / 2 ^ p) (q + 1)
          have h3 : (2 : Nat) ^ (q + 1) ≤ 2 ^ 15 := Nat.pow_le_pow_right (by decide) (by omega)
          have e : (2 : Nat) ^ 15 = 32768 := rfl
          omega
        obtain ⟨ct, hct⟩ : ∃ x, x = cnt c (q + 1) n := ⟨_, rfl⟩
        have hct2 : ct ≤ 65536 := by rw [hct]; have := cnt_n c (q + 1) n; omega
        have cc := hob.cell (q + 1) (by rw [HC.out.1]; exact cdCells_at _ _ (q + 1) (by omega))
        have ehh : hh c n (q + 1) = ct := by rw [hct]; unfold hh; rw [if_neg (by omega)]
        rw [ehh] at cc
        have csh := h23.obj.cell 2 rfl
        have c16 := hob.cell 16 (by rw [HC.out.1]; exact cdCells_sym _ _)
        have hr2 := HR1.out
        rw [← hct, ← hN2, ← hR.out.1] at hr2
        have hle2 := hr2.1
        have eN : 2 * (N : Int) + (bt : Int) = (N2 : Int) := by omega
        have HS := Lib.hid (And.intro hr2.2 (And.intro h23 (And.intro ho2 (And.intro hob (And.intro har (And.intro hN2 (And.intro hct h21)))))))
        clear hr2 h23 ho2 hob har hN2 hct hbt hbit hsr ehh hNN
        by_cases hm : N2 - 2 * F < ct
        · obtain ⟨s', hs', hsy, htl⟩ := HS.out.1.1 hm
          obtain ⟨e1, e2⟩ := Tells.uniq H.out.2.1.code htl H.out.2.2.2.1
          subst e1; subst e2
          obtain ⟨ix, hix⟩ : ∃ x, x = B + (N2 - 2 * F) := ⟨_, rfl⟩
          rw [← hR.out.2.1, ← hix] at hsy
          have hlt := (List.getElem?_eq_some_iff.1 hsy).1
          rw [← H.out.2.2.2.2] at hlt
          have eix : (B : Int) + (N2 : Int) - (F : Int) * 2 = (ix : Int) := by omega
          obtain ⟨gs, os, hsa, hgs, ra⟩ := HS.out.2.2.2.2.1 (by omega)
          subst hsa
          have cy := ra ix hlt
          have el : listF (sys c n 15) ix = (s' : Int) := by unfold listF; rw [List.getD_eq_getElem?_getD, hsy]; rfl
          rw [el] at cy
          have HE := Lib.hid (And.intro hs' htl)
          clear ra hsy hix el htl hs'
          go_wp2
          go_ret
          exact ⟨.inl ⟨by have := HS.out.2.2.2.2.2.2.2; omega, rfl, HS.out.2.1⟩, hR.out.2.2.2.2.2.1.tr HS.out.2.2.1⟩
        · have hm' : ¬ ((N2 : Int) - (F : Int) * 2 < (ct : Int)) := by omega
          go_wp2
          go_roundg (gk - 1)
          case measure => omega
          case rel =>
            have hR1 := hR.out
            have hE := HS.out.1.2 (by omega)
            have h5 := HS.out.2.2.2.2.2.2.1
            refine ⟨En c n (q + 1), bef c n (q + 1), N2, q + 1, ?_, ?_, rfl, by go_num, by omega, by omega, hE, by omega, ?_, rfl, rfl, HS.out.2.2.2.2.2.1, HS.out.2.1, ?_, hR1.2.2.2.2.2.1.tr HS.out.2.2.1, HS.out.2.2.2.1, HS.out.2.2.2.2.1⟩
            · rw [En_succ, ← hR1.1, ← h5]; congr 1; omega
            · rw [bef, ← hR1.2.1, ← h5]; congr 1
            · exact Nat.le_trans (bef_le c n (q + 1) H.out.2.1.le (by omega)) hn
            · intro j hj s' hts
              by_cases e : j ≤ q
              · exact hR1.2.2.2.2.1 j e s' hts
              · obtain rfl : j = q + 1 := by omega
                obtain ⟨g1, g2, g3⟩ := (mem_codesL c n _ s' n).1 hts
                have hl : q + 1 = c s' := by
                  have p1 := pth_low (S / 2 ^ p) (q + 1)
                  have p2 := pth_high (S / 2 ^ p) (q + 1)
                  have p3 := cod_low (c s') (codeOf c n s')
                  have p4 := cod_high (c s') (codeOf c n s')
                  rcases Nat.lt_trichotomy (q + 1) (c s') with e | e | e
                  · have := Nat.pow_le_pow_right (n := 2) (by decide) (show q + 1 + 1 ≤ c s' by omega); omega
                  · exact e
                  · have := Nat.pow_le_pow_right (n := 2) (by decide) (show c s' + 1 ≤ q + 1 by omega); omega
                have h7 := (vOf_lt g1 g2).2
                have h8 := (vOf_code H.out.2.1 g1 g2).1
                have h9 : nowOf (S / 2 ^ p) (q + 1) = vOf c n s' := by
                  unfold nowOf
                  rw [g3]
                  unfold cod
                  rw [h8, hl]
                  omega
                rw [← hl, ← h9, ← HS.out.2.2.2.2.2.1] at h7
                omega
      · have csh := h23.obj.cell 2 rfl
        have HS := Lib.hid (And.intro h23 ho2)
        clear h23 ho2 hob har hsr
        go_wp2
        go_ret
        have hR1 := hR.out
        refine ⟨.inr ⟨?_, rfl, HS.out.1⟩, hR1.2.2.2.2.2.1.tr HS.out.2⟩
        rcases Nat.lt_or_ge q k with hl | hl
        · omega
        · exact absurd H.out.2.2.2.1 (hR1.2.2.2.2.1 k hl s)
end Go.Proofs.YtdmefbpfpmkdcaaDoor
