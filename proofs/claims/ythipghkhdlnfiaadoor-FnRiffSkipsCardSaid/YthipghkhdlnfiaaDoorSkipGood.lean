/- FnRiffSkips, where the arguments are not too great. -/
import Derived.Test.YthipghkhdlnfiaaDoorSkipP
import Derived.Deep.LoopGhost
namespace Go.Proofs.YthipghkhdlnfiaaDoor
open Go.RowKit
set_option linter.unusedVariables false

def AS (w : World) (a0 : Option Addr) (len0 : Nat) (z0 : Nat → Int) (a1 : Option Addr) (len1 : Nat) (A1 : Nat → Option Addr) (L1 C1 : Nat → Nat) (Z1 : Nat → Nat → Int) (a2 : Option Addr) (len2 : Nat) (cz : Nat → Int) (a3 : Option Addr) (len3 : Nat) (R : Nat → Int) : Prop :=
  Arg .u8 w a0 (len0 * 4) z0 ∧ Rows2 .u8 w a1 len1 A1 L1 C1 Z1 ∧ Arg .i64 w a2 len2 cz ∧ Arg .i64 w a3 len3 R
theorem row_dn {w : World} {B : Nat} {e : TypeId} {size : Nat} {v : Value} {k : Nat} {xs : List Value} (h : w.ownsRow B e size v k xs) (d : Nat) : (w.drewN d).ownsRow B e size v k xs := h
theorem AS.below {w w' : World} {a0 : Option Addr} {len0 : Nat} {z0 : Nat → Int} {a1 : Option Addr} {len1 : Nat} {A1 : Nat → Option Addr} {L1 C1 : Nat → Nat} {Z1 : Nat → Nat → Int} {a2 : Option Addr} {len2 : Nat} {cz : Nat → Int} {a3 : Option Addr} {len3 : Nat} {R : Nat → Int} (h : AS w a0 len0 z0 a1 len1 A1 L1 C1 Z1 a2 len2 cz a3 len3 R) (hb : Below w.heap.size w w') : AS w' a0 len0 z0 a1 len1 A1 L1 C1 Z1 a2 len2 cz a3 len3 R :=
  ⟨h.1.below hb, h.2.1.below hb, h.2.2.1.below hb, h.2.2.2.below hb⟩

set_option maxRecDepth 100000 in
set_option maxHeartbeats 8000000 in
theorem skips_good (w : World) (a0 : Option Addr) (len0 cap0 : Nat) (z0 : Nat → Int) (a1 : Option Addr) (len1 cap1 : Nat) (A1 : Nat → Option Addr) (L1 C1 : Nat → Nat) (Z1 : Nat → Nat → Int) (a2 : Option Addr) (len2 cap2 : Nat) (cz : Nat → Int) (a3 : Option Addr) (len3 cap3 : Nat) (R : Nat → Int) (E U M S L P H : Addr) (hs : Sn w E U M S L P H) (w0 : Arg .u8 w a0 (len0 * 4) z0) (x0 : ∀ i, (Lit.int .u8 (z0 i)).wf = true) (w1 : Rows2 .u8 w a1 len1 A1 L1 C1 Z1) (l1 : len1 ≤ cap1) (m1 : cap1 ≤ maxLen)
    (w2 : Arg .i64 w a2 len2 cz) (x2 : ∀ i, -9223372036854775808 ≤ cz i ∧ cz i ≤ 9223372036854775807) (w3 : Arg .i64 w a3 len3 R) (hok : skipOk len0 len1 len2 len3 L1) :
    Calls Tryd.prog 5 #[.slice a0 len0 cap0, .slice a1 len1 cap1, .slice a2 len2 cap2, .slice a3 len3 cap3] w fun e w' => e = .returned (.bool true) ∧ Below w.heap.size w w' := by
  have HS := Lib.hid hs
  have HD := Lib.hid (And.intro w1 (And.intro l1 (And.intro m1 (And.intro w0 (And.intro x0 (And.intro w2 (And.intro x2 w3)))))))
  obtain ⟨b5, hft, b6, b7, b4⟩ := hok
  have hfa := fits2_all hft
  have HFT := Lib.hid hft
  obtain ⟨SM, hSM⟩ : ∃ x, x = sumI L1 len1 len1 := ⟨_, rfl⟩
  obtain ⟨K, hK⟩ : ∃ K, K = min len0 len1 := ⟨_, rfl⟩
  have hSL := sumI_lens (L := L1) (n := len1) (m := len1) b4
  rw [← hSM] at b4
  have hLr : ∀ r, r < len1 → L1 r ≤ 1048576 := (hSL len1 (Nat.le_refl _)).2
  have hlens : lens L1 K ≤ 1048576 := by
    have h1 := (hSL len1 (Nat.le_refl _)).1
    have h2 := lens_mono (L := L1) K (len1 - K)
    rw [show K + (len1 - K) = len1 by omega] at h2
    omega
  have hl1 : len1 ≤ 1048576 := by
    have h1 := (hSL len1 (Nat.le_refl _)).1
    omega
  have k1 : K ≤ len0 := by omega
  have k2 : K ≤ len1 := by omega
  have HLR := Lib.hid (And.intro hLr (And.intro hlens hK))
  have HSM := Lib.hid hSM
  clear hSL hLr hlens hSM hfa hft w0 x0 w1 w2 w3 x2 hs l1 m1
  have HW := written_any a0 len0 cap0 z0 a1 len1 cap1 A1 L1 C1 Z1 w HD.out.2.2.2.1 HD.out.1 (by omega) HLR.out.1 hl1
  rw [← hK] at HW
  have HW := Lib.hid HW
  clear hK hl1
  obtain ⟨s0, hs, hz0, hz1, hz2⟩ := info_parts (show (Tryd.prog.info? 34).map (fun i => (i.zero, i.size, i.bytes)) = some (some (.agg #[.int .i64 0, .int .i64 0]), 2, 16) by kernel_rfl)
  have HI := Lib.hid (And.intro hs (And.intro hz0 (And.intro hz1 hz2)))
  clear hs hz0 hz1 hz2
  go_enter Tryd.func5, Tryd.ntmps5
  go_wp2_with fail
  refine (zzFits2_any a1 len1 cap1 w A1 L1 C1 Z1 HD.out.1 HD.out.2.1 HD.out.2.2.1).mono ?_
  rw [HFT.out]
  rintro _ w4 ⟨rfl, rfl⟩
  go_wp2_with fail
  refine (sum_any a1 len1 cap1 w A1 L1 C1 Z1 HD.out.1 HD.out.2.1 HD.out.2.2.1).mono ?_
  rw [← HSM.out]
  rintro _ w4 ⟨rfl, rfl⟩
  go_wp2_with fail
  refine HW.out.mono ?_
  rintro _ w1 ⟨bv, uv, rfl, hob, hou, hb1⟩
  obtain ⟨ba, bc, hbv, _, hsrc⟩ := src_own hob
  subst hbv
  obtain ⟨ua, uc, huv⟩ := row_shape hou
  subst huv
  obtain ⟨BL, hBL⟩ : ∃ x, x = (bodyB z0 L1 Z1 K).length := ⟨_, rfl⟩
  rw [← hBL]
  have hblen : BL ≤ 2000000 := by
    have h1 := bodyB_len z0 L1 Z1 K
    have := HLR.out.2.1
    omega
  obtain ⟨B, hB⟩ : ∃ x, x = w1.heap.size := ⟨_, rfl⟩
  have H1 : Hid (B = w1.heap.size ∧ Src w1 ba bc (bodyB z0 L1 Z1 K) ∧ Below w.heap.size w w1 ∧ w.heap.size ≤ B ∧ BL = (bodyB z0 L1 Z1 K).length ∧ AS w1 a0 len0 z0 a1 len1 A1 L1 C1 Z1 a2 len2 cz a3 len3 R) := Lib.hid ⟨hB, hsrc, hb1, by rw [hB]; exact hb1.size, hBL, AS.below ⟨HD.out.2.2.2.1, HD.out.1, HD.out.2.2.2.2.2.1, HD.out.2.2.2.2.2.2.2⟩ hb1⟩
  have HUC : Hid (0 < K → ∃ g, ua = some ⟨g, 0, none⟩ ∧ ∀ i j v, i < K → j < 7 → (wantCell z0 A1 L1 C1 i)[j]? = some v → w1.cell? ⟨g, i * 7 + j, none⟩ = some v) := Lib.hid (fun hK0 => by
    obtain ⟨g, cap, cur, hv2, _, _, _⟩ := own_block hou hK0
    injection hv2 with e1 e2 e3
    refine ⟨g, e1, fun i j v hi hj hv => ?_⟩
    have hc := World.ownsRow.cells hou (g := g) (by rw [e1]; rfl) (i * 7 + j) v (by rw [wantC_get z0 A1 L1 C1 j hj K i hi]; exact hv)
    rw [Addr.add_lit, Nat.zero_add] at hc
    exact hc)
  obtain ⟨n, hn⟩ : ∃ n : Nat → Nat, n = nI R len3 L1 := ⟨_, rfl⟩
  have HN := Lib.hid hn
  clear hob hou hb1 hsrc hBL hB hn HW
  go_wp2_with fail
  go_loopg [11, 12] (K + 1) (fun g s11 s12 wr => ∃ i : Nat, i ≤ K ∧ K - i + 1 ≤ g ∧ s12 = .int .i64 i ∧ Hid (wr.ownsRow B 34 2 s11 (trS z0 L1 Z1 n i).steps.length (stC (trS z0 L1 Z1 n i).steps) ∧ Below B w1 wr))
  case atStart => exact ⟨0, by omega, by omega, rfl, World.ownsRow_nil _ _ _ _, Below.refl _ _⟩
  case round =>
    obtain ⟨i, hi4, hg, rfl, hR⟩ := hrel
    have HG := Lib.hid hg; clear hg
    obtain ⟨sa, sc, hs⟩ := row_shape hR.out.1
    subst hs
    have hlen := trS_steps_len z0 L1 Z1 n i
    by_cases hlt : i < K
    · have HST : Hid (wr.ownsRow B 34 2 (.slice sa (trS z0 L1 Z1 n i).steps.length sc) (trS z0 L1 Z1 n i).steps.length (stC (trS z0 L1 Z1 n i).steps) ∧ B ≤ wr.heap.size ∧ (trS z0 L1 Z1 n (i + 1)).steps = ((trS z0 L1 Z1 n i).steps ++ [(0, 0)]) ++ if 0 < n i then [(1, (n i : Int))] else []) := Lib.hid ⟨hR.out.1, by have := hR.out.2.size; have := H1.out.1; omega, trS_steps z0 L1 Z1 n i⟩
      obtain ⟨gu, rfl, hgu⟩ := HUC.out (by omega)
      obtain ⟨psi, hpsi⟩ : ∃ x, x = (trS z0 L1 Z1 n i).steps := ⟨_, rfl⟩
      rw [← hpsi] at HST hlen ⊢
      obtain ⟨m, hm⟩ : ∃ x, x = psi.length := ⟨_, rfl⟩
      rw [← hm] at HST hlen ⊢
      have HM := Lib.hid (And.intro hpsi hm)
      clear hpsi hm
      obtain ⟨hs, hz0, hz1, hz2⟩ := HI.out
      have hm4 : m ≤ 8192 := by omega
      clear hlen
      go_upto_region 11 with (at_builtin; refine wpList_append_own _ rfl _ _ 24 rfl B 34 s0 _ 2 16 Tryd.underlying24 hs hz0 hz1 hz2 (by simp [Value.cells]) (by decide) _ _ _ rfl (HST.out.1.alloc _) ⟨wr.heap.size, 0, none⟩ 1 1 [.int .i64 0, .int .i64 0] rfl rfl (World.news_of_block (heap_alloc_new wr _)) (by simp [Value.oneCell']) (by unfold maxLen; omega) (by omega) (by simp; have := HST.out.2.1; omega) ?_; intro v2 w2 hown hgr _; have H2 := Lib.hid (And.intro hown hgr); clear hown hgr)
      have HB2 : Hid (Below B w1 w2 ∧ B ≤ w2.heap.size ∧ w2.ownsRow B 34 2 v2 (m + 1) (stC (psi ++ [(0, 0)]))) := Lib.hid (by
        have hb := below_app hR.out.2 (by have := H1.out.1; omega) HST.out.1 H2.out.2
        exact ⟨hb, by have := hb.size; have := H1.out.1; omega, by rw [stC_app]; exact H2.out.1⟩)
      obtain ⟨va, vc, hv2⟩ := row_shape H2.out.1
      subst hv2
      clear H2
      have huc : w2.cell? ⟨gu, i * 7 + 4, none⟩ = some (.int .i64 (L1 i)) := cell_later HB2.out.1 H1.out.1 (hgu i 4 _ hlt (by decide) rfl)
      have HGU := Lib.hid hgu
      clear hgu
      have hLi : L1 i ≤ 1048576 := HLR.out.1 i (by omega)
      have HE0 : n i = 0 → Hid (w2.ownsRow B 34 2 (.slice va (m + 1) vc) (trS z0 L1 Z1 n (i + 1)).steps.length (stC (trS z0 L1 Z1 n (i + 1)).steps)) := fun h0 => Lib.hid (by
        rw [HST.out.2.2, if_neg (by omega), List.append_nil, List.length_append, ← HM.out.2]
        exact HB2.out.2.2)
      by_cases c1 : i < len3
      · obtain ⟨g3, o3, rfl, hg3, hr3⟩ := H1.out.2.2.2.2.2.2.2.2 (by omega)
        have hc3 : w2.cell? ⟨g3, o3 + i, none⟩ = some (.int .i64 (R i)) := cell_later HB2.out.1 H1.out.1 (hr3 i c1)
        clear hr3 hg3
        by_cases c2 : 0 < R i
        · by_cases c3 : R i < (L1 i : Int)
          · have hni : (n i : Int) = R i ∧ 0 < n i := by
              rw [HN.out]; unfold nI; rw [if_pos ⟨c1, c2, c3⟩]; omega
            have HE1 : Hid ((trS z0 L1 Z1 n (i + 1)).steps = (psi ++ [(0, 0)]) ++ [(1, R i)] ∧ (trS z0 L1 Z1 n (i + 1)).steps.length = m + 1 + 1) := Lib.hid (by
              have e : (trS z0 L1 Z1 n (i + 1)).steps = (psi ++ [(0, 0)]) ++ [(1, R i)] := by rw [HST.out.2.2, if_pos hni.2, hni.1]
              refine ⟨e, ?_⟩
              rw [e, List.length_append, List.length_append, ← HM.out.2]; rfl)
            clear hni HE0
            go_quiet (fail)
            go_wp2_with (at_builtin; refine wpList_append_own _ rfl _ _ 24 rfl B 34 s0 _ 2 16 Tryd.underlying24 hs hz0 hz1 hz2 (by simp [Value.cells]) (by decide) _ _ _ rfl ((row_dn HB2.out.2.2 nq).alloc _) ⟨(w2.drewN nq).heap.size, 0, none⟩ 1 1 [.int .i64 1, .int .i64 (R i)] rfl rfl (World.news_of_block (heap_alloc_new (w2.drewN nq) _)) (by simp [Value.oneCell']) (by unfold maxLen; omega) (by omega) (by simp; have := HB2.out.2.1; omega) ?_; intro v3 w3 hown hgr _; have H3 := Lib.hid (And.intro hown hgr); clear hown hgr)
            have H4 : Hid (w3.ownsRow B 34 2 v3 (trS z0 L1 Z1 n (i + 1)).steps.length (stC (trS z0 L1 Z1 n (i + 1)).steps) ∧ Below B w1 w3) := Lib.hid (by
              refine ⟨?_, below_app (below_dn HB2.out.1 nq) (by have := H1.out.1; omega) (row_dn HB2.out.2.2 nq) H3.out.2⟩
              rw [HE1.out.2, HE1.out.1, stC_app]
              exact H3.out.1)
            clear H3
            go_wp2
            go_roundg (gk - 1)
            case measure => have := HG.out; omega
            case rel => exact ⟨i + 1, by omega, by have := HG.out; omega, by go_num, H4.out.1, H4.out.2⟩
          · have HE := HE0 (by rw [HN.out]; unfold nI; rw [if_neg (by omega)])
            clear HE0
            go_quiet (fail)
            have HQ : Hid ((w2.drewN nq).ownsRow B 34 2 (.slice va (m + 1) vc) (trS z0 L1 Z1 n (i + 1)).steps.length (stC (trS z0 L1 Z1 n (i + 1)).steps) ∧ Below B w1 (w2.drewN nq)) := Lib.hid ⟨row_dn HE.out nq, below_dn HB2.out.1 nq⟩
            go_wp2
            go_roundg (gk - 1)
            case measure => have := HG.out; omega
            case rel => exact ⟨i + 1, by omega, by have := HG.out; omega, by go_num, HQ.out.1, HQ.out.2⟩
        · have HE := HE0 (by rw [HN.out]; unfold nI; rw [if_neg (by omega)])
          clear HE0
          go_quiet (fail)
          have HQ : Hid ((w2.drewN nq).ownsRow B 34 2 (.slice va (m + 1) vc) (trS z0 L1 Z1 n (i + 1)).steps.length (stC (trS z0 L1 Z1 n (i + 1)).steps) ∧ Below B w1 (w2.drewN nq)) := Lib.hid ⟨row_dn HE.out nq, below_dn HB2.out.1 nq⟩
          go_wp2
          go_roundg (gk - 1)
          case measure => have := HG.out; omega
          case rel => exact ⟨i + 1, by omega, by have := HG.out; omega, by go_num, HQ.out.1, HQ.out.2⟩
      · have HE := HE0 (by rw [HN.out]; unfold nI; rw [if_neg (by omega)])
        clear HE0
        go_quiet (fail)
        have HQ : Hid ((w2.drewN nq).ownsRow B 34 2 (.slice va (m + 1) vc) (trS z0 L1 Z1 n (i + 1)).steps.length (stC (trS z0 L1 Z1 n (i + 1)).steps) ∧ Below B w1 (w2.drewN nq)) := Lib.hid ⟨row_dn HE.out nq, below_dn HB2.out.1 nq⟩
        go_wp2
        go_roundg (gk - 1)
        case measure => have := HG.out; omega
        case rel => exact ⟨i + 1, by omega, by have := HG.out; omega, by go_num, HQ.out.1, HQ.out.2⟩
    · obtain rfl : i = K := by omega
      obtain ⟨t, ht⟩ : ∃ x, x = trS z0 L1 Z1 n i := ⟨_, rfl⟩
      have hnb : ∀ r, r < i → n r ≤ 1048576 ∧ n r ≤ L1 r := fun r hr => by
        rw [HN.out]; unfold nI
        have := HLR.out.1 r (by omega)
        split <;> omega
      obtain ⟨bs, hbs⟩ : ∃ x, x = fileB [116, 101, 115, 116] (bodyB z0 L1 Z1 i) := ⟨_, rfl⟩
      have hbsl : bs.length ≤ 3000000 ∧ BL ≤ bs.length := by
        rw [hbs]; unfold fileB
        have h1 := chunkB_len (id := [82, 73, 70, 70]) rfl ([116, 101, 115, 116] ++ bodyB z0 L1 Z1 i)
        have h2 := H1.out.2.2.2.2.1
        have h3 : (chunkB [82, 73, 70, 70] ([116, 101, 115, 116] ++ bodyB z0 L1 Z1 i)).length ≥ 8 + ([116, 101, 115, 116] ++ bodyB z0 L1 Z1 i : List Int).length := by
          rw [chunkB_length rfl]; omega
        rw [List.length_append] at h1 h3
        simp only [List.length_cons, List.length_nil] at h1 h3
        omega
      have hok : t.Ok bs.length := by
        rw [ht]
        refine trS_ok z0 L1 Z1 n bs.length i (fun r hr => ⟨by have := HLR.out.1 r (by omega); omega, ?_⟩)
        have h1 := (hnb r hr).2
        have h2 : L1 r ≤ BL := by rw [H1.out.2.2.2.2.1]; exact body_le z0 L1 Z1 i r hr
        omega
      have hrt := riff_tree [116, 101, 115, 116] rfl t (by rw [ht, trS_bytes, ← H1.out.2.2.2.2.1]; omega) (by rw [show t.bytes = bodyB z0 L1 Z1 i by rw [ht]; exact trS_bytes z0 L1 Z1 n i, ← hbs]; exact hok)
      rw [show t.bytes = bodyB z0 L1 Z1 i by rw [ht]; exact trS_bytes z0 L1 Z1 n i, ← hbs] at hrt
      have hfit : Fit (t.steps ++ [(0, 0)]) := Fit.app (by rw [ht]; exact trS_fit z0 L1 Z1 n i (fun r hr => (hnb r hr).1)) (fun p hp => by simp at hp; subst hp; decide)
      have hu8 : U8 bs := by
        rw [hbs]
        exact u8_chunk (fun p hp => by simp at hp; rcases hp with rfl | rfl | rfl | rfl <;> decide) (U8.app (fun p hp => by simp at hp; rcases hp with rfl | rfl | rfl | rfl <;> decide) (u8_body HD.out.2.2.2.2.1 i (fun r hr j => (HD.out.1 r (by omega)).2.2.2.2.2 j)))
      rw [← ht] at hR hlen ⊢
      have HT := Lib.hid (And.intro ht (And.intro hbs (And.intro hok (And.intro hrt (And.intro hfit (And.intro hu8 (And.intro hbsl hnb)))))))
      obtain ⟨m, hm⟩ : ∃ x, x = t.steps.length := ⟨_, rfl⟩
      rw [← hm] at hR hlen ⊢
      have HM := Lib.hid hm
      clear ht hbs hok hrt hfit hu8 hbsl hnb hm
      have HF3 := file_any 116 101 115 116 ba bc (bodyB z0 L1 Z1 i) wr (H1.out.2.1.below (by rw [← H1.out.1]; exact hR.out.2)) (by rw [← H1.out.2.2.2.2.1]; omega)
      rw [← H1.out.2.2.2.2.1, ← HT.out.2.1] at HF3
      have HF3 := Lib.hid HF3
      go_wp2_with fail
      refine HF3.out.mono ?_
      rintro _ w2 ⟨fv, rfl, hof, hb2⟩
      obtain ⟨fa, fc, hfv, _, hfarg⟩ := arg_own hof
      have hfcap : bs.length ≤ fc ∧ fc ≤ maxLen := by
        obtain ⟨g, cap, cur, hv, _, _, h1, h2, _⟩ := own_block hof (by have h := HT.out.2.2.2.1.1; unfold okHead at h; have := (of_decide_eq_true h).1; omega)
        rw [hfv] at hv
        injection hv with _ _ hv
        subst hv
        exact ⟨h1, h2⟩
      have HTY : Hid (∀ w', w' = w2 → ∀ k, (Value.slice fa bs.length fc).ownBlock = some k → OfTy w' 5 k) := Lib.hid (fun w' hw k hk => by subst hw; exact (ownsRow_ty hof (by rw [hfv]; exact hk)).1)
      subst hfv
      have H2 : Hid (Below B w1 w2 ∧ B ≤ w2.heap.size ∧ w2.ownsRow B 34 2 (.slice sa m sc) m (stC t.steps) ∧ Arg .u8 w2 fa bs.length (fun i => bs.getD i 0) ∧ bs.length ≤ fc ∧ fc ≤ maxLen) := Lib.hid (by
        have hbw : B ≤ wr.heap.size := by have := hR.out.2.size; have := H1.out.1; omega
        have hb := hR.out.2.trans (hb2.mono hbw)
        exact ⟨hb, Nat.le_trans hbw hb2.size, ownsRow_only hR.out.1 (Only.of_below (S := fun _ => False) hb2) (fun _ _ h => h), hfarg, hfcap.1, hfcap.2⟩)
      clear hof hb2 hfarg hfcap HF3
      obtain ⟨hs, hz0, hz1, hz2⟩ := HI.out
      go_wp2_with (first | (at_builtin; refine wpList_append_own _ rfl _ _ 24 rfl B 34 s0 _ 2 16 Tryd.underlying24 hs hz0 hz1 hz2 (by simp [Value.cells]) (by decide) _ _ _ rfl (H2.out.2.2.1.alloc _) ⟨w2.heap.size, 0, none⟩ 1 1 [.int .i64 0, .int .i64 0] rfl rfl (World.news_of_block (heap_alloc_new w2 _)) (by simp [Value.oneCell']) (by unfold maxLen; omega) (by omega) (by simp; have := H2.out.2.1; omega) ?_; intro v3 w3 hown hgr _; have H3 := Lib.hid (And.intro hown hgr); clear hown hgr; obtain ⟨sa3, sc3, hv3⟩ := row_shape H3.out.1; subst hv3))
      have H4 : Hid (Below B w1 w3 ∧ w3.ownsRow B 34 2 (.slice sa3 (m + 1) sc3) (m + 1) (stC (t.steps ++ [(0, 0)])) ∧ Arg .u8 w3 fa bs.length (fun i => bs.getD i 0)) := Lib.hid (by
        refine ⟨below_app H2.out.1 (by have := H1.out.1; omega) H2.out.2.2.1 H3.out.2, by rw [stC_app]; exact H3.out.1, ?_⟩
        have ho : Only (fun k => (Value.slice sa m sc).ownBlock = some k) w2 w3 := (Only.alloc _ w2 _).tr (Only.of_grown H3.out.2 (fun k hk => hk))
        refine H2.out.2.2.2.1.only ho (fun h0 p hp hs => ?_)
        have h1 := (ownsRow_ty H2.out.2.2.1 hs).1
        exact absurd (h1.inj (HTY.out w2 rfl p.block (by rw [hp]; rfl))) (by decide))
      obtain ⟨sa4, sc4, he4, hst4⟩ := steps_own H4.out.2.1 (by rw [List.length_append, ← HM.out]; rfl)
      injection he4 with e1 e2 e3
      subst e1 e3
      clear e2
      have HB3 : Hid (Below w.heap.size w w3 ∧ B ≤ w3.heap.size) := Lib.hid ⟨H1.out.2.2.1.trans (H4.out.1.mono H1.out.2.2.2.1), by have := H4.out.1.size; have := H1.out.1; omega⟩
      have HQ := riff_q w3 fa bs.length fc bs a2 len2 cap2 cz sa3 (m + 1) sc3 (t.steps ++ [(0, 0)]) E U M S L P H (HS.out.later HB3.out.1) H4.out.2.2 (by_of HT.out.2.2.2.2.2.1) rfl (by have := HT.out.2.2.2.2.2.2.1; omega) H2.out.2.2.2.2.1 H2.out.2.2.2.2.2 (HD.out.2.2.2.2.2.1.below HB3.out.1) HD.out.2.2.2.2.2.2.1 (by omega) hst4 (by rw [List.length_append, ← HM.out]; rfl) (by omega) (HT.out.2.2.2.2.1.get)
      have HQ := Lib.hid HQ.out
      clear hst4
      go_wp2_with fail
      refine HQ.out.mono ?_
      rintro _ w4 ⟨oa, oc, ka, kc, rfl, h4⟩
      rw [HT.out.2.2.2.1.2] at h4 ⊢
      have hwl : t.want.length = i := by rw [HT.out.1, trS_want]; simp
      have hkl : (0 :: (t.kinds ++ [1])).length = m + 2 := by
        rw [List.length_cons, List.length_append, Tr.kinds_length, ← HM.out]; rfl
      simp only [hwl, hkl] at h4 ⊢
      obtain ⟨F0, hF0⟩ : ∃ x, x = fq bs 0 := ⟨_, rfl⟩
      obtain ⟨F1, hF1⟩ : ∃ x, x = fq bs 1 := ⟨_, rfl⟩
      obtain ⟨F2, hF2⟩ : ∃ x, x = fq bs 2 := ⟨_, rfl⟩
      obtain ⟨F3, hF3⟩ : ∃ x, x = fq bs 3 := ⟨_, rfl⟩
      rw [← hF0, ← hF1, ← hF2, ← hF3]
      clear hF0 hF1 hF2 hF3
      obtain ⟨gk2, ok2, hka, _, hkr⟩ := h4.2.2.2.1 (by omega)
      subst hka
      have hk1 : w4.cell? ⟨gk2, ok2 + (m + 1), none⟩ = some (.int .i64 1) := by
        rw [hkr (m + 1) (by omega)]
        have e : (0 :: (t.kinds ++ [1])).getD (m + 1) 0 = 1 := by
          show (t.kinds ++ [1]).getD m 0 = 1
          have : t.kinds.length = m := by rw [Tr.kinds_length, ← HM.out]
          simp [List.getD, ← this]
        show some (Value.int .i64 (((0 :: (t.kinds ++ [1])).getD (m + 1) 0 : Nat) : Int)) = _
        rw [e]; rfl
      have H5 : Hid (∃ w5, w5 = w4.alloc (.cells #[.int .u8 F0, .int .u8 F1, .int .u8 F2, .int .u8 F3] 26) ∧ Below w.heap.size w w5 ∧ Below B w1 w5 ∧ Sn w5 E U M S L P H ∧ Cks w5 oa t.want ∧ w5.cell? ⟨gk2, ok2 + (m + 1), none⟩ = some (.int .i64 1)) := Lib.hid (by
        have hb : Below w4.heap.size w4 (w4.alloc (.cells #[.int .u8 F0, .int .u8 F1, .int .u8 F2, .int .u8 F3] 26)) := (Below.refl _ _).alloc (Nat.le_refl _) _
        have hb2 := HB3.out.1.trans (h4.2.2.2.2.2.1.mono HB3.out.1.size)
        have hb3 := H4.out.1.trans (h4.2.2.2.2.2.1.mono HB3.out.2)
        exact ⟨_, rfl, hb2.trans (hb.mono hb2.size), hb3.trans (hb.mono (Nat.le_trans HB3.out.2 h4.2.2.2.2.2.1.size)), h4.2.2.2.2.2.2.later hb, h4.1.below hb, cell_later hb rfl hk1⟩)
      clear h4 hkr hk1 hwl hkl
      go_upto_region 14 with fail
      obtain ⟨w5, hw5, H5⟩ := H5.out
      rw [← hw5]
      clear hw5
      have H5 := Lib.hid H5
      generalize w4.heap.size = fb at H5 ⊢
      have hkc := H5.out.2.2.2.2
      have hcks := H5.out.2.2.2.1
      rw [HT.out.1, trS_want] at hcks
      have HCK : Hid (Cks w5 oa ((List.range i).map (ckI z0 L1 Z1 n))) := Lib.hid hcks
      clear hcks
      have HNB := Lib.hid HT.out.2.2.2.2.2.2.2
      have kneq := neq_id
      go_wp2_with fail
      go_loopw [16] (fun s16 wx => ∃ k : Nat, k ≤ i ∧ s16 = .int .i64 k ∧ Hid (∃ d, wx = w5.drewN d)) (fun s16 _ => i - (intOf s16).toNat)
      case atStart => exact ⟨0, by omega, rfl, ⟨0, rfl⟩⟩
      case round =>
        obtain ⟨k, hk, rfl, hw⟩ := hrel
        obtain ⟨d, rfl⟩ := hw.out
        clear hw hkc
        by_cases hlt : k < i
        · obtain ⟨gu, rfl, hgu⟩ := HUC.out (by omega)
          obtain ⟨gl, ol, hoa, hgl⟩ := HCK.out (by simp; omega)
          subst hoa
          obtain ⟨dl, cl, e0, e1, e2, e3, a4, a5, a6, a7⟩ := hgl k (ckI z0 L1 Z1 n k) (by simp [hlt])
          obtain ⟨nk, hnk⟩ : ∃ x, x = n k := ⟨_, rfl⟩
          obtain ⟨lk, hlk⟩ : ∃ x, x = L1 k := ⟨_, rfl⟩
          have hnl : nk ≤ lk := by rw [hnk, hlk]; exact (HNB.out k hlt).2
          have hlk2 : lk ≤ 1048576 := by rw [hlk]; exact HLR.out.1 k (by omega)
          have htl : (ckI z0 L1 Z1 n k).data.length = nk := by
            show ((dtL L1 Z1 k).take (n k)).length = nk
            rw [List.length_take, dtL_length, ← hnk, ← hlk]; omega
          have hll : (ckI z0 L1 Z1 n k).len = lk := by show (dtL L1 Z1 k).length = lk; rw [dtL_length, hlk]
          rw [htl] at a5 a7
          rw [hll] at a4
          have a0 : w5.cell? ⟨gl, ol + k * 7, none⟩ = some (.int .u8 (z0 (k * 4))) := e0
          have a1 : w5.cell? ⟨gl, ol + k * 7 + 1, none⟩ = some (.int .u8 (z0 (k * 4 + 1))) := e1
          have a2 : w5.cell? ⟨gl, ol + k * 7 + 2, none⟩ = some (.int .u8 (z0 (k * 4 + 2))) := e2
          have a3 : w5.cell? ⟨gl, ol + k * 7 + 3, none⟩ = some (.int .u8 (z0 (k * 4 + 3))) := e3
          have b0 : w5.cell? ⟨gu, k * 7, none⟩ = some (.int .u8 (z0 (k * 4))) := cell_later H5.out.2.1 H1.out.1 (hgu k 0 _ hlt (by decide) rfl)
          have b1 : w5.cell? ⟨gu, k * 7 + 1, none⟩ = some (.int .u8 (z0 (k * 4 + 1))) := cell_later H5.out.2.1 H1.out.1 (hgu k 1 _ hlt (by decide) rfl)
          have b2 : w5.cell? ⟨gu, k * 7 + 2, none⟩ = some (.int .u8 (z0 (k * 4 + 2))) := cell_later H5.out.2.1 H1.out.1 (hgu k 2 _ hlt (by decide) rfl)
          have b3 : w5.cell? ⟨gu, k * 7 + 3, none⟩ = some (.int .u8 (z0 (k * 4 + 3))) := cell_later H5.out.2.1 H1.out.1 (hgu k 3 _ hlt (by decide) rfl)
          have b4 : w5.cell? ⟨gu, k * 7 + 4, none⟩ = some (.int .i64 lk) := by rw [hlk]; exact cell_later H5.out.2.1 H1.out.1 (hgu k 4 _ hlt (by decide) rfl)
          have b5 : w5.cell? ⟨gu, k * 7 + 5, none⟩ = some (.slice (A1 k) lk (C1 k)) := by rw [hlk]; exact cell_later H5.out.2.1 H1.out.1 (hgu k 5 _ hlt (by decide) rfl)
          have hrow := HD.out.1 k (by omega)
          have hC1 : lk ≤ C1 k ∧ C1 k ≤ 9223372036854775807 := by rw [hlk]; have := hrow.2.2.1; unfold maxLen at this; exact ⟨hrow.2.1, by omega⟩
          have hdat : Arg .u8 w5 (A1 k) nk (Z1 k) := fun h0 => by
            have h1 := hrow.2.2.2.1.below H5.out.1
            obtain ⟨g, o, e1, e2, e3⟩ := h1 (by rw [← hlk]; omega)
            exact ⟨g, o, e1, e2, fun j hj => e3 j (by rw [← hlk]; omega)⟩
          have HQ : Hid (∀ y x : Nat, Calls Tryd.prog 15 #[.slice dl nk cl, .slice (A1 k) nk (C1 k)] (w5.drewN (y + x)) fun e w' => e = .returned (.bool true) ∧ ∃ m, w' = w5.drewN (y + m)) := Lib.hid (fun y x => (bytes_eq dl (A1 k) nk cl (C1 k) _ _ (w5.drewN (y + x)) (by unfold maxLen; omega) (a7.dn _) (hdat.dn _) (fun j hj => by
            show ((dtL L1 Z1 k).take (n k)).getD j 0 = Z1 k j
            rw [← hnk]
            simp [List.getD, dtL, hj, show j < L1 k by omega])).mono (fun _ _ ⟨h1, m, h2⟩ => ⟨h1, x + m, by rw [h2, World.drewN_drewN, Nat.add_assoc]⟩))
          have HGU := Lib.hid (And.intro hgu (And.intro hgl (And.intro hnk (And.intro hlk (And.intro hll htl)))))
          clear hgu hgl hnk hlk hll htl a6 a7 hdat hrow e0 e1 e2 e3
          by_cases call : k < len3 ∧ 0 < R k ∧ R k < (lk : Int)
          · have hRn : R k = (nk : Int) ∧ 0 < nk := by
              have e : n k = (R k).toNat := by rw [HN.out]; unfold nI; rw [if_pos (by have := HGU.out.2.2.2.1; rw [← this]; exact call)]
              have := HGU.out.2.2.1
              omega
            obtain ⟨g3, o3, rfl, hg3, hr3⟩ := H1.out.2.2.2.2.2.2.2.2 (by omega)
            have hc3 : w5.cell? ⟨g3, o3 + k, none⟩ = some (.int .i64 (nk : Int)) := by
              rw [← hRn.1]; exact cell_later H5.out.2.1 H1.out.1 (hr3 k call.1)
            obtain ⟨c1, c2, c3⟩ := call
            rw [hRn.1] at c3
            have hn0 := hRn.2
            clear c2 hr3 hg3 hRn
            go_upto_region 20 with fail
            go_quiet (fail)
            go_upto_region 22 with fail
            go_quiet ((go_at_call 15; exact HQ.out _ _))
            go_wp2
            go_roundw
            case rel => exact ⟨k + 1, by omega, by go_num, ⟨_, rfl⟩⟩
            case measure => simp [intOf]; omega
          · have hnk0 : nk = 0 := by
              have e : n k = 0 := by rw [HN.out]; unfold nI; rw [if_neg (by have := HGU.out.2.2.2.1; rw [← this]; exact call)]
              rw [HGU.out.2.2.1]; exact e
            subst hnk0
            have hnz : (0 : Int) ≤ (lk : Int) := by omega
            by_cases c1 : k < len3
            · obtain ⟨g3, o3, rfl, hg3, hr3⟩ := H1.out.2.2.2.2.2.2.2.2 (by omega)
              have hc3 : w5.cell? ⟨g3, o3 + k, none⟩ = some (.int .i64 (R k)) := cell_later H5.out.2.1 H1.out.1 (hr3 k c1)
              clear hr3 hg3
              by_cases c2 : 0 < R k
              · have c3 : ¬ R k < (lk : Int) := fun h => call ⟨c1, c2, h⟩
                clear call
                go_upto_region 20 with fail
                go_quiet (fail)
                go_upto_region 22 with fail
                go_quiet ((go_at_call 15; exact HQ.out _ _))
                go_wp2
                go_roundw
                case rel => exact ⟨k + 1, by omega, by go_num, ⟨_, rfl⟩⟩
                case measure => simp [intOf]; omega
              · clear call
                go_upto_region 20 with fail
                go_quiet (fail)
                go_upto_region 22 with fail
                go_quiet ((go_at_call 15; exact HQ.out _ _))
                go_wp2
                go_roundw
                case rel => exact ⟨k + 1, by omega, by go_num, ⟨_, rfl⟩⟩
                case measure => simp [intOf]; omega
            · clear call
              go_upto_region 20 with fail
              go_quiet (fail)
              go_upto_region 22 with fail
              go_quiet ((go_at_call 15; exact HQ.out _ _))
              go_wp2
              go_roundw
              case rel => exact ⟨k + 1, by omega, by go_num, ⟨_, rfl⟩⟩
              case measure => simp [intOf]; omega
        · obtain rfl : k = i := by omega
          have HF6 := Lib.hid (readFile_any (w5.drewN d) E U M S L P H (H5.out.2.2.1.later (below_dn (Below.refl _ _) d)))
          go_wp2_with fail
          refine HF6.out.mono ?_
          rintro _ w7 ⟨rfl, h7⟩
          have H7 := Lib.hid h7; clear h7
          go_wp2
          go_ret
          exact ⟨rfl, (below_dn H5.out.1 d).trans (H7.out.mono (below_dn H5.out.1 d).size)⟩
end Go.Proofs.YthipghkhdlnfiaaDoor
