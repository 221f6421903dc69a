/- impl.Literals. -/
import Derived.Test.YthmkmemocjnleaaDoorCommon
namespace Go.Proofs.YthmkmemocjnleaaDoor
open Go.RowKit
set_option linter.unusedVariables false

/-- A number by its kind. -/
def litG {σ : Type} (step : σ → Int → Bool × σ) (kd p sz : Int) (s : σ) : Int × σ :=
  if kd = 0 then bitsG step p sz.toNat 0 s else if kd = 1 then signG step p sz.toNat s else optG step p sz.toNat s
/-- The states and numbers, one by one; f tells the three numbers of each. -/
def stL {σ : Type} (step : σ → Int → Bool × σ) (s0 : σ) (f : Nat → Int) : Nat → σ
  | 0 => s0
  | k + 1 => (litG step (f (k * 3)) (f (k * 3 + 1)) (f (k * 3 + 2)) (stL step s0 f k)).2
def outL {σ : Type} (step : σ → Int → Bool × σ) (s0 : σ) (f : Nat → Int) (k : Nat) : Int := (litG step (f (k * 3)) (f (k * 3 + 1)) (f (k * 3 + 2)) (stL step s0 f k)).1
/-- What laws.isLiterals asks. -/
def LitOk (f : Nat → Int) (n : Nat) : Prop := ∀ i, i < n → 0 ≤ f (i * 3) ∧ f (i * 3) ≤ 2 ∧ 0 ≤ f (i * 3 + 1) ∧ f (i * 3 + 1) ≤ 255 ∧ 0 ≤ f (i * 3 + 2) ∧ f (i * 3 + 2) ≤ 24

theorem DoorUint_any (g : Nat) (ao : Option Addr) (n c : Nat) (zs : List Int) (d : DS) (p : Int) (k : Nat) (w : World) (h : Rd w g ao n c zs d) (hp0 : 0 ≤ p) (hp1 : p ≤ 255) (hk : k ≤ 24) :
    Calls Tryd.prog 39 #[.pointer (some ⟨g, 0, none⟩), .int .u8 p, .int .u8 k] w fun e w' =>
      e = .returned (.int .u32 (bitsG (stepP zs) p k 0 d).1) ∧ Rd w' g ao n c zs (bitsG (stepP zs) p k 0 d).2 ∧ w.grownBy w' (some g) := by
  have H := Lib.hid h; clear h
  obtain ⟨R, hR⟩ : ∃ R, R = bitsG (stepP zs) p k 0 d := ⟨_, rfl⟩
  rw [← hR]
  have HR := Lib.hid hR; clear hR
  go_enter Tryd.func39, Tryd.ntmps39
  go_wp2_with fail
  refine (readUint_any g ao n c zs d p k w H.out hp0 hp1 hk).mono ?_
  rw [← HR.out]
  rintro _ w1 ⟨rfl, h1, g1⟩
  have H1 := Lib.hid (And.intro h1 g1); clear h1 g1
  go_wp2
  go_ret
  exact ⟨rfl, H1.out⟩

theorem DoorInt_any (g : Nat) (ao : Option Addr) (n c : Nat) (zs : List Int) (d : DS) (p : Int) (k : Nat) (w : World) (h : Rd w g ao n c zs d) (hp0 : 0 ≤ p) (hp1 : p ≤ 255) (hk : k ≤ 24) :
    Calls Tryd.prog 40 #[.pointer (some ⟨g, 0, none⟩), .int .u8 p, .int .u8 k] w fun e w' =>
      e = .returned (.int .i32 (signG (stepP zs) p k d).1) ∧ Rd w' g ao n c zs (signG (stepP zs) p k d).2 ∧ w.grownBy w' (some g) := by
  have H := Lib.hid h; clear h
  obtain ⟨R, hR⟩ : ∃ R, R = signG (stepP zs) p k d := ⟨_, rfl⟩
  rw [← hR]
  have HR := Lib.hid hR; clear hR
  go_enter Tryd.func40, Tryd.ntmps40
  go_wp2_with fail
  refine (readInt_any g ao n c zs d p k w H.out hp0 hp1 hk).mono ?_
  rw [← HR.out]
  rintro _ w1 ⟨rfl, h1, g1⟩
  have H1 := Lib.hid (And.intro h1 g1); clear h1 g1
  go_wp2
  go_ret
  exact ⟨rfl, H1.out⟩

theorem DoorOptional_any (g : Nat) (ao : Option Addr) (n c : Nat) (zs : List Int) (d : DS) (p : Int) (k : Nat) (w : World) (h : Rd w g ao n c zs d) (hp0 : 0 ≤ p) (hp1 : p ≤ 255) (hk : k ≤ 24) :
    Calls Tryd.prog 41 #[.pointer (some ⟨g, 0, none⟩), .int .u8 p, .int .u8 k] w fun e w' =>
      e = .returned (.int .i32 (optG (stepP zs) p k d).1) ∧ Rd w' g ao n c zs (optG (stepP zs) p k d).2 ∧ w.grownBy w' (some g) := by
  have H := Lib.hid h; clear h
  obtain ⟨R, hR⟩ : ∃ R, R = optG (stepP zs) p k d := ⟨_, rfl⟩
  rw [← hR]
  have HR := Lib.hid hR; clear hR
  go_enter Tryd.func41, Tryd.ntmps41
  go_wp2_with fail
  refine (readOpt_any g ao n c zs d p k w H.out hp0 hp1 hk).mono ?_
  rw [← HR.out]
  rintro _ w1 ⟨rfl, h1, g1⟩
  have H1 := Lib.hid (And.intro h1 g1); clear h1 g1
  go_wp2
  go_ret
  exact ⟨rfl, H1.out⟩

theorem bitsG24 {σ : Type} (step : σ → Int → Bool × σ) (p : Int) (k : Nat) (s : σ) (hk : k ≤ 24) : 0 ≤ (bitsG step p k 0 s).1 ∧ (bitsG step p k 0 s).1 ≤ 16777215 := by
  have h := bitsG_range step p k 0 s
  have hpk : (2 : Int) ^ k ≤ 16777216 := by
    have := Int.ofNat_le.2 (Nat.pow_le_pow_right (n := 2) (by omega) hk)
    simpa using this
  simp only [Int.zero_mul, Int.zero_add, Int.one_mul] at h
  omega
theorem signG24 {σ : Type} (step : σ → Int → Bool × σ) (p : Int) (k : Nat) (s : σ) (hk : k ≤ 24) : -16777215 ≤ (signG step p k s).1 ∧ (signG step p k s).1 ≤ 16777215 := by
  have := bitsG24 step p k s hk
  unfold signG
  simp only
  split <;> omega
theorem optG24 {σ : Type} (step : σ → Int → Bool × σ) (p : Int) (k : Nat) (s : σ) (hk : k ≤ 24) : -16777215 ≤ (optG step p k s).1 ∧ (optG step p k s).1 ≤ 16777215 := by
  unfold optG
  split
  · exact signG24 step p k _ hk
  · simp
theorem litG24 {σ : Type} (step : σ → Int → Bool × σ) (kd p sz : Int) (s : σ) (hk : sz ≤ 24) : -16777215 ≤ (litG step kd p sz s).1 ∧ (litG step kd p sz s).1 ≤ 16777215 := by
  unfold litG
  split
  · have := bitsG24 step p sz.toNat s (by omega); omega
  · split
    · exact signG24 step p sz.toNat s (by omega)
    · exact optG24 step p sz.toNat s (by omega)

theorem infoInt : (Tryd.prog.info? 3).map (fun i => (i.zero, i.size, i.bytes)) = some (some (.int .i64 0), 1, 8) := by kernel_rfl

set_option maxRecDepth 100000 in
set_option maxHeartbeats 800000 in
theorem Literals_any (ao : Option Addr) (n c : Nat) (zs : List Int) (pa : Option Addr) (pn pc : Nat) (f : Nat → Int) (w : World) (ht : Tabs w) (h2 : 2 ≤ w.heap.size) (hl : zs.length = n) (hrow : Arg .u8 w ao n (fun i => zs.getD i 0)) (hz : Bytes zs) (h255 : zs.getD 0 0 ≠ 255) (hn : n ≤ 1048576)
    (hp : Arg .i64 w pa (pn * 3) f) (hf : LitOk f pn) (hpn : pn ≤ 4096) :
    Calls Tryd.prog 16 #[.slice ao n c, .slice pa pn pc] w fun e w' => (∃ a c', e = .returned (.tuple #[.slice a pn c', .bool (stL (stepP zs) ds0 f pn).eof]) ∧ Own .i64 w.heap.size w' a pn (outL (stepP zs) ds0 f)) ∧ Below w.heap.size w w' := by
  obtain ⟨i0, hi, hz0, hz1, hz2⟩ := info_parts infoInt
  have hfar : Hid (0 < n → ∀ a, ao = some a → a.block < w.heap.size + 1) := Lib.hid (fun h0 a ha => by
    obtain ⟨g, o, e, hlt, _⟩ := hrow h0
    rw [ha] at e; injection e with e; subst e
    exact Nat.lt_succ_of_lt hlt)
  have H0 := Lib.hid (And.intro ht (And.intro hl (And.intro hrow (And.intro hz (And.intro h255 (And.intro hp hf)))))); clear ht hl hrow hz h255 hp hf
  go_enter Tryd.func16, Tryd.ntmps16
  go_wp2_with fail
  refine (bools_new ao n c w).mono ?_
  rintro _ w1 ⟨rfl, ho, hb⟩
  have H1 := Lib.hid (And.intro (rd0 H0.out.1 h2 H0.out.2.1 H0.out.2.2.1 H0.out.2.2.2.1 H0.out.2.2.2.2.1 hn ho hb) hb); clear ho hb
  go_wp2
  go_loopw [7, 16] (fun v i wr => ∃ p : Nat, p ≤ pn ∧ i = .int .i64 p ∧ wr.ownsRow (w.heap.size + 1) 3 1 v p (cellsOf .i64 p (outL (stepP zs) ds0 f)) ∧ Hid (Rd wr w.heap.size ao n c zs (stL (stepP zs) ds0 f p) ∧ Below w.heap.size w wr)) (fun _ i _ => pn - (intOf i).toNat)
  case atStart => exact ⟨0, by omega, rfl, World.ownsRow_nil _ _ _ _, H1.out.1, H1.out.2⟩
  case round =>
    obtain ⟨p, hp, rfl, hown, hR⟩ := hrel
    by_cases hlt : p < pn
    · obtain ⟨ga, oa, rfl, hga, ra⟩ := H0.out.2.2.2.2.2.1 (by omega)
      have hfp := H0.out.2.2.2.2.2.2 p hlt
      have k0 : wr.cell? ⟨ga, oa + p * 3, none⟩ = some (.int .i64 (f (p * 3))) := (hR.out.2.cell (p := ⟨ga, oa + p * 3, none⟩) hga).trans (ra (p * 3) (by omega))
      have k1 : wr.cell? ⟨ga, oa + p * 3 + 1, none⟩ = some (.int .i64 (f (p * 3 + 1))) := (hR.out.2.cell (p := ⟨ga, oa + p * 3 + 1, none⟩) hga).trans (ra (p * 3 + 1) (by omega))
      have k2 : wr.cell? ⟨ga, oa + p * 3 + 2, none⟩ = some (.int .i64 (f (p * 3 + 2))) := (hR.out.2.cell (p := ⟨ga, oa + p * 3 + 2, none⟩) hga).trans (ra (p * 3 + 2) (by omega))
      obtain ⟨kd, hkd⟩ : ∃ kd, kd = f (p * 3) := ⟨_, rfl⟩
      obtain ⟨pr, hpr⟩ : ∃ pr, pr = f (p * 3 + 1) := ⟨_, rfl⟩
      obtain ⟨k, hk⟩ : ∃ k : Nat, f (p * 3 + 2) = (k : Int) := Int.eq_ofNat_of_zero_le hfp.2.2.2.2.1
      obtain ⟨v, d', hG⟩ : ∃ v d', litG (stepP zs) kd pr (k : Int) (stL (stepP zs) ds0 f p) = (v, d') := ⟨_, _, rfl⟩
      have hv := litG24 (stepP zs) kd pr (k : Int) (stL (stepP zs) ds0 f p) (by omega)
      rw [hG] at hv
      obtain ⟨hv0, hv1⟩ := hv
      simp only at hv0 hv1
      have HL : Hid (outL (stepP zs) ds0 f p = v ∧ stL (stepP zs) ds0 f (p + 1) = d') := Lib.hid (by
        unfold outL
        rw [stL, ← hkd, ← hpr, hk, hG]; exact ⟨rfl, rfl⟩)
      rw [← hkd] at k0
      rw [← hpr] at k1
      rw [hk] at k2
      rw [← hkd, ← hpr, hk] at hfp
      obtain ⟨b0, b1, b2, b3, b4, b5⟩ := hfp
      have b5 : k ≤ 24 := by omega
      clear hkd hpr hk
      unfold litG at hG
      rw [Int.toNat_natCast] at hG
      have HGG := Lib.hid hG; clear hG ra
      go_wp2
      go_quiet (fail)
      generalize hw2 : World.drewN _ _ = w2
      have H2a : Hid (Rd w2 w.heap.size ao n c zs (stL (stepP zs) ds0 f p) ∧ Below w.heap.size w w2 ∧ w2.ownsRow (w.heap.size + 1) 3 1 u7 p (cellsOf .i64 p (outL (stepP zs) ds0 f)) ∧ w2.cell? ⟨wr.heap.size, 0, none⟩ = some (.int .i64 kd)) := by
        rw [← hw2]
        exact Lib.hid ⟨hR.out.1.below (below_drewN ((Below.refl _ _).alloc (Nat.le_refl _) _) _), below_drewN (hR.out.2.alloc hR.out.2.size _) _, (hown.alloc _).kept (grownBy_drewN _ _ none) (by cases Value.ownBlock u7 <;> simp), (cell_of_row _ _ 0 _ _ _ (heap_alloc_new wr _))⟩
      have d0 := H2a.out.2.2.2
      have H2 : Hid (Rd w2 w.heap.size ao n c zs (stL (stepP zs) ds0 f p) ∧ Below w.heap.size w w2 ∧ w2.ownsRow (w.heap.size + 1) 3 1 u7 p (cellsOf .i64 p (outL (stepP zs) ds0 f))) := Lib.hid ⟨H2a.out.1, H2a.out.2.1, H2a.out.2.2.1⟩
      clear H2a hw2 hown k0 k1 k2 hR
      by_cases e0 : kd = 0
      · subst e0
        have HG : Hid (bitsG (stepP zs) pr k 0 (stL (stepP zs) ds0 f p) = (v, d')) := Lib.hid (by have := HGG.out; rwa [if_pos rfl] at this)
        have hv2 : 0 ≤ v := by have := (bitsG24 (stepP zs) pr k (stL (stepP zs) ds0 f p) b5).1; rw [HG.out] at this; exact this
        go_wp2_with fail
        refine (DoorUint_any w.heap.size ao n c zs (stL (stepP zs) ds0 f p) pr k w2 H2.out.1 b2 b3 b5).mono ?_
        rw [show bitsG (stepP zs) pr k 0 (stL (stepP zs) ds0 f p) = (v, d') from HG.out]
        rintro _ w3 ⟨rfl, h3, g3⟩
        have H3 := Lib.hid (And.intro h3 g3)
        have hsz : w.heap.size + 1 ≤ w3.heap.size := h3.obj.lt
        have hown3 : w3.ownsRow (w.heap.size + 1) 3 1 u7 p (cellsOf .i64 p (outL (stepP zs) ds0 f)) := H2.out.2.2.kept g3 (.inr (fun e => by have := H2.out.2.2.lt _ e; omega))
        have hob : Hid (Below w.heap.size w w3) := Lib.hid (H2.out.2.1.grown g3 (Nat.le_of_lt H2.out.1.obj.lt) (fun k hk => by injection hk with hk; omega))
        clear h3 g3
        go_wp2_with (at_builtin; refine wpList_append_own _ rfl _ _ 23 rfl (w.heap.size + 1) 3 i0 (.int .i64 0) 1 8 Tryd.underlying23 hi hz0 hz1 hz2 rfl (by decide) _ _ _ rfl (hown3.alloc _) ⟨w3.heap.size, 0, none⟩ 1 1 [.int .i64 v] rfl rfl (cell_one_new _ _ _) (by simp [Value.oneCell']) (by unfold maxLen; omega) (by omega) (by simp; omega) ?_)
        intro v' w4 hown4 hgrow _
        have R1 : w4.ownsRow (w.heap.size + 1) 3 1 v' (p + 1) (cellsOf .i64 (p + 1) (outL (stepP zs) ds0 f)) := by
          rw [cellsOf_succ, show outL (stepP zs) ds0 f p = v from HL.out.1]; exact hown4
        have R2 : Rd w4 w.heap.size ao n c zs (stL (stepP zs) ds0 f (p + 1)) := by
          rw [show stL (stepP zs) ds0 f (p + 1) = d' from HL.out.2]
          exact (H3.out.1.below ((Below.refl _ _).alloc (Nat.le_refl _) _)).grown hgrow (w.heap.size + 1) (by omega) (fun k hk => by have := (hown3.lt k hk).1; omega) hfar.out
        have R3 : Below w.heap.size w w4 := (hob.out.alloc (by omega) _).grown hgrow (by simp; omega) (fun k hk => by have := (hown3.lt k hk).1; omega)
        clear hown4 hgrow hown3 hob H3
        go_wp2
        go_roundw
        case rel => exact ⟨p + 1, by omega, by go_num, R1, R2, R3⟩
        case measure => simp [intOf]; omega
      by_cases e1 : kd = 1
      · subst e1
        have HG : Hid (signG (stepP zs) pr k (stL (stepP zs) ds0 f p) = (v, d')) := Lib.hid (by have := HGG.out; rwa [if_neg (by decide), if_pos rfl] at this)
        go_wp2_with fail
        refine (DoorInt_any w.heap.size ao n c zs (stL (stepP zs) ds0 f p) pr k w2 H2.out.1 b2 b3 b5).mono ?_
        rw [show signG (stepP zs) pr k (stL (stepP zs) ds0 f p) = (v, d') from HG.out]
        rintro _ w3 ⟨rfl, h3, g3⟩
        have H3 := Lib.hid (And.intro h3 g3)
        have hsz : w.heap.size + 1 ≤ w3.heap.size := h3.obj.lt
        have hown3 : w3.ownsRow (w.heap.size + 1) 3 1 u7 p (cellsOf .i64 p (outL (stepP zs) ds0 f)) := H2.out.2.2.kept g3 (.inr (fun e => by have := H2.out.2.2.lt _ e; omega))
        have hob : Hid (Below w.heap.size w w3) := Lib.hid (H2.out.2.1.grown g3 (Nat.le_of_lt H2.out.1.obj.lt) (fun k hk => by injection hk with hk; omega))
        clear h3 g3
        go_wp2_with (at_builtin; refine wpList_append_own _ rfl _ _ 23 rfl (w.heap.size + 1) 3 i0 (.int .i64 0) 1 8 Tryd.underlying23 hi hz0 hz1 hz2 rfl (by decide) _ _ _ rfl (hown3.alloc _) ⟨w3.heap.size, 0, none⟩ 1 1 [.int .i64 v] rfl rfl (cell_one_new _ _ _) (by simp [Value.oneCell']) (by unfold maxLen; omega) (by omega) (by simp; omega) ?_)
        intro v' w4 hown4 hgrow _
        have R1 : w4.ownsRow (w.heap.size + 1) 3 1 v' (p + 1) (cellsOf .i64 (p + 1) (outL (stepP zs) ds0 f)) := by
          rw [cellsOf_succ, show outL (stepP zs) ds0 f p = v from HL.out.1]; exact hown4
        have R2 : Rd w4 w.heap.size ao n c zs (stL (stepP zs) ds0 f (p + 1)) := by
          rw [show stL (stepP zs) ds0 f (p + 1) = d' from HL.out.2]
          exact (H3.out.1.below ((Below.refl _ _).alloc (Nat.le_refl _) _)).grown hgrow (w.heap.size + 1) (by omega) (fun k hk => by have := (hown3.lt k hk).1; omega) hfar.out
        have R3 : Below w.heap.size w w4 := (hob.out.alloc (by omega) _).grown hgrow (by simp; omega) (fun k hk => by have := (hown3.lt k hk).1; omega)
        clear hown4 hgrow hown3 hob H3
        go_wp2
        go_roundw
        case rel => exact ⟨p + 1, by omega, by go_num, R1, R2, R3⟩
        case measure => simp [intOf]; omega
      · obtain rfl : kd = 2 := by omega
        have HG : Hid (optG (stepP zs) pr k (stL (stepP zs) ds0 f p) = (v, d')) := Lib.hid (by have := HGG.out; rwa [if_neg (by decide), if_neg (by decide)] at this)
        go_wp2_with fail
        refine (DoorOptional_any w.heap.size ao n c zs (stL (stepP zs) ds0 f p) pr k w2 H2.out.1 b2 b3 b5).mono ?_
        rw [show optG (stepP zs) pr k (stL (stepP zs) ds0 f p) = (v, d') from HG.out]
        rintro _ w3 ⟨rfl, h3, g3⟩
        have H3 := Lib.hid (And.intro h3 g3)
        have hsz : w.heap.size + 1 ≤ w3.heap.size := h3.obj.lt
        have hown3 : w3.ownsRow (w.heap.size + 1) 3 1 u7 p (cellsOf .i64 p (outL (stepP zs) ds0 f)) := H2.out.2.2.kept g3 (.inr (fun e => by have := H2.out.2.2.lt _ e; omega))
        have hob : Hid (Below w.heap.size w w3) := Lib.hid (H2.out.2.1.grown g3 (Nat.le_of_lt H2.out.1.obj.lt) (fun k hk => by injection hk with hk; omega))
        clear h3 g3
        go_wp2_with (at_builtin; refine wpList_append_own _ rfl _ _ 23 rfl (w.heap.size + 1) 3 i0 (.int .i64 0) 1 8 Tryd.underlying23 hi hz0 hz1 hz2 rfl (by decide) _ _ _ rfl (hown3.alloc _) ⟨w3.heap.size, 0, none⟩ 1 1 [.int .i64 v] rfl rfl (cell_one_new _ _ _) (by simp [Value.oneCell']) (by unfold maxLen; omega) (by omega) (by simp; omega) ?_)
        intro v' w4 hown4 hgrow _
        have R1 : w4.ownsRow (w.heap.size + 1) 3 1 v' (p + 1) (cellsOf .i64 (p + 1) (outL (stepP zs) ds0 f)) := by
          rw [cellsOf_succ, show outL (stepP zs) ds0 f p = v from HL.out.1]; exact hown4
        have R2 : Rd w4 w.heap.size ao n c zs (stL (stepP zs) ds0 f (p + 1)) := by
          rw [show stL (stepP zs) ds0 f (p + 1) = d' from HL.out.2]
          exact (H3.out.1.below ((Below.refl _ _).alloc (Nat.le_refl _) _)).grown hgrow (w.heap.size + 1) (by omega) (fun k hk => by have := (hown3.lt k hk).1; omega) hfar.out
        have R3 : Below w.heap.size w w4 := (hob.out.alloc (by omega) _).grown hgrow (by simp; omega) (fun k hk => by have := (hown3.lt k hk).1; omega)
        clear hown4 hgrow hown3 hob H3
        go_wp2
        go_roundw
        case rel => exact ⟨p + 1, by omega, by go_num, R1, R2, R3⟩
        case measure => simp [intOf]; omega
    · obtain rfl : p = pn := by omega
      go_wp2_with fail
      refine (DoorEnded_any w.heap.size ao n c _ wr hR.out.1.obj).mono ?_
      rintro _ _ ⟨rfl, rfl⟩
      go_wp2
      go_ret2
      obtain ⟨a, c', rfl, _, ho⟩ := own_of_cells hown
      exact ⟨⟨_, _, rfl, ho.mono (Nat.le_succ _)⟩, hR.out.2⟩
end Go.Proofs.YthmkmemocjnleaaDoor
