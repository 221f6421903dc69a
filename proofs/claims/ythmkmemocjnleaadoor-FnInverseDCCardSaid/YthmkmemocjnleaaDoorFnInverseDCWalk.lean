/- laws.FnInverseDC. -/
import Derived.Test.YthmkmemocjnleaaDoorInvDoor
import Derived.Test.YthmkmemocjnleaaDoorBytesEq
import Derived.Test.YthmkmemocjnleaaDoorReadBool
import Derived.Test.YthmkmemocjnleaaDoorInR
namespace Go.Proofs.YthmkmemocjnleaaDoor
open Go.RowKit
set_option linter.unusedVariables false

theorem held_any (x : Int) (w : World) :
    Calls Tryd.prog 24 #[.int .i64 x] w fun e w' => e = .returned (.int .i64 (clp x)) ∧ w = w' := by
  go_enter Tryd.func24, Tryd.ntmps24
  go_wp2
  go_ret
  exact ⟨ret_int (by unfold clp; (repeat' split) <;> omega), rfl⟩

theorem fnInverseDC_size (w : World) (c : Int) (a1 : Option Addr) (n1 c1 : Nat) (hn : n1 ≤ 9223372036854775807) (b : 2147483647 < n1) :
    Calls Tryd.prog 7 #[.int .i64 c, .slice a1 n1 c1] w fun e w' => e = .returned (.bool true) ∧ Below w.heap.size w w' := by
  go_enter Tryd.func7, Tryd.ntmps7
  go_wp2
  go_ret
  exact ⟨rfl, Below.refl _ _⟩
theorem fnInverseDC_bad (w : World) (ht : Tabs w) (c : Int) (a1 : Option Addr) (n1 c1 : Nat) (hn : n1 ≤ 2147483647) (b : c < -25079 ∨ 25079 < c ∨ n1 ≠ 16) :
    Calls Tryd.prog 7 #[.int .i64 c, .slice a1 n1 c1] w fun e w' => e = .returned (.bool true) ∧ Below w.heap.size w w' := by
  have h2 := ht.two
  have H := Lib.hid ht; clear ht
  by_cases b1 : c < -25079
  · clear b
    go_enter Tryd.func7, Tryd.ntmps7
    go_wp2_with fail
    refine (readBool_any w H.out h2).mono ?_
    rintro _ w3 ⟨rfl, b3⟩
    have H3 := Lib.hid b3; clear b3
    go_wp2
    go_ret
    exact ⟨rfl, H3.out⟩
  by_cases b2 : 25079 < c
  · clear b
    go_enter Tryd.func7, Tryd.ntmps7
    go_wp2_with fail
    refine (readBool_any w H.out h2).mono ?_
    rintro _ w3 ⟨rfl, b3⟩
    have H3 := Lib.hid b3; clear b3
    go_wp2
    go_ret
    exact ⟨rfl, H3.out⟩
  · have b3 : n1 ≠ 16 := by omega
    have q : ((n1 : Int) != 16) = true := by simp; omega
    clear b b3
    go_enter Tryd.func7, Tryd.ntmps7
    go_wp2_with fail
    refine (readBool_any w H.out h2).mono ?_
    rintro _ w3 ⟨rfl, b3⟩
    have H3 := Lib.hid b3; clear b3
    go_wp2
    go_ret
    exact ⟨rfl, H3.out⟩

set_option maxRecDepth 100000 in
set_option maxHeartbeats 800000 in
theorem fnInverseDC_good (w : World) (ht : Tabs w) (c : Int) (a1 : Option Addr) (c1 : Nat) (f : Nat → Int) (ha : Arg .u8 w a1 16 f) (hf : ∀ k, 0 ≤ f k ∧ f k ≤ 255) (hc1 : 16 ≤ c1) (hcm : c1 ≤ maxLen) (b1 : -25079 ≤ c) (b2 : c ≤ 25079) :
    Calls Tryd.prog 7 #[.int .i64 c, .slice a1 16 c1] w fun e w' => e = .returned (.bool true) ∧ Below w.heap.size w w' := by
  have h2 := ht.two
  have H := Lib.hid (And.intro ht (And.intro ha (And.intro hf hcm))); clear ht ha hf hcm
  go_enter Tryd.func7, Tryd.ntmps7
  go_wp2_with fail
  refine (impDC_any c a1 c1 f w (by omega) (by omega) hc1 H.out.2.2.2 H.out.2.1 H.out.2.2.1).mono ?_
  rintro _ w1 ⟨⟨ra, rc, rfl, ro⟩, hb⟩
  have H1 := Lib.hid (And.intro ro hb); clear ro hb
  go_wp2_with fail
  refine (imp_any c a1 c1 f w1 (by omega) (by omega) hc1 H.out.2.2.2 (H.out.2.1.below H1.out.2) H.out.2.2.1).mono ?_
  rintro _ w2 ⟨⟨sa, sc, rfl, so⟩, hb⟩
  have H2 : Hid (Own .u8 w.heap.size w2 ra 16 (invV f c) ∧ Arg .u8 w2 sa 16 (invV f c) ∧ Arg .u8 w2 a1 16 f ∧ Below w.heap.size w w2) := Lib.hid ⟨H1.out.1.below hb, so.arg, (H.out.2.1.below H1.out.2).below hb, H1.out.2.trans (hb.mono H1.out.2.size)⟩
  clear so hb H1
  obtain ⟨gr, rfl, _, hgr, rr, _⟩ := H2.out.1 (by decide)
  obtain ⟨gi, oi, rfl, hgi, ri⟩ := H2.out.2.2.1 (by decide)
  have HR := Lib.hid (And.intro rr ri); clear rr ri
  go_wp2
  go_loopw [7] (fun i wr => ∃ p : Nat, p ≤ 16 ∧ i = .int .i64 p ∧ Hid (Below w2.heap.size w2 wr)) (fun i _ => 16 - (intOf i).toNat)
  case atStart => exact ⟨0, by omega, rfl, Below.refl _ _⟩
  case round =>
    obtain ⟨p, hp, rfl, hb⟩ := hrel
    by_cases hlt : p < 16
    · have k1 : wr.cell? ⟨gr, p, none⟩ = some (.int .u8 (invV f c p)) := by
        rw [hb.out.cell (p := ⟨gr, p, none⟩) hgr]; simpa using HR.out.1 p hlt
      have k2 : wr.cell? ⟨gi, oi + p, none⟩ = some (.int .u8 (f p)) := (hb.out.cell (p := ⟨gi, oi + p, none⟩) hgi).trans (HR.out.2 p hlt)
      obtain ⟨f0, f1⟩ := H.out.2.2.1 p
      obtain ⟨x, hx⟩ : ∃ x, x = f p := ⟨_, rfl⟩
      have hv : invV f c p = clp (x + (c + 4) / 8) := by unfold invV; rw [hx]
      rw [hv] at k1
      rw [← hx] at k2 f0 f1
      clear hx hv
      obtain ⟨v0, v1⟩ := clp_bd (x + (c + 4) / 8)
      have r1 : IntKind.i64.wrap (x + (c + 4) / 8) = x + (c + 4) / 8 := IntWalk.i64_in _ (by omega)
      have r2 : IntKind.i64.wrap (c + 4) = c + 4 := IntWalk.i64_in _ (by omega)
      have r3 : IntKind.i64.wrap x = x := IntWalk.i64_in _ (by omega)
      have r4 : IntKind.i64.wrap (clp (x + (c + 4) / 8)) = clp (x + (c + 4) / 8) := IntWalk.i64_in _ (by omega)
      go_wp2
      go_quiet ((go_at_call 24; exact quiet_same (held_any _ _)))
      clear r1 r2 r3 r4
      go_wp2
      go_roundw
      case rel => exact ⟨p + 1, by omega, by go_num, below_drewN hb.out _⟩
      case measure => simp [intOf]; omega
    · obtain rfl : p = 16 := by omega
      have HB : Hid (Below w.heap.size w wr ∧ Arg .u8 wr (some ⟨gr, 0, none⟩) 16 (invV f c) ∧ Arg .u8 wr sa 16 (invV f c)) := Lib.hid ⟨H2.out.2.2.2.trans (hb.out.mono H2.out.2.2.2.size), H2.out.1.arg.below hb.out, H2.out.2.1.below hb.out⟩
      clear hb
      go_wp2_with fail
      refine (bytes_eq _ sa 16 rc sc _ _ wr (by decide) HB.out.2.1 HB.out.2.2 (fun _ _ => rfl)).mono ?_
      rintro _ w3 ⟨rfl, d, rfl⟩
      have HB3 : Hid (Below w.heap.size w (wr.drewN d)) := Lib.hid (below_drewN HB.out.1 d)
      generalize wr.drewN d = w3 at HB3 ⊢
      have hs3 : 2 ≤ w3.heap.size := by have := HB3.out.size; omega
      go_wp2_with fail
      refine (readBool_any w3 (H.out.1.below h2 HB3.out) hs3).mono ?_
      rintro _ w4 ⟨rfl, b4⟩
      have H4 := Lib.hid (HB3.out.trans (b4.mono HB3.out.size)); clear b4
      go_wp2
      go_ret
      exact ⟨rfl, H4.out⟩

theorem fnInverseDC_walk (w : World) (ht : Tabs w) (c : Int) (w0 : (Lit.int .i64 c).wf = true) (a1 : Option Addr) (n1 c1 : Nat) (z1 : List Int) (h1 : IsRow .u8 w a1 n1 c1 z1) :
    Calls Tryd.prog 7 #[.int .i64 c, .slice a1 n1 c1] w fun e w' => e = .returned (.bool true) ∧ Below w.heap.size w w' := by
  obtain ⟨ha, hl, hm, _, hwf⟩ := h1.arg
  by_cases s : 2147483647 < n1
  · exact fnInverseDC_size w c a1 n1 c1 (by unfold maxLen at hm; omega) s
  by_cases b : c < -25079 ∨ 25079 < c ∨ n1 ≠ 16
  · exact fnInverseDC_bad w ht c a1 n1 c1 (by omega) b
  · obtain rfl : n1 = 16 := by omega
    exact fnInverseDC_good w ht c a1 c1 _ ha (fun k => u8_bounds (hwf k)) hl hm (by omega) (by omega)
end Go.Proofs.YthmkmemocjnleaaDoor
