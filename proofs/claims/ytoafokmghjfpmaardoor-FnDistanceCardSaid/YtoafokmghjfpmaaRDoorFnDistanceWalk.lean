/- The walk of FnDistance. -/
import Derived.Test.YtoafokmghjfpmaaRDoorDistW
import Derived.BigGuardPart
import Derived.Deep.RegionHeld3
namespace Go.Proofs.YtoafokmghjfpmaaRDoor
open Go.RowKit
set_option linter.unusedVariables false

theorem readSums_b (w : World) : Calls Tryd.prog 5 #[] w fun e w' => e = .returned (.bool true) ∧ w = w' := readSums_any w

/-- What holds all through the last region. -/
def DS (w : World) (g c : Nat) (a b : Int) (w' : World) : Prop := TabD w' ∧ Below w.heap.size w w' ∧ g < w'.heap.size ∧ w'.cell? ⟨g, c * 2, none⟩ = some (.int .i64 a) ∧ w'.cell? ⟨g, c * 2 + 1, none⟩ = some (.int .i64 b)
theorem DS.below {w w' w'' : World} {g c : Nat} {a b : Int} (h : DS w g c a b w') (hb : Below w'.heap.size w' w'') : DS w g c a b w'' :=
  ⟨h.1.below hb h.1.lt, h.2.1.trans (hb.mono h.2.1.size), Nat.lt_of_lt_of_le h.2.2.1 hb.size, (hb.cell (p := ⟨g, c * 2, none⟩) h.2.2.1).trans h.2.2.2.1, (hb.cell (p := ⟨g, c * 2 + 1, none⟩) h.2.2.1).trans h.2.2.2.2⟩
theorem DS.drew {w w' : World} {g c : Nat} {a b : Int} (h : DS w g c a b w') : DS w g c a b w'.drew :=
  ⟨h.1, h.2.1.drew, h.2.2.1, h.2.2.2.1, h.2.2.2.2⟩

theorem near_ds {w w' : World} {g c : Nat} {a b : Int} (h : DS w g c a b w') : Calls Tryd.prog 8 #[] w' fun e w'' => e = .returned (.agg (cellsOf .i64 240 nearF).toArray) ∧ DS w g c a b w'' :=
  (lawsNear_any w' h.1).mono fun _ _ ⟨he, hb⟩ => ⟨he, h.below hb⟩
theorem sums_ds {w w' : World} {g c : Nat} {a b : Int} (h : DS w g c a b w') : Calls Tryd.prog 5 #[] w' fun e w'' => e = .returned (.bool true) ∧ DS w g c a b w'' :=
  (readSums_any w').mono fun _ _ ⟨he, hb⟩ => ⟨he, hb ▸ h⟩

set_option maxRecDepth 100000 in
set_option maxHeartbeats 1600000 in
theorem fnDistance_lo (w : World) (ht : TabD w) (a0 a1 W : Int) (c : Nat) (h1 : 1 ≤ W) (h2 : W ≤ 16384) (hc : c < 120) (e0 : bits .and .i64 a0 16383 = W - 1) (e1 : bits .and .i64 a1 1048575 = c) :
    Calls Tryd.prog 3 #[.int .i64 a0, .int .i64 a1] w fun e w' => e = .returned (.bool true) ∧ Below w.heap.size w w' := by
  have H := Lib.hid (And.intro ht ht.lt); clear ht
  go_enter Tryd.func3, Tryd.ntmps3
  go_wp2_with fail
  refine (distMap_lo W c w H.out.1 h1 h2 hc).mono ?_
  rintro _ _ ⟨rfl, rfl⟩
  go_wp2_with fail
  refine (implNear_any w H.out.1).mono ?_
  rintro _ w1 ⟨⟨sa, sc, rfl, ho⟩, hb⟩
  obtain ⟨g, rfl, hg1, hg2, hr, _⟩ := ho (by decide)
  have c0 : w1.cell? ⟨g, c * 2, none⟩ = some (.int .i64 (nearF (2 * c))) := by rw [Nat.mul_comm c 2]; simpa using hr (2 * c) (by omega)
  have c1 : w1.cell? ⟨g, c * 2 + 1, none⟩ = some (.int .i64 (nearF (2 * c + 1))) := by rw [Nat.mul_comm c 2]; simpa using hr (2 * c + 1) (by omega)
  obtain ⟨f0, f1, f2, f3⟩ := far_range c W hc h1 h2
  have n0 := nearF_range (2 * c) (by omega)
  have n1 := nearF_range (2 * c + 1) (by omega)
  have hB : backF c W = if farF c W < 1 then 1 else farF c W := rfl
  have hf : farF c W = nearF (2 * c) + nearF (2 * c + 1) * W := rfl
  have HR : Hid (∀ w', DS w g c (nearF (2 * c)) (nearF (2 * c + 1)) w' → Calls Tryd.prog 7 #[.int .i64 W, .int .i64 (c + 1), .agg (cellsOf .i64 240 nearF).toArray] w' fun e w'' => e = .returned (.int .i64 (backF c W)) ∧ DS w g c (nearF (2 * c)) (nearF (2 * c + 1)) w'') := Lib.hid fun w' hd => (specDist_any W c w' h1 h2 hc).mono fun _ _ ⟨he, hb⟩ => ⟨he, hd.below hb⟩
  have HN : Hid (∀ w', DS w g c (nearF (2 * c)) (nearF (2 * c + 1)) w' → Calls Tryd.prog 8 #[] w' fun e w'' => e = .returned (.agg (cellsOf .i64 240 nearF).toArray) ∧ DS w g c (nearF (2 * c)) (nearF (2 * c + 1)) w'') := Lib.hid fun w' hd => near_ds hd
  generalize backF c W = R at *
  generalize farF c W = F at *
  generalize nearF (2 * c) = a at *
  generalize nearF (2 * c + 1) = b at *
  obtain ⟨n00, n01⟩ := n0
  obtain ⟨n10, n11⟩ := n1
  have HS : DS w g c a b w1 := ⟨H.out.1.below hb H.out.2, hb, hg2, c0, c1⟩
  clear hb ho hr hg1
  generalize (cellsOf .i64 240 nearF).toArray = vs at *
  rw [hf] at f0 f1 hB
  clear hf
  have k1 : ((c : Int) + 1 - 1).toNat = c := by omega
  have k2 : IntKind.i64.wrap ((c : Int) + 1 - 1) = c := by rw [IntKind.wrap_i64]; omega
  have k5 : IntKind.i64.wrap (c : Int) = c := by rw [IntKind.wrap_i64]; omega
  have k6 : (0 : Int) ≤ (c : Int) := by omega
  have k7 : (c : Int) < 120 := by omega
  have k3 : IntKind.i64.wrap (b * W) = b * W := by rw [IntKind.wrap_i64]; omega
  have k4 : IntKind.i64.wrap (a + b * W) = a + b * W := by rw [IntKind.wrap_i64]; omega
  by_cases hlt : 1 < a + b * W
  · obtain rfl : a + b * W = R := by rw [hB]; split <;> omega
    clear hB
    go_wp2
    go_region_held3? (fun w' => DS w g c a b w' ∧ w'.cell? ⟨g, c * 2, none⟩ = some (.int .i64 a) ∧ w'.cell? ⟨g, c * 2 + 1, none⟩ = some (.int .i64 b)) (first | exact ⟨by assumption, by assumption, by assumption⟩ | exact ⟨HS.drew, c0, c1⟩) (first
      | (go_at_call 8; refine (HN.out _ (And.left ‹DS w g c a b _ ∧ _›)).mono ?_; rintro e w' ⟨rfl, hd⟩; have hd1 := hd.2.2.2.1; have hd2 := hd.2.2.2.2)
      | (go_at_call 7; refine (HR.out _ (And.left ‹DS w g c a b _ ∧ _›)).mono ?_; rintro e w' ⟨rfl, hd⟩; have hd1 := hd.2.2.2.1; have hd2 := hd.2.2.2.2)
      | (go_at_call 5; refine (sums_ds (And.left ‹DS w g c a b _ ∧ _›)).mono ?_; rintro e w' ⟨rfl, hd⟩; have hd1 := hd.2.2.2.1; have hd2 := hd.2.2.2.2))
    obtain ⟨hd0, _, _⟩ := ‹DS w g c _ _ _ ∧ _›
    have HD := Lib.hid hd0; clear hd0
    go_wp2
    go_ret
    exact ⟨rfl, HD.out.2.1⟩
  · obtain rfl : R = 1 := by rw [hB]; split <;> omega
    clear hB
    have hm : (if 1 < a + b * W then a + b * W else 1) = 1 := if_neg hlt
    clear hlt
    go_wp2
    go_region_held3? (fun w' => DS w g c a b w' ∧ w'.cell? ⟨g, c * 2, none⟩ = some (.int .i64 a) ∧ w'.cell? ⟨g, c * 2 + 1, none⟩ = some (.int .i64 b)) (first | exact ⟨by assumption, by assumption, by assumption⟩ | exact ⟨HS.drew, c0, c1⟩) (first
      | (go_at_call 8; refine (HN.out _ (And.left ‹DS w g c a b _ ∧ _›)).mono ?_; rintro e w' ⟨rfl, hd⟩; have hd1 := hd.2.2.2.1; have hd2 := hd.2.2.2.2)
      | (go_at_call 7; refine (HR.out _ (And.left ‹DS w g c a b _ ∧ _›)).mono ?_; rintro e w' ⟨rfl, hd⟩; have hd1 := hd.2.2.2.1; have hd2 := hd.2.2.2.2)
      | (go_at_call 5; refine (sums_ds (And.left ‹DS w g c a b _ ∧ _›)).mono ?_; rintro e w' ⟨rfl, hd⟩; have hd1 := hd.2.2.2.1; have hd2 := hd.2.2.2.2))
    obtain ⟨hd0, _, _⟩ := ‹DS w g c _ _ _ ∧ _›
    have HD := Lib.hid hd0; clear hd0
    go_wp2
    go_ret
    exact ⟨rfl, HD.out.2.1⟩
set_option maxRecDepth 100000 in
set_option maxHeartbeats 800000 in
theorem fnDistance_hi (w : World) (a0 a1 W n : Int) (h1 : 1 ≤ W) (h2 : W ≤ 16384) (hn : 120 < n) (hn2 : n ≤ 1048576) (e0 : bits .and .i64 a0 16383 = W - 1) (e1 : bits .and .i64 a1 1048575 = n - 1) :
    Calls Tryd.prog 3 #[.int .i64 a0, .int .i64 a1] w fun e w' => e = .returned (.bool true) ∧ Below w.heap.size w w' := by
  go_enter Tryd.func3, Tryd.ntmps3
  go_wp2_with fail
  refine (distMap_hi W n w h1 h2 hn hn2).mono ?_
  rintro _ _ ⟨rfl, rfl⟩
  go_wp2_with (first | (go_at_call 5; refine (readSums_any _).mono ?_; rintro e w' ⟨rfl, rfl⟩))
  go_ret
  exact ⟨rfl, Below.refl _ _⟩

theorem fnDistance_walk (w : World) (ht : TabD w) (a0 : Int) (w0 : (Lit.int .i64 a0).wf = true) (a1 : Int) (w1 : (Lit.int .i64 a1).wf = true) :
    Calls Tryd.prog 3 #[.int .i64 a0, .int .i64 a1] w fun e w' => e = .returned (.bool true) ∧ Below w.heap.size w w' := by
  by_cases h : a1 % 1048576 + 1 ≤ 120
  · obtain ⟨c, hc⟩ : ∃ c : Nat, a1 % 1048576 = (c : Int) := Int.eq_ofNat_of_zero_le (by omega)
    exact fnDistance_lo w ht a0 a1 (a0 % 16384 + 1) c (by omega) (by omega) (by omega) (by rw [mask14]; omega) (by rw [mask20, hc])
  · exact fnDistance_hi w a0 a1 (a0 % 16384 + 1) (a1 % 1048576 + 1) (by omega) (by omega) (by omega) (by omega) (by rw [mask14]; omega) (by rw [mask20]; omega)
end Go.Proofs.YtoafokmghjfpmaaRDoor
