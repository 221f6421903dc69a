/- The walk of FnEdge. -/
import Derived.Test.YthmkmemocjnleaaDoorReadBool
namespace Go.Proofs.YthmkmemocjnleaaDoor
open Go.RowKit
set_option linter.unusedVariables false

theorem tabs_two {w : World} (h : Tabs w) : 2 ≤ w.heap.size := World.block_lt_of_cell? w _ (h 0 (by decide)).2

/-- The mode that is meant. -/
def edgeF (x y m : Int) : Int := if m ≠ 0 then m else if 0 < x then (if 0 < y then 0 else 10) else (if 0 < y then 11 else 12)

theorem edge_any (x y m : Int) (w : World) (hx : 0 ≤ x) (hy : 0 ≤ y) (hm0 : 0 ≤ m) (hm : m ≤ 3) :
    Calls Tryd.prog 19 #[.int .i64 x, .int .i64 y, .int .i64 m] w fun e w' => e = .returned (.int .i64 (edgeF x y m)) ∧ w = w' := by
  by_cases h1 : m = 0
  · subst h1
    by_cases h2 : x = 0
    · subst h2
      by_cases h3 : y = 0
      · subst h3
        clear hx hy hm0 hm
        rw [show edgeF 0 0 0 = 12 by unfold edgeF; simp <;> omega]
        go_enter Tryd.func19, Tryd.ntmps19
        go_wp2_with (first | (go_at_call 42; go_in))
        go_wp2_with (first | (go_at_call 61; go_in))
        go_ret
        exact ⟨rfl, rfl⟩
      · have h4 : 0 < y := by omega
        rw [show edgeF 0 y 0 = 11 by unfold edgeF; simp <;> omega]
        go_enter Tryd.func19, Tryd.ntmps19
        go_wp2_with (first | (go_at_call 42; go_in))
        go_wp2_with (first | (go_at_call 61; go_in))
        go_ret
        exact ⟨rfl, rfl⟩
    · have h5 : 0 < x := by omega
      by_cases h3 : y = 0
      · subst h3
        rw [show edgeF x 0 0 = 10 by unfold edgeF; simp <;> omega]
        go_enter Tryd.func19, Tryd.ntmps19
        go_wp2_with (first | (go_at_call 42; go_in))
        go_wp2_with (first | (go_at_call 61; go_in))
        go_ret
        exact ⟨rfl, rfl⟩
      · have h4 : 0 < y := by omega
        rw [show edgeF x y 0 = 0 by unfold edgeF; simp <;> omega]
        go_enter Tryd.func19, Tryd.ntmps19
        go_wp2_with (first | (go_at_call 42; go_in))
        go_wp2_with (first | (go_at_call 61; go_in))
        go_ret
        exact ⟨rfl, rfl⟩
  · have h6 : 0 < m := by omega
    rw [show edgeF x y m = m by unfold edgeF; simp <;> omega]
    go_enter Tryd.func19, Tryd.ntmps19
    go_wp2_with (first | (go_at_call 42; go_in))
    go_wp2_with (first | (go_at_call 61; go_in))
    go_ret
    exact ⟨rfl, rfl⟩

set_option maxRecDepth 100000 in
theorem fnEdge_walk (w : World) (ht : Tabs w) (a0 : Int) (w0 : (Lit.int .i64 a0).wf = true) (a1 : Int) (w1 : (Lit.int .i64 a1).wf = true) (a2 : Int) (w2 : (Lit.int .i64 a2).wf = true) :
    Calls Tryd.prog 5 #[.int .i64 a0, .int .i64 a1, .int .i64 a2] w fun e w' => e = .returned (.bool true) ∧ Below w.heap.size w w' := by
  obtain ⟨x, hx⟩ : ∃ x, x = a0 % 1048576 := ⟨_, rfl⟩
  obtain ⟨y, hy⟩ : ∃ y, y = a1 % 1048576 := ⟨_, rfl⟩
  obtain ⟨m, hm⟩ : ∃ m, m = a2 % 4 := ⟨_, rfl⟩
  have x0 : 0 ≤ x := by omega
  have x1 : x ≤ 1048575 := by omega
  have y0 : 0 ≤ y := by omega
  have y1 : y ≤ 1048575 := by omega
  have m0 : 0 ≤ m := by omega
  have m1 : m ≤ 3 := by omega
  have ex : bits .and .i64 a0 1048575 = x := by rw [mask20, hx]
  have ey : bits .and .i64 a1 1048575 = y := by rw [mask20, hy]
  have em : bits .and .i64 a2 3 = m := by rw [mask2, hm]
  have H := Lib.hid ht
  clear hx hy hm ht w0 w1 w2
  by_cases h1 : m = 0
  · subst h1
    by_cases h2 : x = 0
    · subst h2
      by_cases h3 : y = 0
      · subst h3
        have e : edgeF 0 0 0 = 12 := by unfold edgeF; simp <;> omega
        have e := Lib.hid e
        go_enter Tryd.func5, Tryd.ntmps5
        go_wp2_with fail
        refine (edge_any 0 0 0 w (by omega) (by omega) (by omega) (by omega)).mono ?_
        rintro _ _ ⟨rfl, rfl⟩
        rw [e.out]
        go_wp2_with fail
        refine (readBool_any w H.out (tabs_two H.out)).mono ?_
        rintro _ w3 ⟨rfl, b3⟩
        have H3 := Lib.hid b3; clear b3
        go_wp2
        go_ret
        exact ⟨rfl, H3.out⟩
      · have h4 : 0 < y := by omega
        have e : edgeF 0 y 0 = 11 := by unfold edgeF; simp <;> omega
        have e := Lib.hid e
        go_enter Tryd.func5, Tryd.ntmps5
        go_wp2_with fail
        refine (edge_any 0 y 0 w (by omega) (by omega) (by omega) (by omega)).mono ?_
        rintro _ _ ⟨rfl, rfl⟩
        rw [e.out]
        go_wp2_with fail
        refine (readBool_any w H.out (tabs_two H.out)).mono ?_
        rintro _ w3 ⟨rfl, b3⟩
        have H3 := Lib.hid b3; clear b3
        go_wp2
        go_ret
        exact ⟨rfl, H3.out⟩
    · have h5 : 0 < x := by omega
      by_cases h3 : y = 0
      · subst h3
        have e : edgeF x 0 0 = 10 := by unfold edgeF; simp <;> omega
        have e := Lib.hid e
        go_enter Tryd.func5, Tryd.ntmps5
        go_wp2_with fail
        refine (edge_any x 0 0 w (by omega) (by omega) (by omega) (by omega)).mono ?_
        rintro _ _ ⟨rfl, rfl⟩
        rw [e.out]
        go_wp2_with fail
        refine (readBool_any w H.out (tabs_two H.out)).mono ?_
        rintro _ w3 ⟨rfl, b3⟩
        have H3 := Lib.hid b3; clear b3
        go_wp2
        go_ret
        exact ⟨rfl, H3.out⟩
      · have h4 : 0 < y := by omega
        have e : edgeF x y 0 = 0 := by unfold edgeF; simp <;> omega
        have e := Lib.hid e
        go_enter Tryd.func5, Tryd.ntmps5
        go_wp2_with fail
        refine (edge_any x y 0 w (by omega) (by omega) (by omega) (by omega)).mono ?_
        rintro _ _ ⟨rfl, rfl⟩
        rw [e.out]
        go_wp2_with fail
        refine (readBool_any w H.out (tabs_two H.out)).mono ?_
        rintro _ w3 ⟨rfl, b3⟩
        have H3 := Lib.hid b3; clear b3
        go_wp2
        go_ret
        exact ⟨rfl, H3.out⟩
  · have h6 : 0 < m := by omega
    have e : edgeF x y m = m := by unfold edgeF; simp <;> omega
    have e := Lib.hid e
    go_enter Tryd.func5, Tryd.ntmps5
    go_wp2_with fail
    refine (edge_any x y m w (by omega) (by omega) (by omega) (by omega)).mono ?_
    rintro _ _ ⟨rfl, rfl⟩
    rw [e.out]
    go_wp2_with fail
    refine (readBool_any w H.out (tabs_two H.out)).mono ?_
    rintro _ w3 ⟨rfl, b3⟩
    have H3 := Lib.hid b3; clear b3
    go_wp2
    go_ret
    exact ⟨rfl, H3.out⟩
end Go.Proofs.YthmkmemocjnleaaDoor
