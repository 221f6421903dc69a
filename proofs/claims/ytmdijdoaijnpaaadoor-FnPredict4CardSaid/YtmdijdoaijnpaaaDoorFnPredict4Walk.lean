/- The walk of FnPredict4: the law returns true for every input. Printed by wip/gen_p4w.py. -/
import Derived.Test.YtmdijdoaijnpaaaDoorPredD4
import Derived.Test.YtmdijdoaijnpaaaDoorSpD
import Derived.Test.YtmdijdoaijnpaaaDoorBytesEq
import Derived.Test.YtmdijdoaijnpaaaDoorInR
namespace Go.Proofs.YtmdijdoaijnpaaaDoor
open Go.RowKit
set_option linter.unusedVariables false

/-- What stands around the block in the workspace. -/
theorem sq_row0 (n la : Nat) (c : Int) (fa fl fi : Nat → Int) (k : Nat) (hk : k < 32) : ∀ j, sqTo n la c fa fl fi j k = sqTo n la c fa fl fi 0 k
  | 0 => rfl
  | j + 1 => by
    have ih := sq_row0 n la c fa fl fi k hk j
    rw [← ih]
    show updN (upd _ _ _) _ _ _ k = _
    unfold updN upd
    rw [if_neg (by omega), if_neg (by omega)]
theorem sq_left (n la : Nat) (c : Int) (fa fl fi : Nat → Int) (hn : n ≤ 16) (j : Nat) : ∀ m, j < m → sqTo n la c fa fl fi m (32 * (j + 1) + 7) = fl j
  | 0, h => absurd h (by omega)
  | m + 1, h => by
    show updN (upd _ _ _) _ _ _ _ = _
    unfold updN upd
    rw [if_neg (by omega)]
    by_cases e : j = m
    · subst e; rw [if_pos rfl]
    · rw [if_neg (by omega)]; exact sq_left n la c fa fl fi hn j m (by omega)
theorem sq_corner (n la : Nat) (c : Int) (fa fl fi : Nat → Int) (m : Nat) : sqTo n la c fa fl fi m 7 = c := by
  rw [sq_row0 _ _ _ _ _ _ _ (by decide)]
  show updN (upd _ _ _) _ _ _ _ = _
  unfold updN upd
  rw [if_neg (by omega), if_pos rfl]
theorem sq_top (n la : Nat) (c : Int) (fa fl fi : Nat → Int) (m i : Nat) (hi : i < la) (h24 : i < 24) : sqTo n la c fa fl fi m (8 + i) = fa i := by
  rw [sq_row0 _ _ _ _ _ _ _ (by omega)]
  show updN (upd _ _ _) _ _ _ _ = _
  unfold updN
  rw [if_pos (by omega)]
  congr 1
  omega
theorem blk_val (y : Nat → Int) (V : Nat → Nat → Int) (i : Nat) (hi : i < 16) : valF 4 (blk4 y V 16) i = V (i / 4) (i % 4) := by
  have e : i = 4 * (i / 4) + i % 4 := by omega
  have hm : i % 4 < 4 := Nat.mod_lt _ (by decide)
  have hd : i / 4 < 4 := by omega
  generalize i / 4 = p at *
  generalize i % 4 = q at *
  subst e
  rw [valF_row 4 _ p q hm]
  unfold blk4
  have e1 : (32 * (p + 1) + 8 + q) / 32 = p + 1 := by omega
  have e2 : (32 * (p + 1) + 8 + q) % 32 = 8 + q := by omega
  rw [e1, e2, if_pos ⟨by omega, by omega⟩, show p + 1 - 1 = p by omega, show 8 + q - 8 = q by omega]
theorem th_in {E : Nat → Int} (h : ∀ k, 0 ≤ E k ∧ E k ≤ 255) (k : Nat) : 0 ≤ th E k ∧ th E k ≤ 255 := by
  have := h (k - 1); have := h k; have := h (k + 1); unfold th; omega
theorem tw_in {E : Nat → Int} (h : ∀ k, 0 ≤ E k ∧ E k ≤ 255) (k : Nat) : 0 ≤ tw E k ∧ tw E k ≤ 255 := by
  have := h k; have := h (k + 1); unfold tw; omega
def InB (R : (Nat → Int) → Nat → Nat → Int) : Prop := ∀ E : Nat → Int, (∀ k, 0 ≤ E k ∧ E k ≤ 255) → ∀ j i, 0 ≤ R E j i ∧ R E j i ≤ 255
theorem inb_VE : InB rVE := fun E h j i => th_in h _
theorem inb_RD : InB rRD := fun E h j i => th_in h _
theorem inb_TM : InB rTM := fun E h j i => hld_range (by decide) _
theorem inb_DC : InB rDC := fun E h j i => by
  have := h 0; have := h 1; have := h 2; have := h 3; have := h 5; have := h 6; have := h 7; have := h 8
  unfold rDC; omega
theorem inb_HE : InB rHE := fun E h j i => by
  unfold rHE; split
  · have := h 0; have := h 1; omega
  · exact th_in h _
theorem inb_LD : InB rLD := fun E h j i => by
  unfold rLD; split
  · have := h 11; have := h 12; omega
  · exact th_in h _
theorem inb_VR : InB rVR := fun E h j i => by
  unfold rVR; (repeat' split) <;> first | exact th_in h _ | exact tw_in h _
theorem inb_VL : InB rVL := fun E h j i => by
  unfold rVL; (repeat' split) <;> first | exact th_in h _ | exact tw_in h _
theorem inb_HD : InB rHD := fun E h j i => by
  unfold rHD; (repeat' split) <;> first | exact th_in h _ | exact tw_in h _
theorem inb_HU : InB rHU := fun E h j i => by
  unfold rHU
  split
  · exact h 0
  · split
    · have := h 0; have := h 1; omega
    · split
      · exact tw_in h _
      · exact th_in h _

/-- impl.Predict4. -/
theorem impl4_any (mode : Int) (k : Nat) (V : (Nat → Int) → Nat → Nat → Int) (hix : ∀ w, (Instr.index 65 (.agg tab4) (.int .i64 mode)).run Tryd.prog w = .ok (.func (.func k) #[] #[]) w) (hcf : ∀ args w, (callFunc k args).run Tryd.prog w = .ok (.enter k args) w) (hk : Small k V)
    (corner : Int) (aa : Option Addr) (ca : Nat) (fa : Nat → Int) (al : Option Addr) (cl : Nat) (fl : Nat → Int) (w : World)
    (ha : Arg .u8 w aa 8 fa) (hl : Arg .u8 w al 4 fl) (hc0 : 0 ≤ corner) (hc1 : corner ≤ 255) (ha2 : ∀ k, 0 ≤ fa k ∧ fa k ≤ 255) (hl2 : ∀ k, 0 ≤ fl k ∧ fl k ≤ 255)
    (hdoor : Calls Tryd.prog 29 #[.int .i64 mode, .int .u8 corner, .slice aa 8 ca, .slice al 4 cl] w fun e w' => (∃ a' c', e = .returned (.slice a' 16 c') ∧ Own .u8 w.heap.size w' a' 16 (valF 4 (blk4 (sqTo 4 8 corner fa fl (fun _ => 0) 4) (V (edgeF (sqTo 4 8 corner fa fl (fun _ => 0) 4))) 16))) ∧ Below w.heap.size w w') :
    Calls Tryd.prog 18 #[.int .i64 mode, .int .i64 corner, .slice aa 8 ca, .slice al 4 cl] w fun e w' => (∃ a' c', e = .returned (.slice a' 16 c') ∧ Own .u8 w.heap.size w' a' 16 (valF 4 (blk4 (sqTo 4 8 corner fa fl (fun _ => 0) 4) (V (edgeF (sqTo 4 8 corner fa fl (fun _ => 0) 4))) 16))) ∧ Below w.heap.size w w' := by
  have H := Lib.hid hdoor
  clear hix hcf hk ha hl ha2 hl2 hdoor
  have hw : IntKind.u8.wrap corner = corner := u8_in _ ⟨hc0, hc1⟩
  go_enter Tryd.func18, Tryd.ntmps18
  go_wp2_with fail
  refine H.out.mono ?_
  rintro _ w1 ⟨⟨a', c', rfl, ho⟩, hb⟩
  have H1 := Lib.hid (And.intro ho hb); clear ho hb
  go_wp2
  go_ret
  exact ⟨⟨_, _, rfl, H1.out.1⟩, H1.out.2⟩

set_option maxRecDepth 100000 in
set_option maxHeartbeats 1600000 in
/-- The law at one mode. -/
theorem fnP4_core (m k : Nat) (R : (Nat → Int) → Nat → Nat → Int) (hm : m < 10) (hix : ∀ w, (Instr.index 65 (.agg tab4) (.int .i64 ((m : Nat) : Int))).run Tryd.prog w = .ok (.func (.func k) #[] #[]) w) (hcf : ∀ args w, (callFunc k args).run Tryd.prog w = .ok (.enter k args) w) (hk : Small k R) (hA : Aro m R) (hb : InB R)
    (corner : Int) (aa : Option Addr) (ca : Nat) (fa : Nat → Int) (al : Option Addr) (cl : Nat) (fl : Nat → Int) (w : World) (ht : Tabs w)
    (ha : Arg .u8 w aa 8 fa) (hl : Arg .u8 w al 4 fl) (hc0 : 0 ≤ corner) (hc1 : corner ≤ 255) (ha2 : ∀ k, 0 ≤ fa k ∧ fa k ≤ 255) (hl2 : ∀ k, 0 ≤ fl k ∧ fl k ≤ 255) :
    Calls Tryd.prog 6 #[.int .i64 m, .int .i64 corner, .slice aa 8 ca, .slice al 4 cl] w fun e w' => e = .returned (.bool true) ∧ Below w.heap.size w w' := by
  have h2 := ht.two
  have HI := Lib.hid (impl4_any m k R hix hcf hk corner aa ca fa al cl fl w ha hl hc0 hc1 ha2 hl2 (door4_any m k R hix hcf hk corner aa ca fa al cl fl w ha hl ⟨hc0, hc1⟩ ha2 hl2))
  have HE : Hid (∀ i, i < 16 → valF 4 (blk4 (sqTo 4 8 corner fa fl (fun _ => 0) 4) (R (edgeF (sqTo 4 8 corner fa fl (fun _ => 0) 4))) 16) i = rowR R (edgeF (sqTo 4 8 corner fa fl (fun _ => 0) 4)) i) := Lib.hid (fun i hi => blk_val _ _ i hi)
  have HS : Hid (∀ w' : World, Below w.heap.size w w' → Calls Tryd.prog 19 #[.int .i64 m, .int .i64 corner, .slice aa 8 ca, .slice al 4 cl] w' fun e w'' => (∃ a' c', e = .returned (.slice a' 16 c') ∧ Own .u8 w'.heap.size w'' a' 16 (rowR R (edgeF (sqTo 4 8 corner fa fl (fun _ => 0) 4)))) ∧ Below w'.heap.size w' w'') :=
    Lib.hid (fun w' hb' => sp4_any m hm R hA hb aa ca fa al cl fl corner (edgeF (sqTo 4 8 corner fa fl (fun _ => 0) 4)) w' (ha.below hb') (hl.below hb') hc0 hc1 (fun k => sqTo_in 4 8 ⟨hc0, hc1⟩ ha2 hl2 (fun _ => ⟨by decide, by decide⟩) 4 _)
      (fun k h => by unfold edgeF; rw [if_pos h, show 32 * (4 - k) + 7 = 32 * ((3 - k) + 1) + 7 by omega]; exact sq_left _ _ _ _ _ _ (by decide) _ _ (by omega))
      (sq_corner _ _ _ _ _ _ _)
      (fun k h => by unfold edgeF; rw [if_neg (by omega), show 3 + (5 + k) = 8 + k by omega]; exact sq_top _ _ _ _ _ _ _ _ h (by omega)))
  have H := Lib.hid ht
  generalize edgeF (sqTo 4 8 corner fa fl (fun _ => 0) 4) = E at *
  generalize sqTo 4 8 corner fa fl (fun _ => 0) 4 = y at *
  clear hix hcf hk hA hb ha hl ha2 hl2 ht
  have t1 : decide ((m : Int) < 0) = false := decide_eq_false (by omega)
  have t2 : decide (9 < (m : Int)) = false := decide_eq_false (by omega)
  go_enter Tryd.func6, Tryd.ntmps6
  go_wp2_with fail
  refine HI.out.mono ?_
  rintro _ w1 ⟨⟨a1, c1, rfl, ho⟩, hb⟩
  have H1 := Lib.hid (And.intro ho hb); clear ho hb HI
  go_wp2_with fail
  refine (HS.out w1 H1.out.2).mono ?_
  rintro _ w2 ⟨⟨a2, c2, rfl, ho⟩, hb⟩
  have H2 : Hid (Arg .u8 w2 a1 16 _ ∧ Arg .u8 w2 a2 16 _ ∧ Below w.heap.size w w2) := Lib.hid ⟨(H1.out.1.below hb).arg, ho.arg, H1.out.2.trans (hb.mono H1.out.2.size)⟩
  clear ho hb HS H1
  go_wp2_with fail
  refine (bytes_eq a1 a2 16 c1 c2 _ _ w2 (by decide) H2.out.1 H2.out.2.1 HE.out).mono ?_
  rintro _ w3 ⟨rfl, d, hd⟩
  have H3 : Hid (Below w.heap.size w w3) := Lib.hid (by rw [hd]; exact below_drewN H2.out.2.2 d)
  clear hd H2
  go_wp2_with fail
  refine (readBool_any w3 (H.out.below h2 H3.out) (by have := H3.out.size; omega)).mono ?_
  rintro _ w4 ⟨rfl, hb⟩
  have H4 : Hid (Below w.heap.size w w4) := Lib.hid (H3.out.trans (hb.mono H3.out.size)); clear hb
  go_wp2
  go_ret
  exact ⟨rfl, H4.out⟩

def P4Good (m c : Int) (n2 n3 : Nat) : Prop := 0 ≤ m ∧ m ≤ 9 ∧ 0 ≤ c ∧ c ≤ 255 ∧ n2 = 8 ∧ n3 = 4
set_option maxRecDepth 100000 in
set_option maxHeartbeats 1600000 in
theorem fnP4_bad (mode corner : Int) (aa : Option Addr) (n2 c2 : Nat) (al : Option Addr) (n3 c3 : Nat) (w : World) (ht : Tabs w) (hn2 : n2 ≤ 2147483647) (hn3 : n3 ≤ 2147483647) (hbad : ¬ P4Good mode corner n2 n3) :
    Calls Tryd.prog 6 #[.int .i64 mode, .int .i64 corner, .slice aa n2 c2, .slice al n3 c3] w fun e w' => e = .returned (.bool true) ∧ Below w.heap.size w w' := by
  have h2 := ht.two
  have H := Lib.hid ht; clear ht
  by_cases k : mode < 0
  · clear hbad
    go_enter Tryd.func6, Tryd.ntmps6
    go_wp2_with fail
    refine (readBool_any w H.out h2).mono ?_
    rintro _ w4 ⟨rfl, hb⟩
    have H4 := Lib.hid hb; clear hb
    go_wp2
    go_ret
    exact ⟨rfl, H4.out⟩
  have k_a : ¬ mode < 0 := k; clear k
  by_cases k : 9 < mode
  · clear hbad
    go_enter Tryd.func6, Tryd.ntmps6
    go_wp2_with fail
    refine (readBool_any w H.out h2).mono ?_
    rintro _ w4 ⟨rfl, hb⟩
    have H4 := Lib.hid hb; clear hb
    go_wp2
    go_ret
    exact ⟨rfl, H4.out⟩
  have k_b : ¬ 9 < mode := k; clear k
  by_cases k : corner < 0
  · clear hbad
    go_enter Tryd.func6, Tryd.ntmps6
    go_wp2_with fail
    refine (readBool_any w H.out h2).mono ?_
    rintro _ w4 ⟨rfl, hb⟩
    have H4 := Lib.hid hb; clear hb
    go_wp2
    go_ret
    exact ⟨rfl, H4.out⟩
  have k_c : ¬ corner < 0 := k; clear k
  by_cases k : 255 < corner
  · clear hbad
    go_enter Tryd.func6, Tryd.ntmps6
    go_wp2_with fail
    refine (readBool_any w H.out h2).mono ?_
    rintro _ w4 ⟨rfl, hb⟩
    have H4 := Lib.hid hb; clear hb
    go_wp2
    go_ret
    exact ⟨rfl, H4.out⟩
  have k_d : ¬ 255 < corner := k; clear k
  by_cases k3 : n2 = 8
  · by_cases k4 : n3 = 4
    · exact absurd ⟨by omega, by omega, by omega, by omega, k3, k4⟩ hbad
    · clear hbad
      subst k3
      have t : ((n3 : Int) != 4) = true := by simp; omega
      clear k4
      go_enter Tryd.func6, Tryd.ntmps6
      go_wp2_with fail
      refine (readBool_any w H.out h2).mono ?_
      rintro _ w4 ⟨rfl, hb⟩
      have H4 := Lib.hid hb; clear hb
      go_wp2
      go_ret
      exact ⟨rfl, H4.out⟩
  · have t : ((n2 : Int) != 8) = true := by simp; omega
    clear hbad k3
    go_enter Tryd.func6, Tryd.ntmps6
    go_wp2_with fail
    refine (readBool_any w H.out h2).mono ?_
    rintro _ w4 ⟨rfl, hb⟩
    have H4 := Lib.hid hb; clear hb
    go_wp2
    go_ret
    exact ⟨rfl, H4.out⟩
set_option maxRecDepth 100000 in
theorem ix_DC (w : World) : (Instr.index 65 (.agg tab4) (.int .i64 ((0 : Nat) : Int))).run Tryd.prog w = .ok (.func (.func 69) #[] #[]) w := by kernel_rfl
set_option maxRecDepth 100000 in
theorem cf_DC (args : Array Value) (w : World) : (callFunc 69 args).run Tryd.prog w = .ok (.enter 69 args) w := by kernel_rfl
set_option maxRecDepth 100000 in
theorem ix_TM (w : World) : (Instr.index 65 (.agg tab4) (.int .i64 ((1 : Nat) : Int))).run Tryd.prog w = .ok (.func (.func 70) #[] #[]) w := by kernel_rfl
set_option maxRecDepth 100000 in
theorem cf_TM (args : Array Value) (w : World) : (callFunc 70 args).run Tryd.prog w = .ok (.enter 70 args) w := by kernel_rfl
set_option maxRecDepth 100000 in
theorem ix_VE (w : World) : (Instr.index 65 (.agg tab4) (.int .i64 ((2 : Nat) : Int))).run Tryd.prog w = .ok (.func (.func 71) #[] #[]) w := by kernel_rfl
set_option maxRecDepth 100000 in
theorem cf_VE (args : Array Value) (w : World) : (callFunc 71 args).run Tryd.prog w = .ok (.enter 71 args) w := by kernel_rfl
set_option maxRecDepth 100000 in
theorem ix_HE (w : World) : (Instr.index 65 (.agg tab4) (.int .i64 ((3 : Nat) : Int))).run Tryd.prog w = .ok (.func (.func 72) #[] #[]) w := by kernel_rfl
set_option maxRecDepth 100000 in
theorem cf_HE (args : Array Value) (w : World) : (callFunc 72 args).run Tryd.prog w = .ok (.enter 72 args) w := by kernel_rfl
set_option maxRecDepth 100000 in
theorem ix_RD (w : World) : (Instr.index 65 (.agg tab4) (.int .i64 ((4 : Nat) : Int))).run Tryd.prog w = .ok (.func (.func 73) #[] #[]) w := by kernel_rfl
set_option maxRecDepth 100000 in
theorem cf_RD (args : Array Value) (w : World) : (callFunc 73 args).run Tryd.prog w = .ok (.enter 73 args) w := by kernel_rfl
set_option maxRecDepth 100000 in
theorem ix_VR (w : World) : (Instr.index 65 (.agg tab4) (.int .i64 ((5 : Nat) : Int))).run Tryd.prog w = .ok (.func (.func 74) #[] #[]) w := by kernel_rfl
set_option maxRecDepth 100000 in
theorem cf_VR (args : Array Value) (w : World) : (callFunc 74 args).run Tryd.prog w = .ok (.enter 74 args) w := by kernel_rfl
set_option maxRecDepth 100000 in
theorem ix_LD (w : World) : (Instr.index 65 (.agg tab4) (.int .i64 ((6 : Nat) : Int))).run Tryd.prog w = .ok (.func (.func 75) #[] #[]) w := by kernel_rfl
set_option maxRecDepth 100000 in
theorem cf_LD (args : Array Value) (w : World) : (callFunc 75 args).run Tryd.prog w = .ok (.enter 75 args) w := by kernel_rfl
set_option maxRecDepth 100000 in
theorem ix_VL (w : World) : (Instr.index 65 (.agg tab4) (.int .i64 ((7 : Nat) : Int))).run Tryd.prog w = .ok (.func (.func 76) #[] #[]) w := by kernel_rfl
set_option maxRecDepth 100000 in
theorem cf_VL (args : Array Value) (w : World) : (callFunc 76 args).run Tryd.prog w = .ok (.enter 76 args) w := by kernel_rfl
set_option maxRecDepth 100000 in
theorem ix_HD (w : World) : (Instr.index 65 (.agg tab4) (.int .i64 ((8 : Nat) : Int))).run Tryd.prog w = .ok (.func (.func 77) #[] #[]) w := by kernel_rfl
set_option maxRecDepth 100000 in
theorem cf_HD (args : Array Value) (w : World) : (callFunc 77 args).run Tryd.prog w = .ok (.enter 77 args) w := by kernel_rfl
set_option maxRecDepth 100000 in
theorem ix_HU (w : World) : (Instr.index 65 (.agg tab4) (.int .i64 ((9 : Nat) : Int))).run Tryd.prog w = .ok (.func (.func 78) #[] #[]) w := by kernel_rfl
set_option maxRecDepth 100000 in
theorem cf_HU (args : Array Value) (w : World) : (callFunc 78 args).run Tryd.prog w = .ok (.enter 78 args) w := by kernel_rfl

theorem fnPredict4_walk (w : World) (ht : Tabs w) (a0 : Int) (w0 : (Lit.int .i64 a0).wf = true) (a1 : Int) (w1 : (Lit.int .i64 a1).wf = true) (a2 : Option Addr) (n2 c2 : Nat) (z2 : List Int) (h2 : IsRow .u8 w a2 n2 c2 z2) (a3 : Option Addr) (n3 c3 : Nat) (z3 : List Int) (h3 : IsRow .u8 w a3 n3 c3 z3) :
    Calls Tryd.prog 6 #[.int .i64 a0, .int .i64 a1, .slice a2 n2 c2, .slice a3 n3 c3] w fun e w' => e = .returned (.bool true) ∧ Below w.heap.size w w' := by
  obtain ⟨ys2, l2, r2, b2⟩ := h2.bytes
  obtain ⟨ys3, l3, r3, b3⟩ := h3.bytes
  have m2 : n2 ≤ 9223372036854775807 := by have := h2.arg.2.1; have := h2.arg.2.2.1; unfold maxLen at this; omega
  have m3 : n3 ≤ 9223372036854775807 := by have := h3.arg.2.1; have := h3.arg.2.2.1; unfold maxLen at this; omega
  by_cases k2 : 2147483647 < n2
  · clear ht h2 h3 l2 r2 b2 l3 r3 b3
    go_enter Tryd.func6, Tryd.ntmps6
    go_wp2
    go_ret
    exact ⟨rfl, Below.refl _ _⟩
  by_cases k3 : 2147483647 < n3
  · clear ht h2 h3 l2 r2 b2 l3 r3 b3
    go_enter Tryd.func6, Tryd.ntmps6
    go_wp2
    go_ret
    exact ⟨rfl, Below.refl _ _⟩
  by_cases hg : P4Good a0 a1 n2 n3
  · obtain ⟨g0, g1, g2, g3, rfl, rfl⟩ := hg
    have g5 : a0 = 0 ∨ a0 = 1 ∨ a0 = 2 ∨ a0 = 3 ∨ a0 = 4 ∨ a0 = 5 ∨ a0 = 6 ∨ a0 = 7 ∨ a0 = 8 ∨ a0 = 9 := by omega
    rcases g5 with rfl | rfl | rfl | rfl | rfl | rfl | rfl | rfl | rfl | rfl
    · exact fnP4_core 0 _ rDC (by decide) ix_DC cf_DC sm_DC aro_DC inb_DC a1 a2 c2 _ a3 c3 _ w ht r2 r3 g2 g3 b2 b3
    · exact fnP4_core 1 _ rTM (by decide) ix_TM cf_TM sm_TM aro_TM inb_TM a1 a2 c2 _ a3 c3 _ w ht r2 r3 g2 g3 b2 b3
    · exact fnP4_core 2 _ rVE (by decide) ix_VE cf_VE sm_VE aro_VE inb_VE a1 a2 c2 _ a3 c3 _ w ht r2 r3 g2 g3 b2 b3
    · exact fnP4_core 3 _ rHE (by decide) ix_HE cf_HE sm_HE aro_HE inb_HE a1 a2 c2 _ a3 c3 _ w ht r2 r3 g2 g3 b2 b3
    · exact fnP4_core 4 _ rRD (by decide) ix_RD cf_RD sm_RD aro_RD inb_RD a1 a2 c2 _ a3 c3 _ w ht r2 r3 g2 g3 b2 b3
    · exact fnP4_core 5 _ rVR (by decide) ix_VR cf_VR sm_VR aro_VR inb_VR a1 a2 c2 _ a3 c3 _ w ht r2 r3 g2 g3 b2 b3
    · exact fnP4_core 6 _ rLD (by decide) ix_LD cf_LD sm_LD aro_LD inb_LD a1 a2 c2 _ a3 c3 _ w ht r2 r3 g2 g3 b2 b3
    · exact fnP4_core 7 _ rVL (by decide) ix_VL cf_VL sm_VL aro_VL inb_VL a1 a2 c2 _ a3 c3 _ w ht r2 r3 g2 g3 b2 b3
    · exact fnP4_core 8 _ rHD (by decide) ix_HD cf_HD sm_HD aro_HD inb_HD a1 a2 c2 _ a3 c3 _ w ht r2 r3 g2 g3 b2 b3
    · exact fnP4_core 9 _ rHU (by decide) ix_HU cf_HU sm_HU aro_HU inb_HU a1 a2 c2 _ a3 c3 _ w ht r2 r3 g2 g3 b2 b3
  · exact fnP4_bad a0 a1 a2 n2 c2 a3 n3 c3 w ht (by omega) (by omega) hg
end Go.Proofs.YtmdijdoaijnpaaaDoor
