/- The walk of FnColor. -/
import Derived.Test.YtoafokmghjfpmaaRCross
import Derived.Test.YtoafokmghjfpmaaRSums
import Derived.Test.YtoafokmghjfpmaaRBytesEq
namespace Go.Proofs.YtoafokmghjfpmaaR
open Go.RowKit
set_option linter.unusedVariables false

def Area (W h : Int) (n : Nat) : Prop := 0 < W ∧ 0 < h ∧ W ≤ 16384 ∧ h ≤ 16384 ∧ W * h ≤ 16384 ∧ (n : Int) = 4 * W * h

set_option maxRecDepth 100000 in
theorem isArea_good (W h : Int) (a : Option Addr) (n c : Nat) (w : World) (hg : Area W h n) :
    Calls Try.prog 13 #[.int .i64 W, .int .i64 h, .slice a n c] w fun e w' => e = .returned (.bool true) ∧ w = w' := by
  obtain ⟨h1, h2, h3, h4, h5, h6⟩ := hg
  have q0 : 0 ≤ W * h := Int.mul_nonneg (by omega) (by omega)
  have e1 : 4 * W * h = 4 * (W * h) := Int.mul_assoc _ _ _
  have r0 : 0 ≤ 4 * W * h := by rw [e1]; omega
  have r1 : 4 * W * h ≤ 65536 := by rw [e1]; omega
  have t6 : ((n : Int) == 4 * W * h) = true := by simpa using h6
  clear h6 e1
  go_enter Try.func13, Try.ntmps13
  go_wp2
  go_ret
  exact ⟨rfl, rfl⟩

set_option maxRecDepth 100000 in
set_option maxHeartbeats 1600000 in
theorem isArea_bad (W h : Int) (a : Option Addr) (n c : Nat) (w : World) (hn : n ≤ 9223372036854775807) (hg : ¬ Area W h n) :
    Calls Try.prog 13 #[.int .i64 W, .int .i64 h, .slice a n c] w fun e w' => e = .returned (.bool false) ∧ w = w' := by
  have H := Lib.hid hg; clear hg
  have hE := fun (k : Prop) => k
  clear hE
  by_cases c0 : 0 < W
  rotate_left
  · go_enter Try.func13, Try.ntmps13
    go_wp2
    go_ret
    exact ⟨rfl, rfl⟩
  by_cases c1 : 0 < h
  rotate_left
  · go_enter Try.func13, Try.ntmps13
    go_wp2
    go_ret
    exact ⟨rfl, rfl⟩
  by_cases c2 : W ≤ 16384
  rotate_left
  · go_enter Try.func13, Try.ntmps13
    go_wp2
    go_ret
    exact ⟨rfl, rfl⟩
  by_cases c3 : h ≤ 16384
  rotate_left
  · go_enter Try.func13, Try.ntmps13
    go_wp2
    go_ret
    exact ⟨rfl, rfl⟩
  have q0 : 0 ≤ W * h := Int.mul_nonneg (by omega) (by omega)
  have q1 : W * h ≤ 16384 * 16384 := Int.mul_le_mul c2 c3 (by omega) (by omega)
  have e1 : 4 * W * h = 4 * (W * h) := Int.mul_assoc _ _ _
  have r0 : 0 ≤ 4 * W * h := by rw [e1]; omega
  have r1 : 4 * W * h ≤ 65536 * 16384 := by rw [e1]; omega
  clear e1
  by_cases c4 : W * h ≤ 16384
  rotate_left
  · go_enter Try.func13, Try.ntmps13
    go_wp2
    go_ret
    exact ⟨rfl, rfl⟩
  have c5 : ¬ (n : Int) = 4 * W * h := fun e => H.out ⟨c0, c1, c2, c3, c4, e⟩
  have t5 : ((n : Int) == 4 * W * h) = false := by simpa using c5
  clear c5
  go_enter Try.func13, Try.ntmps13
  go_wp2
  go_ret
  exact ⟨rfl, rfl⟩

theorem blocks_any (s : Int) (n : Nat) (w : World) (h0 : 0 ≤ s) (h1 : s ≤ 100000) (hn : n ≤ 9) :
    Calls Try.prog 27 #[.int .i64 s, .int .i64 n] w fun e w' => e = .returned (.int .i64 ((s + 2 ^ n - 1) / 2 ^ n)) ∧ w = w' := by
  have hp : (1 : Int) ≤ 2 ^ n := Int.pow_pos (by omega)
  have hp2 : (2 : Int) ^ n ≤ 512 := by
    have := Int.ofNat_le.2 (Nat.pow_le_pow_right (n := 2) (by omega) hn)
    simpa using this
  go_enter Try.func27, Try.ntmps27
  go_wp2
  go_ret
  exact ⟨rfl, rfl⟩

def tiles (s n : Nat) : Nat := (s + 2 ^ n - 1) / 2 ^ n
theorem tiles_le (s n : Nat) (h : 1 ≤ s) : tiles s n ≤ s ∧ 1 ≤ tiles s n := by
  unfold tiles
  have hT : 1 ≤ 2 ^ n := Nat.pow_pos (by omega)
  generalize 2 ^ n = T at *
  constructor
  · apply Nat.div_le_of_le_mul
    have := Nat.mul_le_mul (Nat.sub_le_sub_right hT 0) (Nat.le_refl s)
    have h2 : T * s = (T - 1) * s + s := by rw [Nat.sub_mul, Nat.one_mul, Nat.sub_add_cancel (Nat.le_mul_of_pos_left s hT)]
    have h3 : T - 1 ≤ (T - 1) * s := Nat.le_mul_of_pos_right _ h
    omega
  · exact (Nat.le_div_iff_mul_le (by omega)).2 (by omega)
theorem tiles_int (s n : Nat) : ((s : Int) + 2 ^ n - 1) / 2 ^ n = (tiles s n : Int) := by
  have hpn : 0 < 2 ^ n := Nat.pow_pos (by omega)
  have e2 : (2 : Int) ^ n = ((2 ^ n : Nat) : Int) := by simp
  rw [e2, show (s : Int) + ((2 ^ n : Nat) : Int) - 1 = ((s + 2 ^ n - 1 : Nat) : Int) by omega, ← Int.natCast_ediv]; rfl
theorem tile_lt (W h n i : Nat) (hW : 1 ≤ W) (hi : i < W * h) : tileOf W n i < tiles W n * tiles h n := by
  have hT : 1 ≤ 2 ^ n := Nat.pow_pos (by omega)
  have hy : i / W < h := Nat.div_lt_of_lt_mul hi
  have hx : i % W < W := Nat.mod_lt _ hW
  have up : ∀ z s, z < s → z / 2 ^ n + 1 ≤ tiles s n := fun z s hz => by
    unfold tiles
    rw [show z / 2 ^ n + 1 = (z + 2 ^ n) / 2 ^ n by rw [Nat.add_div_right _ (by omega)]]
    exact Nat.div_le_div_right (by omega)
  have h1 := up _ _ hy
  have h2 := up _ _ hx
  unfold tileOf
  show i / W / 2 ^ n * tiles W n + i % W / 2 ^ n < _
  have h3 := Nat.mul_le_mul_right (tiles W n) h1
  rw [Nat.add_mul, Nat.one_mul, Nat.mul_comm (tiles h n)] at h3
  omega

theorem blocksOf_any (W h n : Nat) (w : World) (hW : 1 ≤ W) (hh : 1 ≤ h) (hWh : W * h ≤ 16384) (hW2 : W ≤ 16384) (hh2 : h ≤ 16384) (hn : n ≤ 9) :
    Calls Try.prog 14 #[.int .i64 W, .int .i64 h, .int .i64 n] w fun e w' => e = .returned (.int .i64 ((tiles W n * tiles h n : Nat) : Int)) ∧ w = w' := by
  have b1 := tiles_le W n hW
  have b2 := tiles_le h n hh
  have b3 : tiles W n * tiles h n ≤ 16384 := Nat.le_trans (Nat.mul_le_mul b1.1 b2.1) hWh
  obtain ⟨v, hv⟩ : ∃ v : Nat, v = tiles W n * tiles h n := ⟨_, rfl⟩
  have e : (tiles W n : Int) * (tiles h n : Int) = (v : Int) := by rw [hv]; simp
  rw [← hv] at b3 ⊢
  have HV := Lib.hid hv; clear hv hWh
  obtain ⟨b1, b1'⟩ := b1
  obtain ⟨b2, b2'⟩ := b2
  go_enter Try.func14, Try.ntmps14
  go_wp2_with fail
  refine (blocks_any W n w (by omega) (by omega) hn).mono ?_
  rintro _ _ ⟨rfl, rfl⟩
  rw [tiles_int]
  go_wp2_with fail
  refine (blocks_any h n w (by omega) (by omega) hn).mono ?_
  rintro _ _ ⟨rfl, rfl⟩
  rw [tiles_int]
  go_wp2
  go_ret
  exact ⟨rfl, rfl⟩

set_option maxRecDepth 100000 in
set_option maxHeartbeats 800000 in
theorem implColor_any (W h n : Nat) (da : Option Addr) (dn dc : Nat) (fd : Nat → Int) (pa : Option Addr) (pn pc : Nat) (f : Nat → Int) (w : World) (hW : 1 ≤ W) (hh : 1 ≤ h) (hWh : W * h ≤ 16384) (hW2 : W ≤ 16384) (hh2 : h ≤ 16384) (hn2 : 2 ≤ n) (hn : n ≤ 9)
    (hpn : pn = W * h * 4) (hdn : dn ≤ 70000) (hp : Arg .u8 w pa pn f) (hnil : pa = none → pn = 0) (hf : ∀ i, 0 ≤ f i ∧ f i ≤ 255) (hd : Arg .u8 w da dn fd) (hfd : ∀ i, 0 ≤ fd i ∧ fd i ≤ 255) (ht : ∀ i, i < W * h → tileOf W n i * 4 + 4 ≤ dn) :
    Calls Try.prog 16 #[.int .i64 W, .int .i64 h, .int .i64 n, .slice da dn dc, .slice pa pn pc] w fun e w' =>
      (∃ a' c', e = .returned (.slice a' pn c') ∧ Own .u8 w.heap.size w' a' pn (newF f fd W n)) ∧ Below w.heap.size w w' := by
  have hpos : 0 < W * h := Nat.mul_pos hW hh
  have hpn2 : pn ≤ 65536 := by omega
  have hpn3 : 0 < pn := by omega
  have H := Lib.hid (And.intro hp (And.intro hnil (And.intro hf (And.intro hd (And.intro hfd (And.intro ht (And.intro hpn hWh))))))); clear hp hnil hf hd hfd ht hpn hpos hWh
  go_enter Try.func16, Try.ntmps16
  go_wp2_with fail
  refine (clone_any pa pn pc f w (by omega) H.out.1 H.out.2.1).mono ?_
  rintro _ w1 ⟨⟨a1, c1, rfl, ho1⟩, hb1⟩
  obtain ⟨g, rfl, hB, hg, hr, hw⟩ := ho1 hpn3
  have HR := Lib.hid (And.intro hB (And.intro hg (And.intro hr (And.intro hw hb1)))); clear hB hg hr hw ho1 hb1
  go_wp2_with (first | (go_at_call 28; go_in))
  go_wp2_with fail
  have hal : Hid (Below w1.heap.size w1 (w1.alloc (.cells #[.int .u32 0, .int .i32 W, .int .u32 n, .slice da dn dc] 55))) := Lib.hid ((Below.refl _ _).alloc (Nat.le_refl _) _)
  refine (cross_any w1.heap.size g W n h pn c1 da dn dc f fd 0 (w1.alloc (.cells #[.int .u32 0, .int .i32 W, .int .u32 n, .slice da dn dc] 55)) hW hh H.out.2.2.2.2.2.2.2 hn2 hn H.out.2.2.2.2.2.2.1 (obj_new w1 55 [.int .u32 0, .int .i32 W, .int .u32 n, .slice da dn dc]) (Nat.lt_of_lt_of_le HR.out.2.1 hal.out.size) (Nat.ne_of_gt HR.out.2.1) (HR.out.2.2.1.below hal.out HR.out.2.1) (HR.out.2.2.2.1.below hal.out HR.out.2.1) H.out.2.2.1 ((H.out.2.2.2.1.below HR.out.2.2.2.2).alloc _) ?_ H.out.2.2.2.2.1 hdn H.out.2.2.2.2.2.1).mono ?_
  · intro h0 a ha
    obtain ⟨g', o', e', hlt', _⟩ := H.out.2.2.2.1 h0
    rw [ha] at e'; injection e' with e'; subst e'
    have := HR.out.1
    exact Nat.ne_of_lt (Nat.lt_of_lt_of_le hlt' this)
  rintro _ w2 ⟨rfl, hg2, hr2, hw2⟩
  have H2 : Hid (Below w.heap.size w w2 ∧ Own .u8 w.heap.size w2 (some ⟨g, 0, none⟩) pn (newF f fd W n)) := Lib.hid ⟨(HR.out.2.2.2.2.trans (hal.out.mono HR.out.2.2.2.2.size)).trans (below_of_grown hg2 (Nat.le_trans HR.out.2.2.2.2.size hal.out.size) (fun r hr => by injection hr with hr; subst hr; exact HR.out.1)), fun _ => ⟨g, rfl, HR.out.1, Nat.lt_of_lt_of_le (Nat.lt_of_lt_of_le HR.out.2.1 hal.out.size) hg2.size, hr2, hw2⟩⟩
  clear hg2 hr2 hw2
  go_wp2
  go_ret
  exact ⟨⟨_, _, rfl, H2.out.2⟩, H2.out.1⟩

/-- Both make the same bytes. -/
theorem same_bytes (f fd : Nat → Int) (W n : Nat) (hf : ∀ i, 0 ≤ f i ∧ f i ≤ 255) (i : Nat) : newF f fd W n i = byAt (colS f fd W n) i := by
  have h1 := hf (i / 4 * 4 + 1); have h3 := hf (i / 4 * 4 + 3)
  have hr := redOf_range f fd W n (i / 4)
  have hb := blueOf_range f fd W n (i / 4)
  obtain ⟨q0, q1, q2, q3, _, _⟩ := px_parts (f (i / 4 * 4 + 3)) (redOf f fd W n (i / 4)) (f (i / 4 * 4 + 1)) (blueOf f fd W n (i / 4)) h3.1 h3.2 hr.1 hr.2 h1.1 h1.2 hb.1 hb.2
  unfold newF byAt colS
  by_cases c0 : i % 4 = 0
  · rw [if_pos c0, if_pos c0, q2]
  · rw [if_neg c0, if_neg c0]
    by_cases c1 : i % 4 = 1
    · rw [if_neg (by omega), if_pos c1, q1, show i / 4 * 4 + 1 = i by omega]
    · rw [if_neg c1]
      by_cases c2 : i % 4 = 2
      · rw [if_pos c2, if_pos c2, q0]
      · rw [if_neg c2, if_neg c2, q3, show i / 4 * 4 + 3 = i by omega]

set_option maxRecDepth 100000 in
set_option maxHeartbeats 6400000 in
theorem fnColor_core (w : World) (W h n : Int) (da : Option Addr) (dn dc : Nat) (fd : Nat → Int) (pa : Option Addr) (pn pc : Nat) (f : Nat → Int) (md : dn ≤ 9223372036854775807) (mp : pn ≤ 9223372036854775807) (hp : Arg .u8 w pa pn f) (hnil : pa = none → pn = 0) (hf : ∀ i, 0 ≤ f i ∧ f i ≤ 255) (hd : Arg .u8 w da dn fd) (hfd : ∀ i, 0 ≤ fd i ∧ fd i ≤ 255) :
    Calls Try.prog 5 #[.int .i64 W, .int .i64 h, .int .i64 n, .slice da dn dc, .slice pa pn pc] w fun e w' => e = .returned (.bool true) ∧ Below w.heap.size w w' := by
  have HA := Lib.hid (And.intro hp (And.intro hnil (And.intro hf (And.intro hd hfd)))); clear hp hnil hf hd hfd
  by_cases b0 : 2147483647 < dn
  · go_enter Try.func5, Try.ntmps5
    go_wp2
    go_ret
    exact ⟨rfl, Below.refl _ _⟩
  by_cases b1 : 2147483647 < pn
  · go_enter Try.func5, Try.ntmps5
    go_wp2
    go_ret
    exact ⟨rfl, Below.refl _ _⟩
  by_cases hg : Area W h pn
  rotate_left
  · have H := Lib.hid hg; clear hg
    go_enter Try.func5, Try.ntmps5
    go_wp2_with fail
    refine (isArea_bad W h pa pn pc w mp H.out).mono ?_
    rintro _ _ ⟨rfl, rfl⟩
    go_wp2_with fail
    refine (readSums_any _).mono ?_
    rintro _ _ ⟨rfl, rfl⟩
    go_wp2
    go_ret
    exact ⟨rfl, Below.refl _ _⟩
  have H := Lib.hid (And.intro hg trivial); clear hg
  by_cases b2 : n < 2
  · go_enter Try.func5, Try.ntmps5
    go_wp2_with fail
    refine (isArea_good W h pa pn pc w H.out.1).mono ?_
    rintro _ _ ⟨rfl, rfl⟩
    go_wp2_with fail
    refine (readSums_any _).mono ?_
    rintro _ _ ⟨rfl, rfl⟩
    go_wp2
    go_ret
    exact ⟨rfl, Below.refl _ _⟩
  by_cases b3 : 9 < n
  · go_enter Try.func5, Try.ntmps5
    go_wp2_with fail
    refine (isArea_good W h pa pn pc w H.out.1).mono ?_
    rintro _ _ ⟨rfl, rfl⟩
    go_wp2_with fail
    refine (readSums_any _).mono ?_
    rintro _ _ ⟨rfl, rfl⟩
    go_wp2
    go_ret
    exact ⟨rfl, Below.refl _ _⟩
  obtain ⟨a1, a2, a3, a4, a5, a6⟩ := H.out.1
  obtain ⟨Wn, rfl⟩ := Int.eq_ofNat_of_zero_le (show 0 ≤ W by omega)
  obtain ⟨hn', rfl⟩ := Int.eq_ofNat_of_zero_le (show 0 ≤ h by omega)
  obtain ⟨nn, rfl⟩ := Int.eq_ofNat_of_zero_le (show 0 ≤ n by omega)
  have a5' : Wn * hn' ≤ 16384 := by
    have : ((Wn * hn' : Nat) : Int) ≤ 16384 := by rw [Int.natCast_mul]; exact a5
    omega
  have a6' : pn = Wn * hn' * 4 := by
    have : (pn : Int) = ((Wn * hn' * 4 : Nat) : Int) := by rw [a6, Int.mul_assoc]; simp only [Int.natCast_mul]; rw [Int.mul_comm]; rfl
    omega
  have HB := Lib.hid (And.intro a5' a6'); clear a5 a6 a5' a6'
  have b4' : tiles Wn nn * tiles hn' nn ≤ 16384 := Nat.le_trans (Nat.mul_le_mul (tiles_le Wn nn (by omega)).1 (tiles_le hn' nn (by omega)).1) HB.out.1
  obtain ⟨v, hv⟩ : ∃ v, v = tiles Wn nn * tiles hn' nn := ⟨_, rfl⟩
  rw [← hv] at b4'
  have HV := Lib.hid hv; clear hv
  by_cases b5 : dn = 4 * v
  rotate_left
  · have t5 : ((dn : Int) != 4 * (v : Int)) = true := by simp; omega
    clear b5
    go_enter Try.func5, Try.ntmps5
    go_wp2_with fail
    refine (isArea_good Wn hn' pa pn pc w H.out.1).mono ?_
    rintro _ _ ⟨rfl, rfl⟩
    go_wp2_with fail
    refine (blocksOf_any Wn hn' nn w (by omega) (by omega) HB.out.1 (by omega) (by omega) (by omega)).mono ?_
    rintro _ _ ⟨rfl, rfl⟩
    rw [← HV.out]
    go_wp2_with fail
    refine (readSums_any _).mono ?_
    rintro _ _ ⟨rfl, rfl⟩
    go_wp2
    go_ret
    exact ⟨rfl, Below.refl _ _⟩
  have t5 : ((dn : Int) != 4 * (v : Int)) = false := by simp; omega
  have B5 := Lib.hid b5
  have bd : dn ≤ 65536 := by omega
  clear b5
  have ht : Hid (∀ i, i < Wn * hn' → tileOf Wn nn i < v) := Lib.hid (fun i hi => by rw [HV.out]; exact tile_lt Wn hn' nn i (by omega) hi)
  go_enter Try.func5, Try.ntmps5
  go_wp2_with fail
  refine (isArea_good Wn hn' pa pn pc w H.out.1).mono ?_
  rintro _ _ ⟨rfl, rfl⟩
  go_wp2_with fail
  refine (blocksOf_any Wn hn' nn w (by omega) (by omega) HB.out.1 (by omega) (by omega) (by omega)).mono ?_
  rintro _ _ ⟨rfl, rfl⟩
  rw [← HV.out]
  go_wp2_with fail
  refine (implColor_any Wn hn' nn da dn dc fd pa pn pc f w (by omega) (by omega) HB.out.1 (by omega) (by omega) (by omega) (by omega) HB.out.2 (by omega) HA.out.1 HA.out.2.1 HA.out.2.2.1 HA.out.2.2.2.1 HA.out.2.2.2.2 (fun i hi => by have := ht.out i hi; have := B5.out; omega)).mono ?_
  rintro _ w1 ⟨⟨r1, rc1, rfl, ro1⟩, rb1⟩
  have H1 := Lib.hid (And.intro ro1 rb1); clear ro1 rb1
  go_wp2_with fail
  refine (specColor_any Wn nn hn' da dn dc fd pa pn pc f w1 (by omega) (by omega) (by omega) (by have := HB.out; omega) (by have := HB.out; omega) (by omega) (by have := B5.out; omega) (HA.out.1.below H1.out.2) HA.out.2.2.1 (HA.out.2.2.2.1.below H1.out.2) HA.out.2.2.2.2 (fun i hi => by have := ht.out i (by have := HB.out.2; omega); have := B5.out; omega)).mono ?_
  rintro _ w2 ⟨⟨r2, rc2, rfl, ro2⟩, rb2⟩
  have H2 := Lib.hid (And.intro (H1.out.1.below rb2) (And.intro ro2 (H1.out.2.trans (rb2.mono H1.out.2.size)))); clear ro2 rb2
  go_wp2_with fail
  refine (bytes_eq r1 r2 pn rc1 rc2 _ _ w2 (by unfold maxLen; omega) H2.out.1.arg H2.out.2.1.arg (fun i _ => same_bytes f fd Wn nn HA.out.2.2.1 i)).mono ?_
  rintro _ _ ⟨rfl, dd, rfl⟩
  go_wp2_with fail
  refine (readSums_any _).mono ?_
  rintro _ _ ⟨rfl, rfl⟩
  go_wp2
  go_ret
  exact ⟨rfl, below_drewN H2.out.2.2 _⟩

theorem fnColor_walk (w : World) (W : Int) (w0 : (Lit.int .i64 W).wf = true) (h : Int) (w1 : (Lit.int .i64 h).wf = true) (n : Int) (w2 : (Lit.int .i64 n).wf = true) (da : Option Addr) (dn dc : Nat) (z3 : List Int) (h3 : IsRow .u8 w da dn dc z3) (pa : Option Addr) (pn pc : Nat) (z4 : List Int) (h4 : IsRow .u8 w pa pn pc z4) :
    Calls Try.prog 5 #[.int .i64 W, .int .i64 h, .int .i64 n, .slice da dn dc, .slice pa pn pc] w fun e w' => e = .returned (.bool true) ∧ Below w.heap.size w w' := by
  obtain ⟨d1, d2, d3, d4, d5⟩ := h3.arg
  obtain ⟨p1, p2, p3, p4, p5⟩ := h4.arg
  exact fnColor_core w W h n da dn dc _ pa pn pc _ (by unfold maxLen at d3; omega) (by unfold maxLen at p3; omega) p1 p4 (fun i => u8_bounds (p5 i)) d1 (fun i => u8_bounds (d5 i))
end Go.Proofs.YtoafokmghjfpmaaR
