/- The package's inverseCrossColor. -/
import Derived.Test.YtoafokmghjfpmaaRColS
namespace Go.Proofs.YtoafokmghjfpmaaR
open Go.RowKit
set_option linter.unusedVariables false

theorem nTiles_any (s : Int) (n : Nat) (w : World) (h0 : 0 ≤ s) (h1 : s ≤ 100000) (hn : n ≤ 9) :
    Calls Try.prog 44 #[.int .i32 s, .int .u32 n] w fun e w' => e = .returned (.int .i32 ((s + 2 ^ n - 1) / 2 ^ n)) ∧ w' = w := by
  have hp : (1 : Int) ≤ 2 ^ n := Int.pow_pos (by omega)
  have hp2 : (2 : Int) ^ n ≤ 512 := by
    have := Int.ofNat_le.2 (Nat.pow_le_pow_right (n := 2) (by omega) hn)
    simpa using this
  have hq : (s + 2 ^ n - 1) / 2 ^ n ≤ 200000 := Int.le_trans (Int.ediv_le_self _ (by omega)) (by omega)
  go_enter Try.func44, Try.ntmps44
  go_wp2
  go_ret
  exact ⟨rfl, rfl⟩

theorem i32_mask0 (x : Nat) (k : Nat) (hk : k ≤ 30) (hx : x < 2147483648) : bits .and .i32 (x : Int) (2 ^ k - 1) = ((x % 2 ^ k : Nat) : Int) := by
  have h2 : 2 ^ k ≤ 2 ^ 30 := Nat.pow_le_pow_right (by omega) hk
  have h1 : 0 < 2 ^ k := Nat.pow_pos (by omega)
  have e : ((2 : Int) ^ k - 1) = ((2 ^ k - 1 : Nat) : Int) := by
    have : ((2 ^ k : Nat) : Int) = 2 ^ k := by simp
    omega
  rw [e]
  have ofI : ∀ a : Nat, a < 4294967296 → (BitVec.ofInt 32 (a : Int)).toNat = a := fun a ha => by
    rw [BitVec.ofInt_natCast, BitVec.toNat_ofNat]; exact Nat.mod_eq_of_lt (by omega)
  show IntKind.i32.wrap ((BitVec.ofInt 32 (x : Int) &&& BitVec.ofInt 32 ((2 ^ k - 1 : Nat) : Int)).toNat : Int) = _
  rw [BitVec.toNat_and, ofI x (by omega), ofI _ (by omega), Nat.and_two_pow_sub_one_eq_mod]
  have h3 : x % 2 ^ k < 2 ^ k := Nat.mod_lt _ h1
  have h4 : ((x % 2 ^ k : Nat) : Int) < 2147483648 := by omega
  rw [IntKind.wrap_i32]
  omega

/-- The bytes behind the first k pixels' turn. -/
def newF (f fd : Nat → Int) (W n j : Nat) : Int := if j % 4 = 0 then redOf f fd W n (j / 4) else if j % 4 = 2 then blueOf f fd W n (j / 4) else f j
def newTo (f fd : Nat → Int) (W n k j : Nat) : Int := if j < k * 4 then newF f fd W n j else f j

theorem i8_sg (x : Int) (h0 : 0 ≤ x) (h1 : x ≤ 255) : wrap32 (IntKind.i8.wrap x) = sg x := by
  have h : ∀ k : Nat, k < 256 → wrap32 (IntKind.i8.wrap (k : Int)) = sg (k : Int) := by decide +kernel
  obtain ⟨k, rfl⟩ := Int.eq_ofNat_of_zero_le h0
  exact h k (by omega)
theorem add_dl (r x y : Int) (h0 : 0 ≤ x) (h1 : x ≤ 255) (h2 : 0 ≤ y) (h3 : y ≤ 255) : (r + wrap32 (sg x * sg y) % 4294967296 / 32) % 256 = (r + dl x y) % 256 := by
  obtain ⟨k1, k2⟩ := sgmul_range x y h0 h1 h2 h3
  unfold dl wrap32
  generalize sg x * sg y = t at *
  omega
theorem add_dl2 (r x y z u : Int) (h0 : 0 ≤ x) (h1 : x ≤ 255) (h2 : 0 ≤ y) (h3 : y ≤ 255) (h4 : 0 ≤ z) (h5 : z ≤ 255) (h6 : 0 ≤ u) (h7 : u ≤ 255) :
    (r + wrap32 (sg x * sg y) % 4294967296 / 32 + wrap32 (sg z * sg u) % 4294967296 / 32) % 256 = (r + dl x y + dl z u) % 256 := by
  obtain ⟨k1, k2⟩ := sgmul_range x y h0 h1 h2 h3
  obtain ⟨k3, k4⟩ := sgmul_range z u h4 h5 h6 h7
  unfold dl wrap32
  generalize sg x * sg y = t at *
  generalize sg z * sg u = t2 at *
  omega
theorem newTo_step (f fd : Nat → Int) (W n k : Nat) : ∀ i, upd (upd (newTo f fd W n k) (k * 4) (redOf f fd W n k)) (k * 4 + 2) (blueOf f fd W n k) i = newTo f fd W n (k + 1) i := by
  intro i
  unfold upd newTo
  by_cases h1 : i = k * 4 + 2
  · subst h1
    rw [if_pos rfl, if_pos (by omega), newF, if_neg (by omega), if_pos (by omega), show (k * 4 + 2) / 4 = k by omega]
  · rw [if_neg h1]
    by_cases h2 : i = k * 4
    · subst h2
      rw [if_pos rfl, if_pos (by omega), newF, if_pos (by omega), show k * 4 / 4 = k by omega]
    · rw [if_neg h2]
      by_cases h3 : i < k * 4
      · rw [if_pos h3, if_pos (by omega)]
      · rw [if_neg h3]
        by_cases h4 : i < (k + 1) * 4
        · rw [if_pos h4, newF, if_neg (by omega), if_neg (by omega)]
        · rw [if_neg h4]
theorem newTo_ge (f fd : Nat → Int) (W n k i : Nat) (h : k * 4 ≤ i) : newTo f fd W n k i = f i := by unfold newTo; rw [if_neg (by omega)]
theorem cross_round {w wr : World} {g m k : Nat} {f fd : Nat → Int} {W n : Nat} (hk : k * 4 + 4 ≤ m) (hgr : w.grownBy wr (some g)) (hr : Row .u8 wr g 0 m (newTo f fd W n k)) (hw : Wr wr g 0 m) :
    w.grownBy ((wr.setCell ⟨g, k * 4, none⟩ (.int .u8 (redOf f fd W n k))).setCell ⟨g, k * 4 + 2, none⟩ (.int .u8 (blueOf f fd W n k))) (some g) ∧
      Row .u8 ((wr.setCell ⟨g, k * 4, none⟩ (.int .u8 (redOf f fd W n k))).setCell ⟨g, k * 4 + 2, none⟩ (.int .u8 (blueOf f fd W n k))) g 0 m (newTo f fd W n (k + 1)) ∧
      Wr ((wr.setCell ⟨g, k * 4, none⟩ (.int .u8 (redOf f fd W n k))).setCell ⟨g, k * 4 + 2, none⟩ (.int .u8 (blueOf f fd W n k))) g 0 m := by
  refine ⟨grownBy.trans (grownBy.trans hgr (grownBy_setCell _ _ _)) (grownBy_setCell _ _ _), ?_, (hw.set _ _).set _ _⟩
  have h1 := hr.set (k * 4) (by omega) (redOf f fd W n k)
  have h2 := h1.set (k * 4 + 2) (by omega) (blueOf f fd W n k)
  simp only [Nat.zero_add] at h2
  exact h2.congr fun i _ => newTo_step f fd W n k i

theorem tile_at (W n y x : Nat) (hx : x < W) : tileOf W n (y * W + x) = y / 2 ^ n * ((W + 2 ^ n - 1) / 2 ^ n) + x / 2 ^ n := by
  unfold tileOf
  have e1 : (y * W + x) / W = y := by rw [Nat.add_comm, Nat.add_mul_div_right _ _ (by omega), Nat.div_eq_of_lt hx, Nat.zero_add]
  have e2 : (y * W + x) % W = x := by rw [Nat.add_comm, Nat.add_mul_mod_self_right, Nat.mod_eq_of_lt hx]
  rw [e1, e2]
/-- The next tile's number, in a row. -/
theorem up_zero (T x : Nat) (hT : 1 ≤ T) (h : x % T = 0) : (x + T - 1) / T = x / T ∧ (x + 1 + T - 1) / T = x / T + 1 := by
  have e := Nat.div_add_mod x T
  rw [h, Nat.add_zero] at e
  generalize hq : x / T = q at *
  constructor
  · rw [show x + T - 1 = (T - 1) + T * q by omega, Nat.add_mul_div_left _ _ (by omega), Nat.div_eq_of_lt (by omega), Nat.zero_add]
  · rw [show x + 1 + T - 1 = T * q + T by omega, show T * q + T = 0 + T * (q + 1) by rw [Nat.mul_add, Nat.mul_one, Nat.zero_add], Nat.add_mul_div_left _ _ (by omega), Nat.zero_div, Nat.zero_add]
theorem up_pos (T x : Nat) (hT : 1 ≤ T) (h : x % T ≠ 0) : (x + T - 1) / T = x / T + 1 ∧ (x + 1 + T - 1) / T = x / T + 1 ∧ (x - 1) / T = x / T := by
  have e := Nat.div_add_mod x T
  have hl := Nat.mod_lt x (show 0 < T by omega)
  generalize hq : x / T = q at *
  generalize hr : x % T = r at *
  refine ⟨?_, ?_, ?_⟩
  · rw [show x + T - 1 = (r - 1) + T * (q + 1) by rw [Nat.mul_add, Nat.mul_one]; omega, Nat.add_mul_div_left _ _ (by omega), Nat.div_eq_of_lt (by omega), Nat.zero_add]
  · rw [show x + 1 + T - 1 = r + T * (q + 1) by rw [Nat.mul_add, Nat.mul_one]; omega, Nat.add_mul_div_left _ _ (by omega), Nat.div_eq_of_lt (by omega), Nat.zero_add]
  · rw [show x - 1 = (r - 1) + T * q by omega, Nat.add_mul_div_left _ _ (by omega), Nat.div_eq_of_lt (by omega), Nat.zero_add]

set_option maxRecDepth 100000 in
set_option maxHeartbeats 1600000 in
theorem cross_any (gt g W n h m c : Nat) (da : Option Addr) (dn dc : Nat) (f fd : Nat → Int) (tt : Int) (w : World) (hW : 1 ≤ W) (hh : 1 ≤ h) (hWh : W * h ≤ 16384) (hn2 : 2 ≤ n) (hn : n ≤ 9) (hm : m = W * h * 4)
    (hto : SObj w gt 55 [.int .u32 tt, .int .i32 W, .int .u32 n, .slice da dn dc])
    (hg : g < w.heap.size) (hgt : gt ≠ g) (hr : Row .u8 w g 0 m f) (hw : Wr w g 0 m) (hf : ∀ i, 0 ≤ f i ∧ f i ≤ 255) (hd : Arg .u8 w da dn fd) (hda : 0 < dn → ∀ a, da = some a → a.block ≠ g) (hfd : ∀ i, 0 ≤ fd i ∧ fd i ≤ 255)
    (hdn : dn ≤ 70000) (ht : ∀ i, i < W * h → tileOf W n i * 4 + 4 ≤ dn) :
    Calls Try.prog 38 #[.pointer (some ⟨gt, 0, none⟩), .slice (some ⟨g, 0, none⟩) m c, .int .i32 h] w fun e w' =>
      e = .returned (.slice (some ⟨g, 0, none⟩) m c) ∧ w.grownBy w' (some g) ∧ Row .u8 w' g 0 m (newF f fd W n) ∧ Wr w' g 0 m := by
  have hW2 : W ≤ 16384 := Nat.le_trans (Nat.le_mul_of_pos_right W hh) hWh
  have hh2 : h ≤ 16384 := Nat.le_trans (Nat.le_mul_of_pos_left h hW) hWh
  have c1 := SObj.cell hto 1 rfl
  have c2 := SObj.cell hto 2 rfl
  have hp1 : (1 : Int) ≤ 2 ^ n := Int.pow_pos (by omega)
  have hp2 : (2 : Int) ^ n ≤ 512 := by
    have := Int.ofNat_le.2 (Nat.pow_le_pow_right (n := 2) (by omega) hn)
    simpa using this
  obtain ⟨A, hA⟩ : ∃ A : Nat, ((W : Int) + 2 ^ n - 1) / 2 ^ n = (A : Int) := Int.eq_ofNat_of_zero_le (Int.ediv_nonneg (by omega) (by omega))
  have hA2 : (A : Int) ≤ 17000 := by rw [← hA]; exact Int.le_trans (Int.ediv_le_self _ (by omega)) (by omega)
  have H := Lib.hid (And.intro hto (And.intro hg (And.intro hgt (And.intro hr (And.intro hw (And.intro hf (And.intro hd (And.intro hda (And.intro hfd (And.intro ht (And.intro hm (And.intro hA hWh))))))))))))
  clear hto hg hgt hr hw hf hd hda hfd ht hA hm
  have hm2 : m ≤ 65536 := by have := H.out.2.2.2.2.2.2.2.2.2.2.1; omega
  clear hWh
  go_enter Try.func38, Try.ntmps38
  go_wp2
  go_quiet ((go_at_call 44; exact Calls.quiet_of_same (nTiles_any _ n _ (by omega) (by omega) hn)))
  rw [H.out.2.2.2.2.2.2.2.2.2.2.2.1]
  generalize hw1 : World.drewN w _ = w1
  have H1 : Hid (w.grownBy w1 (some g) ∧ Row .u8 w1 g 0 m f ∧ Wr w1 g 0 m) := by
    rw [← hw1]; exact Lib.hid ⟨grownBy_drewN _ _ _, H.out.2.2.2.1, H.out.2.2.2.2.1⟩
  clear hw1 c1 c2
  obtain ⟨T, hT⟩ : ∃ T, T = 2 ^ n := ⟨_, rfl⟩
  have hT1 : 1 ≤ T := by rw [hT]; exact Nat.pow_pos (by omega)
  have hTi : ((T : Nat) : Int) = 2 ^ n := by rw [hT]; simp
  have HT := Lib.hid (And.intro hT hTi); clear hT hTi
  have HAn : Hid (A = (W + 2 ^ n - 1) / 2 ^ n) := Lib.hid (by
    have := H.out.2.2.2.2.2.2.2.2.2.2.2.1
    have hpn : 0 < 2 ^ n := Nat.pow_pos (by omega)
    have e : (W : Int) + 2 ^ n - 1 = ((W + 2 ^ n - 1 : Nat) : Int) := by
      have : ((2 ^ n : Nat) : Int) = 2 ^ n := by simp
      omega
    have e2 : (2 : Int) ^ n = ((2 ^ n : Nat) : Int) := by simp
    rw [e, e2, ← Int.natCast_ediv] at this
    exact (Int.ofNat_inj.1 this).symm)
  go_wp2
  go_loopw [10, 13] (fun pv yv wr => ∃ y : Nat, y ≤ h ∧ yv = .int .i32 y ∧ pv = .int .i32 ((y * W * 4 : Nat) : Int) ∧ Hid (w.grownBy wr (some g) ∧ Row .u8 wr g 0 m (newTo f fd W n (y * W)) ∧ Wr wr g 0 m)) (fun _ yv _ => h - (intOf yv).toNat)
  case atStart => exact ⟨0, by omega, rfl, by simp, H1.out.1, H1.out.2.1.congr (fun i _ => by simp [newTo]), H1.out.2.2⟩
  case round =>
    obtain ⟨y, hy, rfl, rfl, hR⟩ := hrel
    by_cases hlt : y < h
    · have hto := SObj.grown H.out.1 hR.out.1 (by intro e; injection e with e; exact H.out.2.2.1 e)
      have d1 := SObj.cell hto 1 rfl
      have d2 := SObj.cell hto 2 rfl
      clear hto
      have hyW : y * W + W ≤ W * h := by
        have := Nat.mul_le_mul_right W (show y + 1 ≤ h by omega)
        rw [Nat.add_mul, Nat.one_mul, Nat.mul_comm h W] at this; exact this
      have hbase := H.out.2.2.2.2.2.2.2.2.2.1 (y * W) (by omega)
      have hti := tile_at W n y 0 (by omega)
      rw [Nat.add_zero, Nat.zero_div, Nat.add_zero, ← HAn.out] at hti
      rw [hti] at hbase
      obtain ⟨ty, ety⟩ : ∃ ty, ty = y / 2 ^ n := ⟨_, rfl⟩
      obtain ⟨bs, ebs⟩ : ∃ bs, bs = ty * A := ⟨_, rfl⟩
      rw [← ety, ← ebs] at hbase
      have e2 : (y : Int) / 2 ^ n = (ty : Int) := by rw [ety, Int.natCast_ediv]; simp
      have e3 : 4 * (ty : Int) * (A : Int) = ((bs * 4 : Nat) : Int) := by rw [ebs]; simp only [Int.natCast_mul]; rw [Int.mul_assoc, Int.mul_comm]; rfl
      have ty1 : ty ≤ 16384 := by rw [ety]; exact Nat.le_trans (Nat.div_le_self _ _) (by omega)
      have bs1 : bs * 4 ≤ 70000 := by have := H.out; omega
      have HB := Lib.hid (And.intro ety (And.intro ebs (And.intro hyW hbase))); clear ety ebs hyW hti hbase
      go_wp2
      go_loopw [7, 8, 9, 10, 14, 15] (fun v7 v8 v9 pv qv xv wq => ∃ x : Nat, x ≤ W ∧ xv = .int .i32 x ∧ pv = .int .i32 (((y * W + x) * 4 : Nat) : Int) ∧ qv = .int .i32 (((bs + (x + T - 1) / T) * 4 : Nat) : Int) ∧ Hid (0 < x → v7 = .int .i32 (sg (fd ((bs + (x - 1) / T) * 4 + 2))) ∧ v8 = .int .i32 (sg (fd ((bs + (x - 1) / T) * 4 + 1))) ∧ v9 = .int .i32 (sg (fd ((bs + (x - 1) / T) * 4)))) ∧ Hid (w.grownBy wq (some g) ∧ Row .u8 wq g 0 m (newTo f fd W n (y * W + x)) ∧ Wr wq g 0 m)) (fun _ _ _ _ _ xv _ => W - (intOf xv).toNat)
      case atStart => exact ⟨0, by omega, rfl, by simp, by rw [Nat.zero_add, Nat.div_eq_of_lt (by omega), Nat.add_zero]; simp, Lib.hid (fun h => absurd h (by omega)), by simpa using hR⟩
      case round =>
        obtain ⟨x, hx, rfl, rfl, rfl, hV, hQ⟩ := hrel
        have hto := SObj.grown H.out.1 hQ.out.1 (by intro e; injection e with e; exact H.out.2.2.1 e)
        have d1 := SObj.cell hto 1 rfl
        have d2 := SObj.cell hto 2 rfl
        have d3 := SObj.cell hto 3 rfl
        clear hto
        by_cases hxl : x < W
        · have hmk := i32_mask0 x n (by omega) (by omega)
          rw [← HT.out.1] at hmk
          have htl := H.out.2.2.2.2.2.2.2.2.2.1 (y * W + x) (by have := HB.out.2.2.1; omega)
          rw [tile_at W n y x hxl, ← HAn.out, ← HB.out.1, ← HB.out.2.1, ← HT.out.1] at htl
          obtain ⟨gd, od, rfl, hgd, rd⟩ := H.out.2.2.2.2.2.2.1 (by omega)
          by_cases h0 : x % T = 0
          · obtain ⟨u1, u2⟩ := up_zero T x hT1 h0
            obtain ⟨kk, hkk⟩ : ∃ kk, kk = y * W + x := ⟨_, rfl⟩
            rw [← hkk] at hQ ⊢
            have hkt : tileOf W n kk = bs + x / T := by rw [hkk, tile_at W n y x hxl, ← HAn.out, ← HB.out.1, ← HB.out.2.1, ← HT.out.1]
            have hkm : kk * 4 + 4 ≤ m := by
              have h1 := HB.out.2.2.1; have h2 := H.out.2.2.2.2.2.2.2.2.2.2.1; omega
            have p0 : wr.cell? ⟨g, kk * 4, none⟩ = some (.int .u8 (f (kk * 4))) := by
              have := hQ.out.2.1 (kk * 4) (by omega); rwa [Nat.zero_add, newTo_ge _ _ _ _ _ _ (by omega)] at this
            have p1 : wr.cell? ⟨g, kk * 4 + 1, none⟩ = some (.int .u8 (f (kk * 4 + 1))) := by
              have := hQ.out.2.1 (kk * 4 + 1) (by omega); rwa [Nat.zero_add, newTo_ge _ _ _ _ _ _ (by omega)] at this
            have p2 : wr.cell? ⟨g, kk * 4 + 2, none⟩ = some (.int .u8 (f (kk * 4 + 2))) := by
              have := hQ.out.2.1 (kk * 4 + 2) (by omega); rwa [Nat.zero_add, newTo_ge _ _ _ _ _ _ (by omega)] at this
            have z0 : wr.frozen? ⟨g, kk * 4, none⟩ = false := by have := hQ.out.2.2 (kk * 4) (by omega); rwa [Nat.zero_add] at this
            have z2 : wr.frozen? ⟨g, kk * 4 + 2, none⟩ = false := by have := hQ.out.2.2 (kk * 4 + 2) (by omega); rwa [Nat.zero_add] at this
            obtain ⟨f0, f1⟩ := H.out.2.2.2.2.2.1 (kk * 4)
            obtain ⟨f2, f3⟩ := H.out.2.2.2.2.2.1 (kk * 4 + 1)
            obtain ⟨f4, f5⟩ := H.out.2.2.2.2.2.1 (kk * 4 + 2)
            have hround := Lib.hid (cross_round hkm hQ.out.1 hQ.out.2.1 hQ.out.2.2)
            have hredE : redOf f fd W n kk = (f (kk * 4) + dl (fd ((bs + x / T) * 4 + 2)) (f (kk * 4 + 1))) % 256 := by unfold redOf; rw [hkt]
            have hblueE : blueOf f fd W n kk = (f (kk * 4 + 2) + dl (fd ((bs + x / T) * 4 + 1)) (f (kk * 4 + 1)) + dl (fd ((bs + x / T) * 4)) (redOf f fd W n kk)) % 256 := by unfold blueOf; rw [hkt]
            obtain ⟨red, hred⟩ : ∃ r, r = redOf f fd W n kk := ⟨_, rfl⟩
            obtain ⟨blue, hblue⟩ : ∃ r, r = blueOf f fd W n kk := ⟨_, rfl⟩
            have red0 := redOf_range f fd W n kk
            rw [← hred] at hredE hblueE red0 hround
            rw [← hblue] at hblueE hround
            obtain ⟨red0, red1⟩ := red0
            obtain ⟨J, hJ⟩ : ∃ J, J = kk * 4 := ⟨_, rfl⟩
            rw [← hJ] at p0 p1 p2 z0 z2 f0 f1 f2 f3 f4 f5 hredE hblueE hround hkm ⊢
            have J1 : J ≤ 65536 := by omega
            generalize f J = rdv at *
            generalize f (J + 1) = grv at *
            generalize f (J + 2) = blv at *
            obtain ⟨Q, hQe⟩ : ∃ Q, Q = (bs + x / T) * 4 := ⟨_, rfl⟩
            rw [← hQe] at htl hredE hblueE
            rw [u1, ← hQe]
            rw [h0] at hmk
            have hne : gd ≠ g := H.out.2.2.2.2.2.2.2.1 (by omega) _ rfl
            have kc : ∀ i, i < dn → wr.cell? ⟨gd, od + i, none⟩ = some (.int .u8 (fd i)) := fun i hi => by
              rw [World.cell?_of_block (w := w) (hQ.out.1.block gd hgd (by intro e; injection e with e; exact hne e))]; exact rd i hi
            have k0 := kc Q (by omega)
            have k1 := kc (Q + 1) (by omega)
            have k2 := kc (Q + 2) (by omega)
            have Q1 : Q ≤ 70000 := by omega
            obtain ⟨g0, g1⟩ := H.out.2.2.2.2.2.2.2.2.1 Q
            obtain ⟨g2, g3⟩ := H.out.2.2.2.2.2.2.2.2.1 (Q + 1)
            obtain ⟨g4, g5⟩ := H.out.2.2.2.2.2.2.2.2.1 (Q + 2)
            obtain ⟨c0, hc0⟩ : ∃ c, c = fd Q := ⟨_, rfl⟩
            obtain ⟨c1, hc1⟩ : ∃ c, c = fd (Q + 1) := ⟨_, rfl⟩
            obtain ⟨c2, hc2⟩ : ∃ c, c = fd (Q + 2) := ⟨_, rfl⟩
            rw [← hc0] at k0 g0 g1 hblueE
            rw [← hc1] at k1 g2 g3 hblueE
            rw [← hc2] at k2 g4 g5 hredE
            have HE := Lib.hid (And.intro hredE (And.intro hblueE (And.intro hQe (And.intro hc0 (And.intro hc1 (And.intro hc2 (And.intro hJ (And.intro hkk (And.intro hred hblue)))))))))
            clear hQe hc0 hc1 hc2 hredE hblueE hJ hkk hred hblue kc rd h0 e2 e3 hkt
            go_wp2
            go_roundw
            case rel =>
              rw [i8_sg c0 g0 g1, i8_sg c1 g2 g3, i8_sg c2 g4 g5, i8_sg grv f2 f3, add_dl rdv c2 grv g4 g5 f2 f3, ← HE.out.1, i8_sg red red0 red1, add_dl2 blv c1 grv c0 red g2 g3 f2 f3 g0 g1 red0 red1, ← HE.out.2.1]
              refine ⟨x + 1, by omega, by go_num, ?_, ?_, Lib.hid (fun _ => ?_), ?_⟩
              · have := HE.out; congr 1; omega
              · rw [u2]; have := HE.out.2.2.1; congr 1; omega
              · rw [Nat.add_sub_cancel, ← HE.out.2.2.1, ← HE.out.2.2.2.1, ← HE.out.2.2.2.2.1, ← HE.out.2.2.2.2.2.1]; exact ⟨rfl, rfl, rfl⟩
              · rw [show y * W + (x + 1) = kk + 1 by have := HE.out.2.2.2.2.2.2.2.1; omega]; exact hround
            case measure => simp [intOf]; omega
          · obtain ⟨u1, u2, u3⟩ := up_pos T x hT1 h0
            have hx0 : 0 < x := by
              rcases Nat.eq_zero_or_pos x with h | h
              · rw [h, Nat.zero_mod] at h0; exact absurd rfl h0
              · exact h
            obtain ⟨v1, v2, v3⟩ := hV.out hx0
            rw [u3] at v1 v2 v3
            obtain ⟨kk, hkk⟩ : ∃ kk, kk = y * W + x := ⟨_, rfl⟩
            rw [← hkk] at hQ ⊢
            have hkt : tileOf W n kk = bs + x / T := by rw [hkk, tile_at W n y x hxl, ← HAn.out, ← HB.out.1, ← HB.out.2.1, ← HT.out.1]
            have hkm : kk * 4 + 4 ≤ m := by
              have h1 := HB.out.2.2.1; have h2 := H.out.2.2.2.2.2.2.2.2.2.2.1; omega
            have p0 : wr.cell? ⟨g, kk * 4, none⟩ = some (.int .u8 (f (kk * 4))) := by
              have := hQ.out.2.1 (kk * 4) (by omega); rwa [Nat.zero_add, newTo_ge _ _ _ _ _ _ (by omega)] at this
            have p1 : wr.cell? ⟨g, kk * 4 + 1, none⟩ = some (.int .u8 (f (kk * 4 + 1))) := by
              have := hQ.out.2.1 (kk * 4 + 1) (by omega); rwa [Nat.zero_add, newTo_ge _ _ _ _ _ _ (by omega)] at this
            have p2 : wr.cell? ⟨g, kk * 4 + 2, none⟩ = some (.int .u8 (f (kk * 4 + 2))) := by
              have := hQ.out.2.1 (kk * 4 + 2) (by omega); rwa [Nat.zero_add, newTo_ge _ _ _ _ _ _ (by omega)] at this
            have z0 : wr.frozen? ⟨g, kk * 4, none⟩ = false := by have := hQ.out.2.2 (kk * 4) (by omega); rwa [Nat.zero_add] at this
            have z2 : wr.frozen? ⟨g, kk * 4 + 2, none⟩ = false := by have := hQ.out.2.2 (kk * 4 + 2) (by omega); rwa [Nat.zero_add] at this
            obtain ⟨f0, f1⟩ := H.out.2.2.2.2.2.1 (kk * 4)
            obtain ⟨f2, f3⟩ := H.out.2.2.2.2.2.1 (kk * 4 + 1)
            obtain ⟨f4, f5⟩ := H.out.2.2.2.2.2.1 (kk * 4 + 2)
            have hround := Lib.hid (cross_round hkm hQ.out.1 hQ.out.2.1 hQ.out.2.2)
            have hredE : redOf f fd W n kk = (f (kk * 4) + dl (fd ((bs + x / T) * 4 + 2)) (f (kk * 4 + 1))) % 256 := by unfold redOf; rw [hkt]
            have hblueE : blueOf f fd W n kk = (f (kk * 4 + 2) + dl (fd ((bs + x / T) * 4 + 1)) (f (kk * 4 + 1)) + dl (fd ((bs + x / T) * 4)) (redOf f fd W n kk)) % 256 := by unfold blueOf; rw [hkt]
            obtain ⟨red, hred⟩ : ∃ r, r = redOf f fd W n kk := ⟨_, rfl⟩
            obtain ⟨blue, hblue⟩ : ∃ r, r = blueOf f fd W n kk := ⟨_, rfl⟩
            have red0 := redOf_range f fd W n kk
            rw [← hred] at hredE hblueE red0 hround
            rw [← hblue] at hblueE hround
            obtain ⟨red0, red1⟩ := red0
            obtain ⟨J, hJ⟩ : ∃ J, J = kk * 4 := ⟨_, rfl⟩
            rw [← hJ] at p0 p1 p2 z0 z2 f0 f1 f2 f3 f4 f5 hredE hblueE hround hkm ⊢
            have J1 : J ≤ 65536 := by omega
            generalize f J = rdv at *
            generalize f (J + 1) = grv at *
            generalize f (J + 2) = blv at *
            obtain ⟨Q, hQe⟩ : ∃ Q, Q = (bs + x / T) * 4 := ⟨_, rfl⟩
            rw [← hQe] at htl hredE hblueE
            rw [u1]
            rw [← hQe] at v1 v2 v3
            have hmk2 : (((x % T : Nat) : Int) == 0) = false := by simp; omega
            obtain ⟨g0, g1⟩ := H.out.2.2.2.2.2.2.2.2.1 Q
            obtain ⟨g2, g3⟩ := H.out.2.2.2.2.2.2.2.2.1 (Q + 1)
            obtain ⟨g4, g5⟩ := H.out.2.2.2.2.2.2.2.2.1 (Q + 2)
            obtain ⟨c0, hc0⟩ : ∃ c, c = fd Q := ⟨_, rfl⟩
            obtain ⟨c1, hc1⟩ : ∃ c, c = fd (Q + 1) := ⟨_, rfl⟩
            obtain ⟨c2, hc2⟩ : ∃ c, c = fd (Q + 2) := ⟨_, rfl⟩
            rw [← hc0] at g0 g1 hblueE v3
            rw [← hc1] at g2 g3 hblueE v2
            rw [← hc2] at g4 g5 hredE v1
            subst v1 v2 v3
            clear hV
            obtain ⟨a0, a1⟩ := sg_range c0 g0 g1
            obtain ⟨a2, a3⟩ := sg_range c1 g2 g3
            obtain ⟨a4, a5⟩ := sg_range c2 g4 g5
            have QQ : (bs + (x / T + 1)) * 4 = Q + 4 := by omega
            rw [QQ]
            have HE := Lib.hid (And.intro hredE (And.intro hblueE (And.intro hQe (And.intro hc0 (And.intro hc1 (And.intro hc2 (And.intro hJ (And.intro hkk (And.intro hred hblue)))))))))
            clear hQe hc0 hc1 hc2 hredE hblueE hJ hkk hred hblue rd h0 e2 e3 hkt QQ
            go_wp2
            go_roundw
            case rel =>
              rw [i8_sg grv f2 f3, add_dl rdv c2 grv g4 g5 f2 f3, ← HE.out.1, i8_sg red red0 red1, add_dl2 blv c1 grv c0 red g2 g3 f2 f3 g0 g1 red0 red1, ← HE.out.2.1]
              refine ⟨x + 1, by omega, by go_num, ?_, ?_, Lib.hid (fun _ => ?_), ?_⟩
              · have := HE.out; congr 1; omega
              · rw [u2]; have := HE.out.2.2.1; congr 1; omega
              · rw [Nat.add_sub_cancel, ← HE.out.2.2.1, ← HE.out.2.2.2.1, ← HE.out.2.2.2.2.1, ← HE.out.2.2.2.2.2.1]; exact ⟨rfl, rfl, rfl⟩
              · rw [show y * W + (x + 1) = kk + 1 by have := HE.out.2.2.2.2.2.2.2.1; omega]; exact hround
            case measure => simp [intOf]; omega
        · obtain rfl : x = W := by omega
          have hyx : y * x + x = (y + 1) * x := by rw [Nat.add_mul, Nat.one_mul]
          rw [hyx] at hQ ⊢
          clear hV
          go_wp2
          go_roundw
          case rel => exact ⟨y + 1, by omega, by go_num, rfl, hQ⟩
          case measure => simp [intOf]; omega
    · obtain rfl : y = h := by omega
      go_wp2
      go_ret
      have e : m = y * W * 4 := by rw [H.out.2.2.2.2.2.2.2.2.2.2.1, Nat.mul_comm W y]
      refine ⟨rfl, hR.out.1, hR.out.2.1.congr (fun i hi => ?_), hR.out.2.2⟩
      unfold newTo
      rw [if_pos (by omega)]
end Go.Proofs.YtoafokmghjfpmaaR
