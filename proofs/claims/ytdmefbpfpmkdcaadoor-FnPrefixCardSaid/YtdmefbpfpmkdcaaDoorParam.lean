/- split and lz77Param: a number from 1 on as symbol and further bits. -/
import Derived.Test.YtdmefbpfpmkdcaaDoorReadD
import Derived.Test.YtdmefbpfpmkdcaaDoorSums
namespace Go.Proofs.YtdmefbpfpmkdcaaDoor
open Go.RowKit
set_option linter.unusedVariables false

/-- The symbol of d = v - 1 with n = log2 d bits, d from 4 on. -/
def symP (d n : Nat) : Nat := 2 * n + d / 2 ^ (n - 1) % 2

theorem split_small (v : Nat) (w : World) (h1 : 1 ≤ v) (h : v ≤ 4) :
    Calls Tryd.prog 15 #[.int .i64 v] w fun e w' => e = .returned (.tuple #[.int .i64 ((v : Int) - 1), .int .i64 0, .int .i64 0]) ∧ w = w' := by
  go_enter Tryd.func15, Tryd.ntmps15
  go_wp2
  go_ret3
  exact ⟨rfl, rfl⟩

def SplitBig (d : Nat) (w : World) (e : Ending) (w' : World) : Prop :=
  ∃ n, 2 ≤ n ∧ n ≤ 19 ∧ 2 ^ n ≤ d ∧ d < 2 ^ (n + 1) ∧ e = .returned (.tuple #[.int .i64 (symP d n : Nat), .int .i64 (d % 2 ^ (n - 1) : Nat), .int .i64 (n - 1 : Nat)]) ∧ Only (fun _ => False) w w'
theorem sym_vals (d n : Nat) (h2 : 2 ≤ n) (hn : n ≤ 19) :
    bits .and .i64 ((d : Int) / 2 ^ (n - 1)) 1 = ((d / 2 ^ (n - 1) % 2 : Nat) : Int) ∧ bits .and .i64 (d : Int) ((2 : Int) ^ (n - 1) - 1) = ((d % 2 ^ (n - 1) : Nat) : Int) := by
  constructor
  · rw [mask1]; simp
  · have := i64_mask (d : Int) (n - 1) (by omega)
    rw [Int.ofNat_sub (Nat.pow_pos (by decide))] at this
    simpa using this
theorem ret3_int {a b c a' b' c' : Int} (h1 : a = a') (h2 : b = b') (h3 : c = c') : Ending.returned (.tuple #[.int .i64 a, .int .i64 b, .int .i64 c]) = .returned (.tuple #[.int .i64 a', .int .i64 b', .int .i64 c']) := by rw [h1, h2, h3]
theorem split_fin (d k : Nat) (hk2 : 2 ≤ k) (hk : k ≤ 19) (hd : d < 1048576) :
    wrap64 (2 * (k : Int) + bits .and .i64 ((d : Int) / 2 ^ (k - 1)) 1) = ((symP d k : Nat) : Int) ∧ bits .and .i64 (d : Int) (wrap64 (wrap64 (2 ^ (k - 1)) - 1)) = ((d % 2 ^ (k - 1) : Nat) : Int) := by
  obtain ⟨s1, s2⟩ := sym_vals d k hk2 hk
  have hp : (2 : Nat) ^ (k - 1) ≤ 2 ^ 18 := Nat.pow_le_pow_right (by decide) (by omega)
  have h0 : 0 < (2 : Nat) ^ (k - 1) := Nat.pow_pos (by decide)
  have e : (2 : Int) ^ (k - 1) = ((2 ^ (k - 1) : Nat) : Int) := by simp
  constructor
  · rw [s1, IntWalk.wrap64_in _ (by omega)]
    unfold symP
    omega
  · rw [← s2, e, IntWalk.wrap64_in ((2 ^ (k - 1) : Nat) : Int) (by omega), IntWalk.wrap64_in _ (by omega)]
set_option maxRecDepth 100000 in
theorem split_big (d : Nat) (w : World) (h1 : 4 ≤ d) (h : d < 1048576) :
    Calls Tryd.prog 15 #[.int .i64 ((d : Int) + 1)] w (SplitBig d w) := by
  go_enter Tryd.func15, Tryd.ntmps15
  go_wp2
  go_loop [6] (fun i => ∃ k : Nat, k ≤ 19 ∧ i = .int .i64 k ∧ Hid (2 ^ k ≤ d)) (fun i => 20 - (intOf i).toNat)
  case atStart => exact ⟨0, by omega, rfl, by show 1 ≤ d; omega⟩
  case round =>
    obtain ⟨k, hk, rfl, hd⟩ := hrel
    by_cases hlt : 2 ^ (k + 1) ≤ d
    · have q : 0 < (d : Int) / 2 ^ (k + 1) := by
        have : 0 < d / 2 ^ (k + 1) := Nat.div_pos hlt (Nat.pow_pos (by decide))
        have e : (d : Int) / 2 ^ (k + 1) = ((d / 2 ^ (k + 1) : Nat) : Int) := by simp
        omega
      have hk18 : k ≤ 18 := by
        rcases Nat.lt_or_ge k 19 with h | h
        · omega
        · obtain rfl : k = 19 := by omega
          have : (2 : Nat) ^ (19 + 1) = 1048576 := by decide
          omega
      have HL := Lib.hid hlt; clear hlt
      go_wp2
      go_round
      case rel => exact ⟨k + 1, by omega, by go_num, HL.out⟩
      case measure => simp [intOf]; omega
    · have q : ¬ 0 < (d : Int) / 2 ^ (k + 1) := by
        have : d / 2 ^ (k + 1) = 0 := Nat.div_eq_of_lt (by omega)
        have e : (d : Int) / 2 ^ (k + 1) = ((d / 2 ^ (k + 1) : Nat) : Int) := by simp
        omega
      have hk2 : 2 ≤ k := by
        rcases Nat.lt_or_ge k 2 with h | h
        · have : 2 ^ (k + 1) ≤ 2 ^ 2 := Nat.pow_le_pow_right (by decide) (by omega)
          omega
        · exact h
      have HL := Lib.hid hlt; clear hlt
      go_wp2
      go_quiet (fail)
      go_wp2
      go_ret3
      exact ⟨k, hk2, hk, hd.out, by have := HL.out; omega, ret3_int (split_fin d k hk2 hk h).1 (split_fin d k hk2 hk h).2 (by omega), by first | exact Only.refl _ _ | exact Only.drewN _ _ _⟩

/-- What further bits tell. -/
theorem sym_back (d n : Nat) (h2 : 2 ≤ n) (h1 : 2 ^ n ≤ d) (h : d < 2 ^ (n + 1)) : (2 + d / 2 ^ (n - 1) % 2) * 2 ^ (n - 1) + d % 2 ^ (n - 1) = d := by
  have hp : 0 < 2 ^ (n - 1) := Nat.pow_pos (by decide)
  have e : d / 2 ^ (n - 1) / 2 = 1 := by
    have en : 2 ^ (n - 1) * 2 = 2 ^ n := by rw [← Nat.pow_succ]; congr 1; omega
    rw [Nat.div_div_eq_div_mul, en]
    apply Nat.div_eq_of_lt_le
    · omega
    · rw [Nat.pow_succ] at h; omega
  have e2 : d / 2 ^ (n - 1) = 2 + d / 2 ^ (n - 1) % 2 := by omega
  rw [← e2]
  have := Nat.div_add_mod d (2 ^ (n - 1))
  rw [Nat.mul_comm] at this
  exact this

theorem lz_small (gd gr : Nat) (a : Option Addr) (n c : Nat) (f : Nat → Int) (S p s : Nat) (w : World) (h : s < 4) :
    Calls Tryd.prog 49 #[.pointer (some ⟨gd, 0, none⟩), .int .u32 s] w fun e w' => e = .returned (.tuple #[.int .u32 ((s : Int) + 1), .nilIface]) ∧ w = w' := by
  go_enter Tryd.func49, Tryd.ntmps49
  go_wp2
  go_ret2
  exact ⟨rfl, rfl⟩

theorem ret_un {a b : Int} (h : a = b) : Ending.returned (.tuple #[.int .u32 a, .nilIface]) = .returned (.tuple #[.int .u32 b, .nilIface]) := by rw [h]
theorem lz_val (s m : Nat) (hm : (s - 2) / 2 = m) (h4 : 4 ≤ s) (h : s ≤ 39) : (2 + bits .and .u32 (s : Int) 1) % 4294967296 * 2 ^ m % 4294967296 = (((2 + s % 2) * 2 ^ m : Nat) : Int) ∧ (2 + s % 2) * 2 ^ m ≤ 786432 := by
  have e1 : bits .and .u32 (s : Int) 1 = ((s % 2 : Nat) : Int) := by
    have := u32_and_nat s 1 (by omega) (by decide)
    rw [nat_mask1] at this
    exact this
  have hp : (2 : Nat) ^ m ≤ 2 ^ 18 := Nat.pow_le_pow_right (by decide) (by omega)
  have h3 : (2 + s % 2) * 2 ^ m ≤ 3 * 2 ^ 18 := Nat.mul_le_mul (by omega) hp
  have e2 : (2 + ((s % 2 : Nat) : Int)) * 2 ^ m = (((2 + s % 2) * 2 ^ m : Nat) : Int) := by simp
  refine ⟨?_, by omega⟩
  rw [e1, Int.emod_eq_of_lt (a := 2 + ((s % 2 : Nat) : Int)) (by omega) (by omega), e2, Int.emod_eq_of_lt (by omega) (by omega)]

set_option maxRecDepth 100000 in
theorem lz_big (gd gr : Nat) (a : Option Addr) (n c : Nat) (f : Nat → Int) (S p s m : Nat) (w : World) (h : Rdr w gd gr a n c f S p) (hm : (s - 2) / 2 = m) (h4 : 4 ≤ s) (hs : s ≤ 39) (hp : p + m ≤ 8 * n) :
    Calls Tryd.prog 49 #[.pointer (some ⟨gd, 0, none⟩), .int .u32 s] w fun e w' =>
      e = .returned (.tuple #[.int .u32 (((2 + s % 2) * 2 ^ m + hand S p m + 1 : Nat) : Int), .nilIface]) ∧ Rdr w' gd gr a n c f S (p + m) ∧ Only (Two gd gr) w w' := by
  have hm18 : m ≤ 18 := by omega
  obtain ⟨v1, v2⟩ := lz_val s m hm h4 hs
  obtain ⟨o, ho⟩ : ∃ o, o = (2 + s % 2) * 2 ^ m := ⟨_, rfl⟩
  have hh : hand S p m < 262144 := Nat.lt_of_lt_of_le (hand_lt S p m) (by have : (2 : Nat) ^ m ≤ 2 ^ 18 := Nat.pow_le_pow_right (by decide) hm18; simpa using this)
  rw [← ho] at v1 v2 ⊢
  have H := Lib.hid (And.intro h (And.intro hm v1)); clear h hm v1 ho
  go_enter Tryd.func49, Tryd.ntmps49
  go_wp2_with fail
  have e : ((s : Int) - 2) / 2 = (m : Int) := by have := H.out.2.1; omega
  rw [e, H.out.2.1, H.out.2.2]
  clear e
  refine (read_ok gd gr a n c f S p m w H.out.1 (by omega) hp).mono ?_
  rintro _ w1 ⟨rfl, hr, hon⟩
  have H1 := Lib.hid (And.intro hr hon); clear hr hon
  obtain ⟨x, hx⟩ : ∃ x, x = hand S p m := ⟨_, rfl⟩
  rw [← hx] at hh ⊢
  have HX := Lib.hid hx; clear hx
  go_wp2
  go_ret2
  exact ⟨ret_un (by rw [← HX.out]; omega), H1.out⟩

theorem door_small (gd gr : Nat) (s : Nat) (w : World) (h : s < 4) :
    Calls Tryd.prog 34 #[.pointer (some ⟨gd, 0, none⟩), .int .u32 s] w fun e w' => e = .returned (.tuple #[.int .u32 ((s : Int) + 1), .nilIface]) ∧ w = w' := by
  go_enter Tryd.func34, Tryd.ntmps34
  go_wp2_with fail
  refine (lz_small gd gr none 0 0 (fun _ => 0) 0 0 s w h).mono ?_
  rintro _ w1 ⟨rfl, rfl⟩
  go_wp2
  go_ret2
  exact ⟨rfl, rfl⟩
theorem door_big (gd gr : Nat) (a : Option Addr) (n c : Nat) (f : Nat → Int) (S p s m : Nat) (w : World) (h : Rdr w gd gr a n c f S p) (hm : (s - 2) / 2 = m) (h4 : 4 ≤ s) (hs : s ≤ 39) (hp : p + m ≤ 8 * n) :
    Calls Tryd.prog 34 #[.pointer (some ⟨gd, 0, none⟩), .int .u32 s] w fun e w' =>
      e = .returned (.tuple #[.int .u32 (((2 + s % 2) * 2 ^ m + hand S p m + 1 : Nat) : Int), .nilIface]) ∧ Rdr w' gd gr a n c f S (p + m) ∧ Only (Two gd gr) w w' := by
  obtain ⟨x, hx⟩ : ∃ x, x = (2 + s % 2) * 2 ^ m + hand S p m + 1 := ⟨_, rfl⟩
  rw [← hx]
  have H := Lib.hid (And.intro h (And.intro hm hx)); clear h hm hx
  go_enter Tryd.func34, Tryd.ntmps34
  go_wp2_with fail
  refine (lz_big gd gr a n c f S p s m w H.out.1 H.out.2.1 h4 hs hp).mono ?_
  rw [← H.out.2.2]
  rintro _ w1 ⟨rfl, hr⟩
  have H1 := Lib.hid hr; clear hr
  go_wp2
  go_ret2
  exact ⟨rfl, H1.out⟩
theorem read_door (gd gr : Nat) (a : Option Addr) (n c : Nat) (f : Nat → Int) (S p k : Nat) (w : World) (h : Rdr w gd gr a n c f S p) (hk : k ≤ 24) (hp : p + k ≤ 8 * n) :
    Calls Tryd.prog 33 #[.pointer (some ⟨gd, 0, none⟩), .int .u32 k] w fun e w' => e = .returned (.tuple #[.int .u32 (hand S p k), .nilIface]) ∧ Rdr w' gd gr a n c f S (p + k) ∧ Only (Two gd gr) w w' := by
  obtain ⟨x, hx⟩ : ∃ x, x = hand S p k := ⟨_, rfl⟩
  rw [← hx]
  have H := Lib.hid (And.intro h hx); clear h hx
  go_enter Tryd.func33, Tryd.ntmps33
  go_wp2_with fail
  refine (read_ok gd gr a n c f S p k w H.out.1 hk hp).mono ?_
  rw [← H.out.2]
  rintro _ w1 ⟨rfl, hr⟩
  have H1 := Lib.hid hr; clear hr
  go_wp2
  go_ret2
  exact ⟨rfl, H1.out⟩

theorem newReader_any (a : Option Addr) (n c : Nat) (w : World) :
    Calls Tryd.prog 32 #[.slice a n c] w fun e w' => e = .returned (.pointer (some ⟨w.heap.size, 0, none⟩)) ∧ BR w' w.heap.size a n c 0 ∧ Below w.heap.size w w' := by
  go_enter Tryd.func32, Tryd.ntmps32
  go_wp2
  go_ret
  exact ⟨rfl, ⟨-1, obj_new w 98 [.slice a n c, .int .i64 0, .int .i64 (-1)]⟩, (Below.refl _ _).alloc (Nat.le_refl _) _⟩
theorem newBits_any (v : Value) (w : World) :
    Calls Tryd.prog 31 #[.iface 59 v] w fun e w' => e = .returned (.pointer (some ⟨w.heap.size, 0, none⟩)) ∧ SObj w' w.heap.size 96 [.iface 59 v, .int .u32 0, .int .u32 0] ∧ Below w.heap.size w w' := by
  go_enter Tryd.func31, Tryd.ntmps31
  go_wp2
  go_ret
  exact ⟨rfl, obj_new w 96 [.iface 59 v, .int .u32 0, .int .u32 0], (Below.refl _ _).alloc (Nat.le_refl _) _⟩
/-- What a new reader of bits begins with. -/
theorem rdr0 {w0 w1 w2 : World} {a : Option Addr} {n c : Nat} {f : Nat → Int} {S : Nat} (hr : Arg .u8 w0 a n f) (hs : Strm f S n) (hmax : n ≤ 140737488351232)
    (hb : BR w1 w0.heap.size a n c 0) (hb1 : Below w0.heap.size w0 w1) (ho : SObj w2 w1.heap.size 96 [.iface 59 (.pointer (some ⟨w0.heap.size, 0, none⟩)), .int .u32 0, .int .u32 0]) (hb2 : Below w1.heap.size w1 w2) :
    Rdr w2 w1.heap.size w0.heap.size a n c f S 0 ∧ Below w0.heap.size w0 w2 ∧ w0.heap.size < w1.heap.size := by
  have hlt : w0.heap.size < w1.heap.size := by obtain ⟨pr, hb⟩ := hb; exact hb.lt
  refine ⟨⟨⟨(hr.below hb1).below hb2, fun h0 x hx => ?_, hs, hmax⟩, 0, 0, ⟨by rw [hand_zero]; exact ho, ?_⟩, rfl, Nat.zero_le _, by omega⟩, hb1.trans (hb2.mono (Nat.le_of_lt hlt)), hlt⟩
  · obtain ⟨g, o, e, hg, _⟩ := hr h0
    rw [hx] at e; injection e with e; subst e
    exact ⟨by simp only; omega, by simp only; omega⟩
  · exact BR.only hb (Only.of_below (S := fun _ => False) hb2) (fun h => h)
end Go.Proofs.YtdmefbpfpmkdcaaDoor
