/- laws.FnParamWritten. -/
import Derived.Test.YtdmefbpfpmkdcaaDoorParam
namespace Go.Proofs.YtdmefbpfpmkdcaaDoor
open Go.RowKit
set_option linter.unusedVariables false

theorem done_any (g : Nat) (u x : Value) (w : World) (h : SObj w g 27 [u, x]) :
    Calls Tryd.prog 13 #[.pointer (some ⟨g, 0, none⟩)] w fun e w' => e = .returned u ∧ w = w' := by
  have c0 := h.cell 0 rfl
  clear h
  go_enter Tryd.func13, Tryd.ntmps13
  go_wp2
  go_ret
  exact ⟨rfl, rfl⟩

theorem Param_small (s : Nat) (a : Option Addr) (n c : Nat) (w : World) (h : s < 4) :
    Calls Tryd.prog 16 #[.int .i64 s, .slice a n c] w fun e w' => e = .returned (.tuple #[.int .i64 ((s : Int) + 1), .bool true]) ∧ Below w.heap.size w w' := by
  go_enter Tryd.func16, Tryd.ntmps16
  go_wp2_with fail
  refine (newReader_any a n c w).mono ?_
  rintro _ w1 ⟨rfl, hb, hb1⟩
  have hlt : w.heap.size < w1.heap.size := by obtain ⟨pr, hb⟩ := hb; exact hb.lt
  have H1 := Lib.hid hb1; clear hb hb1
  go_wp2_with fail
  refine (newBits_any _ w1).mono ?_
  rintro _ w2 ⟨rfl, ho, hb2⟩
  have H2 : Hid (Below w.heap.size w w2) := Lib.hid (H1.out.trans (hb2.mono (Nat.le_of_lt hlt)))
  clear ho hb2
  go_wp2_with fail
  refine (door_small w1.heap.size w.heap.size s w2 h).mono ?_
  rintro _ w3 ⟨rfl, rfl⟩
  go_wp2
  go_quiet (fail)
  go_wp2
  go_ret2
  exact ⟨rfl, by first | exact H2.out | exact below_drewN H2.out _⟩

theorem Param_big (s m : Nat) (a : Option Addr) (n c : Nat) (f : Nat → Int) (S r : Nat) (w : World) (ha : Arg .u8 w a n f) (hs : Strm f S n) (hmax : n ≤ 140737488351232) (hm : (s - 2) / 2 = m) (h4 : 4 ≤ s) (h39 : s ≤ 39) (hp : m ≤ 8 * n)
    (hr : (2 + s % 2) * 2 ^ m + hand S 0 m = r) (hr2 : r < 1048576) :
    Calls Tryd.prog 16 #[.int .i64 s, .slice a n c] w fun e w' => e = .returned (.tuple #[.int .i64 ((r : Int) + 1), .bool true]) ∧ Below w.heap.size w w' := by
  have H0 := Lib.hid (And.intro ha (And.intro hs (And.intro hm hr))); clear ha hs hm hr
  go_enter Tryd.func16, Tryd.ntmps16
  go_wp2_with fail
  refine (newReader_any a n c w).mono ?_
  rintro _ w1 ⟨rfl, hb, hb1⟩
  have H1 := Lib.hid (And.intro hb hb1); clear hb hb1
  go_wp2_with fail
  refine (newBits_any _ w1).mono ?_
  rintro _ w2 ⟨rfl, ho, hb2⟩
  have H2 := Lib.hid (rdr0 H0.out.1 H0.out.2.1 hmax H1.out.1 H1.out.2 ho hb2)
  clear ho hb2
  go_wp2_with fail
  refine (door_big w1.heap.size w.heap.size a n c f S 0 s m w2 H2.out.1 H0.out.2.2.1 h4 h39 (by omega)).mono ?_
  rw [H0.out.2.2.2]
  rintro _ w3 ⟨rfl, hr3, hon⟩
  have H3 : Hid (Below w.heap.size w w3) := Lib.hid (H2.out.2.1.trans (hon.below (Nat.le_trans (Nat.le_refl _) H2.out.2.1.size) (fun k hk => by have := H2.out.2.2; rcases hk with rfl | rfl <;> omega)))
  clear hr3 hon
  have e : ((r + 1 : Nat) : Int) = (r : Int) + 1 := by omega
  rw [e]
  clear e
  go_wp2
  go_quiet (fail)
  go_wp2
  go_ret2
  exact ⟨rfl, by first | exact H3.out | exact below_drewN H3.out _⟩

/-- A new writer. -/
theorem bwr0 (w : World) : BWr (w.alloc (.cells #[.slice none 0 0, .int .i64 0] 27)) w.heap.size w.heap.size 0 0 :=
  ⟨_, obj_new w 27 [.slice none 0 0, .int .i64 0], World.ownsRow_nil _ _ _ _, Nat.le_refl _, by decide⟩
theorem ofBelow {w w1 w2 : World} {g : Nat} {e : TypeId} (h1 : Below w.heap.size w w1) (ho : Only (Of w1 g e g) w1 w2) (hg : w.heap.size ≤ g) : Below w.heap.size w w2 :=
  h1.trans (ho.below h1.size (fun k hk => by rcases hk with rfl | ⟨h, _⟩ <;> omega))
/-- What is written, as bytes. -/
theorem bwr_bytes {w : World} {B g T q : Nat} (h : BWr w B g T q) : ∃ a c, SObj w g 27 [.slice a (lenB q) c, .int .i64 q] ∧ Own .u8 B w a (lenB q) (bytesF T) ∧ Strm (bytesF T) T (lenB q) ∧ lenB q ≤ c := by
  obtain ⟨v, ho, hown, _, _⟩ := h
  obtain ⟨a, c, rfl, hc, hw⟩ := own_of_cells hown
  exact ⟨a, c, ho, hw, fun _ _ => rfl, hc⟩

set_option maxRecDepth 100000 in
theorem fnParamWritten_walk (w : World) (a0 : Int) (w0 : (Lit.int .i64 a0).wf = true) :
    Calls Tryd.prog 4 #[.int .i64 a0] w fun e w' => e = .returned (.bool true) ∧ Below w.heap.size w w' := by
  obtain ⟨d, hd⟩ : ∃ d : Nat, (d : Int) = a0 % 1048576 := ⟨(a0 % 1048576).toNat, by omega⟩
  have hd2 : d < 1048576 := by omega
  have e : bits .and .i64 a0 1048575 = (d : Int) := by rw [mask20, hd]
  clear hd w0
  by_cases h4 : d < 4
  · go_enter Tryd.func4, Tryd.ntmps4
    go_wp2_with fail
    refine (split_small (d + 1) w (by omega) (by omega)).mono ?_
    have es : (((d + 1 : Nat) : Int)) - 1 = (d : Int) := by omega
    rw [es]
    clear es
    rintro _ w1 ⟨rfl, rfl⟩
    go_wp2_with fail
    refine (put_any w.heap.size w.heap.size 0 0 0 0 _ (bwr0 w) (by omega) (by omega) (by omega)).mono ?_
    rintro _ w2 ⟨rfl, hb, hon⟩
    have H2 := Lib.hid (And.intro (bwr_bytes hb) (ofBelow ((Below.refl _ w).alloc (Nat.le_refl _) _) (hon.mono (fun k hk => by
      rcases hk with h | ⟨h, h2⟩
      · exact Or.inl h
      · exact Or.inr ⟨h, h2⟩)) (Nat.le_refl _)))
    clear hb hon
    obtain ⟨a, c, ho, _, _, _⟩ := H2.out.1
    have HO := Lib.hid ho; clear ho
    go_wp2_with fail
    refine (done_any w.heap.size _ _ w2 HO.out).mono ?_
    rintro _ w3 ⟨rfl, rfl⟩
    go_wp2_with fail
    refine (Param_small d a _ c w2 h4).mono ?_
    rintro _ w3 ⟨rfl, hb3⟩
    have H3 : Hid (Below w.heap.size w w3) := Lib.hid (H2.out.2.trans (hb3.mono H2.out.2.size))
    clear hb3
    go_wp2_with fail
    refine (readSums_any w3).mono ?_
    rintro _ w4 ⟨rfl, rfl⟩
    go_wp2
    go_ret
    exact ⟨rfl, H3.out⟩
  · go_enter Tryd.func4, Tryd.ntmps4
    go_wp2_with fail
    refine (split_big d w (by omega) hd2).mono ?_
    rintro _ w1 ⟨n, n2, n19, dl, du, rfl, hon⟩
    have hn18 : n - 1 ≤ 18 := by omega
    obtain ⟨m, hm⟩ : ∃ m, m = n - 1 := ⟨_, rfl⟩
    obtain ⟨x, hx⟩ : ∃ x, x = d % 2 ^ m := ⟨_, rfl⟩
    obtain ⟨s, hs⟩ : ∃ s, s = symP d n := ⟨_, rfl⟩
    have hx3 : x < 2 ^ m := by rw [hx]; exact Nat.mod_lt d (Nat.pow_pos (a := 2) (n := m) (by decide))
    have hx2 : x < 16777216 := by
      have h2 : (2 : Nat) ^ m ≤ 2 ^ 18 := Nat.pow_le_pow_right (by decide) (by omega)
      omega
    have hmod : s = 2 * n + s % 2 ∧ s % 2 = d / 2 ^ m % 2 := by
      unfold symP at hs
      rw [← hm] at hs
      omega
    have hback := sym_back d n n2 dl du
    rw [← hm, ← hx, ← hmod.2] at hback
    rw [← hm, ← hx, ← hs]
    have hsm : (s - 2) / 2 = m ∧ 4 ≤ s ∧ s ≤ 39 := by omega
    have hm18 : m ≤ 18 := by omega
    have H1 := Lib.hid (And.intro (Only.below hon (Nat.le_refl _) (fun k hk => hk.elim)) (And.intro hsm (And.intro hback hx3)))
    clear hon hm hx hs dl du hsm hback hx3 hmod n2 n19 hn18
    go_wp2_with fail
    refine (put_any w1.heap.size w1.heap.size 0 0 x m _ (bwr0 w1) hx2 (by omega) (by omega)).mono ?_
    rintro _ w2 ⟨rfl, hb, hon⟩
    have hb' : BWr w2 w1.heap.size w1.heap.size x m := by
      have := H1.out.2.2.2
      simpa [Nat.mod_eq_of_lt this] using hb
    have hon' := ofBelow (H1.out.1.alloc H1.out.1.size _) (hon.mono (fun k hk => by
      rcases hk with h | ⟨h, h2⟩
      · exact Or.inl h
      · exact Or.inr ⟨h, h2⟩)) H1.out.1.size
    obtain ⟨a, c, ho, hw, hst, _⟩ := bwr_bytes hb'
    obtain ⟨L, hL⟩ : ∃ L, L = lenB m := ⟨_, rfl⟩
    rw [← hL] at ho hw hst
    have hL1 : m ≤ 8 * L := by rw [hL]; unfold lenB; omega
    have hL2 : L ≤ 100 := by rw [hL]; unfold lenB; omega
    have HO := Lib.hid (And.intro ho (And.intro hw (And.intro hst hon'))); clear ho hw hst hb hb' hon hon' hL
    go_wp2_with fail
    refine (done_any w1.heap.size _ _ w2 HO.out.1).mono ?_
    rintro _ w3 ⟨rfl, rfl⟩
    go_wp2_with fail
    have hh : (2 + s % 2) * 2 ^ m + hand x 0 m = d := by
      have h1 : hand x 0 m = x := by
        unfold hand
        simp [Nat.mod_eq_of_lt H1.out.2.2.2]
      rw [h1]; exact H1.out.2.2.1
    refine (Param_big s m a L c (bytesF x) x d w2 HO.out.2.1.arg HO.out.2.2.1 (by omega) H1.out.2.1.1 H1.out.2.1.2.1 H1.out.2.1.2.2 hL1 hh hd2).mono ?_
    clear hh
    rintro _ w3 ⟨rfl, hb3⟩
    have H3 : Hid (Below w.heap.size w w3) := Lib.hid (HO.out.2.2.2.trans (hb3.mono HO.out.2.2.2.size))
    clear hb3
    go_wp2_with fail
    refine (readSums_any w3).mono ?_
    rintro _ w4 ⟨rfl, rfl⟩
    go_wp2
    go_ret
    exact ⟨rfl, H3.out⟩
end Go.Proofs.YtdmefbpfpmkdcaaDoor
