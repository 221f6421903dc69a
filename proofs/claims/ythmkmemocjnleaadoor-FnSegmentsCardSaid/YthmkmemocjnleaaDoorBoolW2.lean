/- The writer of truths, further: flag, done, newBoolWriter, and the bytes that readBool writes. -/
import Derived.Test.YthmkmemocjnleaaDoorBoolW
import Derived.Deep.LoopGhost
namespace Go.Proofs.YthmkmemocjnleaaDoor
open Go.RowKit
set_option linter.unusedVariables false

/-- One step of shift, on (bytes out, number, missing bits). -/
def stepW (s : List Int × Int × Int) : List Int × Int × Int :=
  if s.2.2 = 1 then (s.1 ++ [s.2.1 * 2 / 16777216], s.2.1 * 2 % 16777216, 8) else (s.1, s.2.1 * 2, s.2.2 - 1)
def stepsW (s : List Int × Int × Int) : Nat → List Int × Int × Int
  | 0 => s
  | n + 1 => stepW (stepsW s n)

theorem shift_any (B g : Nat) (out : List Int) (low size k : Int) (w : World) (hb : BW w B g out low size k) (h0 : 0 ≤ low) (h1 : low < 2147483648) (hl : out.length ≤ 1000) (hk0 : 0 ≤ k) (hk1 : k ≤ 100) :
    Calls Tryd.prog 54 #[.pointer (some ⟨g, 0, none⟩)] w fun e w' => e = .returned (.tuple #[]) ∧ BW w' B g (stepW (out, low, k)).1 (stepW (out, low, k)).2.1 size (stepW (out, low, k)).2.2 ∧ Below B w w' := by
  by_cases hk : k = 1
  · subst hk
    exact shift_out B g out low size w hb h0 h1 hl
  · have e : stepW (out, low, k) = (out, low * 2, k - 1) := by simp [stepW, hk]
    rw [e]
    exact shift_plain B g out low size k w hb h0 h1 hk hk0 hk1

set_option maxRecDepth 100000 in
theorem flag_one (is : Bool) (B g : Nat) (out : List Int) (low size k sp : Int) (w : World) (hb : BW w B g out low size k) (hk : k ≠ 1) (hk0 : 0 ≤ k) (hk1 : k ≤ 100) (hl : out.length ≤ 1000)
    (hsp : sp = 1 + (size - 1) * 128 / 256) (hs0 : 1 ≤ size) (hs1 : size ≤ 255) (h0 : 0 ≤ low) (h1 : low < 1000000)
    (q1 : (if is then size - sp else sp) < 128) (q2 : 64 ≤ (if is then size - sp else sp)) :
    Calls Tryd.prog 30 #[.pointer (some ⟨g, 0, none⟩), .bool is] w fun e w' => e = .returned (.tuple #[]) ∧
      BW w' B g out ((if is then low + sp else low) * 2) ((if is then size - sp else sp) * 2) (k - 1) ∧ Below B w w' := by
  have H := Lib.hid hb
  obtain ⟨v, ho, hown, hne, hB⟩ := hb
  have c1 := ho.cell 1 rfl
  have c2 := ho.cell 2 rfl
  have z1 := ho.free 1
  have z2 := ho.free 2
  clear ho hown hne
  have HS := Lib.hid hsp
  have hsp0 : 1 ≤ sp := by omega
  have hsp1 : sp ≤ 128 := by omega
  have esp : 1 + (size - 1) * 128 / 256 = sp := hsp.symm
  clear hsp
  cases is with
  | true =>
    simp only [if_true] at q1 q2 ⊢
    go_enter Tryd.func30, Tryd.ntmps30
    go_wp2_with (first | (go_at_call 53; go_in))
    go_loopg [] 1 (fun j wr => (j = 1 ∧ Hid (BW wr B g out (low + sp) (size - sp) k ∧ Below B w wr)) ∨ (j = 0 ∧ Hid (BW wr B g out ((low + sp) * 2) ((size - sp) * 2) (k - 1) ∧ Below B w wr)))
    case atStart => exact .inl ⟨rfl, (H.out.setLow _).setSize _, ((Below.refl _ _).setCell (by simpa using hB) _).setCell (by simpa using hB) _⟩
    case round =>
      rcases hrel with ⟨rfl, hR⟩ | ⟨rfl, hR⟩
      · obtain ⟨v2, ho2, _, _, _⟩ := hR.out.1
        have d2 := ho2.cell 2 rfl
        have y2 := ho2.free 2
        clear ho2
        go_wp2_with fail
        refine (shift_plain B g out (low + sp) ((size - sp) * 2) k _ (hR.out.1.setSize _) (by omega) (by omega) hk hk0 hk1).mono ?_
        rintro e w2 ⟨rfl, hb2, hbel⟩
        have HW := Lib.hid (And.intro hb2 hbel); clear hb2 hbel
        go_wp2
        go_roundg 0
        case measure => omega
        case rel => exact .inr ⟨rfl, HW.out.1, (hR.out.2.setCell (by simpa using hB) _).trans HW.out.2⟩
      · obtain ⟨v2, ho2, _, _, _⟩ := hR.out.1
        have d2 := ho2.cell 2 rfl
        clear ho2
        go_wp2
        go_end0
        simp only []
        go_wp2
        go_end0
        exact ⟨rfl, hR.out.1, hR.out.2⟩
  | false =>
    simp only [Bool.false_eq_true, if_false] at q1 q2 ⊢
    go_enter Tryd.func30, Tryd.ntmps30
    go_wp2_with (first | (go_at_call 53; go_in))
    go_loopg [] 1 (fun j wr => (j = 1 ∧ Hid (BW wr B g out (low) (sp) k ∧ Below B w wr)) ∨ (j = 0 ∧ Hid (BW wr B g out ((low) * 2) ((sp) * 2) (k - 1) ∧ Below B w wr)))
    case atStart => exact .inl ⟨rfl, H.out.setSize _, (Below.refl _ _).setCell (by simpa using hB) _⟩
    case round =>
      rcases hrel with ⟨rfl, hR⟩ | ⟨rfl, hR⟩
      · obtain ⟨v2, ho2, _, _, _⟩ := hR.out.1
        have d2 := ho2.cell 2 rfl
        have y2 := ho2.free 2
        clear ho2
        go_wp2_with fail
        refine (shift_plain B g out (low) ((sp) * 2) k _ (hR.out.1.setSize _) (by omega) (by omega) hk hk0 hk1).mono ?_
        rintro e w2 ⟨rfl, hb2, hbel⟩
        have HW := Lib.hid (And.intro hb2 hbel); clear hb2 hbel
        go_wp2
        go_roundg 0
        case measure => omega
        case rel => exact .inr ⟨rfl, HW.out.1, (hR.out.2.setCell (by simpa using hB) _).trans HW.out.2⟩
      · obtain ⟨v2, ho2, _, _, _⟩ := hR.out.1
        have d2 := ho2.cell 2 rfl
        clear ho2
        go_wp2
        go_end0
        simp only []
        go_wp2
        go_end0
        exact ⟨rfl, hR.out.1, hR.out.2⟩

theorem new_any (w : World) :
    Calls Tryd.prog 29 #[] w fun e w' => e = .returned (.pointer (some ⟨w.heap.size, 0, none⟩)) ∧ BW w' w.heap.size w.heap.size [] 0 255 24 ∧ Below w.heap.size w w' := by
  go_enter Tryd.func29, Tryd.ntmps29
  go_wp2
  go_ret
  exact ⟨rfl, ⟨.slice none 0 0, obj_new w 125 [.slice none 0 0, .int .i64 0, .int .i64 255, .int .i64 24], World.ownsRow_nil _ _ _ _, by simp [Value.ownBlock], Nat.le_refl _⟩, (Below.refl _ _).alloc (Nat.le_refl _) _⟩

set_option maxRecDepth 100000 in
set_option maxHeartbeats 400000 in
theorem done_any (B g : Nat) (s : List Int × Int × Int) (size : Int) (w : World) (hb : BW w B g s.1 s.2.1 size s.2.2)
    (hs : ∀ i, i < 33 → 0 ≤ (stepsW s i).2.1 ∧ (stepsW s i).2.1 < 2147483648 ∧ (stepsW s i).1.length ≤ 1000 ∧ 0 ≤ (stepsW s i).2.2 ∧ (stepsW s i).2.2 ≤ 100) :
    Calls Tryd.prog 31 #[.pointer (some ⟨g, 0, none⟩)] w fun e w' =>
      (∃ a c, e = .returned (.slice a ((stepsW s 32).1.length + 4) c) ∧ Own .u8 B w' a ((stepsW s 32).1.length + 4) (fun i => ((stepsW s 32).1 ++ [0, 0, 0, 0]).getD i 0)) ∧ Below B w w' := by
  obtain ⟨i0, hi, hz0, hz1, hz2⟩ := info_parts infoByte
  have H := Lib.hid hb; clear hb
  have HS := Lib.hid hs; clear hs
  generalize hO : (stepsW s 32).1 = out
  have HO := Lib.hid hO; clear hO
  go_enter Tryd.func31, Tryd.ntmps31
  go_wp2
  go_loopw [3] (fun i wr => ∃ p : Nat, p ≤ 32 ∧ i = .int .i64 p ∧ Hid (BW wr B g (stepsW s p).1 (stepsW s p).2.1 size (stepsW s p).2.2 ∧ Below B w wr)) (fun i _ => 32 - (intOf i).toNat)
  case atStart => exact ⟨0, by omega, rfl, H.out, Below.refl _ _⟩
  case round =>
    obtain ⟨p, hp, rfl, hR⟩ := hrel
    by_cases hlt : p < 32
    · go_wp2_with fail
      obtain ⟨q1, q2, q3, q4, q5⟩ := HS.out p (by omega)
      refine (shift_any B g _ _ size _ _ hR.out.1 q1 q2 q3 q4 q5).mono ?_
      rintro e w2 ⟨rfl, hb2, hbel⟩
      have HW := Lib.hid (And.intro hb2 hbel); clear hb2 hbel q1 q2 q3 q4 q5
      go_wp2
      go_roundw
      case rel => exact ⟨p + 1, by omega, by go_num, HW.out.1, hR.out.2.trans HW.out.2⟩
      case measure => simp [intOf]; omega
    · obtain rfl : p = 32 := by omega
      obtain ⟨v, ho, hown, hne, hB⟩ := hR.out.1
      have c0 := ho.cell 0 rfl
      have glt := ho.lt
      obtain ⟨q1, q2, q3, q4, q5⟩ := HS.out 32 (by omega)
      clear ho q1 q2 q4 q5
      rw [HO.out] at hown q3
      go_wp2_with (at_builtin; refine wpList_append_own _ rfl _ _ 22 rfl B 5 i0 (.int .u8 0) 1 1 Tryd.underlying22 hi hz0 hz1 hz2 rfl (by decide) v out.length (out.map (Value.int .u8)) rfl (hown.alloc _) ⟨wr.heap.size, 0, none⟩ 4 4 [.int .u8 0, .int .u8 0, .int .u8 0, .int .u8 0] rfl rfl (World.news_of_block (cs := #[.int .u8 0, .int .u8 0, .int .u8 0, .int .u8 0]) (t := 5) (fr := (0, 0)) (heap_alloc_new wr _)) (by simp [Value.oneCell']) (by unfold maxLen; omega) (by omega) (by simp; omega) ?_)
      intro v' w1 hown1 hgrow _
      obtain ⟨a, c, rfl, hl, ho⟩ := own_of_ownsRow (k := .u8) (l := out ++ [0, 0, 0, 0]) (by simpa using hown1)
      have HX := Lib.hid (And.intro ho (((hR.out.2.alloc (by omega) (.cells #[.int .u8 0, .int .u8 0, .int .u8 0, .int .u8 0] 5)).grown hgrow (by simp; omega) (fun k hk => (hown.lt k hk).1))))
      clear hown hown1 hgrow ho hl
      go_wp2
      go_ret
      exact ⟨⟨a, c, rfl, HX.out.1⟩, HX.out.2⟩
end Go.Proofs.YthmkmemocjnleaaDoor
