/- readBit in one word, and the doors round it. -/
import Derived.Test.YthmkmemocjnleaaDoorBoolP
import Derived.Test.YthmkmemocjnleaaDoorBoolL
namespace Go.Proofs.YthmkmemocjnleaaDoor
open Go.RowKit
set_option linter.unusedVariables false

def PTd (w : World) (g : Nat) (ao : Option Addr) (n c : Nat) (d : DS) : Prop := PT w g ao n c d.r d.m d.b d.nb d.eof

/-- What a call of the decoder needs: the tables, the bytes, the decoder's own block, what holds of it. -/
structure Rd (w : World) (g : Nat) (ao : Option Addr) (n c : Nat) (zs : List Int) (d : DS) : Prop where
  tabs : Tabs w
  two : 2 ≤ g
  obj : PTd w g ao n c d
  len : zs.length = n
  row : Arg .u8 w ao n (fun i => zs.getD i 0)
  far : 0 < n → ∀ a, ao = some a → a.block ≠ g
  ok : OKP zs d
  bytes : Bytes zs
  first : zs.getD 0 0 ≠ 255
  max : n ≤ 9223372036854775807

theorem goP_calls (g : Nat) (ao : Option Addr) (n c r : Nat) (m b nb prob : Int) (eof : Bool) (w : World) (ht : Tabs w) (hg : 2 ≤ g) (hp : PT w g ao n c r m b nb eof)
    (hm0 : 127 ≤ m) (hm : m ≤ 254) (hp0 : 0 ≤ prob) (hp1 : prob ≤ 255) (hb0 : 0 ≤ b) (hbm : b < (m + 1) * 256) (hn : 8 ≤ nb) (hn1 : nb ≤ 15) :
    Calls Tryd.prog 56 #[.pointer (some ⟨g, 0, none⟩), .int .u8 prob] w fun e w' => e = .returned (.bool (goP r m b nb prob eof).1) ∧ PTd w' g ao n c (goP r m b nb prob eof).2 ∧ w.grownBy w' (some g) := by
  obtain ⟨s0, s1, s2⟩ := sp_bounds m prob (by omega) hm hp0 hp1
  unfold goP
  obtain ⟨sp, hsp⟩ : ∃ sp, sp = m * prob / 256 + 1 := ⟨_, rfl⟩
  rw [← hsp] at s0 s1 s2 ⊢
  by_cases h : sp * 256 ≤ b
  · rw [if_pos h]
    by_cases h2 : m - sp < 127
    · exact readBit_1r g ao n c r m b nb prob eof w ht hg hp (by omega) hm hp0 hp1 hb0 (by omega) hbm hn hn1 sp hsp h h2
    · exact readBit_1n g ao n c r m b nb prob eof w ht hg hp (by omega) hm hp0 hp1 hb0 (by omega) hbm hn hn1 sp hsp h h2
  · rw [if_neg h]
    by_cases h2 : sp - 1 < 127
    · exact readBit_0r g ao n c r m b nb prob eof w ht hg hp (by omega) hm hp0 hp1 hb0 (by omega) hbm hn hn1 sp hsp (by omega) h2
    · exact readBit_0n g ao n c r m b nb prob eof w ht hg hp (by omega) hm hp0 hp1 hb0 (by omega) hbm hn hn1 sp hsp (by omega) h2

theorem readBit_any (g : Nat) (ao : Option Addr) (n c : Nat) (zs : List Int) (d : DS) (prob : Int) (w : World) (h : Rd w g ao n c zs d) (hp0 : 0 ≤ prob) (hp1 : prob ≤ 255) :
    Calls Tryd.prog 56 #[.pointer (some ⟨g, 0, none⟩), .int .u8 prob] w fun e w' => e = .returned (.bool (stepP zs d prob).1) ∧ PTd w' g ao n c (stepP zs d prob).2 ∧ w.grownBy w' (some g) := by
  have hok := h.ok
  obtain ⟨o1, o2, o3, o4, o5, o6, o7, o8⟩ := hok
  have hl := h.len
  unfold stepP
  by_cases h8 : d.nb < 8
  · rw [if_pos h8]
    by_cases hr : zs.length ≤ d.r
    · rw [if_pos hr]
      exact readBit_eof g ao n c d.r d.m d.b d.nb prob d.eof w h.obj h8 (by omega) (by have := h.max; omega)
    · rw [if_neg hr]
      obtain ⟨a1, a2, a3, a4, a5⟩ := load_ok zs d h.ok h.bytes h.first h8
      have hx := h.bytes d.r
      obtain ⟨gb, ob, hao, hlt, hrow⟩ := h.row (by omega)
      have hcell := hrow d.r (by omega)
      have hor := load_or d.b (zs.getD d.r 0) d.nb hx.1 hx.2 a1 a2 o4 h8 o7
      obtain ⟨b1, hb1⟩ : ∃ b1, b1 = d.b + zs.getD d.r 0 * 2 ^ (8 - d.nb).toNat := ⟨_, rfl⟩
      rw [← hb1] at a3 a4 a5 hor ⊢
      have hpow : (0 : Int) < 2 ^ (16 - (d.nb + 8)).toNat := Int.pow_pos (by omega)
      have := readBit_load g ao n c d.r d.m d.b d.nb prob (zs.getD d.r 0) d.eof w h.tabs h.two h.obj gb ob hao hcell (h.far (by omega) _ hao) hx.1 hx.2 (by omega) o2 hp0 hp1 a1 a2 o4 h8 (by omega) h.max b1 hor a3 (by omega) (by omega) (d.m * prob / 256 + 1) rfl _ rfl _ _ rfl rfl
      unfold goP
      by_cases hbit : (d.m * prob / 256 + 1) * 256 ≤ b1
      · rw [if_pos hbit]
        rw [decide_eq_true hbit] at this
        exact this
      · rw [if_neg hbit]
        rw [decide_eq_false hbit] at this
        exact this
  · rw [if_neg h8]
    have hpow : (0 : Int) < 2 ^ (16 - d.nb).toNat := Int.pow_pos (by omega)
    exact goP_calls g ao n c d.r d.m d.b d.nb prob d.eof w h.tabs h.two h.obj o1 o2 hp0 hp1 o3 (by omega) (by omega) o5

theorem PTd.lt {w : World} {g : Nat} {ao : Option Addr} {n c : Nat} {d : DS} (h : PTd w g ao n c d) : g < w.heap.size := SObj.lt h

/-- The need behind a call. -/
theorem Rd.step {w w' : World} {g : Nat} {ao : Option Addr} {n c : Nat} {zs : List Int} {d d' : DS} (h : Rd w g ao n c zs d) (hg : w.grownBy w' (some g)) (ho : PTd w' g ao n c d') (hok : OKP zs d') : Rd w' g ao n c zs d' where
  tabs := fun i hi => by
    have h0 := h.obj.lt
    have h2 := h.two
    have k : ∀ b, b < 2 → w'.heap[b]? = w.heap[b]? := fun b hb => hg.block b (by omega) (by intro e; injection e with e; omega)
    exact ⟨by rw [World.cell?_of_block (w := w) (k _ (Nat.lt_of_le_of_lt (Nat.le_refl _) (by decide +revert)))]; exact (h.tabs i hi).1, by rw [World.cell?_of_block (w := w) (k _ (Nat.lt_of_le_of_lt (Nat.le_refl _) (by decide +revert)))]; exact (h.tabs i hi).2⟩
  two := h.two
  obj := ho
  len := h.len
  row := fun hn => h.row.grown hg (fun r hr p hp => by injection hr with hr; subst hr; exact h.far hn p hp) hn
  far := h.far
  ok := hok
  bytes := h.bytes
  first := h.first
  max := h.max

/-- .. and what other work does, that leaves the decoder's block alone. -/
theorem Rd.below {w w' : World} {g : Nat} {ao : Option Addr} {n c : Nat} {zs : List Int} {d : DS} (h : Rd w g ao n c zs d) (hb : Below w.heap.size w w') : Rd w' g ao n c zs d where
  tabs := fun i hi => by
    have h0 := h.obj.lt
    have h2 := h.two
    have k : ∀ b, b < 2 → b < w.heap.size := fun b hb => by omega
    exact ⟨by rw [hb.cell (k _ (Nat.lt_of_le_of_lt (Nat.le_refl _) (by decide +revert)))]; exact (h.tabs i hi).1, by rw [hb.cell (k _ (Nat.lt_of_le_of_lt (Nat.le_refl _) (by decide +revert)))]; exact (h.tabs i hi).2⟩
  two := h.two
  obj := SObj.below h.obj hb h.obj.lt
  len := h.len
  row := h.row.below hb
  far := h.far
  ok := h.ok
  bytes := h.bytes
  first := h.first
  max := h.max

/-- .. and growth at another row. -/
theorem Rd.grown {w w' : World} {g : Nat} {ao : Option Addr} {n c : Nat} {zs : List Int} {d : DS} {row : Option Nat} (h : Rd w g ao n c zs d) (hg : w.grownBy w' row) (B : Nat) (hB : 2 ≤ B) (hr : ∀ k, row = some k → B ≤ k ∧ k ≠ g) (ha : 0 < n → ∀ a, ao = some a → a.block < B) : Rd w' g ao n c zs d where
  tabs := fun i hi => by
    have h0 := h.obj.lt
    have h2 := h.two
    have k : ∀ b, b < 2 → w'.heap[b]? = w.heap[b]? := fun b hb => hg.block b (by omega) (by intro e; have := hr b e.symm; omega)
    exact ⟨by rw [World.cell?_of_block (w := w) (k _ (Nat.lt_of_le_of_lt (Nat.le_refl _) (by decide +revert)))]; exact (h.tabs i hi).1, by rw [World.cell?_of_block (w := w) (k _ (Nat.lt_of_le_of_lt (Nat.le_refl _) (by decide +revert)))]; exact (h.tabs i hi).2⟩
  two := h.two
  obj := SObj.grown h.obj hg (fun e => (hr g e.symm).2 rfl)
  len := h.len
  row := fun hn => h.row.grown hg (fun r hr' p hp => by have := hr r hr'; have := ha hn p hp; omega) hn
  far := h.far
  ok := h.ok
  bytes := h.bytes
  first := h.first
  max := h.max

theorem DoorBit_any (g : Nat) (ao : Option Addr) (n c : Nat) (zs : List Int) (d : DS) (prob : Int) (w : World) (h : Rd w g ao n c zs d) (hp0 : 0 ≤ prob) (hp1 : prob ≤ 255) :
    Calls Tryd.prog 33 #[.pointer (some ⟨g, 0, none⟩), .int .u8 prob] w fun e w' => e = .returned (.bool (stepP zs d prob).1) ∧ Rd w' g ao n c zs (stepP zs d prob).2 ∧ w.grownBy w' (some g) := by
  have H := Lib.hid h
  go_enter Tryd.func33, Tryd.ntmps33
  clear h
  go_wp2_with fail
  refine (readBit_any g ao n c zs d prob w H.out hp0 hp1).mono ?_
  rintro _ w' ⟨rfl, h1, h2⟩
  have H2 := Lib.hid (And.intro h1 h2); clear h1 h2
  go_wp2
  go_ret
  exact ⟨rfl, H.out.step H2.out.2 H2.out.1 (stepP_ok zs d H.out.ok H.out.bytes H.out.first prob hp0 hp1), H2.out.2⟩

theorem DoorEnded_any (g : Nat) (ao : Option Addr) (n c : Nat) (d : DS) (w : World) (h : PTd w g ao n c d) :
    Calls Tryd.prog 34 #[.pointer (some ⟨g, 0, none⟩)] w fun e w' => e = .returned (.bool d.eof) ∧ w' = w := by
  have c5 := SObj.cell h 5 (v := .bool d.eof) rfl
  clear h
  go_enter Tryd.func34, Tryd.ntmps34
  go_wp2
  go_ret
  exact ⟨rfl, rfl⟩

/-- impl.bools: a decoder in a new block. -/
theorem bools_new (ao : Option Addr) (n c : Nat) (w : World) :
    Calls Tryd.prog 32 #[.slice ao n c] w fun e w' => e = .returned (.pointer (some ⟨w.heap.size, 0, none⟩)) ∧ PTd w' w.heap.size ao n c ds0 ∧ Below w.heap.size w w' := by
  go_enter Tryd.func32, Tryd.ntmps32
  go_wp2_with (first | (go_at_call 55; go_in))
  go_wp2_with (first | (go_at_call 62; go_in))
  go_end0
  simp only []
  go_wp2
  go_end0
  simp only []
  go_wp2
  go_ret
  exact ⟨rfl, obj_new w 128 [.slice ao n c, .int .i64 0, .int .u32 254, .int .u32 0, .int .u8 0, .bool false], (Below.refl _ _).alloc (Nat.le_refl _) _⟩
end Go.Proofs.YthmkmemocjnleaaDoor
