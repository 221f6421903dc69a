/- The reference's lengths. -/
import Derived.Test.YtdmefbpfpmkdcaaDoorSOrd
import Derived.Deep.RegionHeld3
import Derived.Deep.CutBlock
namespace Go.Proofs.YtdmefbpfpmkdcaaDoor
open Go.RowKit
set_option linter.unusedVariables false

/-- Row of own lengths, order and reader. -/
structure OwnR (w wr : World) (g go gq : Nat) (a : Option Addr) (nb cb : Nat) (f : Nat → Int) (S p : Nat) (sh op : Bool) (o : Nat → Nat) : Prop where
  own : SObj wr go 3 (cellsOf .i64 19 (fun k => (o k : Int)))
  ord : SObj wr gq 108 tab19.toList
  bits : SB wr g a nb cb f S p sh op
  only : Only (New1 g w) w wr
  hgo : w.heap.size ≤ go
  hgq : w.heap.size ≤ gq
  ne : go ≠ gq
  glt : g < w.heap.size
theorem OwnR.read {w wr w2 : World} {g go gq : Nat} {a : Option Addr} {nb cb : Nat} {f : Nat → Int} {S p p' : Nat} {sh op sh' op' : Bool} {o : Nat → Nat} (h : OwnR w wr g go gq a nb cb f S p sh op o) (ho : Only (fun k => k = g) wr w2) (hs : SB w2 g a nb cb f S p' sh' op') : OwnR w w2 g go gq a nb cb f S p' sh' op' o :=
  ⟨h.own.only ho (by have := h.hgo; have := h.glt; omega), h.ord.only ho (by have := h.hgq; have := h.glt; omega), hs, h.only.tr (ho.mono (fun _ e => .inl e)), h.hgo, h.hgq, h.ne, h.glt⟩
theorem OwnR.set {w wr : World} {g go gq : Nat} {a : Option Addr} {nb cb : Nat} {f : Nat → Int} {S p : Nat} {sh op : Bool} {o : Nat → Nat} (h : OwnR w wr g go gq a nb cb f S p sh op o) (j v : Nat) (ha : ∀ x, 0 < nb → a = some x → x.block < w.heap.size) : OwnR w (wr.setCell ⟨go, j, none⟩ (.int .i64 (v : Int))) g go gq a nb cb f S p sh op (fun k => if k = j then v else o k) := by
  have ho : Only (fun k => k = go) wr (wr.setCell ⟨go, j, none⟩ (.int .i64 (v : Int))) := Only.setCell _ _ _ rfl
  refine ⟨?_, h.ord.only ho (fun e => h.ne e.symm), h.bits.only ho (by have := h.hgo; have := h.glt; omega) (fun h0 x hx e => by have := ha x h0 hx; have := h.hgo; omega), h.only.tr (ho.mono (fun k e => .inr (by have := h.hgo; omega))), h.hgo, h.hgq, h.ne, h.glt⟩
  have h5 := h.own.set j (.int .i64 (v : Int))
  rw [icells_set, icells_congr (f' := fun k => ((if k = j then v else o k : Nat) : Int)) (fun k _ => by split <;> rfl)] at h5
  exact h5
theorem OwnR.congr {w wr : World} {g go gq : Nat} {a : Option Addr} {nb cb : Nat} {f : Nat → Int} {S p : Nat} {sh op : Bool} {o o' : Nat → Nat} (h : OwnR w wr g go gq a nb cb f S p sh op o) (e : ∀ k, k < 19 → o k = o' k) : OwnR w wr g go gq a nb cb f S p sh op o' :=
  ⟨by rw [← icells_congr (f := fun k => (o k : Int)) (f' := fun k => (o' k : Int)) (fun k hk => by rw [e k hk])]; exact h.own, h.ord, h.bits, h.only, h.hgo, h.hgq, h.ne, h.glt⟩
theorem OwnR.ocell {w wr : World} {g go gq : Nat} {a : Option Addr} {nb cb : Nat} {f : Nat → Int} {S p : Nat} {sh op : Bool} {o : Nat → Nat} (h : OwnR w wr g go gq a nb cb f S p sh op o) (i : Nat) (hi : i < 19) : wr.cell? ⟨gq, i, none⟩ = some (.int .i64 (ordP i : Int)) :=
  h.ord.cell i (by simp [tab19, cellsOf, hi])
theorem OwnR.wcell {w wr : World} {g go gq : Nat} {a : Option Addr} {nb cb : Nat} {f : Nat → Int} {S p : Nat} {sh op : Bool} {o : Nat → Nat} (h : OwnR w wr g go gq a nb cb f S p sh op o) (i : Nat) (hi : i < 19) : wr.cell? ⟨go, i, none⟩ = some (.int .i64 (o i : Int)) :=
  h.own.cell i (by simp [cellsOf, hi])
theorem nx3_next (N p i : Nat) : nx N (nx3 N p i) 3 = nx3 N p (i + 1) := by
  unfold nx nx3
  by_cases h : p + 3 * i ≤ 8 * N
  · rw [if_pos h]
    by_cases h2 : p + 3 * i + 3 ≤ 8 * N
    · rw [if_pos h2, if_pos (by omega), Nat.mul_add, Nat.add_assoc]
    · rw [if_neg h2, if_neg (by omega)]
  · rw [if_neg h, if_neg (by omega), if_neg (by omega)]
theorem nx3_end (N p i : Nat) : (decide (8 * N < p + 3 * i) || decide (8 * N < nx3 N p i + 3)) = decide (8 * N < p + 3 * (i + 1)) := by
  unfold nx3
  by_cases h : p + 3 * i ≤ 8 * N
  · rw [if_pos h, decide_eq_false (by omega), Bool.false_or]
    exact decide_eq_decide.2 (by omega)
  · rw [decide_eq_true (by omega), Bool.true_or, decide_eq_true (by omega)]

/-- A code in a new block of its own. -/
theorem cd_there (w : World) (cs : Array Value) (hsz : cs.size = 17) : World.there (w.alloc (.cells (cdCells (fun _ => 0) (.slice none 0 0)).toArray 86)) w.heap.size 0 cs.size :=
  there_of_obj (obj_new w 86 (cdCells (fun _ => 0) (.slice none 0 0))) (by rw [hsz, cdCells_len]; exact Nat.le_refl _)
theorem cd_put (w : World) (cs : Array Value) (hsz : cs.size = 17) :
    SObj (World.setCells (w.alloc (.cells (cdCells (fun _ => 0) (.slice none 0 0)).toArray 86)) w.heap.size 0 cs.toList) w.heap.size 86 cs.toList ∧
    Only (fun _ => False) w (World.setCells (w.alloc (.cells (cdCells (fun _ => 0) (.slice none 0 0)).toArray 86)) w.heap.size 0 cs.toList) := by
  refine ⟨SObj.putAll cs.toList (cdCells (fun _ => 0) (.slice none 0 0)) [] 0 _ (obj_new w 86 (cdCells (fun _ => 0) (.slice none 0 0))) (by rw [cdCells_len]; simp [hsz]) rfl, ?_⟩
  have h5 : Only (fun k => k = w.heap.size) w (World.setCells (w.alloc (.cells (cdCells (fun _ => 0) (.slice none 0 0)).toArray 86)) w.heap.size 0 cs.toList) := (Only.alloc _ _ _).tr (Only.setCells (S := fun k => k = w.heap.size) rfl _ _ _)
  exact ⟨h5.os, h5.tape, h5.output, h5.size, fun k hk _ => h5.block k hk (by omega)⟩

theorem own_of_obj {w : World} {B g n : Nat} {f : Nat → Int} (h : SObj w g 3 (cellsOf .i64 n f)) (hB : B ≤ g) : Own .i64 B w (some ⟨g, 0, none⟩) n f := fun h0 =>
  ⟨g, rfl, hB, h.lt, fun i hi => by rw [Nat.zero_add]; exact h.cell i (by simp [cellsOf, hi]), fun i hi => by rw [Nat.zero_add]; exact h.free i⟩

/-- What lengths comes to. -/
def LRes (S nb size p : Nat) (w w' : World) (g : Nat) (a : Option Addr) (cb : Nat) (f : Nat → Int) (e : Ending) : Prop :=
  ∃ (v : Value) (ok : Bool) (p' : Nat) (sh' op' : Bool), e = .returned (.tuple #[v, .bool ok]) ∧ SB w' g a nb cb f S p' sh' op' ∧
    ((op' = true ∧ normL S nb size p = .opened ∧ (ok = true → ∃ (a' : Option Addr) (c' : Nat) (o : Nat → Nat), v = .slice a' size c' ∧ Own .i64 w.heap.size w' a' size (fun k => (o k : Int)) ∧ ∀ k, k < size → o k ≤ 15)) ∨
     (op' = false ∧ sh' = true ∧ ok = false ∧ normL S nb size p = .short) ∨
     (op' = false ∧ sh' = false ∧ ok = true ∧ ∃ (a' : Option Addr) (c' : Nat) (o : Nat → Nat), v = .slice a' size c' ∧ Own .i64 w.heap.size w' a' size (fun k => (o k : Int)) ∧ (∀ k, k < size → o k ≤ 15) ∧ normL S nb size p = .got o p'))

theorem extB_le (s : Nat) : extB s ≤ 7 := by unfold extB; split <;> (try split) <;> omega
theorem extO_le (s : Nat) : 3 ≤ extO s ∧ extO s ≤ 11 := by unfold extO; split <;> (try split) <;> omega

/-- The state of the loop over lengths. -/
structure LoopR (w wr : World) (g g11 g13 : Nat) (cs : Array Value) (sa : Option Addr) (sc M : Nat) (C : List (Nat × Nat)) (a : Option Addr) (nb cb : Nat) (f : Nat → Int) (S p : Nat) (sh op : Bool) (size : Nat) (o : Nat → Nat) : Prop where
  out : SObj wr g13 3 (cellsOf .i64 size (fun k => (o k : Int)))
  cod : wr.heap[g11]? = some (.cells cs 86 (0, 0))
  ok : CodeOK C wr cs sa sc M
  bits : SB wr g a nb cb f S p sh op
  only : Only (New1 g w) w wr
  h11 : w.heap.size ≤ g11
  h13 : w.heap.size ≤ g13
  ne : g11 ≠ g13
  hsa : 0 < M → ∀ x, sa = some x → w.heap.size ≤ x.block ∧ x.block ≠ g13
  glt : g < w.heap.size
theorem LoopR.read {w wr w2 : World} {g g11 g13 : Nat} {cs : Array Value} {sa : Option Addr} {sc M : Nat} {C : List (Nat × Nat)} {a : Option Addr} {nb cb : Nat} {f : Nat → Int} {S p p' : Nat} {sh op sh' op' : Bool} {size : Nat} {o : Nat → Nat}
    (h : LoopR w wr g g11 g13 cs sa sc M C a nb cb f S p sh op size o) (ho : Only (fun k => k = g) wr w2) (hs : SB w2 g a nb cb f S p' sh' op') : LoopR w w2 g g11 g13 cs sa sc M C a nb cb f S p' sh' op' size o :=
  ⟨h.out.only ho (by have := h.h13; have := h.glt; omega), (ho.block g11 (Array.getElem?_eq_some_iff.1 h.cod).1 (by have := h.h11; have := h.glt; omega)).trans h.cod, h.ok.only ho (fun h0 x hx e => by have := (h.hsa h0 x hx).1; have := h.glt; omega), hs, h.only.tr (ho.mono (fun _ e => .inl e)), h.h11, h.h13, h.ne, h.hsa, h.glt⟩
theorem LoopR.set {w wr : World} {g g11 g13 : Nat} {cs : Array Value} {sa : Option Addr} {sc M : Nat} {C : List (Nat × Nat)} {a : Option Addr} {nb cb : Nat} {f : Nat → Int} {S p : Nat} {sh op : Bool} {size : Nat} {o : Nat → Nat}
    (h : LoopR w wr g g11 g13 cs sa sc M C a nb cb f S p sh op size o) (j v : Nat) (ha : ∀ x, 0 < nb → a = some x → x.block < w.heap.size) : LoopR w (wr.setCell ⟨g13, j, none⟩ (.int .i64 (v : Int))) g g11 g13 cs sa sc M C a nb cb f S p sh op size (updN o j v) := by
  have ho : Only (fun k => k = g13) wr (wr.setCell ⟨g13, j, none⟩ (.int .i64 (v : Int))) := Only.setCell _ _ _ rfl
  refine ⟨?_, (ho.block g11 (Array.getElem?_eq_some_iff.1 h.cod).1 h.ne).trans h.cod, h.ok.only ho (fun h0 x hx e => (h.hsa h0 x hx).2 e), h.bits.only ho (by have := h.h13; have := h.glt; omega) (fun h0 x hx e => by have := ha x h0 hx; have := h.h13; omega), h.only.tr (ho.mono (fun k e => .inr (by have := h.h13; omega))), h.h11, h.h13, h.ne, h.hsa, h.glt⟩
  have h5 := h.out.set j (.int .i64 (v : Int))
  rw [icells_set, icells_congr (f' := fun k => ((updN o j v k : Nat) : Int)) (fun k _ => by unfold updN; split <;> rfl)] at h5
  exact h5
theorem LoopR.congr {w wr : World} {g g11 g13 : Nat} {cs : Array Value} {sa : Option Addr} {sc M : Nat} {C : List (Nat × Nat)} {a : Option Addr} {nb cb : Nat} {f : Nat → Int} {S p : Nat} {sh op : Bool} {size : Nat} {o : Nat → Nat}
    (h : LoopR w wr g g11 g13 cs sa sc M C a nb cb f S p sh op size o) (o' : Nat → Nat) (e : ∀ k, o k = o' k) : LoopR w wr g g11 g13 cs sa sc M C a nb cb f S p sh op size o' := by
  obtain rfl : o = o' := funext e
  exact h

/-- What the loop comes to from here. -/
def Flow (C : List (Nat × Nat)) (S nb size M : Nat) (tot : Lens) (m p i last : Nat) (o : Nat → Nat) (sh : Bool) : Prop :=
  (sh = true → p = 8 * nb ∧ M ≠ 1 ∧ tot = .short) ∧ (sh = false → tot = lensF C S nb size m p i last o)

/-- One symbol more. -/
theorem lsym_any (w wr : World) (g g11 g13 : Nat) (cs : Array Value) (sa : Option Addr) (sc M : Nat) (C : List (Nat × Nat)) (I : List Nat) (a : Option Addr) (nb cb : Nat) (f : Nat → Int) (S p : Nat) (sh op : Bool) (size : Nat) (o : Nat → Nat) (tot : Lens) (m i last : Nat)
    (h : LoopR w wr g g11 g13 cs sa sc M C a nb cb f S p sh op size o) (hf : Flow C S nb size M tot (m + 1) p i last o sh) (hC : Code C I) (h19 : ∀ u s, (u, s) ∈ C → s < 19) (hi : i < size) :
    ∃ s p' sh', s < 19 ∧ (s < 16 → Flow C S nb size M tot m p' (i + 1) (if 0 < s then s else last) (updN o i s) sh') ∧
      (16 ≤ s → sh' = false ∧ tot = if size - i < extO s + rdv S nb p' (extB s) then .opened else if 8 * nb < p' + extB s then .short
        else lensF C S nb size m (p' + extB s) (i + (extO s + rdv S nb p' (extB s))) last (filN o i (extO s + rdv S nb p' (extB s)) (if s = 16 then last else 0))) ∧
      Calls Tryd.prog 59 #[.pointer (some ⟨g, 0, none⟩), .agg cs] wr fun e w' => e = .returned (.int .i64 s) ∧ LoopR w w' g g11 g13 cs sa sc M C a nb cb f S p' sh' op size o := by
  cases sh with
  | true =>
    obtain ⟨rfl, h1, h2⟩ := hf.1 rfl
    refine ⟨0, 8 * nb, true, by decide, fun _ => ⟨fun _ => ⟨rfl, h1, h2⟩, fun h => by cases h⟩, fun h => absurd h (by decide), ?_⟩
    refine (ssym_short C g a nb cb f S op cs sa sc M wr h.bits h.ok h1).mono ?_
    rintro _ w2 ⟨rfl, hs, ho⟩
    exact ⟨rfl, h.read ho hs⟩
  | false =>
    have ht := hf.2 rfl
    obtain ⟨k, s, htl⟩ := hC.tells (S / 2 ^ p)
    rw [lensF_step hC S nb size m p i last k s o hi htl] at ht
    have hcl := ssym_c C g a nb cb f S p op cs sa sc M k s wr h.bits h.ok (fun h0 x hx => by have := (h.hsa h0 x hx).1; have := h.glt; omega) htl
    by_cases hk : 8 * nb < p + k
    · rw [if_pos hk] at ht
      have hM1 : M ≠ 1 := by
        rcases h.ok with ⟨c, n, e1, e2, e3, e4, e5⟩ | ⟨s1, h1, e1, e2, e3⟩
        · exact e4
        · exfalso
          subst e1
          unfold Tells at htl
          rw [List.mem_singleton] at htl
          injection htl with e5 e6
          have hk0 : k = 0 := by
            rcases Nat.eq_zero_or_pos k with hz | hz
            · exact hz
            · have := pth_low (S / 2 ^ p) k
              have h5 : (2 : Nat) ^ 1 ≤ 2 ^ k := Nat.pow_le_pow_right (by decide) hz
              omega
          have := h.bits.le
          omega
      refine ⟨0, 8 * nb, true, by decide, fun _ => ⟨fun _ => ⟨rfl, hM1, ht⟩, fun h => by cases h⟩, fun h => absurd h (by decide), hcl.mono ?_⟩
      rintro e w2 ⟨⟨h1, rfl, h3⟩ | ⟨h1, rfl, h3⟩, ho⟩
      · omega
      · exact ⟨rfl, h.read ho h3⟩
    · rw [if_neg hk] at ht
      refine ⟨s, p + k, false, h19 _ s htl, fun hs => ⟨fun h => (by cases h), fun _ => (by rw [if_pos hs] at ht; exact ht)⟩, fun hs => ⟨rfl, by rw [if_neg (by omega)] at ht; exact ht⟩, hcl.mono ?_⟩
      rintro e w2 ⟨⟨h1, rfl, h3⟩ | ⟨h1, rfl, h3⟩, ho⟩
      · exact ⟨rfl, h.read ho h3⟩
      · omega

theorem normL_of {S nb size p v4 nn p1 p2 u p3 x3 e p4 x4 most p5 : Nat} {own : Nat → Nat} {sh sh1 sh2 sh3 sh5 : Bool} (hsh : sh = true → p = 8 * nb) (h1 : p1 = nx nb p 4 ∧ v4 = rdv S nb p 4) (hs1 : sh1 = (sh || decide (8 * nb < p + 4))) (hn : nn = 4 + v4)
    (h2 : own = ownF S nb p1 nn ∧ p2 = nx3 nb p1 nn ∧ sh2 = (sh1 || decide (8 * nb < p1 + 3 * nn))) (h3 : u = rdv S nb p2 1 ∧ p3 = nx nb p2 1 ∧ sh3 = (sh2 || decide (8 * nb < p2 + 1)))
    (h5 : x3 = rdv S nb p3 3 ∧ e = 2 + 2 * x3 ∧ p4 = nx nb p3 3 ∧ x4 = rdv S nb p4 e ∧ (most = if u = 1 then 2 + x4 else size) ∧ (p5 = if u = 1 then nx nb p4 e else p3) ∧ sh5 = if u = 1 then sh3 || decide (8 * nb < p3 + 3) || decide (8 * nb < p4 + e) else sh3) :
    normL S nb size p = if wholeB own 19 = false ∨ size < most then .opened else if sh5 = true then .short else lensF (codesL own 19 19) S nb size most p5 0 8 (fun _ => 0) := by
  obtain ⟨a1, a2⟩ := h1
  obtain ⟨b1, b2, b3⟩ := h2
  obtain ⟨c1, c2, c3⟩ := h3
  obtain ⟨d1, d2, d3, d4, d5, d6, d7⟩ := h5
  have key : sh5 = true ↔ (8 * nb < p + 4 ∨ 8 * nb < p1 + 3 * nn ∨ 8 * nb < p2 + 1 ∨ u = 1 ∧ (8 * nb < p3 + 3 ∨ 8 * nb < p4 + e)) := by
    have hq : sh = true → 8 * nb < p + 4 := fun h => by have := hsh h; omega
    rw [d7, c3, b3, hs1]
    by_cases hu : u = 1
    · rw [if_pos hu]
      simp only [Bool.or_eq_true, decide_eq_true_eq, hu, true_and]
      constructor
      · rintro (((((h | h) | h) | h) | h) | h) <;> first | (exact .inl (hq h)) | simp [h]
      · rintro (h | h | h | h | h) <;> simp [h]
    · rw [if_neg hu]
      simp only [Bool.or_eq_true, decide_eq_true_eq, hu, false_and, or_false]
      constructor
      · rintro (((h | h) | h) | h) <;> first | (exact .inl (hq h)) | simp [h]
      · rintro (h | h | h) <;> simp [h]
  have e0 : normL S nb size p = if wholeB own 19 = false ∨ size < most then .opened else if 8 * nb < p + 4 ∨ 8 * nb < p1 + 3 * nn ∨ 8 * nb < p2 + 1 ∨ u = 1 ∧ (8 * nb < p3 + 3 ∨ 8 * nb < p4 + e) then .short else lensF (codesL own 19 19) S nb size most p5 0 8 (fun _ => 0) := by
    rw [b1, d5, d6, d4, d3, d2, d1, c2, c1, b2, hn, a1, a2]
    rfl
  rw [e0]
  by_cases hc : wholeB own 19 = false ∨ size < most
  · rw [if_pos hc, if_pos hc]
  · rw [if_neg hc, if_neg hc]
    by_cases h : sh5 = true
    · rw [if_pos h, if_pos (key.1 h)]
    · rw [if_neg h, if_neg (fun e => h (key.2 e))]

set_option maxRecDepth 100000 in
set_option maxHeartbeats 4000000 in
theorem slens_any (g : Nat) (a : Option Addr) (nb cb : Nat) (f : Nat → Int) (S p size : Nat) (sh : Bool) (w : World) (h : SB w g a nb cb f S p sh false) (hs1 : 1 ≤ size) (hs2 : size ≤ 4096) (hsh : sh = true → p = 8 * nb) :
    Calls Tryd.prog 57 #[.pointer (some ⟨g, 0, none⟩), .int .i64 size] w fun e w' => LRes S nb size p w w' g a cb f e ∧ Only (fun k => k = g) w w' := by
  obtain ⟨i0, hi, hz0, hz1, hz2⟩ := info_parts infoInt
  have HI := Lib.hid (And.intro hi (And.intro hz0 (And.intro hz1 hz2)))
  have har : ∀ x, 0 < nb → a = some x → x.block < w.heap.size := fun x h0 hx => by
    obtain ⟨g1, o1, e, hg1, _⟩ := h.row h0
    rw [hx] at e; injection e with e; subst e; exact hg1
  have H := Lib.hid (And.intro h (And.intro hsh har))
  clear h hsh har
  go_enter Tryd.func57, Tryd.ntmps57
  go_upto_region 2 with (refine wpList_make_row _ rfl _ _ 22 rfl 3 i0 (.int .i64 0) Tryd.underlying22 hi hz0 hz1 rfl .i64 .i64 19 rfl rfl (by rw [hz2]; omega) (by omega) ?_)
  rw [ints_made]
  clear hi hz0 hz1 hz2
  obtain ⟨go, hgo⟩ : ∃ x, x = w.heap.size := ⟨_, rfl⟩
  obtain ⟨w1, hw1⟩ : ∃ x, x = w.alloc (.cells (cellsOf .i64 19 (fun _ => 0)).toArray 3) := ⟨_, rfl⟩
  have H1 : Hid (SObj w1 go 3 (cellsOf .i64 19 (fun _ => 0)) ∧ Only (fun _ => False) w w1) := Lib.hid (by rw [hw1, hgo]; exact ⟨obj_new _ _ _, Only.alloc _ _ _⟩)
  rw [← hw1, ← hgo]
  have HGO := Lib.hid hgo
  clear hw1 hgo
  go_wp2_with fail
  refine (order_any w1).mono ?_
  rintro _ w2 ⟨rfl, hb2⟩
  obtain ⟨tb, htb⟩ : ∃ tb, tb = tab19 := ⟨_, rfl⟩
  rw [← htb]
  have hob : SObj (w2.alloc (.cells (cellsOf .i64 19 (fun _ => 0)).toArray 108)) w2.heap.size 108 (cellsOf .i64 19 (fun _ => 0)) := obj_new _ _ _
  have HT : Hid (tb.all (·.oneCell') = true) := Lib.hid (by rw [htb]; exact icells_all _)
  have HR : Hid ((w2.alloc (.cells (cellsOf .i64 19 (fun _ => 0)).toArray 108)).there w2.heap.size 0 tb.size) := Lib.hid (there_of_obj hob (by simp [htb, tab19, cellsOf]))
  have hpa : SObj (World.setCells (w2.alloc (.cells (cellsOf .i64 19 (fun _ => 0)).toArray 108)) w2.heap.size 0 tb.toList) w2.heap.size 108 tb.toList := SObj.putAll tb.toList (cellsOf .i64 19 (fun _ => 0)) [] 0 _ hob (by simp [htb, tab19, cellsOf]) rfl
  have hbl : Below w2.heap.size w2 (World.setCells (w2.alloc (.cells (cellsOf .i64 19 (fun _ => 0)).toArray 108)) w2.heap.size 0 tb.toList) :=
    ((Only.alloc (fun k => w2.heap.size ≤ k) _ _).tr (Only.setCells (S := fun k => w2.heap.size ≤ k) (Nat.le_refl _) _ _ _)).below (Nat.le_refl _) (fun _ h => h)
  have HS := Lib.hid (And.intro hpa hbl)
  have HIN : Hid ((Tryd.prog.info? 108).map (·.size) = some tb.size) := Lib.hid (by rw [info19, htb]; rfl)
  have H2 := Lib.hid (And.intro hb2 htb)
  clear hpa hbl hob hb2 htb
  go_upto_region 3 with (refine wpList_store_mid rfl 108 (.tmp 7) (.tmp 20) rfl w2.heap.size 0 tb rfl rfl HR.out HIN.out HT.out ?_)
  (try simp only [Act.put])
  obtain ⟨gq, hgq⟩ : ∃ x, x = w2.heap.size := ⟨_, rfl⟩
  rw [← hgq] at HS ⊢
  generalize hw3 : World.setCells _ _ _ _ = w3
  have H3 : Hid (OwnR w w3 g go gq a nb cb f S p sh false (fun _ => 0)) := Lib.hid (by
    have e1 : Below gq w2 w3 := by rw [← hw3]; exact HS.out.2
    have e2 : SObj w3 gq 108 tb.toList := by rw [← hw3]; exact HS.out.1
    have h1 := H1.out.1.lt
    have h2 := H2.out.1.size
    have h3 := H.out.1.obj.lt
    have h4 := HGO.out
    have ho2 : Only (fun _ => False) w w2 := H1.out.2.tr (Only.of_below H2.out.1)
    have ho3 : Only (fun _ => False) w w3 := ho2.tr (Only.of_below (by rw [← hgq]; exact e1))
    exact ⟨(H1.out.1.below H2.out.1 h1).below e1 (by omega), by rw [← H2.out.2]; exact e2, H.out.1.only ho3 (fun h => h) (fun _ _ _ h => h), ho3.mono (fun _ h => h.elim), by omega, by omega, by omega, h3⟩)
  clear hw3 HS HT HR HIN H1 H2
  have HN := Lib.hid (sread_f g a nb cb f S p 4 sh false w3 H3.out.bits (by decide))
  obtain ⟨p1, hp1⟩ : ∃ x, x = nx nb p 4 := ⟨_, rfl⟩
  obtain ⟨v4, hv4⟩ : ∃ x, x = rdv S nb p 4 := ⟨_, rfl⟩
  have hv16 : v4 < 16 := by rw [hv4]; exact rdv_lt S nb p 4
  rw [← hp1, ← hv4] at HN
  have HP1 := Lib.hid (And.intro hp1 hv4)
  clear hp1 hv4
  go_wp2_with fail
  refine HN.out.mono ?_
  rintro _ w4 ⟨rfl, hs4, ho4⟩
  obtain ⟨sh1, hsh1⟩ : ∃ x, x = (sh || decide (8 * nb < p + 4)) := ⟨_, rfl⟩
  rw [← hsh1] at hs4
  have H4 : Hid (OwnR w w4 g go gq a nb cb f S p1 sh1 false (fun _ => 0)) := Lib.hid (H3.out.read ho4 hs4)
  have HSH1 := Lib.hid hsh1
  obtain ⟨nn, hnn⟩ : ∃ x, x = 4 + v4 := ⟨_, rfl⟩
  have hnn19 : nn ≤ 19 := by omega
  have ewn : (4 : Int) + (v4 : Int) = (nn : Int) := by omega
  have HNN := Lib.hid hnn
  clear hs4 ho4 hsh1 HN H3 hgq hnn
  go_upto_region 4 with fail
  clear ewn
  go_wp2_with fail
  go_loopg [9] (nn + 1) (fun j s9 wr => ∃ i : Nat, s9 = .int .i64 i ∧ i ≤ nn ∧ nn < j + i ∧ Hid (OwnR w wr g go gq a nb cb f S (nx3 nb p1 i) (sh1 || decide (8 * nb < p1 + 3 * i)) false (ownF S nb p1 i)))
  case atStart =>
    refine ⟨0, rfl, Nat.zero_le _, by omega, ?_⟩
    have hle := H4.out.bits.le
    have e1 : nx3 nb p1 0 = p1 := by unfold nx3; rw [if_pos (by omega)]; rfl
    have e2 : decide (8 * nb < p1 + 3 * 0) = false := decide_eq_false (by omega)
    rw [e1, e2, Bool.or_false]
    exact H4.out.congr (fun k _ => (ownF_zero S nb p1 k).symm)
  case round =>
    obtain ⟨i, rfl, hin, hj, hR⟩ := hrel
    by_cases hlt : i < nn
    · have hi19 : i < 19 := by omega
      obtain ⟨y, hy⟩ : ∃ y, y = ordP i := ⟨_, rfl⟩
      have hy19 : y < 19 := by rw [hy]; exact (ordI_P i hi19).2
      have cq : wr.cell? ⟨gq, i, none⟩ = some (.int .i64 y) := by
        rw [hy]
        exact hR.out.ocell i hi19
      have HRD := Lib.hid (sread_f g a nb cb f S (nx3 nb p1 i) 3 (sh1 || decide (8 * nb < p1 + 3 * i)) false wr.drew (hR.out.bits.only (Only.drewN (fun _ => False) wr 1) (fun h => h) (fun _ _ _ h => h)) (by decide))
      obtain ⟨v, hv⟩ : ∃ v, v = rdv S nb (nx3 nb p1 i) 3 := ⟨_, rfl⟩
      rw [← hv] at HRD
      have HY := Lib.hid (And.intro hy hv)
      have HQ : Hid (∀ (wx : World) (px : Nat) (sx : Bool) (o : Nat → Nat), OwnR w wx g go gq a nb cb f S px sx false o → wx.cell? ⟨gq, i, none⟩ = some (.int .i64 y)) := Lib.hid (fun wx px sx o h => by rw [HY.out.1]; exact h.ocell i hi19)
      have hyi0 : (0 : Int) ≤ (y : Int) := by omega
      have hyi1 : (y : Int) ≤ 19 := by omega
      have hyi2 : (y : Int) < 19 := by omega
      clear hy hv
      go_upto_region 7 with fail
      go_region_held3 (fun w' => w'.cell? ⟨gq, i, none⟩ = some (.int .i64 y)) (first | exact cq | exact HQ.out _ _ _ _ ‹_› | exact HQ.out _ _ _ _ (OwnR.set ‹_› _ _ H.out.2.2))
        (first | (go_at_call 65; refine HRD.out.mono ?_; rintro e w5 ⟨rfl, hs5, ho5⟩; have H5 : OwnR w w5 g go gq a nb cb f S _ _ false (ownF S nb p1 i) := (hR.out.read (Only.drewN _ wr 1) (hR.out.bits.only (Only.drewN (fun _ => False) wr 1) (fun h => h) (fun _ _ _ h => h))).read ho5 hs5; have ko := H5.wcell y hy19; have kf := H5.own.free y; clear hs5 ho5))
      have HH := Lib.hid ((H5.set y v H.out.2.2).congr (o' := ownF S nb p1 (i + 1)) (fun k hk => by rw [HY.out.1, HY.out.2]; exact ownF_next S nb p1 i k hi19 hk))
      clear H5 ko kf HQ HRD cq hR
      rename_i hHeld
      clear hHeld
      go_wp2
      go_roundg (gk - 1)
      case measure => omega
      case rel =>
        refine ⟨i + 1, by go_num, by omega, by omega, ?_⟩
        have h5 := HH.out
        rw [nx3_next, Bool.or_assoc, nx3_end] at h5
        exact h5
    · have hin' : i = nn := by omega
      subst hin'
      obtain ⟨own, hown⟩ : ∃ x, x = ownF S nb p1 i := ⟨_, rfl⟩
      obtain ⟨p2, hp2⟩ : ∃ x, x = nx3 nb p1 i := ⟨_, rfl⟩
      obtain ⟨sh2, hsh2⟩ : ∃ x, x = (sh1 || decide (8 * nb < p1 + 3 * i)) := ⟨_, rfl⟩
      rw [← hown, ← hp2, ← hsh2] at hR
      have HP2 := Lib.hid (And.intro hown (And.intro hp2 hsh2))
      have HFL := Lib.hid (flag_any g a nb cb f S p2 sh2 false wr hR.out.bits)
      obtain ⟨u, hu⟩ : ∃ x, x = rdv S nb p2 1 := ⟨_, rfl⟩
      obtain ⟨p3, hp3⟩ : ∃ x, x = nx nb p2 1 := ⟨_, rfl⟩
      obtain ⟨sh3, hsh3⟩ : ∃ x, x = (sh2 || decide (8 * nb < p2 + 1)) := ⟨_, rfl⟩
      rw [← hu, ← hp3, ← hsh3] at HFL
      have HP3 := Lib.hid (And.intro hu (And.intro hp3 hsh3))
      clear hown hp2 hsh2 hu hp3 hsh3
      go_wp2_with fail
      refine HFL.out.mono ?_
      rintro _ w5 ⟨rfl, hs5, ho5⟩
      have H5 := Lib.hid (hR.out.read ho5 hs5)
      clear hs5 ho5 HFL hR
      obtain ⟨x3, hx3⟩ : ∃ x, x = rdv S nb p3 3 := ⟨_, rfl⟩
      have hx8 : x3 < 8 := by rw [hx3]; exact rdv_lt S nb p3 3
      obtain ⟨e, he⟩ : ∃ x, x = 2 + 2 * x3 := ⟨_, rfl⟩
      obtain ⟨p4, hp4⟩ : ∃ x, x = nx nb p3 3 := ⟨_, rfl⟩
      obtain ⟨x4, hx4⟩ : ∃ x, x = rdv S nb p4 e := ⟨_, rfl⟩
      have hx465 : x4 < 65536 := by
        have h1 := rdv_lt S nb p4 e
        have h2 : (2 : Nat) ^ e ≤ 2 ^ 16 := Nat.pow_le_pow_right (by decide) (by omega)
        have e16 : (2 : Nat) ^ 16 = 65536 := rfl
        omega
      obtain ⟨most, hmost⟩ : ∃ x, x = (if u = 1 then 2 + x4 else size) := ⟨_, rfl⟩
      obtain ⟨p5, hp5⟩ : ∃ x, x = (if u = 1 then nx nb p4 e else p3) := ⟨_, rfl⟩
      obtain ⟨sh5, hsh5⟩ : ∃ x, x = (if u = 1 then (sh3 || decide (8 * nb < p3 + 3) || decide (8 * nb < p4 + e)) else sh3) := ⟨_, rfl⟩
      have HP5 := Lib.hid (And.intro hx3 (And.intro he (And.intro hp4 (And.intro hx4 (And.intro hmost (And.intro hp5 hsh5))))))
      have hm65 : most ≤ 65537 := by rw [hmost]; split <;> omega
      have he16 : e ≤ 16 := by omega
      have ee : (2 : Int) + 2 * (x3 : Int) = (e : Int) := by omega
      clear hx3 he hp4 hx4 hmost hp5 hsh5
      go_upto_if 42 with fail
      go_cut [10] from 42 to 49 (fun s10 wx => s10 = .int .i64 most ∧ Hid (OwnR w wx g go gq a nb cb f S p5 sh5 false own))
      case first =>
        by_cases hu : u = 1
        · have hmo : most = 2 + x4 := by rw [HP5.out.2.2.2.2.1, if_pos hu]
          have hp5 : p5 = nx nb p4 e := by rw [HP5.out.2.2.2.2.2.1, if_pos hu]
          have hsh5 : sh5 = (sh3 || decide (8 * nb < p3 + 3) || decide (8 * nb < p4 + e)) := by rw [HP5.out.2.2.2.2.2.2, if_pos hu]
          have hud : decide (u = 1) = true := decide_eq_true hu
          have HN3 := Lib.hid (sread_f g a nb cb f S p3 3 sh3 false w5 H5.out.bits (by decide))
          rw [← HP5.out.1, ← HP5.out.2.2.1] at HN3
          have HMO := Lib.hid (And.intro hmo (And.intro hp5 hsh5))
          clear hmo hp5 hsh5
          go_wp2_with fail
          refine HN3.out.mono ?_
          rintro _ w6 ⟨rfl, hs6, ho6⟩
          have H6 := Lib.hid (H5.out.read ho6 hs6)
          have HN4 := Lib.hid (sread_f g a nb cb f S p4 e (sh3 || decide (8 * nb < p3 + 3)) false w6 H6.out.bits (by omega))
          rw [← HP5.out.2.2.2.1] at HN4
          clear hs6 ho6
          go_wp2_with fail
          refine HN4.out.mono ?_
          rintro _ w7 ⟨rfl, hs7, ho7⟩
          have H7 := Lib.hid (H6.out.read ho7 hs7)
          rw [← HMO.out.2.1, ← HMO.out.2.2] at H7
          clear hs7 ho7
          have hmo : (2 : Int) + (x4 : Int) = (most : Int) := by have := HMO.out.1; omega
          go_wp2
          go_meet
          exact ⟨by go_num, H7.out⟩
        · have hmo : most = size := by rw [HP5.out.2.2.2.2.1, if_neg hu]
          have hp5 : p5 = p3 := by rw [HP5.out.2.2.2.2.2.1, if_neg hu]
          have hsh5 : sh5 = sh3 := by rw [HP5.out.2.2.2.2.2.2, if_neg hu]
          have hud : decide (u = 1) = false := decide_eq_false hu
          have HMO := Lib.hid (And.intro hmo (And.intro hp5 hsh5))
          clear hmo hp5 hsh5
          go_wp2
          go_meet
          rw [HMO.out.1, HMO.out.2.1, HMO.out.2.2]
          exact ⟨rfl, H5.out⟩
      case rest =>
        obtain ⟨rfl, hC5⟩ := hcut
        clear H5 ee
        have hfo : natF (fun k => (own k : Int)) = own := by funext k; unfold natF; simp
        have ho8 : ∀ k, own k < 8 := fun k => by rw [HP2.out.1]; exact ownF_lt S nb p1 i k
        have ho15 : ∀ k, k < 19 → own k ≤ 15 := fun k _ => by have := ho8 k; omega
        have HM := Lib.hid (made_any (some ⟨go, 0, none⟩) 19 19 (fun k => (own k : Int)) wc (arg_of_obj hC5.out.own) (by decide) (fun k _ => by have := ho8 k; omega))
        rw [hfo] at HM
        have HO8 := Lib.hid (And.intro ho8 ho15)
        clear hfo ho8 ho15
        go_wp2_with fail
        refine HM.out.mono ?_
        rintro _ w6 ⟨⟨cs, sa, sc, rfl, hcr, hfr⟩, hb6⟩
        obtain ⟨M, hM⟩ : ∃ x, x = (sys own 19 15).length := ⟨_, rfl⟩
        have hM19 : M ≤ 19 := by rw [hM]; exact sys_le own 19 HO8.out.2
        have hsz : cs.size = 17 := by rw [hcr.cells]; simp [cdCells]
        have hall : (cs.all (·.oneCell')) = true := by rw [hcr.cells]; exact cdCells_all _ _ _ _
        have HIN : Hid ((Tryd.prog.info? 86).map (·.size) = some cs.size) := Lib.hid (by rw [infoCode, hsz])
        have HAL := Lib.hid hall
        obtain ⟨okb, hokb⟩ : ∃ x, x = madeB own 19 := ⟨_, rfl⟩
        rw [← hokb]
        rw [← hM] at hfr
        have HPT := Lib.hid (cd_put w6 cs hsz)
        have HTH := Lib.hid (cd_there w6 cs hsz)
        have H6 := Lib.hid (And.intro hcr (And.intro hfr (And.intro hb6 (And.intro hM hokb))))
        clear hcr hfr hb6 hM hokb hall hsz
        go_upto_region 12 with (first | (refine wpList_store_mid rfl 86 (.tmp 11) (.tmp 53) rfl w6.heap.size 0 cs rfl rfl HTH.out HIN.out HAL.out ?_))
        (try simp only [Act.put])
        obtain ⟨g11, hg11⟩ : ∃ x, x = w6.heap.size := ⟨_, rfl⟩
        rw [← hg11] at HPT ⊢
        generalize hw7 : World.setCells _ _ _ _ = w7
        have H7 : Hid (CodeR w7 (hh own 19) (sys own 19 15) cs sa sc ∧ SObj w7 g11 86 cs.toList ∧ SB w7 g a nb cb f S p5 sh5 false ∧ Only (New1 g w) w w7 ∧ wc.heap.size ≤ g11 ∧ w.heap.size ≤ wc.heap.size ∧ (0 < M → ∀ x, sa = some x → wc.heap.size ≤ x.block ∧ x.block < w7.heap.size)) := Lib.hid (by
          have e1 : Only (fun _ => False) w6 w7 := by rw [← hw7]; exact HPT.out.2
          have e2 : SObj w7 g11 86 cs.toList := by rw [← hw7]; exact HPT.out.1
          have e3 : Only (fun _ => False) wc w7 := (Only.of_below H6.out.2.2.1).tr e1
          refine ⟨H6.out.1.only e1 (fun _ _ _ h => h), e2, hC5.out.bits.only e3 (fun h => h) (fun _ _ _ h => h), hC5.out.only.tr (e3.mono (fun _ h => h.elim)), by rw [hg11]; exact H6.out.2.2.1.size, hC5.out.only.size, fun h0 x hx => ⟨H6.out.2.1 h0 x hx, ?_⟩⟩
          obtain ⟨g1, o1, e6, hg1, _⟩ := H6.out.1.row (by rw [← H6.out.2.2.2.1]; exact h0)
          rw [hx] at e6; injection e6 with e6; subst e6
          exact Nat.lt_of_lt_of_le hg1 e1.size)
        have HNL := Lib.hid (normL_of (size := size) H.out.2.1 HP1.out HSH1.out HNN.out HP2.out HP3.out HP5.out)
        have HWB : Hid (wholeB own 19 = (okb && decide (1 < M))) := Lib.hid (by rw [H6.out.2.2.2.2, H6.out.2.2.2.1]; exact made_whole own 19 HO8.out.2)
        have hM0 : okb = true → 0 < M := fun h => by
          rcases Nat.eq_zero_or_pos M with e | e
          · have h5 := H6.out.2.2.2.2
            rw [h] at h5
            unfold madeB at h5
            rw [← H6.out.2.2.2.1, if_pos e] at h5
            cases h5
          · exact e
        have HMO : Hid (okb = true → ∃ C I, Code C I ∧ CodeOK C w7 cs sa sc M ∧ (wholeB own 19 = true → C = codesL own 19 19) ∧ ∀ u s, (u, s) ∈ C → s < 19) := Lib.hid (fun h => by
          have h5 := made_ok HO8.out.2 (by decide) (H6.out.2.2.2.2.symm.trans h) w7 cs sa sc H7.out.1
          rw [← H6.out.2.2.2.1] at h5
          exact h5)
        have d16 : w7.cell? ⟨g11, 16, none⟩ = some (.slice sa M sc) := H7.out.2.1.cell 16 (by rw [H7.out.1.cells]; show (cdCells _ _)[16]? = _; rw [cdCells_sym, ← H6.out.2.2.2.1])
        have b3 := H7.out.2.2.1.obj.cell 3 rfl
        have z3 := H7.out.2.2.1.obj.free 3
        have HM0 := Lib.hid hM0
        obtain ⟨op1, hop1⟩ : ∃ x : Bool, x = (!(okb && decide (1 < M)) || decide (size < most)) := ⟨_, rfl⟩
        have HOP := Lib.hid hop1
        clear hw7 HPT HTH HIN HAL hg11 hM0 hop1 H4 HM
        go_cut [] from 55 to 76 (fun wx => Hid (SB wx g a nb cb f S p5 sh5 op1 ∧ Only (fun k => k = g) w7 wx))
        case first =>
          have hset : ∀ b : Bool, b = op1 → Hid (SB (w7.setCell ⟨g, 3, none⟩ (.bool b)) g a nb cb f S p5 sh5 op1 ∧ Only (fun k => k = g) w7 (w7.setCell ⟨g, 3, none⟩ (.bool b))) := fun b hb => by
            subst hb
            have ho : Only (fun k => k = g) w7 (w7.setCell ⟨g, 3, none⟩ (.bool b)) := Only.setCell _ _ _ rfl
            exact ⟨H7.out.2.2.1.own ho H7.out.2.2.1.le (H7.out.2.2.1.obj.set 3 (.bool b)), ho⟩
          have HSET := Lib.hid hset
          clear hset
          cases okb with
          | false =>
            go_wp2
            go_meet
            exact HSET.out true (by rw [HOP.out]; rfl)
          | true =>
            by_cases hM2 : M < 2
            · have e1 : decide (1 < M) = false := decide_eq_false (by omega)
              have HE := Lib.hid e1
              clear e1
              go_wp2
              go_meet
              exact HSET.out true (by rw [HOP.out, HE.out]; rfl)
            · have e1 : decide (1 < M) = true := decide_eq_true (by omega)
              have HE := Lib.hid e1
              clear e1
              by_cases hms : size < most
              · have HE2 := Lib.hid (decide_eq_true hms)
                go_wp2
                go_meet
                exact HSET.out true (by rw [HOP.out, HE.out, HE2.out]; rfl)
              · have HE2 := Lib.hid (decide_eq_false hms)
                go_wp2
                go_meet
                exact HSET.out _ (by rw [HOP.out, HE.out, HE2.out]; exact decide_eq_false (by omega))
        case rest =>
          clear d16 b3 z3
          have c2 := hcut.out.1.obj.cell 2 rfl
          have HON : Hid (Only (New1 g w) w wc) := Lib.hid (H7.out.2.2.2.1.tr (hcut.out.2.mono (fun _ e => .inl e)))
          by_cases hbad : okb = false ∨ sh5 = true ∨ size < most
          · have HBAD : Hid (LRes S nb size p w wc g a cb f (.returned (.tuple #[.slice none 0 0, .bool false])) ∧ Only (fun k => k = g) w wc) := Lib.hid (by
              refine ⟨⟨_, false, p5, sh5, op1, rfl, hcut.out.1, ?_⟩, New1.cut HON.out⟩
              by_cases hop : op1 = true
              · refine .inl ⟨hop, ?_, fun h => by cases h⟩
                rw [HNL.out, if_pos ?_]
                rw [HWB.out]
                rw [HOP.out] at hop
                by_cases hs : size < most
                · exact .inr hs
                · rw [decide_eq_false hs, Bool.or_false] at hop
                  left
                  cases hq : (okb && decide (1 < M))
                  · rfl
                  · rw [hq] at hop; cases hop
              · have hop' : op1 = false := by cases op1; rfl; exact absurd rfl hop
                rw [HOP.out] at hop'
                simp only [Bool.or_eq_false_iff, Bool.not_eq_false', decide_eq_false_iff_not, Bool.and_eq_true, decide_eq_true_eq] at hop'
                have hs5 : sh5 = true := by
                  rcases hbad with h | h | h
                  · rw [h] at hop'; cases hop'.1.1
                  · exact h
                  · exact absurd h hop'.2
                refine .inr (.inl ⟨by cases op1; rfl; exact absurd rfl hop, hs5, rfl, ?_⟩)
                rw [HNL.out, HWB.out, hop'.1.1, decide_eq_true hop'.1.2, if_neg ?_, if_pos hs5]
                rintro (h | h)
                · cases h
                · exact hop'.2 h)
            have HHB := Lib.hid hbad
            clear hbad
            cases okb with
            | false =>
              go_wp2
              go_ret2
              exact HBAD.out
            | true =>
              cases sh5 with
              | true =>
                go_wp2
                go_ret2
                exact HBAD.out
              | false =>
                have hms : size < most := by rcases HHB.out with h | h | h; cases h; cases h; exact h
                go_wp2
                go_ret2
                exact HBAD.out
          · have hok : okb = true := by
              cases okb
              · exact absurd (.inl rfl) hbad
              · rfl
            have hs5 : sh5 = false := by
              cases sh5
              · rfl
              · exact absurd (.inr (.inl rfl)) hbad
            have hms : most ≤ size := by omega
            subst hok hs5
            clear hbad
            obtain ⟨hi, hz0, hz1, hz2⟩ := HI.out
            obtain ⟨C, I, hC, hCK, hCW, h19⟩ := HMO.out rfl
            obtain ⟨tot, htot⟩ : ∃ x, x = lensF C S nb size most p5 0 8 (fun _ => 0) := ⟨_, rfl⟩
            have hnm : ¬ size < most := by omega
            have HFIN : Hid ((op1 = true → normL S nb size p = .opened) ∧ (op1 = false → normL S nb size p = tot)) := Lib.hid (by
              have e1 := HOP.out
              have e2 := HWB.out
              have e3 := HNL.out
              rw [decide_eq_false hnm, Bool.or_false, ← e2] at e1
              rw [if_neg (show ¬ (false = true) from Bool.noConfusion)] at e3
              cases hw : wholeB own 19
              · rw [hw] at e1 e3
                rw [if_pos (.inl rfl)] at e3
                exact ⟨fun _ => e3, fun h => by rw [e1] at h; cases h⟩
              · rw [if_neg (by rintro (h | h); rw [hw] at h; cases h; exact hnm h)] at e3
                rw [hw] at e1
                exact ⟨fun h => (by rw [e1] at h; cases h), fun _ => (by rw [e3, htot, hCW hw])⟩)
            have HCH := Lib.hid (And.intro hC (And.intro h19 htot))
            have hCK8 := hCK
            have H8a := Lib.hid (And.intro hcut.out.1 (And.intro hcut.out.2 hCK8))
            have hbx7 : w7.heap[g11]? = some (.cells cs 86 (0, 0)) := by
              have h6 : w7.heap[g11]? = some (.cells cs.toList.toArray 86 (0, 0)) := H7.out.2.1
              rw [Array.toArray_toList] at h6
              exact h6
            have H8b := Lib.hid (And.intro hbx7 (And.intro (And.intro H7.out.2.2.2.2.1 H7.out.2.2.2.2.2.1) H7.out.2.2.2.2.2.2))
            have hszc : cs.size = 17 := hCK.size
            have HIN : Hid ((Tryd.prog.info? 86).map (·.size) = some cs.size) := Lib.hid (by rw [infoCode, hszc])
            clear hC hCK hCW h19 htot hCK8 hbx7 hcut HNL HWB HOP HMO HM0 H6 H7 hC5 HO8 HP5 HP3 HP2 HP1 HSH1 HNN hszc hnm
            go_upto_region 16 with (refine wpList_make_row _ rfl _ _ 22 rfl 3 i0 (.int .i64 0) Tryd.underlying22 hi hz0 hz1 rfl .i64 .i64 size rfl rfl (by rw [hz2]; omega) (by omega) ?_)
            rw [ints_made]
            clear hi hz0 hz1 hz2 c2
            obtain ⟨g13, hg13⟩ : ∃ x, x = wc.heap.size := ⟨_, rfl⟩
            rw [← hg13]
            generalize hw8 : World.alloc _ _ = w8
            have H8 : Hid (LoopR w w8 g g11 g13 cs sa sc M C a nb cb f S p5 false op1 size (fun _ => 0)) := Lib.hid (by
              have e1 : Only (fun _ => False) wc w8 := by rw [← hw8]; exact Only.alloc _ _ _
              have hgl := H.out.1.obj.lt
              have h11l := (Array.getElem?_eq_some_iff.1 H8b.out.1).1
              have hle7 := H8a.out.2.1.size
              have h5 := H8b.out.2.1
              refine ⟨by rw [← hw8, hg13]; exact obj_new _ _ _, ?_, ?_, H8a.out.1.only e1 (fun h => h) (fun _ _ _ h => h), HON.out.tr (e1.mono (fun _ h => h.elim)), by omega, by have := HON.out.size; omega, by omega, fun h0 x hx => ?_, hgl⟩
              · have ho : Only (fun k => k = g) w7 w8 := H8a.out.2.1.tr (e1.mono (fun _ h => h.elim))
                exact (ho.block g11 h11l (by omega)).trans H8b.out.1
              · have ho : Only (fun k => k = g) w7 w8 := H8a.out.2.1.tr (e1.mono (fun _ h => h.elim))
                exact H8a.out.2.2.only ho (fun h0 x hx e => by have := H8b.out.2.2 h0 x hx; omega)
              · have := H8b.out.2.2 h0 x hx
                omega)
            clear hw8 hg13 H8a H8b HON
            go_wp2_with fail
            go_loopg [10, 14, 15] (most + 1) (fun j s10 s14 s15 wr => ∃ (m i last px : Nat) (shx : Bool) (o : Nat → Nat), s10 = .int .i64 m ∧ s14 = .int .i64 last ∧ s15 = .int .i64 i ∧ m ≤ 4096 ∧ m < j ∧ i ≤ size ∧ last ≤ 15 ∧ Hid (LoopR w wr g g11 g13 cs sa sc M C a nb cb f S px shx op1 size o ∧ Flow C S nb size M tot m px i last o shx ∧ ∀ k, k < size → o k ≤ 15))
            case atStart => exact ⟨most, 0, 8, p5, false, fun _ => 0, rfl, rfl, rfl, by omega, by omega, Nat.zero_le _, by decide, H8.out, ⟨fun h => (by cases h), fun _ => HCH.out.2.2⟩, fun _ _ => Nat.zero_le _⟩
            case round =>
              obtain ⟨m, i, last, px, shx, o, rfl, rfl, rfl, hm4, hmj, hisz, hl15, hR⟩ := hrel
              by_cases hgo : i < size ∧ 0 < m
              · obtain ⟨hi, hm0⟩ := hgo
                obtain ⟨m', rfl⟩ : ∃ m', m = m' + 1 := ⟨m - 1, by omega⟩
                obtain ⟨s, p', sh', hs19, hsl, hsr, hcall⟩ := lsym_any w wr g g11 g13 cs sa sc M C I a nb cb f S px shx op1 size o tot m' i last hR.out.1 hR.out.2.1 HCH.out.1 HCH.out.2.1 hi
                have HCALL := Lib.hid hcall
                have HSL := Lib.hid (And.intro hsl hsr)
                have HB11 := Lib.hid hR.out.1.cod
                clear hcall hsl hsr
                go_upto_region 20 with fail
                go_wp2_with (first | (refine wpList_load_row rfl 86 (.tmp 11) rfl g11 rfl 86 cs (0,0) _ HB11.out Tryd.underlying86 rfl HIN.out ?_))
                refine HCALL.out.mono ?_
                rintro _ w2 ⟨rfl, hL2⟩
                have ci := hL2.out.cell i (by simp [cellsOf, hi] : (cellsOf .i64 size (fun k => (o k : Int)))[i]? = some (.int .i64 (o i : Int)))
                have fi := hL2.out.free i
                have HL2 := Lib.hid hL2
                clear hL2 HCALL HB11
                by_cases hs16 : s < 16
                · by_cases hs0 : s = 0
                  · subst hs0
                    have HN := Lib.hid (HL2.out.set i 0 H.out.2.2)
                    go_wp2
                    go_roundg (gk - 1)
                    case measure => omega
                    case rel => exact ⟨m', i + 1, last, p', sh', updN o i 0, by go_num, rfl, by go_num, by omega, by omega, by omega, hl15, HN.out, HSL.out.1 (by decide), fun k hk => (by unfold updN; split; exact Nat.zero_le _; exact hR.out.2.2 k hk)⟩
                  · have hspos : 0 < s := by omega
                    have HN := Lib.hid (HL2.out.set i s H.out.2.2)
                    have HF := Lib.hid (HSL.out.1 hs16)
                    rw [if_pos hspos] at HF
                    go_wp2
                    go_roundg (gk - 1)
                    case measure => omega
                    case rel => exact ⟨m', i + 1, s, p', sh', updN o i s, by go_num, rfl, by go_num, by omega, by omega, by omega, by omega, HN.out, HF.out, fun k hk => (by unfold updN; split; omega; exact hR.out.2.2 k hk)⟩
                · clear ci fi
                  obtain ⟨hsh, htt⟩ := HSL.out.2 (by omega)
                  subst hsh
                  obtain ⟨ex, hex⟩ : ∃ x, x = extB s := ⟨_, rfl⟩
                  obtain ⟨bs, hbs⟩ : ∃ x, x = extO s := ⟨_, rfl⟩
                  obtain ⟨wh, hwh⟩ : ∃ x, x = (if s = 16 then last else 0) := ⟨_, rfl⟩
                  rw [← hex, ← hbs, ← hwh] at htt
                  obtain ⟨v, hv⟩ : ∃ x, x = rdv S nb p' ex := ⟨_, rfl⟩
                  rw [← hv] at htt
                  have hv128 : v < 128 := by
                    have h1 := rdv_lt S nb p' ex
                    have h2 : (2 : Nat) ^ ex ≤ 2 ^ 7 := Nat.pow_le_pow_right (by decide) (by rw [hex]; have := extB_le s; omega)
                    have e7 : (2 : Nat) ^ 7 = 128 := rfl
                    omega
                  obtain ⟨ag, hag⟩ : ∃ x, x = bs + v := ⟨_, rfl⟩
                  rw [← hag] at htt
                  obtain ⟨p6, hp6⟩ : ∃ x, x = nx nb p' ex := ⟨_, rfl⟩
                  obtain ⟨sh6, hsh6⟩ : ∃ x, x = decide (8 * nb < p' + ex) := ⟨_, rfl⟩
                  have hbs11 : bs ≤ 11 := by rw [hbs]; have := extO_le s; omega
                  have hag0 : 3 ≤ bs := by rw [hbs]; have := extO_le s; omega
                  have hwh15 : wh ≤ 15 := by rw [hwh]; split <;> omega
                  have HRD := Lib.hid (sread_f g a nb cb f S p' ex false op1 w2 HL2.out.bits (by rw [hex]; have := extB_le s; omega))
                  rw [← hv, ← hp6, Bool.false_or, ← hsh6] at HRD
                  have HEX := Lib.hid (And.intro hex (And.intro hbs (And.intro hwh (And.intro hag (And.intro hp6 (And.intro hsh6 htt))))))
                  clear hex hbs hwh hv hag hp6 hsh6 htt HSL
                  go_upto_block 4 with fail
                  go_cut [17, 18] from 115 to 129 (fun s17 s18 wx => s17 = .int .i64 ag ∧ s18 = .int .i64 wh ∧ Hid (LoopR w wx g g11 g13 cs sa sc M C a nb cb f S p6 sh6 op1 size o))
                  case first =>
                    have hsc : s = 16 ∨ s = 17 ∨ s = 18 := by omega
                    rcases hsc with rfl | rfl | rfl
                    · have e1 : ex = 2 := HEX.out.1
                      have e2 : (3 : Int) + (v : Int) = (ag : Int) := by have h1 := HEX.out.2.1; have h2 := HEX.out.2.2.2.1; have h3 : extO 16 = 3 := rfl; omega
                      have e3 : wh = last := HEX.out.2.2.1
                      subst e1
                      have HE3 := Lib.hid e3
                      clear e3
                      go_wp2_with fail
                      refine HRD.out.mono ?_
                      rintro _ w3 ⟨rfl, hs3, ho3⟩
                      have H3 := Lib.hid (HL2.out.read ho3 hs3)
                      clear hs3 ho3
                      go_wp2
                      go_meet
                      exact ⟨by go_num, by rw [HE3.out], H3.out⟩
                    · have e1 : ex = 3 := HEX.out.1
                      have e2 : (3 : Int) + (v : Int) = (ag : Int) := by have h1 := HEX.out.2.1; have h2 := HEX.out.2.2.2.1; have h3 : extO 17 = 3 := rfl; omega
                      have e3 : wh = 0 := HEX.out.2.2.1
                      subst e1
                      have HE3 := Lib.hid e3
                      clear e3
                      go_wp2_with fail
                      refine HRD.out.mono ?_
                      rintro _ w3 ⟨rfl, hs3, ho3⟩
                      have H3 := Lib.hid (HL2.out.read ho3 hs3)
                      clear hs3 ho3
                      go_wp2
                      go_meet
                      exact ⟨by go_num, by rw [HE3.out]; rfl, H3.out⟩
                    · have e1 : ex = 7 := HEX.out.1
                      have e2 : (11 : Int) + (v : Int) = (ag : Int) := by have h1 := HEX.out.2.1; have h2 := HEX.out.2.2.2.1; have h3 : extO 18 = 11 := rfl; omega
                      have e3 : wh = 0 := HEX.out.2.2.1
                      subst e1
                      have HE3 := Lib.hid e3
                      clear e3
                      go_wp2_with fail
                      refine HRD.out.mono ?_
                      rintro _ w3 ⟨rfl, hs3, ho3⟩
                      have H3 := Lib.hid (HL2.out.read ho3 hs3)
                      clear hs3 ho3
                      go_wp2
                      go_meet
                      exact ⟨by go_num, by rw [HE3.out]; rfl, H3.out⟩
                  case rest =>
                    obtain ⟨rfl, rfl, hC7⟩ := hcut
                    have c2 := hC7.out.bits.obj.cell 2 rfl
                    have c3 := hC7.out.bits.obj.cell 3 rfl
                    have z3 := hC7.out.bits.obj.free 3
                    clear HRD
                    by_cases hbad : sh6 = true ∨ size - i < ag
                    · have HBAD : Hid (∀ b : Bool, b = (op1 || decide (size - i < ag)) → LRes S nb size p w (wc.setCell ⟨g, 3, none⟩ (.bool b)) g a cb f (.returned (.tuple #[.slice none 0 0, .bool false])) ∧ Only (fun k => k = g) w (wc.setCell ⟨g, 3, none⟩ (.bool b))) := Lib.hid (fun b hb => by
                        have ho : Only (fun k => k = g) wc (wc.setCell ⟨g, 3, none⟩ (.bool b)) := Only.setCell _ _ _ rfl
                        have hsb : SB (wc.setCell ⟨g, 3, none⟩ (.bool b)) g a nb cb f S p6 sh6 b := hC7.out.bits.own ho hC7.out.bits.le (hC7.out.bits.obj.set 3 (.bool b))
                        refine ⟨⟨_, false, p6, sh6, b, rfl, hsb, ?_⟩, (New1.cut hC7.out.only).tr ho⟩
                        have htt := HEX.out.2.2.2.2.2.2
                        cases op1 with
                        | true => exact .inl ⟨hb, HFIN.out.1 rfl, fun h => (by cases h)⟩
                        | false =>
                          rw [Bool.false_or] at hb
                          by_cases hq : size - i < ag
                          · rw [if_pos hq] at htt
                            exact .inl ⟨by rw [hb]; exact decide_eq_true hq, (HFIN.out.2 rfl).trans htt, fun h => (by cases h)⟩
                          · rw [if_neg hq] at htt
                            have hs6 : sh6 = true := by rcases hbad with h | h; exact h; exact absurd h hq
                            have hlt : 8 * nb < p' + ex := by have h5 := HEX.out.2.2.2.2.2.1; rw [hs6] at h5; exact of_decide_eq_true h5.symm
                            rw [if_pos hlt] at htt
                            exact .inr (.inl ⟨by rw [hb]; exact decide_eq_false hq, hs6, rfl, (HFIN.out.2 rfl).trans htt⟩))
                      have HHB := Lib.hid hbad
                      clear hbad
                      by_cases hq : size - i < ag
                      · have hqi : (size : Int) - (i : Int) < (ag : Int) := by omega
                        have HQ := Lib.hid (decide_eq_true hq)
                        clear hq
                        cases op1 with
                        | true =>
                          cases sh6 <;>
                            (go_wp2; go_ret2; exact HBAD.out _ rfl)
                        | false =>
                          cases sh6 <;>
                            (go_wp2; go_ret2; exact HBAD.out _ (by rw [HQ.out]; rfl))
                      · have hqi : ¬ (size : Int) - (i : Int) < (ag : Int) := by omega
                        have hs6 : sh6 = true := by rcases HHB.out with h | h; exact h; exact absurd h hq
                        have HQ := Lib.hid (decide_eq_false hq)
                        have HQI := Lib.hid (decide_eq_false hqi)
                        clear hq
                        subst hs6
                        cases op1 with
                        | true => go_wp2; go_ret2; exact HBAD.out _ rfl
                        | false => go_wp2; go_ret2; exact HBAD.out _ (by rw [HQ.out]; first | rfl | exact HQI.out)
                    · have hs6 : sh6 = false := by
                        cases sh6
                        · rfl
                        · exact absurd (.inl rfl) hbad
                      have hfit : i + ag ≤ size := by omega
                      subst hs6
                      clear hbad
                      have hqi : ¬ (size : Int) - (i : Int) < (ag : Int) := by omega
                      have HC8 := Lib.hid (And.intro hC7.out (And.intro (show p6 = p' + ex by
                        have h5 := HEX.out.2.2.2.2.2.1
                        have h6 := HEX.out.2.2.2.2.1
                        have h7 : ¬ 8 * nb < p' + ex := of_decide_eq_false h5.symm
                        rw [h6, nx_in (by omega)]) (show Flow C S nb size M tot m' p6 (i + ag) last (filN o i ag wh) false by
                        have h5 := HEX.out.2.2.2.2.2.1
                        have h6 := HEX.out.2.2.2.2.1
                        have h7 : ¬ 8 * nb < p' + ex := of_decide_eq_false h5.symm
                        have htt := HEX.out.2.2.2.2.2.2
                        rw [if_neg (by omega), if_neg h7] at htt
                        rw [h6, nx_in (by omega)]
                        exact ⟨fun h => (by cases h), fun _ => htt⟩)))
                      obtain ⟨G, hG⟩ : ∃ G, G = gk := ⟨_, rfl⟩
                      have HGK := Lib.hid hG
                      have hmG : m' + 1 < G := by omega
                      have hag140 : ag ≤ 140 := by have := HEX.out.2.2.2.1; omega
                      clear hG c3 z3 hmj
                      go_wp2_with fail
                      go_loopg [15, 17] (ag + 1) (fun j s15 s17 wy => ∃ r : Nat, s15 = .int .i64 ((i : Int) + (r : Int)) ∧ s17 = .int .i64 ((ag : Int) - (r : Int)) ∧ r ≤ ag ∧ ag < j + r ∧ Hid (LoopR w wy g g11 g13 cs sa sc M C a nb cb f S p6 false op1 size (filN o i r wh)))
                      case atStart => exact ⟨0, by go_num, by go_num, Nat.zero_le _, by omega, HC8.out.1.congr _ (fun k => (filN_zero o i wh k).symm)⟩
                      case round =>
                        obtain ⟨r, rfl, rfl, hr, hjr, hX⟩ := hrel
                        by_cases hlr : r < ag
                        · have hir : i + r < size := by omega
                          have ei : (i : Int) + (r : Int) = ((i + r : Nat) : Int) := by omega
                          have ci := hX.out.out.cell (i + r) (by simp [cellsOf, hir] : (cellsOf .i64 size (fun k => (filN o i r wh k : Int)))[i + r]? = some (.int .i64 (filN o i r wh (i + r) : Int)))
                          have fi := hX.out.out.free (i + r)
                          have HN := Lib.hid (hX.out.set (i + r) wh H.out.2.2)
                          obtain ⟨ir, hir2⟩ : ∃ x, x = i + r := ⟨_, rfl⟩
                          rw [← hir2] at ci fi HN ei hir
                          rw [ei]
                          have HIR := Lib.hid (And.intro hir2 ei)
                          clear hir2 ei
                          go_wp2
                          go_roundg (gk - 1)
                          case measure => omega
                          case rel =>
                            refine ⟨r + 1, ?_, by go_num, by omega, by omega, HN.out.congr _ (fun k => ?_)⟩
                            · have := HIR.out.1
                              go_num
                            · rw [HIR.out.1]
                              exact filN_next o i r wh k
                        · obtain rfl : r = ag := by omega
                          go_wp2
                          go_roundg (G - 1)
                          case measure => have := HGK.out; omega
                          case rel => exact ⟨m', i + r, last, p6, false, filN o i r wh, by go_num, rfl, by go_num, by omega, by omega, by omega, hl15, hX.out, HC8.out.2.2, fun k hk => (by unfold filN; split; omega; exact hR.out.2.2 k hk)⟩
              · trace "END"
                have c2 := hR.out.1.bits.obj.cell 2 rfl
                have hfin : ¬ (i < size ∧ 0 < m) := hgo
                have HE : Hid (shx = false → tot = .got o px) := Lib.hid (fun h => by
                  have h5 := hR.out.2.1.2 h
                  rcases Nat.eq_zero_or_pos m with e | e
                  · rw [e, lensF_zero] at h5; exact h5
                  · rw [lensF_full C S nb size m px i last o (by omega)] at h5; exact h5)
                have HEND : Hid (∀ d : Nat, LRes S nb size p w (wr.drewN d) g a cb f (.returned (.tuple #[.slice (some ⟨g13, 0, none⟩) size size, .bool (!shx)])) ∧ Only (fun k => k = g) w (wr.drewN d)) := Lib.hid (fun d => by
                  have hon : Only (fun _ => False) wr (wr.drewN d) := Only.drewN (fun _ => False) wr d
                  have hl := hR.out.1
                  have hrow : Own .i64 w.heap.size (wr.drewN d) (some ⟨g13, 0, none⟩) size (fun k => (o k : Int)) := own_of_obj (hl.out.only hon (fun h => h)) hl.h13
                  refine ⟨⟨_, !shx, px, shx, op1, rfl, hl.bits.only hon (fun h => h) (fun _ _ _ h => h), ?_⟩, (New1.cut hl.only).tr (hon.mono (fun _ h => h.elim))⟩
                  cases op1 with
                  | true => exact .inl ⟨rfl, HFIN.out.1 rfl, fun _ => ⟨_, _, o, rfl, hrow, hR.out.2.2⟩⟩
                  | false =>
                    cases shx with
                    | true => exact .inr (.inl ⟨rfl, rfl, rfl, (HFIN.out.2 rfl).trans (hR.out.2.1.1 rfl).2.2⟩)
                    | false => exact .inr (.inr ⟨rfl, rfl, rfl, _, _, o, rfl, hrow, hR.out.2.2, (HFIN.out.2 rfl).trans (HE.out rfl)⟩))
                clear hgo HCH hR
                by_cases hi : i < size
                · have hm0 : m = 0 := by omega
                  subst hm0
                  go_upto_region 40 with fail
                  go_quiet (fail)
                  rename_i nq
                  go_wp2
                  go_ret2
                  exact HEND.out nq
                · go_upto_region 40 with fail
                  go_quiet (fail)
                  rename_i nq
                  go_wp2
                  go_ret2
                  exact HEND.out nq
end Go.Proofs.YtdmefbpfpmkdcaaDoor
