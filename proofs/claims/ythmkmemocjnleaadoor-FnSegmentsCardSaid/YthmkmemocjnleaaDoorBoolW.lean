/- The writer of truths of the laws (boolWriter): its steps as plain functions of its state, as long as nothing is carried. -/
import Derived.Test.YthmkmemocjnleaaDoorObj
import Derived.Test.YthmkmemocjnleaaDoorBits
import Derived.RegionTactic
import Derived.BigRegion
import Derived.BigQuiet
import Derived.Deep.RegionLaw
import Derived.Deep.AppendLies
import Derived.WalkSmall
import Derived.Outline
namespace Go.Proofs.YthmkmemocjnleaaDoor
open Go.RowKit
set_option linter.unusedVariables false

theorem infoByte : (Tryd.prog.info? 5).map (fun i => (i.zero, i.size, i.bytes)) = some (some (.int .u8 0), 1, 1) := by kernel_rfl

/-- The writer at block g: the bytes out (in a block of the call's own), the number so far, its size, the bits that are still missing. -/
def BW (w : World) (B g : Nat) (out : List Int) (low size k : Int) : Prop :=
  ∃ v, SObj w g 125 [v, .int .i64 low, .int .i64 size, .int .i64 k] ∧ w.ownsRow B 5 1 v out.length (out.map (Value.int .u8)) ∧ v.ownBlock ≠ some g ∧ B ≤ g

theorem ownsRow_setCell_far {w : World} {base : Nat} {e : TypeId} {size : Nat} {v : Value} {n : Nat} {xs : List Value} (h : w.ownsRow base e size v n xs) (p : Addr) (hp : v.ownBlock ≠ some p.block) (u : Value) : (w.setCell p u).ownsRow base e size v n xs :=
  h.kept (grownBy_setCell w p u) (.inr hp)

theorem BW.setLow {w : World} {B g : Nat} {out : List Int} {low size k : Int} (h : BW w B g out low size k) (x : Int) : BW (w.setCell ⟨g, 1, none⟩ (.int .i64 x)) B g out x size k := by
  obtain ⟨v, h1, h2, h3, h4⟩ := h
  exact ⟨v, h1.set 1 _, ownsRow_setCell_far h2 _ h3 _, h3, h4⟩
theorem BW.setSize {w : World} {B g : Nat} {out : List Int} {low size k : Int} (h : BW w B g out low size k) (x : Int) : BW (w.setCell ⟨g, 2, none⟩ (.int .i64 x)) B g out low x k := by
  obtain ⟨v, h1, h2, h3, h4⟩ := h
  exact ⟨v, h1.set 2 _, ownsRow_setCell_far h2 _ h3 _, h3, h4⟩
theorem BW.setBits {w : World} {B g : Nat} {out : List Int} {low size k : Int} (h : BW w B g out low size k) (x : Int) : BW (w.setCell ⟨g, 3, none⟩ (.int .i64 x)) B g out low size x := by
  obtain ⟨v, h1, h2, h3, h4⟩ := h
  exact ⟨v, h1.set 3 _, ownsRow_setCell_far h2 _ h3 _, h3, h4⟩

theorem bw_push {wr w1 : World} {B g gg cap : Nat} {out : List Int} {v : Value} {lo sz k x x' : Int} {o : Go.Obj} (ho : SObj wr g 125 [v, .int .i64 lo, .int .i64 sz, .int .i64 k]) (hne : v.ownBlock ≠ some g) (hB : B ≤ g) (hx : x' = x)
    (h : w1.ownsRow B 5 1 (.slice (some ⟨gg, 0, none⟩) (out.length + 1) cap) (out.length + 1) (out.map (Value.int .u8) ++ [.int .u8 x']) ∧ (wr.alloc o).drew.grownBy w1 v.ownBlock ∧ (v.ownBlock = some gg ∨ gg = wr.heap.size + 1) ∧ gg < w1.heap.size) :
    BW (w1.setCell ⟨g, 0, none⟩ (.slice (some ⟨gg, 0, none⟩) (out.length + 1) cap)) B g (out ++ [x]) lo sz k := by
  obtain ⟨hown1, hgrow, hat, _⟩ := h
  have hgg : (Value.slice (some ⟨gg, 0, none⟩) (out.length + 1) cap).ownBlock ≠ some g := by
    have := ho.lt
    rcases hat with h | h
    · rw [← h.symm.trans h] at *; simp only [Value.ownBlock]; rw [← h]; exact hne
    · simp [Value.ownBlock]; omega
  refine ⟨_, (SObj.grown ((ho.alloc o).drew) hgrow (fun h => hne h.symm)).set 0 _, ?_, hgg, hB⟩
  have h2 := ownsRow_setCell_far hown1 ⟨g, 0, none⟩ hgg (.slice (some ⟨gg, 0, none⟩) (out.length + 1) cap)
  subst hx
  simpa using h2

set_option maxRecDepth 100000 in
set_option maxHeartbeats 400000 in
theorem shift_plain (B g : Nat) (out : List Int) (low size k : Int) (w : World) (hb : BW w B g out low size k) (h0 : 0 ≤ low) (h1 : low < 2147483648) (hk : k ≠ 1) (hk0 : 0 ≤ k) (hk1 : k ≤ 100) :
    Calls Tryd.prog 54 #[.pointer (some ⟨g, 0, none⟩)] w fun e w' => e = .returned (.tuple #[]) ∧ BW w' B g out (low * 2) size (k - 1) ∧ Below B w w' := by
  have a1 := bit31_none low h0 h1
  have a2 : bits .and .i64 (low * 2) 4294967295 = low * 2 := by rw [mask32]; omega
  have H := Lib.hid hb
  obtain ⟨v, ho, hown, hne, hB⟩ := hb
  have c0 := ho.cell 0 rfl
  have c1 := ho.cell 1 rfl
  have c3 := ho.cell 3 rfl
  have z1 := ho.free 1
  have z3 := ho.free 3
  clear ho hown hne
  have tk : (k - 1 == 0) = false := by simp; omega
  go_enter Tryd.func54, Tryd.ntmps54
  go_wp2
  go_end0
  exact ⟨rfl, (H.out.setLow _).setBits _, ((Below.refl _ _).setCell (by simpa using hB) _).setCell (by simpa using hB) _⟩

set_option maxRecDepth 100000 in
set_option maxHeartbeats 800000 in
theorem shift_out (B g : Nat) (out : List Int) (low size : Int) (w : World) (hb : BW w B g out low size 1) (h0 : 0 ≤ low) (h1 : low < 2147483648) (hl : out.length ≤ 1000) :
    Calls Tryd.prog 54 #[.pointer (some ⟨g, 0, none⟩)] w fun e w' => e = .returned (.tuple #[]) ∧ BW w' B g (out ++ [low * 2 / 16777216]) (low * 2 % 16777216) size 8 ∧ Below B w w' := by
  obtain ⟨i0, hi, hz0, hz1, hz2⟩ := info_parts infoByte
  have a1 := bit31_none low h0 h1
  have a2 : bits .and .i64 (low * 2) 4294967295 = low * 2 := by rw [mask32]; omega
  have a3 : bits .and .i64 (low * 2) 16777215 = low * 2 % 16777216 := mask24 _
  have H := Lib.hid hb
  obtain ⟨v, ho, hown, hne, hB⟩ := hb
  have c0 := ho.cell 0 rfl
  have c1 := ho.cell 1 rfl
  have c3 := ho.cell 3 rfl
  have z0 := ho.free 0
  have z1 := ho.free 1
  have z3 := ho.free 3
  clear ho hown hne
  go_enter Tryd.func54, Tryd.ntmps54
  go_wp2
  generalize hwr : (w.setCell ⟨g, 1, none⟩ (.int .i64 (low * 2))).setCell ⟨g, 3, none⟩ (.int .i64 0) = wr
  have H2 : Hid (BW wr B g out (low * 2) size 0) := by rw [← hwr]; exact (H.out.setLow _).setBits _
  have HB2 : Hid (Below B w wr) := by rw [← hwr]; exact ((Below.refl _ _).setCell (by simpa using hB) _).setCell (by simpa using hB) _
  clear hwr c0 c1 c3 z0 z1 z3 H
  obtain ⟨v, ho, hown, hne, _⟩ := H2.out
  have c0 := ho.cell 0 rfl
  have c1 := ho.cell 1 rfl
  have z0 := ho.free 0
  have z1 := ho.free 1
  have z3 := ho.free 3
  have glt := ho.lt
  have HX := Lib.hid (And.intro ho (And.intro hown hne)); clear ho
  have hBw : B ≤ wr.heap.size := by omega
  have hval : Hid (IntKind.u8.wrap (low * 2 / 16777216) = low * 2 / 16777216) := Lib.hid (by rw [IntKind.wrap_u8']; omega)
  go_region_law (first
    | (refine step_append_lies _ (by rfl) _ _ _ (by rfl) B 5 i0 (.int .u8 0) 1 1 Tryd.underlying22 hi hz0 hz1 hz2 rfl (by omega) v out.length (out.map (Value.int .u8)) (by rfl) ((hown.alloc _).drew) ⟨wr.heap.size, 0, none⟩ 1 1 [.int .u8 (IntKind.u8.wrap (low * 2 / 16777216))] (by rfl) (by rfl) (World.news_of_block (cs := #[.int .u8 (IntKind.u8.wrap (low * 2 / 16777216))]) (t := 5) (fr := (0, 0)) (heap_alloc_new wr _)) (by simp [Value.oneCell']) (by omega) (by unfold maxLen; omega) (by omega) (by simp; omega) (wr.heap.size + 1) (by simp) ?_
       intro gg cap w1 hown1 hgrow hat hlt
       have HG1 := Lib.hid (And.intro hown1 (And.intro hgrow (And.intro hat hlt)))
       have k0 := (SObj.grown ((HX.out.1.alloc _).drew) hgrow (fun h => hne h.symm)).cell 0 rfl
       have kz0 := (SObj.grown ((HX.out.1.alloc _).drew) hgrow (fun h => hne h.symm)).free 0
       clear hown1 hgrow hat hlt))
  all_goals
    have hb2 : BW (w1.setCell ⟨g, 0, none⟩ (.slice (some ⟨gg, 0, none⟩) (out.length + 1) cap)) B g (out ++ [low * 2 / 16777216]) (low * 2) size 0 := bw_push HX.out.1 HX.out.2.2 hB hval.out HG1.out
    have hbel : Below B w (w1.setCell ⟨g, 0, none⟩ (.slice (some ⟨gg, 0, none⟩) (out.length + 1) cap)) :=
      (((HB2.out.alloc hBw _).drew).grown HG1.out.2.1 (by simp; omega) (fun k hk => (HX.out.2.1.lt k hk).1)).setCell (by simpa using hB) _
    generalize w1.setCell ⟨g, 0, none⟩ (.slice (some ⟨gg, 0, none⟩) (out.length + 1) cap) = wz at hb2 hbel ⊢
    have HZ := Lib.hid (And.intro hb2 hbel)
    obtain ⟨vz, hoz, _, _, _⟩ := hb2
    have y1 := hoz.cell 1 rfl
    have y3 := hoz.cell 3 rfl
    have yz1 := hoz.free 1
    have yz3 := hoz.free 3
    clear hoz hbel k0 kz0 HG1 HX hown hne c0 c1 z0 z1 z3 H2 HB2
    go_wp2
    go_end0
    exact ⟨rfl, (HZ.out.1.setLow _).setBits _, (HZ.out.2.setCell (by simpa using hB) _).setCell (by simpa using hB) _⟩
end Go.Proofs.YthmkmemocjnleaaDoor
