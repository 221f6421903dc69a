/- The file that readFile reads, in plain Lean; the sentinels over a later world. -/
import Derived.Test.YthipghkhdlnfiaaDoorRfS
import Derived.Test.YthipghkhdlnfiaaDoorRfQ
namespace Go.Proofs.YthipghkhdlnfiaaDoor
open Go.RowKit
set_option linter.unusedVariables false

def tryB : List Int := fileB [97, 98, 99, 100] (chunkB [120, 121, 122, 32] [7, 8, 9])
theorem tryB_eq : tryB = [82, 73, 70, 70, 16, 0, 0, 0, 97, 98, 99, 100, 120, 121, 122, 32, 3, 0, 0, 0, 7, 8, 9, 0] := by rfl
theorem tryB_model : riffM tryB [(0, 0), (1, 3), (0, 0)] = ([⟨[120, 121, 122, 32], 3, [7, 8, 9], 2⟩], [0, 0, 0, 1]) := by
  rw [tryB_eq]
  rfl
theorem by_of {l : List Int} (h : ∀ x ∈ l, 0 ≤ x ∧ x ≤ 255) : By l := fun i => by
  rcases Nat.lt_or_ge i l.length with hi | hi
  · have e : l.getD i 0 = l[i] := by simp [List.getD, List.getElem?_eq_getElem hi]
    rw [e]; exact h _ (List.getElem_mem hi)
  · have e : l.getD i 0 = 0 := by simp [List.getD, List.getElem?_eq_none hi]
    rw [e]; omega
theorem tryB_by : By tryB := by_of (by rw [tryB_eq]; decide)

theorem Snt.later {B B' : Nat} {w w' : World} {g : Nat} {a : Addr} {s : List UInt8} (h : Snt B w g a s) (hB : B ≤ w.heap.size) (hb : Below B w w') (hBB : B ≤ B') : Snt B' w' g a s := by
  have ho : Only (fun k => B ≤ k) w w' := ⟨hb.os, hb.tape, hb.output, hb.size, fun k hk hn => hb.block k (by omega)⟩
  have h2 := h.only hB ho (fun k hk => hk)
  exact ⟨h2.var, h2.str, h2.blk, Nat.lt_of_lt_of_le h2.gb hBB, Nat.lt_of_lt_of_le h2.ab hBB⟩
/-- The sentinels stand below the heap's end. -/
def Sn (w : World) (E U M S L P H : Addr) : Prop := Sns w.heap.size w E U M S L P H
theorem Sn.later {w w' : World} {E U M S L P H : Addr} (h : Sn w E U M S L P H) (hb : Below w.heap.size w w') : Sn w' E U M S L P H :=
  ⟨h.e.later (Nat.le_refl _) hb hb.size, h.u.later (Nat.le_refl _) hb hb.size, h.m.later (Nat.le_refl _) hb hb.size, h.s.later (Nat.le_refl _) hb hb.size, h.l.later (Nat.le_refl _) hb hb.size, h.p.later (Nat.le_refl _) hb hb.size, h.h.later (Nat.le_refl _) hb hb.size⟩
/-- What is asked of the world at a call of Riff. -/
theorem Sn.env {w : World} {E U M S L P H : Addr} (h : Sn w E U M S L P H) {ca : Option Addr} {cn cc N : Nat} {cz : Nat → Int} (hc : Arg .i64 w ca cn cz) (wf : ∀ i, -9223372036854775808 ≤ cz i ∧ cz i ≤ 9223372036854775807) (cm : cn ≤ 140737488351232) (nm : N ≤ 1099511627776) : Env w.heap.size w ca cn cc N cz E U M S L P H :=
  ⟨⟨hc, fun h0 p hp => by obtain ⟨g, o, h1, h2, _⟩ := hc h0; rw [h1] at hp; injection hp with hp; rw [← hp]; exact h2, wf, cm, nm, h.e.var, h.e.gb, Nat.le_refl _⟩, h⟩
end Go.Proofs.YthipghkhdlnfiaaDoor
