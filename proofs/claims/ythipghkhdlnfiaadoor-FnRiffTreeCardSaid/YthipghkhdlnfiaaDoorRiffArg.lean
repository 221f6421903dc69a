/- Bytes and numbers that came in, as Riff's contract takes them. -/
import Derived.Test.YthipghkhdlnfiaaDoorLaid
namespace Go.Proofs.YthipghkhdlnfiaaDoor
open Go.RowKit
set_option linter.unusedVariables false

/-- What is known of a slice of integers that came in, by the list of its elements. -/
theorem isRow_arg {k : IntKind} {w : World} {a : Option Addr} {len cap : Nat} {zs : List Int} (h : IsRow k w a len cap zs) : ∃ l : List Int, l.length = len ∧ Arg k w a len (fun i => l.getD i 0) ∧ len ≤ cap ∧ cap ≤ maxLen ∧ ∀ n ∈ l, (Lit.int k n).wf = true := by
  rcases h with ⟨rfl, rfl, rfl, rfl⟩ | ⟨⟨g, o, sp⟩, rfl, h1, h2, h3, h4, h5⟩
  · exact ⟨[], rfl, fun h => absurd h (Nat.lt_irrefl 0), Nat.le_refl _, by unfold maxLen; omega, fun _ h => by cases h⟩
  · refine ⟨zs.take len, by rw [List.length_take]; omega, fun h0 => ?_, h1, h2, fun n hn => h5 n (List.mem_of_mem_take hn)⟩
    have hs := h4 0 (by omega)
    have hsp : sp = none := by simpa [Addr.add] using World.cell?_spot hs
    subst hsp
    refine ⟨g, o, rfl, World.block_lt_of_cell? w _ hs, fun i hi => ?_⟩
    have := h4 i (by omega)
    rw [Addr.add_lit] at this
    rw [this]
    simp [List.getD, hi]

theorem by_wf {l : List Int} (h : ∀ n ∈ l, (Lit.int .u8 n).wf = true) : By l := by_of (fun x hx => by
  have := h x hx
  simp [Lit.wf, IntKind.min, IntKind.max, IntKind.signed, IntKind.bits] at this
  omega)
theorem i64_wf {l : List Int} (h : ∀ n ∈ l, (Lit.int .i64 n).wf = true) (i : Nat) : -9223372036854775808 ≤ l.getD i 0 ∧ l.getD i 0 ≤ 9223372036854775807 := by
  by_cases hi : i < l.length
  · have e : l.getD i 0 = l[i] := by simp [List.getD, List.getElem?_eq_getElem hi]
    rw [e]
    have := h _ (List.getElem_mem hi)
    simp [Lit.wf, IntKind.min, IntKind.max, IntKind.signed, IntKind.bits] at this
    omega
  · have e : l.getD i 0 = 0 := by simp [List.getD, List.getElem?_eq_none (Nat.not_lt.1 hi)]
    rw [e]; omega
end Go.Proofs.YthipghkhdlnfiaaDoor
