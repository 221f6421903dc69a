/- What the rows list, as the walks take it. -/
import Derived.Test.YthipghkhdlnfiaaDoorSent
import Derived.Test.YthipghkhdlnfiaaDoorRfT
namespace Go.Proofs.YthipghkhdlnfiaaDoor
open Go.RowKit
set_option linter.unusedVariables false

def Laid (w : World) : Prop := ∃ E U M S L P H, Sn w E U M S L P H
theorem SentM.snt {w : World} {g : Nat} {s : List UInt8} (h : SentM w g s) : ∃ a, Snt w.heap.size w g a s := by
  obtain ⟨a, h1, h2, h3, h4, h5⟩ := h
  exact ⟨a, h1, h2, h3, h4, h5⟩
theorem laid_of {W : World} (h : laidMetH Tryd.prog Rows.fnRiffHeadsRow.laid W) : Laid W := by
  obtain ⟨s1, s2, s3, s4, s5, s6, s7⟩ := sents h
  obtain ⟨E, hE⟩ := s1.snt
  obtain ⟨U, hU⟩ := s2.snt
  obtain ⟨P, hP⟩ := s3.snt
  obtain ⟨M, hM⟩ := s4.snt
  obtain ⟨L, hL⟩ := s5.snt
  obtain ⟨S, hS⟩ := s6.snt
  obtain ⟨H, hH⟩ := s7.snt
  exact ⟨E, U, M, S, L, P, H, hE, hU, hM, hS, hL, hP, hH⟩
theorem Laid.later {w w' : World} (h : Laid w) (hb : Below w.heap.size w w') : Laid w' := by
  obtain ⟨E, U, M, S, L, P, H, hs⟩ := h
  exact ⟨E, U, M, S, L, P, H, hs.later hb⟩
end Go.Proofs.YthipghkhdlnfiaaDoor
