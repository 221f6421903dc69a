/- What a listed sentinel error is in memory. -/
import Derived.Test.YthipghkhdlnfiaaDoorBase
import Derived.Stop.LaidErr
import Derived.LaidSub
import Derived.KernelRfl
namespace Go.Proofs.YthipghkhdlnfiaaDoor
open Go.RowKit
set_option linter.unusedVariables false

theorem sent_of {P : Program} {n nm : String} {text : List UInt8} {r : List (String × DataW Unit)} {W : World} {g : Nat} {ti tp te ts : TypeId} {ms : Array (String × TypeId)} {f : Field}
    (h : laidMet P ((n, .iface nm (.ptr (.agg [.lit (.string text)]))) :: r) W)
    (hg : P.globalNamed n = some g) (ht : (P.globals[g]?).map (·.type) = some ti) (hi : P.underlying ti = some (.interface ms)) (hrow : ∀ u, P.typeName? 3 u = some nm → u = tp)
    (hp : P.underlying tp = some (.pointer te)) (he : P.underlying te = some (.struct #[f])) (hft : f.type = ts) (hfo : f.offset = 0) (hs : P.underlying ts = some .string) (hc : P.cellsOf te = 1) (hcs : P.cellsOf ts = 1) :
    ∃ a : Addr, W.cell? ⟨g, 0, none⟩ = some (.iface tp (.pointer (some a))) ∧ (∃ x : ByteArray, W.cell? a = some (.string x) ∧ x.data.toList = text) ∧ (∃ cs t, W.heap[a.block]? = some (.cells cs t (0, 0))) ∧ g < W.heap.size ∧ a.block < W.heap.size := by
  obtain ⟨ps, ⟨g0, t0, cs0, f0, p0, q0, hg0, ht0, hv0, hd0, _, e0⟩, _, hrows⟩ := h
  obtain rfl := Option.some.inj (hg.symm.trans hg0)
  obtain rfl := Option.some.inj (ht.symm.trans ht0)
  subst e0
  obtain ⟨l0⟩ := cs0
  have ok0 : ∀ u v, l0 = [.iface u v] → Value.okWide P W .any 0 u v := fun u v e => by
    subst e
    exact (hrows g 0 (by simp [MemPlace.row])).2 u v (by simpa using World.var?_cell hg0 hv0 0)
  obtain ⟨a0, s0, rfl, hc0, hs0, hz0, rfl⟩ := errorString_of_trod hi hrow hp he hft hfo hs hc hcs hd0 ok0
  have hv : W.cell? ⟨g, 0, none⟩ = some (.iface tp (.pointer (some a0))) := by simpa using World.var?_cell hg0 hv0 0
  have hb := (hrows a0.block a0.off (by simp [MemPlace.row])).1
  exact ⟨a0, hv, ⟨s0, hc0, hs0⟩, hb, World.block_lt_of_cell? W _ hv, World.block_lt_of_cell? W _ hc0⟩
theorem star_err : "*" ++ "errors.errorString" = "*errors.errorString" := by decide
theorem row_err (u : TypeId) (h : Tryd.prog.typeName? 3 u = some "*errors.errorString") : u = 115 :=
  typeName_ptr_named (nm := "errors.errorString") (by rw [star_err]; kernel_rfl) (by kernel_rfl) (by decide) u (by rw [star_err]; exact h)
/-- A sentinel error in memory: variable g leads to a, whose text is s. -/
def SentM (W : World) (g : Nat) (s : List UInt8) : Prop := ∃ a : Addr, W.cell? ⟨g, 0, none⟩ = some (.iface 115 (.pointer (some a))) ∧ (∃ x : ByteArray, W.cell? a = some (.string x) ∧ x.data.toList = s) ∧ (∃ cs t, W.heap[a.block]? = some (.cells cs t (0, 0))) ∧ g < W.heap.size ∧ a.block < W.heap.size
/-- What the rows list of the sentinels that the readers of chunks name. -/
theorem sents {W : World} (h : laidMetH Tryd.prog Rows.fnRiffHeadsRow.laid W) :
    SentM W 0 [69, 79, 70] ∧ SentM W 1 [117, 110, 101, 120, 112, 101, 99, 116, 101, 100, 32, 69, 79, 70] ∧ SentM W 5 [114, 105, 102, 102, 58, 32, 109, 105, 115, 115, 105, 110, 103, 32, 112, 97, 100, 100, 105, 110, 103, 32, 98, 121, 116, 101] ∧ SentM W 2 [114, 105, 102, 102, 58, 32, 109, 105, 115, 115, 105, 110, 103, 32, 82, 73, 70, 70, 32, 99, 104, 117, 110, 107, 32, 104, 101, 97, 100, 101, 114] ∧ SentM W 4 [114, 105, 102, 102, 58, 32, 108, 105, 115, 116, 32, 115, 117, 98, 99, 104, 117, 110, 107, 32, 116, 111, 111, 32, 108, 111, 110, 103] ∧ SentM W 3 [114, 105, 102, 102, 58, 32, 115, 104, 111, 114, 116, 32, 99, 104, 117, 110, 107, 32, 100, 97, 116, 97] ∧ SentM W 6 [114, 105, 102, 102, 58, 32, 115, 104, 111, 114, 116, 32, 99, 104, 117, 110, 107, 32, 104, 101, 97, 100, 101, 114] := by
  have h0 : laidMet Tryd.prog Rows.fnRiffHeadsRow.laid W := (laidMetH_iff.1 h).1
  have h1 := laidMet.tail h0
  have h2 := laidMet.tail h1
  have h3 := laidMet.tail h2
  have h4 := laidMet.tail h3
  have h5 := laidMet.tail h4
  have h6 := laidMet.tail h5
  have h7 := laidMet.tail h6
  have h8 := laidMet.tail h7
  have h9 := laidMet.tail h8
  exact ⟨sent_of h3 (by kernel_rfl : Tryd.prog.globalNamed "io.EOF" = some 0) (by kernel_rfl : (Tryd.prog.globals[0]?).map (·.type) = some 58) Tryd.underlying58 row_err Tryd.underlying115 Tryd.underlying131 rfl rfl Tryd.underlying9 (by kernel_rfl) (by kernel_rfl),
    sent_of h4 (by kernel_rfl : Tryd.prog.globalNamed "io.ErrUnexpectedEOF" = some 1) (by kernel_rfl : (Tryd.prog.globals[1]?).map (·.type) = some 58) Tryd.underlying58 row_err Tryd.underlying115 Tryd.underlying131 rfl rfl Tryd.underlying9 (by kernel_rfl) (by kernel_rfl),
    sent_of h5 (by kernel_rfl : Tryd.prog.globalNamed "pub-weftwise/pub/image/riff.errMissingPaddingByte" = some 5) (by kernel_rfl : (Tryd.prog.globals[5]?).map (·.type) = some 58) Tryd.underlying58 row_err Tryd.underlying115 Tryd.underlying131 rfl rfl Tryd.underlying9 (by kernel_rfl) (by kernel_rfl),
    sent_of h6 (by kernel_rfl : Tryd.prog.globalNamed "pub-weftwise/pub/image/riff.errMissingRIFFChunkHeader" = some 2) (by kernel_rfl : (Tryd.prog.globals[2]?).map (·.type) = some 58) Tryd.underlying58 row_err Tryd.underlying115 Tryd.underlying131 rfl rfl Tryd.underlying9 (by kernel_rfl) (by kernel_rfl),
    sent_of h7 (by kernel_rfl : Tryd.prog.globalNamed "pub-weftwise/pub/image/riff.errListSubchunkTooLong" = some 4) (by kernel_rfl : (Tryd.prog.globals[4]?).map (·.type) = some 58) Tryd.underlying58 row_err Tryd.underlying115 Tryd.underlying131 rfl rfl Tryd.underlying9 (by kernel_rfl) (by kernel_rfl),
    sent_of h8 (by kernel_rfl : Tryd.prog.globalNamed "pub-weftwise/pub/image/riff.errShortChunkData" = some 3) (by kernel_rfl : (Tryd.prog.globals[3]?).map (·.type) = some 58) Tryd.underlying58 row_err Tryd.underlying115 Tryd.underlying131 rfl rfl Tryd.underlying9 (by kernel_rfl) (by kernel_rfl),
    sent_of h9 (by kernel_rfl : Tryd.prog.globalNamed "pub-weftwise/pub/image/riff.errShortChunkHeader" = some 6) (by kernel_rfl : (Tryd.prog.globals[6]?).map (·.type) = some 58) Tryd.underlying58 row_err Tryd.underlying115 Tryd.underlying131 rfl rfl Tryd.underlying9 (by kernel_rfl) (by kernel_rfl)⟩
end Go.Proofs.YthipghkhdlnfiaaDoor
