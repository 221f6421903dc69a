/- What the rows of the laws on prefix codes list, as the walks take it. -/
import Derived.Test.YtdmefbpfpmkdcaaDoorHTree
import Derived.Test.YtdmefbpfpmkdcaaDoorErrs
import Derived.Lib.LaidTab
import Derived.Stop.LaidErr
import Derived.LaidSub
import Derived.KernelRfl
namespace Go.Proofs.YtdmefbpfpmkdcaaDoor
open Go.RowKit
set_option linter.unusedVariables false

theorem sent_of {P : Program} {n nm : String} {text : List UInt8} {r : List (String × DataW Unit)} {W : World} {g : Nat} {ti tp te ts : TypeId} {ms : Array (String × TypeId)} {f : Field}
    (h : laidMet P ((n, .iface nm (.ptr (.agg [.lit (.string text)]))) :: r) W)
    (hg : P.globalNamed n = some g) (ht : (P.globals[g]?).map (·.type) = some ti) (hi : P.underlying ti = some (.interface ms)) (hrow : ∀ u, P.typeName? 3 u = some nm → u = tp)
    (hp : P.underlying tp = some (.pointer te)) (he : P.underlying te = some (.struct #[f])) (hft : f.type = ts) (hfo : f.offset = 0) (hs : P.underlying ts = some .string) (hc : P.cellsOf te = 1) (hcs : P.cellsOf ts = 1) :
    ∃ a : Addr, W.cell? ⟨g, 0, none⟩ = some (.iface tp (.pointer (some a))) ∧ (∃ x : ByteArray, W.cell? a = some (.string x) ∧ x.data.toList = text) ∧ (∃ cs t, W.heap[a.block]? = some (.cells cs t (0, 0))) ∧ g < W.heap.size ∧ a.block < W.heap.size := by
  obtain ⟨ps, ⟨g0, t0, cs0, f0, p0, q0, hg0, ht0, hv0, hd0, _, e0⟩, _, hrows⟩ := h
  obtain rfl := Option.some.inj (hg.symm.trans hg0)
  obtain rfl := Option.some.inj (ht.symm.trans ht0)
  subst e0
  obtain ⟨l0⟩ := cs0
  have ok0 : ∀ u v, l0 = [.iface u v] → Value.okWide P W .any 0 u v := fun u v e => by
    subst e
    exact (hrows g 0 (by simp [MemPlace.row])).2 u v (by simpa using World.var?_cell hg0 hv0 0)
  obtain ⟨a0, s0, rfl, hc0, hs0, hz0, rfl⟩ := errorString_of_trod hi hrow hp he hft hfo hs hc hcs hd0 ok0
  have hv : W.cell? ⟨g, 0, none⟩ = some (.iface tp (.pointer (some a0))) := by simpa using World.var?_cell hg0 hv0 0
  have hb := (hrows a0.block a0.off (by simp [MemPlace.row])).1
  exact ⟨a0, hv, ⟨s0, hc0, hs0⟩, hb, World.block_lt_of_cell? W _ hv, World.block_lt_of_cell? W _ hc0⟩
theorem star_err : "*" ++ "errors.errorString" = "*errors.errorString" := by decide
theorem row_err (u : TypeId) (h : Tryd.prog.typeName? 3 u = some "*errors.errorString") : u = 117 :=
  typeName_ptr_named (nm := "errors.errorString") (by rw [star_err]; kernel_rfl) (by kernel_rfl) (by decide) u (by rw [star_err]; exact h)
/-- A sentinel error in memory: variable g leads to a, whose text is s. -/
def SentM (W : World) (g : Nat) (s : List UInt8) : Prop := ∃ a : Addr, W.cell? ⟨g, 0, none⟩ = some (.iface 117 (.pointer (some a))) ∧ (∃ x : ByteArray, W.cell? a = some (.string x) ∧ x.data.toList = s) ∧ (∃ cs t, W.heap[a.block]? = some (.cells cs t (0, 0))) ∧ g < W.heap.size ∧ a.block < W.heap.size
theorem SentM.some {W : World} {g : Nat} {s : List UInt8} (h : SentM W g s) : ∃ a, W.cell? ⟨g, 0, none⟩ = some (errV a) := by
  obtain ⟨a, h1, _⟩ := h
  exact ⟨a, h1⟩
/-- The table of turned bytes, reckoned. -/
def revTab : List Int := (List.range 256).map fun i => (trn i 8 : Int)
theorem rev_data : (Rows.laid_pub_weftwise_pub_image_vp8l_reverseBits : DataW Unit) = Lib.tabData .u8 revTab := by kernel_rfl
theorem revTab_at (i : Nat) (hi : i < 256) : revTab.getD i 0 = (trn i 8 : Int) := by
  rw [List.getD_eq_getElem?_getD]
  unfold revTab
  rw [List.getElem?_map, List.getElem?_range hi]; rfl
theorem gRev : Tryd.prog.globalNamed "pub-weftwise/pub/image/vp8l.reverseBits" = some 4 := by kernel_rfl
theorem gRevTy : (Tryd.prog.globals[4]?).map (·.type) = some 113 := by kernel_rfl
theorem revCells : Tryd.prog.cellsOf 113 = 256 := by kernel_rfl
theorem u8Cells : Tryd.prog.cellsOf 5 = 1 := by kernel_rfl
theorem revT_of {W : World} {rest : List (String × DataW Unit)} (h : laidMet Tryd.prog (("pub-weftwise/pub/image/vp8l.reverseBits", Rows.laid_pub_weftwise_pub_image_vp8l_reverseBits) :: rest) W) : RevT W := by
  rw [rev_data] at h
  have h1 : Lib.TabIs Tryd.prog W "pub-weftwise/pub/image/vp8l.reverseBits" .u8 revTab := Lib.tabIs_of_head gRev gRevTy Tryd.underlying113 Tryd.underlying5 u8Cells revCells h
  intro i hi
  rw [← revTab_at i hi]
  exact h1.cell gRev i (by simpa [revTab] using hi)
/-- What the walks take. -/
def Laid (w : World) : Prop := RevT w ∧ SntE w
theorem sntE_of {W : World} {rest : List (String × DataW Unit)} (h : laidMet Tryd.prog (("io.EOF", Rows.laid_io_EOF) :: ("io.ErrUnexpectedEOF", Rows.laid_io_ErrUnexpectedEOF) :: rest) W) : SntE W :=
  ⟨SentM.some (g := 0) (sent_of h (by kernel_rfl : Tryd.prog.globalNamed "io.EOF" = some 0) (by kernel_rfl : (Tryd.prog.globals[0]?).map (·.type) = some 63) Tryd.underlying63 row_err Tryd.underlying117 Tryd.underlying136 rfl rfl Tryd.underlying9 (by kernel_rfl) (by kernel_rfl)),
   SentM.some (g := 1) (sent_of (laidMet.tail h) (by kernel_rfl : Tryd.prog.globalNamed "io.ErrUnexpectedEOF" = some 1) (by kernel_rfl : (Tryd.prog.globals[1]?).map (·.type) = some 63) Tryd.underlying63 row_err Tryd.underlying117 Tryd.underlying136 rfl rfl Tryd.underlying9 (by kernel_rfl) (by kernel_rfl))⟩
theorem laid_of {W : World} (h : laidMetH Tryd.prog Rows.fnSimpleRow.laid W) : Laid W := by
  have h0 : laidMet Tryd.prog Rows.fnSimpleRow.laid W := (laidMetH_iff.1 h).1
  exact ⟨revT_of (laidMet.tail (laidMet.tail (laidMet.tail h0))), sntE_of h0⟩
end Go.Proofs.YtdmefbpfpmkdcaaDoor
