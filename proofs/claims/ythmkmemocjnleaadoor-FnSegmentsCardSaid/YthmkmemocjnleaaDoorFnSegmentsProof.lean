/-
  FnSegments: for every input the law returns true, and each argument reads afterwards as it read before. No condition is added to the given statement. The tables that the row lists are tied by its card. (The frame is written by a program; the walk is in YthmkmemocjnleaaDoorFnSegmentsWalk.)
-/
import Derived.Test.YthmkmemocjnleaaDoorFnSegmentsWalk
import Derived.Test.YthmkmemocjnleaaDoorCards
import Derived.Test.YthmkmemocjnleaaDoorTie
import Derived.ProofKit
import Derived.OpenShut
import Derived.ShutString
import Derived.ChangeOld
import Derived.Below
import Derived.Deep.DeepHandedRow
import Derived.Lib.LaidTab
import Derived.Stop.LaidErr
namespace Go.Proofs.YthmkmemocjnleaaDoor.fnSegments
open Go.ChangeShapes Go.WideShapes Go.ChangeAt Go.RowKit
open Go.ChangeMaps (open_string shut_string)
set_option linter.unusedVariables false

theorem own : ownKnob Tryd.prog.godebug = none := by kernel_rfl
theorem laidOut : laidOutB Tryd.prog = true := by kernel_rfl
theorem gTab0 : Tryd.prog.globalNamed "pub-weftwise/pub/image/vp8.lutShift" = some 0 := by kernel_rfl
theorem gTab1 : Tryd.prog.globalNamed "pub-weftwise/pub/image/vp8.lutRangeM1" = some 1 := by kernel_rfl
theorem gTy0 : (Tryd.prog.globals[0]?).map (·.type) = some 182 := by kernel_rfl
theorem gTy1 : (Tryd.prog.globals[1]?).map (·.type) = some 182 := by kernel_rfl
theorem cellsA : Tryd.prog.cellsOf 182 = 127 := by kernel_rfl
theorem cellsE : Tryd.prog.cellsOf 5 = 1 := by kernel_rfl
def rangeTab : List Int := [127, 127, 191, 127, 159, 191, 223, 127, 143, 159, 175, 191, 207, 223, 239, 127, 135, 143, 151, 159, 167, 175, 183, 191, 199, 207, 215, 223, 231, 239, 247, 127, 131, 135, 139, 143, 147, 151, 155, 159, 163, 167, 171, 175, 179, 183, 187, 191, 195, 199, 203, 207, 211, 215, 219, 223, 227, 231, 235, 239, 243, 247, 251, 127, 129, 131, 133, 135, 137, 139, 141, 143, 145, 147, 149, 151, 153, 155, 157, 159, 161, 163, 165, 167, 169, 171, 173, 175, 177, 179, 181, 183, 185, 187, 189, 191, 193, 195, 197, 199, 201, 203, 205, 207, 209, 211, 213, 215, 217, 219, 221, 223, 225, 227, 229, 231, 233, 235, 237, 239, 241, 243, 245, 247, 249, 251, 253]

/-- What the row's list gives. -/
theorem tabs {W : World} (h : laidMetH Tryd.prog Rows.fnSegmentsRow.laid W) : Tabs W := by
  have h1 : Lib.TabIs Tryd.prog W "pub-weftwise/pub/image/vp8.lutShift" .u8 shiftTab := Lib.tabIs_of_head (rest := _) gTab0 gTy0 Tryd.underlying182 Tryd.underlying5 cellsE cellsA h
  have h2 : Lib.TabIs Tryd.prog W "pub-weftwise/pub/image/vp8.lutRangeM1" .u8 rangeTab := Lib.tabIs_of_head (rest := []) gTab1 gTy1 Tryd.underlying182 Tryd.underlying5 cellsE cellsA (laidMet.tail h)
  intro i hi
  refine ⟨h1.cell gTab0 i hi, ?_⟩
  have e : rangeTab.getD i 0 = ((i : Int) + 1) * 2 ^ (shiftTab.getD i 0).toNat - 1 := (by decide +kernel : ∀ i : Nat, i < 127 → rangeTab.getD i 0 = ((i : Int) + 1) * 2 ^ (shiftTab.getD i 0).toNat - 1) i hi
  have := h2.cell gTab1 i hi
  rw [e] at this
  exact this

set_option maxRecDepth 100000 in
theorem contract (H : Type) (enc : TypeId × Value → H) (W : World) (base : Nat) (args : Array Value) (ds gs : List (DataW H)) (before : List MemPlace)
    (hval : ∀ (j : Nat) t v, Tryd.f6.params[j]? = some t → args[j]? = some v → Value.okWide Tryd.prog W .any base t v)
    (hW : DataW.Whole enc Tryd.prog Tryd.f6.params.toList Rows.fnSegmentsSpec.vars false W args.toList ds gs before) (hL : laidMetH Tryd.prog Rows.fnSegmentsRow.laid W) :
    Calls Tryd.prog 6 args W fun e W' => ∃ v, e = .returned v ∧ Rows.fnSegmentsSpec.post enc Tryd.prog Tryd.f6 false true false false W args v W' := by
  have hW' := hW
  obtain ⟨p, q, hA0, hV, rfl, hfz, hnd⟩ := hW
  have hA : DataW.TrodAll enc Tryd.prog W 0 (fun _ => true) true Tryd.f6.params.toList args.toList ds p := hA0
  rw [Tryd.params6] at hA hval
  obtain ⟨v0, vs0, d0, ds0, p0, q0, hargs, rfl, rfl, h0, r0⟩ := trodAll_cons hA
  obtain ⟨rfl, rfl, rfl⟩ := trodAll_nil r0
  obtain rfl : args = #[v0] := by cases args; simp_all
  obtain ⟨rfl, rfl⟩ := trodVars_none hV
  obtain ⟨a0, len0, cap0, rfl⟩ := okWide_slice Tryd.underlying22 (hval 0 22 v0 rfl rfl)
  have k0 := h0
  have lt0 : ∀ x ∈ p0, x.block < W.heap.size := by obtain ⟨m, hm⟩ := k0; exact DataW.trod_lt m _ _ _ hm
  obtain ⟨z0, w0⟩ : ∃ zs, IsRow .u8 W a0 len0 cap0 zs := by
    obtain ⟨fuel, hf⟩ := h0
    rcases open_ints Tryd.underlying22 Tryd.underlying5 (by kernel_rfl) hf with ⟨hcs, _⟩ | ⟨x, l, c, zs, hcs, _, hl, hm, hz, _, hcell, hwz⟩
    · simp [Value.cells] at hcs
      obtain ⟨rfl, rfl, rfl⟩ := hcs
      exact ⟨[], .inl ⟨rfl, rfl, rfl, rfl⟩⟩
    · simp [Value.cells] at hcs
      obtain ⟨rfl, rfl, rfl⟩ := hcs
      exact ⟨zs, .inr ⟨_, rfl, hl, hm, by simpa using hz, hcell, hwz⟩⟩
  clear hA0
  refine (fnSegments_walk W (tabs hL) a0 len0 cap0 z0 w0).mono fun e W' ⟨he, bel⟩ => ?_
  subst he
  exact ⟨_, rfl, _, _, _, [], _, [], hW', trodAll_mk1 (shut_bool Tryd.underlying4 _), (trodAll_cons_mk (Below.trod laidOut (by kernel_rfl) (of_decide_eq_true (by kernel_rfl)) k0 bel lt0) trodAll_mk0), rfl, bel.frame _, fun h => by cases h⟩

/-- A world for the witness: the settled one, the tables holding what their initialisers lay. -/
def lay (zs : List Int) : Go.Obj → Go.Obj
  | .cells _ t frozen => .cells (zs.map (Value.int .u8)).toArray t frozen
  | o => o
noncomputable def laidWorld (os : Os) : World :=
  { World.holding Tryd.prog os ⟨#[], #[], []⟩ with heap := ((World.holding Tryd.prog os ⟨#[], #[], []⟩).heap.modify 0 (lay shiftTab)).modify 1 (lay rangeTab) }
theorem laid_met (os : Os) : laidMet Tryd.prog Rows.fnSegmentsRow.laid ((laidWorld os).forCall (fun _ _ => 0) ⟨#[], #[.slice none 0 0], []⟩).memory :=
  laidMet_of_run' 8 (by kernel_rfl) (by kernel_rfl)
theorem reads (os : Os) {H : Type} (enc : TypeId × Value → H) : ∃ places, DataW.whole enc Tryd.prog ((laidWorld os).forCall (fun _ _ => 0) ⟨#[], #[.slice none 0 0], []⟩).memory Tryd.f6.params.toList Rows.fnSegmentsSpec.vars false (#[.slice none 0 0] : Array Value).toList 8 = some ([.nil], [], places) :=
  ⟨[], by kernel_rfl⟩

set_option maxRecDepth 100000 in
theorem lifted (os : Os) (started : os.Started) (H : Type) (enc : TypeId × Value → H) (F : Stop.Interp) :
    ReturnsInHanded {} Tryd.checked os 6 .any ((OpenSpec.ofChange Rows.fnSegmentsSpec).preRow enc Tryd.prog Tryd.f6 Rows.fnSegmentsRow.domain false Rows.fnSegmentsRow.laid) (((OpenSpec.ofChange Rows.fnSegmentsSpec).at F).post enc Tryd.prog Tryd.f6 false true false false) := by
  obtain ⟨places, hx⟩ := reads os enc
  refine returnsInHanded_of_row (C := Tryd.checked) (s := OpenSpec.ofChange Rows.fnSegmentsSpec) own started (by kernel_rfl) Tryd.func6
    (witness_row_at (enc := enc) (C := Tryd.checked) false (laidWorld os) #[.slice none 0 0] rfl (by kernel_rfl) (by kernel_rfl) (by kernel_rfl)
      (OpenSpec.preRow_of_cond 8 hx (by kernel_rfl) (fun k hk => by cases hk) (by kernel_rfl) (laid_met os))) ?_
  intro W base args ds gs before hval hW _ _ _ hL _ _
  exact contract H enc W base args ds gs before hval hW hL

theorem said : Rows.FnSegmentsSaid :=
  OpenClaim.holds_of_cond 6 Tryd.f6 rfl rfl rfl rfl rfl rfl rfl ⟨rfl, rfl, rfl, rfl, rfl⟩ rfl rfl rfl rfl rfl (by kernel_rfl) Tryd.func6 (by kernel_rfl)
    (of_decide_eq_true (by kernel_rfl)) (by unfold Func.isWrapper; first | (rw [if_pos (by decide +kernel)]; kernel_rfl) | (rw [if_neg (by decide +kernel)]; exact ⟨rfl, rfl⟩))
    (fun os started H enc _ F => by rw [OpenClaim.pre_eq_preRow]; exact lifted os started H enc F)

/-- No parameter wants a stand-in; the program's own looks are off: what the card asks. -/
theorem plain (f : FuncId) (fn : Func) (hf : Tryd.pinned.checked.prog.funcNamed "pub-weftwise/laws.FnSegments" = some f) (hfn : Tryd.pinned.checked.prog.funcs[f]? = some fn) :
    false = Tryd.pinned.checked.prog.looks [] ∧ ∀ (j : Nat) t, fn.params[j]? = some t → Tryd.pinned.checked.prog.wantsStandIn t = false := by
  obtain rfl : f = 6 := Option.some.inj ((show Tryd.prog.funcNamed "pub-weftwise/laws.FnSegments" = some 6 by kernel_rfl).symm.trans hf) |>.symm
  obtain rfl : fn = Tryd.f6 := (Option.some.inj (Tryd.func6.symm.trans hfn)).symm
  refine ⟨by kernel_rfl, fun j t ht => ?_⟩
  rw [Tryd.params6] at ht
  have hm : t ∈ [22] := by
    have h0 := Array.mem_of_getElem? ht
    simp at h0
    simp [h0]
  simp only [List.mem_cons, List.not_mem_nil, or_false] at hm
  subst hm
  · exact (show Tryd.prog.wantsStandIn 22 = false by kernel_rfl)

theorem proved : Rows.FnSegmentsCardSaid :=
  Claim7.holds_tied_plain_at .later [] _ _ _ _ said (fun _ h => by cases h) (by kernel_rfl) (fun _ h => by cases h) fnSegments_row_tie rfl ⟨rfl, rfl⟩ (by kernel_rfl) rfl plain (by kernel_rfl)
#print axioms proved
end Go.Proofs.YthmkmemocjnleaaDoor.fnSegments
