/-
  FnFilters: for every input the law returns true, and each argument reads afterwards as it read before. No condition is added to the given statement. The tables that the row lists are tied by its card. (The frame is written by a program; the walk is in YthmkmemocjnleaaDoorFnFiltersWalk.)
-/
import Derived.Test.YthmkmemocjnleaaDoorFnFiltersWalk
import Derived.Test.YthmkmemocjnleaaDoorCards
import Derived.Test.YthmkmemocjnleaaDoorTie
import Derived.ProofKit
import Derived.OpenShut
import Derived.ShutString
import Derived.ChangeOld
import Derived.Below
import Derived.Deep.DeepHandedRow
import Derived.Lib.LaidTab
import Derived.Stop.LaidErr
namespace Go.Proofs.YthmkmemocjnleaaDoor.fnFilters
open Go.ChangeShapes Go.WideShapes Go.ChangeAt Go.RowKit
open Go.ChangeMaps (open_string shut_string)
set_option linter.unusedVariables false

theorem own : ownKnob Tryd.prog.godebug = none := by kernel_rfl
theorem laidOut : laidOutB Tryd.prog = true := by kernel_rfl
theorem gTab0 : Tryd.prog.globalNamed "pub-weftwise/pub/image/vp8.lutShift" = some 0 := by kernel_rfl
theorem gTab1 : Tryd.prog.globalNamed "pub-weftwise/pub/image/vp8.lutRangeM1" = some 1 := by kernel_rfl
theorem gTy0 : (Tryd.prog.globals[0]?).map (·.type) = some 182 := by kernel_rfl
theorem gTy1 : (Tryd.prog.globals[1]?).map (·.type) = some 182 := by kernel_rfl
theorem cellsA : Tryd.prog.cellsOf 182 = 127 := by kernel_rfl
theorem cellsE : Tryd.prog.cellsOf 5 = 1 := by kernel_rfl
def rangeTab : List Int := [127, 127, 191, 127, 159, 191, 223, 127, 143, 159, 175, 191, 207, 223, 239, 127, 135, 143, 151, 159, 167, 175, 183, 191, 199, 207, 215, 223, 231, 239, 247, 127, 131, 135, 139, 143, 147, 151, 155, 159, 163, 167, 171, 175, 179, 183, 187, 191, 195, 199, 203, 207, 211, 215, 219, 223, 227, 231, 235, 239, 243, 247, 251, 127, 129, 131, 133, 135, 137, 139, 141, 143, 145, 147, 149, 151, 153, 155, 157, 159, 161, 163, 165, 167, 169, 171, 173, 175, 177, 179, 181, 183, 185, 187, 189, 191, 193, 195, 197, 199, 201, 203, 205, 207, 209, 211, 213, 215, 217, 219, 221, 223, 225, 227, 229, 231, 233, 235, 237, 239, 241, 243, 245, 247, 249, 251, 253]

/-- What the row's list gives. -/
theorem tabs {W : World} (h : laidMetH Tryd.prog Rows.fnFiltersRow.laid W) : Tabs W := by
  have h1 : Lib.TabIs Tryd.prog W "pub-weftwise/pub/image/vp8.lutShift" .u8 shiftTab := Lib.tabIs_of_head (rest := _) gTab0 gTy0 Tryd.underlying182 Tryd.underlying5 cellsE cellsA h
  have h2 : Lib.TabIs Tryd.prog W "pub-weftwise/pub/image/vp8.lutRangeM1" .u8 rangeTab := Lib.tabIs_of_head (rest := []) gTab1 gTy1 Tryd.underlying182 Tryd.underlying5 cellsE cellsA (laidMet.tail h)
  intro i hi
  refine ⟨h1.cell gTab0 i hi, ?_⟩
  have e : rangeTab.getD i 0 = ((i : Int) + 1) * 2 ^ (shiftTab.getD i 0).toNat - 1 := (by decide +kernel : ∀ i : Nat, i < 127 → rangeTab.getD i 0 = ((i : Int) + 1) * 2 ^ (shiftTab.getD i 0).toNat - 1) i hi
  have := h2.cell gTab1 i hi
  rw [e] at this
  exact this

set_option maxRecDepth 100000 in
theorem contract (H : Type) (enc : TypeId × Value → H) (W : World) (base : Nat) (args : Array Value) (ds gs : List (DataW H)) (before : List MemPlace)
    (hval : ∀ (j : Nat) t v, Tryd.f8.params[j]? = some t → args[j]? = some v → Value.okWide Tryd.prog W .any base t v)
    (hW : DataW.Whole enc Tryd.prog Tryd.f8.params.toList Rows.fnFiltersSpec.vars false W args.toList ds gs before) (hL : laidMetH Tryd.prog Rows.fnFiltersRow.laid W) :
    Calls Tryd.prog 8 args W fun e W' => ∃ v, e = .returned v ∧ Rows.fnFiltersSpec.post enc Tryd.prog Tryd.f8 false true false false W args v W' := by
  have hW' := hW
  obtain ⟨p, q, hA0, hV, rfl, hfz, hnd⟩ := hW
  have hA : DataW.TrodAll enc Tryd.prog W 0 (fun _ => true) true Tryd.f8.params.toList args.toList ds p := hA0
  rw [Tryd.params8] at hA hval
  obtain ⟨v0, vs0, d0, ds0, p0, q0, hargs, rfl, rfl, h0, r0⟩ := trodAll_cons hA
  obtain ⟨v1, vs1, d1, ds1, p1, q1, rfl, rfl, rfl, h1, r1⟩ := trodAll_cons r0
  obtain ⟨v2, vs2, d2, ds2, p2, q2, rfl, rfl, rfl, h2, r2⟩ := trodAll_cons r1
  obtain ⟨v3, vs3, d3, ds3, p3, q3, rfl, rfl, rfl, h3, r3⟩ := trodAll_cons r2
  obtain ⟨rfl, rfl, rfl⟩ := trodAll_nil r3
  obtain rfl : args = #[v0, v1, v2, v3] := by cases args; simp_all
  obtain ⟨rfl, rfl⟩ := trodVars_none hV
  obtain ⟨a0, len0, cap0, rfl⟩ := okWide_slice Tryd.underlying22 (hval 0 22 v0 rfl rfl)
  have k0 := h0
  have lt0 : ∀ x ∈ p0, x.block < W.heap.size := by obtain ⟨m, hm⟩ := k0; exact DataW.trod_lt m _ _ _ hm
  obtain ⟨z0, w0⟩ : ∃ zs, IsRow .u8 W a0 len0 cap0 zs := by
    obtain ⟨fuel, hf⟩ := h0
    rcases open_ints Tryd.underlying22 Tryd.underlying5 (by kernel_rfl) hf with ⟨hcs, _⟩ | ⟨x, l, c, zs, hcs, _, hl, hm, hz, _, hcell, hwz⟩
    · simp [Value.cells] at hcs
      obtain ⟨rfl, rfl, rfl⟩ := hcs
      exact ⟨[], .inl ⟨rfl, rfl, rfl, rfl⟩⟩
    · simp [Value.cells] at hcs
      obtain ⟨rfl, rfl, rfl⟩ := hcs
      exact ⟨zs, .inr ⟨_, rfl, hl, hm, by simpa using hz, hcell, hwz⟩⟩
  obtain ⟨a1, rfl, rfl, rfl⟩ := open_bool Tryd.underlying4 (hval 1 4 v1 rfl rfl) h1
  obtain ⟨a2, rfl, rfl, rfl⟩ := open_bool Tryd.underlying4 (hval 2 4 v2 rfl rfl) h2
  obtain ⟨cs3, rfl, _⟩ := okWide_array Tryd.underlying40 (hval 3 40 v3 rfl rfl)
  have k3 := h3
  have lt3 : ∀ x ∈ p3, x.block < W.heap.size := by obtain ⟨m, hm⟩ := k3; exact DataW.trod_lt m _ _ _ hm
  obtain ⟨z3, e3, w3⟩ : ∃ f : Nat → Int, cs3 = (cellsOf .i64 4 f).toArray ∧ ∀ i, i < 4 → (Lit.int .i64 (f i)).wf = true := by
    obtain ⟨fuel, hf⟩ := h3
    obtain ⟨f, e, hw⟩ := open_ints_val Tryd.underlying40 Tryd.underlying3 (by kernel_rfl) (by kernel_rfl) hf
    exact ⟨f, by rw [← e]; simp [Value.cells], hw⟩
  subst e3
  clear hA0
  refine (fnFilters_walk W (tabs hL) a0 len0 cap0 z0 w0 a1 a2 z3 w3).mono fun e W' ⟨he, bel⟩ => ?_
  subst he
  exact ⟨_, rfl, _, _, _, [], _, [], hW', trodAll_mk1 (shut_bool Tryd.underlying4 _), (trodAll_cons_mk (Below.trod laidOut (by kernel_rfl) (of_decide_eq_true (by kernel_rfl)) k0 bel lt0) (trodAll_cons_mk (shut_bool Tryd.underlying4 _) (trodAll_cons_mk (shut_bool Tryd.underlying4 _) (trodAll_cons_mk (Below.trod laidOut (by kernel_rfl) (of_decide_eq_true (by kernel_rfl)) k3 bel lt3) trodAll_mk0)))), rfl, bel.frame _, fun h => by cases h⟩

/-- A world for the witness: the settled one, the tables holding what their initialisers lay. -/
def lay (zs : List Int) : Go.Obj → Go.Obj
  | .cells _ t frozen => .cells (zs.map (Value.int .u8)).toArray t frozen
  | o => o
noncomputable def laidWorld (os : Os) : World :=
  { World.holding Tryd.prog os ⟨#[], #[], []⟩ with heap := ((World.holding Tryd.prog os ⟨#[], #[], []⟩).heap.modify 0 (lay shiftTab)).modify 1 (lay rangeTab) }
theorem laid_met (os : Os) : laidMet Tryd.prog Rows.fnFiltersRow.laid ((laidWorld os).forCall (fun _ _ => 0) ⟨#[], #[.slice none 0 0, .bool false, .bool false, .agg #[.int .i64 0, .int .i64 0, .int .i64 0, .int .i64 0]], []⟩).memory :=
  laidMet_of_run' 8 (by kernel_rfl) (by kernel_rfl)
theorem reads (os : Os) {H : Type} (enc : TypeId × Value → H) : ∃ places, DataW.whole enc Tryd.prog ((laidWorld os).forCall (fun _ _ => 0) ⟨#[], #[.slice none 0 0, .bool false, .bool false, .agg #[.int .i64 0, .int .i64 0, .int .i64 0, .int .i64 0]], []⟩).memory Tryd.f8.params.toList Rows.fnFiltersSpec.vars false (#[.slice none 0 0, .bool false, .bool false, .agg #[.int .i64 0, .int .i64 0, .int .i64 0, .int .i64 0]] : Array Value).toList 8 = some ([.nil, (.lit (.bool false)), (.lit (.bool false)), .agg [(.lit (.int .i64 0)), (.lit (.int .i64 0)), (.lit (.int .i64 0)), (.lit (.int .i64 0))]], [], places) :=
  ⟨[], by kernel_rfl⟩

set_option maxRecDepth 100000 in
theorem lifted (os : Os) (started : os.Started) (H : Type) (enc : TypeId × Value → H) (F : Stop.Interp) :
    ReturnsInHanded {} Tryd.checked os 8 .any ((OpenSpec.ofChange Rows.fnFiltersSpec).preRow enc Tryd.prog Tryd.f8 Rows.fnFiltersRow.domain false Rows.fnFiltersRow.laid) (((OpenSpec.ofChange Rows.fnFiltersSpec).at F).post enc Tryd.prog Tryd.f8 false true false false) := by
  obtain ⟨places, hx⟩ := reads os enc
  refine returnsInHanded_of_row (C := Tryd.checked) (s := OpenSpec.ofChange Rows.fnFiltersSpec) own started (by kernel_rfl) Tryd.func8
    (witness_row_at (enc := enc) (C := Tryd.checked) false (laidWorld os) #[.slice none 0 0, .bool false, .bool false, .agg #[.int .i64 0, .int .i64 0, .int .i64 0, .int .i64 0]] rfl (by kernel_rfl) (by kernel_rfl) (by kernel_rfl)
      (OpenSpec.preRow_of_cond 8 hx (by kernel_rfl) (fun k hk => by cases hk) (by kernel_rfl) (laid_met os))) ?_
  intro W base args ds gs before hval hW _ _ _ hL _ _
  exact contract H enc W base args ds gs before hval hW hL

theorem said : Rows.FnFiltersSaid :=
  OpenClaim.holds_of_cond 8 Tryd.f8 rfl rfl rfl rfl rfl rfl rfl ⟨rfl, rfl, rfl, rfl, rfl⟩ rfl rfl rfl rfl rfl (by kernel_rfl) Tryd.func8 (by kernel_rfl)
    (of_decide_eq_true (by kernel_rfl)) (by unfold Func.isWrapper; first | (rw [if_pos (by decide +kernel)]; kernel_rfl) | (rw [if_neg (by decide +kernel)]; exact ⟨rfl, rfl⟩))
    (fun os started H enc _ F => by rw [OpenClaim.pre_eq_preRow]; exact lifted os started H enc F)

/-- No parameter wants a stand-in; the program's own looks are off: what the card asks. -/
theorem plain (f : FuncId) (fn : Func) (hf : Tryd.pinned.checked.prog.funcNamed "pub-weftwise/laws.FnFilters" = some f) (hfn : Tryd.pinned.checked.prog.funcs[f]? = some fn) :
    false = Tryd.pinned.checked.prog.looks [] ∧ ∀ (j : Nat) t, fn.params[j]? = some t → Tryd.pinned.checked.prog.wantsStandIn t = false := by
  obtain rfl : f = 8 := Option.some.inj ((show Tryd.prog.funcNamed "pub-weftwise/laws.FnFilters" = some 8 by kernel_rfl).symm.trans hf) |>.symm
  obtain rfl : fn = Tryd.f8 := (Option.some.inj (Tryd.func8.symm.trans hfn)).symm
  refine ⟨by kernel_rfl, fun j t ht => ?_⟩
  rw [Tryd.params8] at ht
  have hm : t ∈ [22, 4, 40] := by
    have h0 := Array.mem_of_getElem? ht
    simp at h0
    rcases h0 with h | h | h <;> simp [h]
  simp only [List.mem_cons, List.not_mem_nil, or_false] at hm
  rcases hm with rfl | rfl | rfl
  · exact (show Tryd.prog.wantsStandIn 22 = false by kernel_rfl)
  · exact (show Tryd.prog.wantsStandIn 4 = false by kernel_rfl)
  · exact (show Tryd.prog.wantsStandIn 40 = false by kernel_rfl)

theorem proved : Rows.FnFiltersCardSaid :=
  Claim7.holds_tied_plain_at .later [] _ _ _ _ said (fun _ h => by cases h) (by kernel_rfl) (fun _ h => by cases h) fnFilters_row_tie rfl ⟨rfl, rfl⟩ (by kernel_rfl) rfl plain (by kernel_rfl)
#print axioms proved
end Go.Proofs.YthmkmemocjnleaaDoor.fnFilters
