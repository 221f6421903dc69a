/-
  FnPrefix: for every input the law returns true, and each argument reads afterwards as it read before. No condition is added to the given statement. The variables that the row lists are tied by its card. (The frame is written by a program; the walk is in YtdmefbpfpmkdcaaDoorFnPrefixWalk.)
-/
import Derived.Test.YtdmefbpfpmkdcaaDoorFnPrefixWalk
import Derived.Test.YtdmefbpfpmkdcaaDoorCards
import Derived.Test.YtdmefbpfpmkdcaaDoorTie
import Derived.ProofKit
import Derived.OpenShut
import Derived.ShutString
import Derived.ChangeOld
import Derived.Below
import Derived.Deep.DeepHandedRow
import Derived.Lib.LaidTab
import Derived.Stop.LaidErr
namespace Go.Proofs.YtdmefbpfpmkdcaaDoor.fnPrefix
open Go.ChangeShapes Go.WideShapes Go.ChangeAt Go.RowKit
open Go.ChangeMaps (open_string shut_string)
set_option linter.unusedVariables false

theorem own : ownKnob Tryd.prog.godebug = none := by kernel_rfl
theorem laidOut : laidOutB Tryd.prog = true := by kernel_rfl
set_option maxRecDepth 100000 in
theorem contract (H : Type) (enc : TypeId × Value → H) (W : World) (base : Nat) (args : Array Value) (ds gs : List (DataW H)) (before : List MemPlace)
    (hval : ∀ (j : Nat) t v, Tryd.f8.params[j]? = some t → args[j]? = some v → Value.okWide Tryd.prog W .any base t v)
    (hW : DataW.Whole enc Tryd.prog Tryd.f8.params.toList Rows.fnPrefixSpec.vars false W args.toList ds gs before) (hL : laidMetH Tryd.prog Rows.fnPrefixRow.laid W) :
    Calls Tryd.prog 8 args W fun e W' => ∃ v, e = .returned v ∧ Rows.fnPrefixSpec.post enc Tryd.prog Tryd.f8 false true false false W args v W' := by
  have hW' := hW
  obtain ⟨p, q, hA0, hV, rfl, hfz, hnd⟩ := hW
  have hA : DataW.TrodAll enc Tryd.prog W 0 (fun _ => true) true Tryd.f8.params.toList args.toList ds p := hA0
  rw [Tryd.params8] at hA hval
  obtain ⟨v0, vs0, d0, ds0, p0, q0, hargs, rfl, rfl, h0, r0⟩ := trodAll_cons hA
  obtain ⟨v1, vs1, d1, ds1, p1, q1, rfl, rfl, rfl, h1, r1⟩ := trodAll_cons r0
  obtain ⟨v2, vs2, d2, ds2, p2, q2, rfl, rfl, rfl, h2, r2⟩ := trodAll_cons r1
  obtain ⟨rfl, rfl, rfl⟩ := trodAll_nil r2
  obtain rfl : args = #[v0, v1, v2] := by cases args; simp_all
  obtain ⟨rfl, rfl⟩ := trodVars_none hV
  obtain ⟨a0, len0, cap0, rfl⟩ := okWide_slice Tryd.underlying23 (hval 0 23 v0 rfl rfl)
  have k0 := h0
  have lt0 : ∀ x ∈ p0, x.block < W.heap.size := by obtain ⟨m, hm⟩ := k0; exact DataW.trod_lt m _ _ _ hm
  obtain ⟨z0, w0⟩ : ∃ zs, IsRow .u8 W a0 len0 cap0 zs := by
    obtain ⟨fuel, hf⟩ := h0
    rcases open_ints Tryd.underlying23 Tryd.underlying5 (by kernel_rfl) hf with ⟨hcs, _⟩ | ⟨x, l, c, zs, hcs, _, hl, hm, hz, _, hcell, hwz⟩
    · simp [Value.cells] at hcs
      obtain ⟨rfl, rfl, rfl⟩ := hcs
      exact ⟨[], .inl ⟨rfl, rfl, rfl, rfl⟩⟩
    · simp [Value.cells] at hcs
      obtain ⟨rfl, rfl, rfl⟩ := hcs
      exact ⟨zs, .inr ⟨_, rfl, hl, hm, by simpa using hz, hcell, hwz⟩⟩
  obtain ⟨a1, rfl, rfl, rfl, w1⟩ := open_int Tryd.underlying3 (hval 1 3 v1 rfl rfl) h1
  obtain ⟨a2, rfl, rfl, rfl, w2⟩ := open_int Tryd.underlying3 (hval 2 3 v2 rfl rfl) h2
  clear hA0
  refine (fnPrefix_walk W (laidP_of hL) a0 len0 cap0 z0 w0 a1 w1 a2 w2).mono fun e W' ⟨he, bel⟩ => ?_
  subst he
  exact ⟨_, rfl, _, _, _, [], _, [], hW', trodAll_mk1 (shut_bool Tryd.underlying4 _), (trodAll_cons_mk (Below.trod laidOut (by kernel_rfl) (of_decide_eq_true (by kernel_rfl)) k0 bel lt0) (trodAll_cons_mk (shut_int Tryd.underlying3 w1) (trodAll_cons_mk (shut_int Tryd.underlying3 w2) trodAll_mk0))), rfl, bel.frame _, fun h => by cases h⟩

/-- A world for the witness: the settled one, the listed variables holding what their initialisers lay. -/
def lay (zs : Array Value) : Go.Obj → Go.Obj
  | .cells _ t frozen => .cells zs t frozen
  | o => o
noncomputable def low : Nat := (World.holding Tryd.prog default ⟨#[], #[], []⟩).heap.size
noncomputable def laidWorld (os : Os) : World :=
  let w0 := World.holding Tryd.prog os ⟨#[.cells #[.string { data := #[69, 79, 70] }] 136, .cells #[.string { data := #[117, 110, 101, 120, 112, 101, 99, 116, 101, 100, 32, 69, 79, 70] }] 136, .cells #[.string { data := #[118, 112, 56, 108, 58, 32, 105, 110, 118, 97, 108, 105, 100, 32, 99, 111, 100, 101, 32, 108, 101, 110, 103, 116, 104, 115] }] 136, .cells #[.string { data := #[118, 112, 56, 108, 58, 32, 105, 110, 118, 97, 108, 105, 100, 32, 72, 117, 102, 102, 109, 97, 110, 32, 116, 114, 101, 101] }] 136], #[], []⟩
  { w0 with heap := ((((((((w0.heap.modify 0 (lay #[.iface 117 (.pointer (some ⟨low + 0, 0, none⟩))])).modify 1 (lay #[.iface 117 (.pointer (some ⟨low + 1, 0, none⟩))])).modify 5 (lay #[.iface 117 (.pointer (some ⟨low + 2, 0, none⟩))])).modify 2 (lay #[.iface 117 (.pointer (some ⟨low + 3, 0, none⟩))])).modify 3 (lay #[.int .u8 17, .int .u8 18, .int .u8 0, .int .u8 1, .int .u8 2, .int .u8 3, .int .u8 4, .int .u8 5, .int .u8 16, .int .u8 6, .int .u8 7, .int .u8 8, .int .u8 9, .int .u8 10, .int .u8 11, .int .u8 12, .int .u8 13, .int .u8 14, .int .u8 15])).modify 6 (lay #[.int .u8 2, .int .u8 3, .int .u8 7])).modify 7 (lay #[.int .u8 3, .int .u8 3, .int .u8 11])).modify 4 (lay #[.int .u8 0, .int .u8 128, .int .u8 64, .int .u8 192, .int .u8 32, .int .u8 160, .int .u8 96, .int .u8 224, .int .u8 16, .int .u8 144, .int .u8 80, .int .u8 208, .int .u8 48, .int .u8 176, .int .u8 112, .int .u8 240, .int .u8 8, .int .u8 136, .int .u8 72, .int .u8 200, .int .u8 40, .int .u8 168, .int .u8 104, .int .u8 232, .int .u8 24, .int .u8 152, .int .u8 88, .int .u8 216, .int .u8 56, .int .u8 184, .int .u8 120, .int .u8 248, .int .u8 4, .int .u8 132, .int .u8 68, .int .u8 196, .int .u8 36, .int .u8 164, .int .u8 100, .int .u8 228, .int .u8 20, .int .u8 148, .int .u8 84, .int .u8 212, .int .u8 52, .int .u8 180, .int .u8 116, .int .u8 244, .int .u8 12, .int .u8 140, .int .u8 76, .int .u8 204, .int .u8 44, .int .u8 172, .int .u8 108, .int .u8 236, .int .u8 28, .int .u8 156, .int .u8 92, .int .u8 220, .int .u8 60, .int .u8 188, .int .u8 124, .int .u8 252, .int .u8 2, .int .u8 130, .int .u8 66, .int .u8 194, .int .u8 34, .int .u8 162, .int .u8 98, .int .u8 226, .int .u8 18, .int .u8 146, .int .u8 82, .int .u8 210, .int .u8 50, .int .u8 178, .int .u8 114, .int .u8 242, .int .u8 10, .int .u8 138, .int .u8 74, .int .u8 202, .int .u8 42, .int .u8 170, .int .u8 106, .int .u8 234, .int .u8 26, .int .u8 154, .int .u8 90, .int .u8 218, .int .u8 58, .int .u8 186, .int .u8 122, .int .u8 250, .int .u8 6, .int .u8 134, .int .u8 70, .int .u8 198, .int .u8 38, .int .u8 166, .int .u8 102, .int .u8 230, .int .u8 22, .int .u8 150, .int .u8 86, .int .u8 214, .int .u8 54, .int .u8 182, .int .u8 118, .int .u8 246, .int .u8 14, .int .u8 142, .int .u8 78, .int .u8 206, .int .u8 46, .int .u8 174, .int .u8 110, .int .u8 238, .int .u8 30, .int .u8 158, .int .u8 94, .int .u8 222, .int .u8 62, .int .u8 190, .int .u8 126, .int .u8 254, .int .u8 1, .int .u8 129, .int .u8 65, .int .u8 193, .int .u8 33, .int .u8 161, .int .u8 97, .int .u8 225, .int .u8 17, .int .u8 145, .int .u8 81, .int .u8 209, .int .u8 49, .int .u8 177, .int .u8 113, .int .u8 241, .int .u8 9, .int .u8 137, .int .u8 73, .int .u8 201, .int .u8 41, .int .u8 169, .int .u8 105, .int .u8 233, .int .u8 25, .int .u8 153, .int .u8 89, .int .u8 217, .int .u8 57, .int .u8 185, .int .u8 121, .int .u8 249, .int .u8 5, .int .u8 133, .int .u8 69, .int .u8 197, .int .u8 37, .int .u8 165, .int .u8 101, .int .u8 229, .int .u8 21, .int .u8 149, .int .u8 85, .int .u8 213, .int .u8 53, .int .u8 181, .int .u8 117, .int .u8 245, .int .u8 13, .int .u8 141, .int .u8 77, .int .u8 205, .int .u8 45, .int .u8 173, .int .u8 109, .int .u8 237, .int .u8 29, .int .u8 157, .int .u8 93, .int .u8 221, .int .u8 61, .int .u8 189, .int .u8 125, .int .u8 253, .int .u8 3, .int .u8 131, .int .u8 67, .int .u8 195, .int .u8 35, .int .u8 163, .int .u8 99, .int .u8 227, .int .u8 19, .int .u8 147, .int .u8 83, .int .u8 211, .int .u8 51, .int .u8 179, .int .u8 115, .int .u8 243, .int .u8 11, .int .u8 139, .int .u8 75, .int .u8 203, .int .u8 43, .int .u8 171, .int .u8 107, .int .u8 235, .int .u8 27, .int .u8 155, .int .u8 91, .int .u8 219, .int .u8 59, .int .u8 187, .int .u8 123, .int .u8 251, .int .u8 7, .int .u8 135, .int .u8 71, .int .u8 199, .int .u8 39, .int .u8 167, .int .u8 103, .int .u8 231, .int .u8 23, .int .u8 151, .int .u8 87, .int .u8 215, .int .u8 55, .int .u8 183, .int .u8 119, .int .u8 247, .int .u8 15, .int .u8 143, .int .u8 79, .int .u8 207, .int .u8 47, .int .u8 175, .int .u8 111, .int .u8 239, .int .u8 31, .int .u8 159, .int .u8 95, .int .u8 223, .int .u8 63, .int .u8 191, .int .u8 127, .int .u8 255])) }
theorem laid_met (os : Os) : laidMet Tryd.prog Rows.fnPrefixRow.laid ((laidWorld os).forCall (fun _ _ => 0) ⟨#[], #[.slice none 0 0, .int .i64 0, .int .i64 0], []⟩).memory :=
  laidMet_of_run' 8 (by kernel_rfl) (by kernel_rfl)
theorem reads (os : Os) {H : Type} (enc : TypeId × Value → H) : ∃ places, DataW.whole enc Tryd.prog ((laidWorld os).forCall (fun _ _ => 0) ⟨#[], #[.slice none 0 0, .int .i64 0, .int .i64 0], []⟩).memory Tryd.f8.params.toList Rows.fnPrefixSpec.vars false (#[.slice none 0 0, .int .i64 0, .int .i64 0] : Array Value).toList 8 = some ([.nil, (.lit (.int .i64 0)), (.lit (.int .i64 0))], [], places) :=
  ⟨[], by kernel_rfl⟩

set_option maxRecDepth 100000 in
theorem lifted (os : Os) (started : os.Started) (H : Type) (enc : TypeId × Value → H) (F : Stop.Interp) :
    ReturnsInHanded {} Tryd.checked os 8 .any ((OpenSpec.ofChange Rows.fnPrefixSpec).preRow enc Tryd.prog Tryd.f8 Rows.fnPrefixRow.domain false Rows.fnPrefixRow.laid) (((OpenSpec.ofChange Rows.fnPrefixSpec).at F).post enc Tryd.prog Tryd.f8 false true false false) := by
  obtain ⟨places, hx⟩ := reads os enc
  refine returnsInHanded_of_row (C := Tryd.checked) (s := OpenSpec.ofChange Rows.fnPrefixSpec) own started (by kernel_rfl) Tryd.func8
    (witness_row_at (enc := enc) (C := Tryd.checked) false (laidWorld os) #[.slice none 0 0, .int .i64 0, .int .i64 0] rfl (by kernel_rfl) (by kernel_rfl) (by kernel_rfl)
      (OpenSpec.preRow_of_cond 8 hx (by kernel_rfl) (fun k hk => by cases hk) (by kernel_rfl) (laid_met os))) ?_
  intro W base args ds gs before hval hW _ _ _ hL _ _
  exact contract H enc W base args ds gs before hval hW hL

theorem said : Rows.FnPrefixSaid :=
  OpenClaim.holds_of_cond 8 Tryd.f8 rfl rfl rfl rfl rfl rfl rfl ⟨rfl, rfl, rfl, rfl, rfl⟩ rfl rfl rfl rfl rfl (by kernel_rfl) Tryd.func8 (by kernel_rfl)
    (of_decide_eq_true (by kernel_rfl)) (by unfold Func.isWrapper; first | (rw [if_pos (by decide +kernel)]; kernel_rfl) | (rw [if_neg (by decide +kernel)]; exact ⟨rfl, rfl⟩))
    (fun os started H enc _ F => by rw [OpenClaim.pre_eq_preRow]; exact lifted os started H enc F)

/-- No parameter wants a stand-in; the program's own looks are off: what the card asks. -/
theorem plain (f : FuncId) (fn : Func) (hf : Tryd.pinned.checked.prog.funcNamed "pub-weftwise/laws.FnPrefix" = some f) (hfn : Tryd.pinned.checked.prog.funcs[f]? = some fn) :
    true = Tryd.pinned.checked.prog.looks [] ∧ ∀ (j : Nat) t, fn.params[j]? = some t → Tryd.pinned.checked.prog.wantsStandIn t = false := by
  obtain rfl : f = 8 := Option.some.inj ((show Tryd.prog.funcNamed "pub-weftwise/laws.FnPrefix" = some 8 by kernel_rfl).symm.trans hf) |>.symm
  obtain rfl : fn = Tryd.f8 := (Option.some.inj (Tryd.func8.symm.trans hfn)).symm
  refine ⟨by kernel_rfl, fun j t ht => ?_⟩
  rw [Tryd.params8] at ht
  have hm : t ∈ [23, 3] := by
    have h0 := Array.mem_of_getElem? ht
    simp at h0
    rcases h0 with h | h <;> simp [h]
  simp only [List.mem_cons, List.not_mem_nil, or_false] at hm
  rcases hm with rfl | rfl
  · exact (show Tryd.prog.wantsStandIn 23 = false by kernel_rfl)
  · exact (show Tryd.prog.wantsStandIn 3 = false by kernel_rfl)

theorem proved : Rows.FnPrefixCardSaid :=
  Claim7.holds_tied_plain_at .later [] _ _ _ _ said (fun _ h => by cases h) (by kernel_rfl) (fun _ h => by cases h) fnPrefix_row_tie rfl ⟨rfl, rfl⟩ (by kernel_rfl) rfl plain (by kernel_rfl)
#print axioms proved
end Go.Proofs.YtdmefbpfpmkdcaaDoor.fnPrefix
