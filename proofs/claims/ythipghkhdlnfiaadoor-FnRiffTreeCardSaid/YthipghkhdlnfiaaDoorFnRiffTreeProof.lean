/-
  FnRiffTree: for every input the law returns true, and each argument reads afterwards as it read before. No condition is added to the given statement. The variables that the row lists are tied by its card. (The frame is written by a program; the walk is in YthipghkhdlnfiaaDoorFnRiffTreeWalk.)
-/
import Derived.Test.YthipghkhdlnfiaaDoorFnRiffTreeWalk
import Derived.Test.YthipghkhdlnfiaaDoorCards
import Derived.Test.YthipghkhdlnfiaaDoorTie
import Derived.ProofKit
import Derived.OpenShut
import Derived.ShutString
import Derived.ChangeOld
import Derived.Below
import Derived.Deep.DeepHandedRow
import Derived.Lib.LaidTab
import Derived.Stop.LaidErr
namespace Go.Proofs.YthipghkhdlnfiaaDoor.fnRiffTree
open Go.ChangeShapes Go.WideShapes Go.ChangeAt Go.RowKit
open Go.ChangeMaps (open_string shut_string)
set_option linter.unusedVariables false

theorem own : ownKnob Tryd.prog.godebug = none := by kernel_rfl
theorem laidOut : laidOutB Tryd.prog = true := by kernel_rfl
set_option maxRecDepth 100000 in
theorem contract (H : Type) (enc : TypeId × Value → H) (W : World) (base : Nat) (args : Array Value) (ds gs : List (DataW H)) (before : List MemPlace)
    (hval : ∀ (j : Nat) t v, Tryd.f6.params[j]? = some t → args[j]? = some v → Value.okWide Tryd.prog W .any base t v)
    (hW : DataW.Whole enc Tryd.prog Tryd.f6.params.toList Rows.fnRiffTreeSpec.vars false W args.toList ds gs before) (hL : laidMetH Tryd.prog Rows.fnRiffTreeRow.laid W) :
    Calls Tryd.prog 6 args W fun e W' => ∃ v, e = .returned v ∧ Rows.fnRiffTreeSpec.post enc Tryd.prog Tryd.f6 false true false false W args v W' := by
  have hW' := hW
  obtain ⟨p, q, hA0, hV, rfl, hfz, hnd⟩ := hW
  have hA : DataW.TrodAll enc Tryd.prog W 0 (fun _ => true) true Tryd.f6.params.toList args.toList ds p := hA0
  rw [Tryd.params6] at hA hval
  obtain ⟨v0, vs0, d0, ds0, p0, q0, hargs, rfl, rfl, h0, r0⟩ := trodAll_cons hA
  obtain ⟨v1, vs1, d1, ds1, p1, q1, rfl, rfl, rfl, h1, r1⟩ := trodAll_cons r0
  obtain ⟨v2, vs2, d2, ds2, p2, q2, rfl, rfl, rfl, h2, r2⟩ := trodAll_cons r1
  obtain ⟨rfl, rfl, rfl⟩ := trodAll_nil r2
  obtain rfl : args = #[v0, v1, v2] := by cases args; simp_all
  obtain ⟨rfl, rfl⟩ := trodVars_none hV
  obtain ⟨a0, len0, cap0, rfl⟩ := okWide_slice Tryd.underlying22 (hval 0 22 v0 rfl rfl)
  have k0 := h0
  have lt0 : ∀ x ∈ p0, x.block < W.heap.size := by obtain ⟨m, hm⟩ := k0; exact DataW.trod_lt m _ _ _ hm
  obtain ⟨z0, w0⟩ : ∃ zs, IsRow .u8 W a0 len0 cap0 zs := by
    obtain ⟨fuel, hf⟩ := h0
    rcases open_ints Tryd.underlying22 Tryd.underlying5 (by kernel_rfl) hf with ⟨hcs, _⟩ | ⟨x, l, c, zs, hcs, _, hl, hm, hz, _, hcell, hwz⟩
    · simp [Value.cells] at hcs
      obtain ⟨rfl, rfl, rfl⟩ := hcs
      exact ⟨[], .inl ⟨rfl, rfl, rfl, rfl⟩⟩
    · simp [Value.cells] at hcs
      obtain ⟨rfl, rfl, rfl⟩ := hcs
      exact ⟨zs, .inr ⟨_, rfl, hl, hm, by simpa using hz, hcell, hwz⟩⟩
  obtain ⟨a1, rfl, rfl, rfl, w1⟩ := open_int Tryd.underlying3 (hval 1 3 v1 rfl rfl) h1
  obtain ⟨a2, len2, cap2, rfl⟩ := okWide_slice Tryd.underlying23 (hval 2 23 v2 rfl rfl)
  have k2 := h2
  have lt2 : ∀ x ∈ p2, x.block < W.heap.size := by obtain ⟨m, hm⟩ := k2; exact DataW.trod_lt m _ _ _ hm
  obtain ⟨z2, w2⟩ : ∃ zs, IsRow .i64 W a2 len2 cap2 zs := by
    obtain ⟨fuel, hf⟩ := h2
    rcases open_ints Tryd.underlying23 Tryd.underlying3 (by kernel_rfl) hf with ⟨hcs, _⟩ | ⟨x, l, c, zs, hcs, _, hl, hm, hz, _, hcell, hwz⟩
    · simp [Value.cells] at hcs
      obtain ⟨rfl, rfl, rfl⟩ := hcs
      exact ⟨[], .inl ⟨rfl, rfl, rfl, rfl⟩⟩
    · simp [Value.cells] at hcs
      obtain ⟨rfl, rfl, rfl⟩ := hcs
      exact ⟨zs, .inr ⟨_, rfl, hl, hm, by simpa using hz, hcell, hwz⟩⟩
  clear hA0
  refine (fnRiffTree_walk W (laid_of hL) a0 len0 cap0 z0 w0 a1 w1 a2 len2 cap2 z2 w2).mono fun e W' ⟨he, bel⟩ => ?_
  subst he
  exact ⟨_, rfl, _, _, _, [], _, [], hW', trodAll_mk1 (shut_bool Tryd.underlying4 _), (trodAll_cons_mk (Below.trod laidOut (by kernel_rfl) (of_decide_eq_true (by kernel_rfl)) k0 bel lt0) (trodAll_cons_mk (shut_int Tryd.underlying3 w1) (trodAll_cons_mk (Below.trod laidOut (by kernel_rfl) (of_decide_eq_true (by kernel_rfl)) k2 bel lt2) trodAll_mk0))), rfl, bel.frame _, fun h => by cases h⟩

/-- A world for the witness: the settled one, the listed variables holding what their initialisers lay. -/
def lay (zs : Array Value) : Go.Obj → Go.Obj
  | .cells _ t frozen => .cells zs t frozen
  | o => o
noncomputable def low : Nat := (World.holding Tryd.prog default ⟨#[], #[], []⟩).heap.size
noncomputable def laidWorld (os : Os) : World :=
  let w0 := World.holding Tryd.prog os ⟨#[.cells #[.string { data := #[115, 104, 111, 114, 116, 32, 119, 114, 105, 116, 101] }] 131, .cells #[.string { data := #[105, 110, 118, 97, 108, 105, 100, 32, 119, 114, 105, 116, 101, 32, 114, 101, 115, 117, 108, 116] }] 131, .cells #[.string { data := #[115, 104, 111, 114, 116, 32, 98, 117, 102, 102, 101, 114] }] 131, .cells #[.string { data := #[69, 79, 70] }] 131, .cells #[.string { data := #[117, 110, 101, 120, 112, 101, 99, 116, 101, 100, 32, 69, 79, 70] }] 131, .cells #[.string { data := #[114, 105, 102, 102, 58, 32, 109, 105, 115, 115, 105, 110, 103, 32, 112, 97, 100, 100, 105, 110, 103, 32, 98, 121, 116, 101] }] 131, .cells #[.string { data := #[114, 105, 102, 102, 58, 32, 109, 105, 115, 115, 105, 110, 103, 32, 82, 73, 70, 70, 32, 99, 104, 117, 110, 107, 32, 104, 101, 97, 100, 101, 114] }] 131, .cells #[.string { data := #[114, 105, 102, 102, 58, 32, 108, 105, 115, 116, 32, 115, 117, 98, 99, 104, 117, 110, 107, 32, 116, 111, 111, 32, 108, 111, 110, 103] }] 131, .cells #[.string { data := #[114, 105, 102, 102, 58, 32, 115, 104, 111, 114, 116, 32, 99, 104, 117, 110, 107, 32, 100, 97, 116, 97] }] 131, .cells #[.string { data := #[114, 105, 102, 102, 58, 32, 115, 104, 111, 114, 116, 32, 99, 104, 117, 110, 107, 32, 104, 101, 97, 100, 101, 114] }] 131], #[], []⟩
  { w0 with heap := ((((((((((w0.heap.modify 9 (lay #[.iface 115 (.pointer (some ⟨low + 0, 0, none⟩))])).modify 8 (lay #[.iface 115 (.pointer (some ⟨low + 1, 0, none⟩))])).modify 7 (lay #[.iface 115 (.pointer (some ⟨low + 2, 0, none⟩))])).modify 0 (lay #[.iface 115 (.pointer (some ⟨low + 3, 0, none⟩))])).modify 1 (lay #[.iface 115 (.pointer (some ⟨low + 4, 0, none⟩))])).modify 5 (lay #[.iface 115 (.pointer (some ⟨low + 5, 0, none⟩))])).modify 2 (lay #[.iface 115 (.pointer (some ⟨low + 6, 0, none⟩))])).modify 4 (lay #[.iface 115 (.pointer (some ⟨low + 7, 0, none⟩))])).modify 3 (lay #[.iface 115 (.pointer (some ⟨low + 8, 0, none⟩))])).modify 6 (lay #[.iface 115 (.pointer (some ⟨low + 9, 0, none⟩))])) }
theorem laid_met (os : Os) : laidMet Tryd.prog Rows.fnRiffTreeRow.laid ((laidWorld os).forCall (fun _ _ => 0) ⟨#[], #[.slice none 0 0, .int .i64 0, .slice none 0 0], []⟩).memory :=
  laidMet_of_run' 8 (by kernel_rfl) (by kernel_rfl)
theorem reads (os : Os) {H : Type} (enc : TypeId × Value → H) : ∃ places, DataW.whole enc Tryd.prog ((laidWorld os).forCall (fun _ _ => 0) ⟨#[], #[.slice none 0 0, .int .i64 0, .slice none 0 0], []⟩).memory Tryd.f6.params.toList Rows.fnRiffTreeSpec.vars false (#[.slice none 0 0, .int .i64 0, .slice none 0 0] : Array Value).toList 8 = some ([.nil, (.lit (.int .i64 0)), .nil], [], places) :=
  ⟨[], by kernel_rfl⟩

set_option maxRecDepth 100000 in
theorem lifted (os : Os) (started : os.Started) (H : Type) (enc : TypeId × Value → H) (F : Stop.Interp) :
    ReturnsInHanded {} Tryd.checked os 6 .any ((OpenSpec.ofChange Rows.fnRiffTreeSpec).preRow enc Tryd.prog Tryd.f6 Rows.fnRiffTreeRow.domain false Rows.fnRiffTreeRow.laid) (((OpenSpec.ofChange Rows.fnRiffTreeSpec).at F).post enc Tryd.prog Tryd.f6 false true false false) := by
  obtain ⟨places, hx⟩ := reads os enc
  refine returnsInHanded_of_row (C := Tryd.checked) (s := OpenSpec.ofChange Rows.fnRiffTreeSpec) own started (by kernel_rfl) Tryd.func6
    (witness_row_at (enc := enc) (C := Tryd.checked) false (laidWorld os) #[.slice none 0 0, .int .i64 0, .slice none 0 0] rfl (by kernel_rfl) (by kernel_rfl) (by kernel_rfl)
      (OpenSpec.preRow_of_cond 8 hx (by kernel_rfl) (fun k hk => by cases hk) (by kernel_rfl) (laid_met os))) ?_
  intro W base args ds gs before hval hW _ _ _ hL _ _
  exact contract H enc W base args ds gs before hval hW hL

theorem said : Rows.FnRiffTreeSaid :=
  OpenClaim.holds_of_cond 6 Tryd.f6 rfl rfl rfl rfl rfl rfl rfl ⟨rfl, rfl, rfl, rfl, rfl⟩ rfl rfl rfl rfl rfl (by kernel_rfl) Tryd.func6 (by kernel_rfl)
    (of_decide_eq_true (by kernel_rfl)) (by unfold Func.isWrapper; first | (rw [if_pos (by decide +kernel)]; kernel_rfl) | (rw [if_neg (by decide +kernel)]; exact ⟨rfl, rfl⟩))
    (fun os started H enc _ F => by rw [OpenClaim.pre_eq_preRow]; exact lifted os started H enc F)

/-- No parameter wants a stand-in; the program's own looks are off: what the card asks. -/
theorem plain (f : FuncId) (fn : Func) (hf : Tryd.pinned.checked.prog.funcNamed "pub-weftwise/laws.FnRiffTree" = some f) (hfn : Tryd.pinned.checked.prog.funcs[f]? = some fn) :
    true = Tryd.pinned.checked.prog.looks [] ∧ ∀ (j : Nat) t, fn.params[j]? = some t → Tryd.pinned.checked.prog.wantsStandIn t = false := by
  obtain rfl : f = 6 := Option.some.inj ((show Tryd.prog.funcNamed "pub-weftwise/laws.FnRiffTree" = some 6 by kernel_rfl).symm.trans hf) |>.symm
  obtain rfl : fn = Tryd.f6 := (Option.some.inj (Tryd.func6.symm.trans hfn)).symm
  refine ⟨by kernel_rfl, fun j t ht => ?_⟩
  rw [Tryd.params6] at ht
  have hm : t ∈ [22, 3, 23] := by
    have h0 := Array.mem_of_getElem? ht
    simp at h0
    rcases h0 with h | h | h <;> simp [h]
  simp only [List.mem_cons, List.not_mem_nil, or_false] at hm
  rcases hm with rfl | rfl | rfl
  · exact (show Tryd.prog.wantsStandIn 22 = false by kernel_rfl)
  · exact (show Tryd.prog.wantsStandIn 3 = false by kernel_rfl)
  · exact (show Tryd.prog.wantsStandIn 23 = false by kernel_rfl)

theorem proved : Rows.FnRiffTreeCardSaid :=
  Claim7.holds_tied_plain_at .later [] _ _ _ _ said (fun _ h => by cases h) (by kernel_rfl) (fun _ h => by cases h) fnRiffTree_row_tie rfl ⟨rfl, rfl⟩ (by kernel_rfl) rfl plain (by kernel_rfl)
#print axioms proved
end Go.Proofs.YthipghkhdlnfiaaDoor.fnRiffTree
