/- The reference's simple: a code of one or two symbols as it is written. -/
import Derived.Test.YtdmefbpfpmkdcaaDoorSLens
namespace Go.Proofs.YtdmefbpfpmkdcaaDoor
open Go.RowKit
set_option linter.unusedVariables false

/-- What reading a code comes to. -/
def CRes (pre : Pre) (S nb : Nat) (w w' : World) (g : Nat) (a : Option Addr) (cb : Nat) (f : Nat → Int) (e : Ending) : Prop :=
  ∃ (cs : Array Value) (ok : Bool) (p' : Nat) (sh' op' : Bool), e = .returned (.tuple #[.agg cs, .bool ok]) ∧ cs.size = 17 ∧ cs.all (·.oneCell') = true ∧ SB w' g a nb cb f S p' sh' op' ∧
    ((op' = true ∧ pre = .opened) ∨ (op' = false ∧ sh' = true ∧ pre = .short) ∨
     (op' = false ∧ sh' = false ∧ ok = true ∧ ∃ C I sa sc M, pre = .tree C p' ∧ Code C I ∧ CodeOK C w' cs sa sc M ∧ ∀ x, 0 < M → sa = some x → w.heap.size ≤ x.block ∧ x.block < w'.heap.size))
/-- The reference's code of no symbols. -/
def cs0 : Array Value := (cdCells (fun _ => 0) (.slice none 0 0)).toArray
theorem cs0_size : cs0.size = 17 := by simp [cs0, cdCells]
theorem cs0_all : cs0.all (·.oneCell') = true := cdCells_all _ _ _ _
theorem res_put {w : World} {g4 : Nat} {us : List Value} (h : SObj w g4 86 us) (hu : us.length = 17) (cs : Array Value) (hsz : cs.size = 17) :
    SObj (w.setCells g4 0 cs.toList) g4 86 cs.toList ∧ Only (fun k => k = g4) w (w.setCells g4 0 cs.toList) :=
  ⟨SObj.putAll cs.toList us [] 0 w h (by simp [hu, hsz]) rfl, Only.setCells (S := fun k => k = g4) rfl _ _ _⟩

/-- Row of lengths of a simple code and the reader; the result's cell. -/
structure SmpR (w wr : World) (g g4 g9 : Nat) (a : Option Addr) (nb cb : Nat) (f : Nat → Int) (S p : Nat) (sh op : Bool) (L : Nat) (o : Nat → Nat) : Prop where
  out : SObj wr g9 3 (cellsOf .i64 L (fun k => (o k : Int)))
  res : SObj wr g4 86 (cdCells (fun _ => 0) (.slice none 0 0))
  bits : SB wr g a nb cb f S p sh op
  only : Only (New1 g w) w wr
  h4 : w.heap.size ≤ g4
  h9 : w.heap.size ≤ g9
  ne : g4 ≠ g9
  glt : g < w.heap.size
theorem SmpR.read {w wr w2 : World} {g g4 g9 : Nat} {a : Option Addr} {nb cb : Nat} {f : Nat → Int} {S p p' : Nat} {sh op sh' op' : Bool} {L : Nat} {o : Nat → Nat} (h : SmpR w wr g g4 g9 a nb cb f S p sh op L o) (ho : Only (fun k => k = g) wr w2) (hs : SB w2 g a nb cb f S p' sh' op') : SmpR w w2 g g4 g9 a nb cb f S p' sh' op' L o :=
  ⟨h.out.only ho (by have := h.h9; have := h.glt; omega), h.res.only ho (by have := h.h4; have := h.glt; omega), hs, h.only.tr (ho.mono (fun _ e => .inl e)), h.h4, h.h9, h.ne, h.glt⟩
theorem SmpR.set {w wr : World} {g g4 g9 : Nat} {a : Option Addr} {nb cb : Nat} {f : Nat → Int} {S p : Nat} {sh op : Bool} {L : Nat} {o : Nat → Nat} (h : SmpR w wr g g4 g9 a nb cb f S p sh op L o) (j v : Nat) (ha : ∀ x, 0 < nb → a = some x → x.block < w.heap.size) :
    SmpR w (wr.setCell ⟨g9, j, none⟩ (.int .i64 (v : Int))) g g4 g9 a nb cb f S p sh op L (updN o j v) := by
  have ho : Only (fun k => k = g9) wr (wr.setCell ⟨g9, j, none⟩ (.int .i64 (v : Int))) := Only.setCell _ _ _ rfl
  refine ⟨?_, h.res.only ho h.ne, h.bits.only ho (by have := h.h9; have := h.glt; omega) (fun h0 x hx e => by have := ha x h0 hx; have := h.h9; omega), h.only.tr (ho.mono (fun k e => .inr (by have := h.h9; omega))), h.h4, h.h9, h.ne, h.glt⟩
  have h5 := h.out.set j (.int .i64 (v : Int))
  rw [icells_set, icells_congr (f' := fun k => ((updN o j v k : Nat) : Int)) (fun k _ => by unfold updN; split <;> rfl)] at h5
  exact h5
theorem SmpR.congr {w wr : World} {g g4 g9 : Nat} {a : Option Addr} {nb cb : Nat} {f : Nat → Int} {S p : Nat} {sh op : Bool} {L : Nat} {o : Nat → Nat} (h : SmpR w wr g g4 g9 a nb cb f S p sh op L o) (o' : Nat → Nat) (e : ∀ k, o k = o' k) : SmpR w wr g g4 g9 a nb cb f S p sh op L o' := by
  obtain rfl : o = o' := funext e
  exact h

theorem SmpR.op {w wr : World} {g g4 g9 : Nat} {a : Option Addr} {nb cb : Nat} {f : Nat → Int} {S p : Nat} {sh op : Bool} {L : Nat} {o : Nat → Nat} (h : SmpR w wr g g4 g9 a nb cb f S p sh op L o) (op' : Bool) : SmpR w (wr.setCell ⟨g, 3, none⟩ (.bool op')) g g4 g9 a nb cb f S p sh op' L o := by
  have ho : Only (fun k => k = g) wr (wr.setCell ⟨g, 3, none⟩ (.bool op')) := Only.setCell _ _ _ rfl
  exact h.read ho (h.bits.own ho h.bits.le (h.bits.obj.set 3 (.bool op')))
theorem simL_two (v b : Nat) (k : Nat) : updN (simL v 0 1) b 1 k = simL v b 2 k := by
  unfold updN simL
  by_cases h1 : k = b <;> by_cases h2 : k = v <;> simp [h1, h2]

theorem simpF_of {S nb size p t p1 x1 p2 kk v p3 b p4 : Nat} {sh1 sh2 sh3 sh4 op4 : Bool} (h1 : t = rdv S nb p 1 ∧ p1 = nx nb p 1 ∧ sh1 = decide (8 * nb < p + 1)) (h2 : x1 = rdv S nb p1 1 ∧ p2 = nx nb p1 1 ∧ sh2 = (sh1 || decide (8 * nb < p1 + 1)))
    (h3 : kk = 1 + 7 * x1 ∧ v = rdv S nb p2 kk ∧ p3 = nx nb p2 kk ∧ sh3 = (sh2 || decide (8 * nb < p2 + kk)))
    (h4 : b = rdv S nb p3 8 ∧ (p4 = if t = 1 then nx nb p3 8 else p3) ∧ (sh4 = if t = 1 then sh3 || decide (8 * nb < p3 + 8) else sh3) ∧ op4 = (decide (t = 1) && decide (b < v))) :
    simpF S nb size p = if size ≤ v ∨ t = 1 ∧ (b ≤ v ∨ size ≤ b) then .opened else if sh4 = true then .short else .tree (simC v b (t + 1)) p4 := by
  obtain ⟨a1, a2, a3⟩ := h1
  obtain ⟨b1, b2, b3⟩ := h2
  obtain ⟨c1, c2, c3, c4⟩ := h3
  obtain ⟨d1, d2, d3, d4⟩ := h4
  have key : sh4 = true ↔ (8 * nb < p + 1 ∨ 8 * nb < p1 + 1 ∨ 8 * nb < p2 + kk ∨ t = 1 ∧ 8 * nb < p3 + 8) := by
    rw [d3, c4, b3, a3]
    by_cases hu : t = 1
    · rw [if_pos hu]
      simp only [Bool.or_eq_true, decide_eq_true_eq, hu, true_and]
      constructor
      · rintro (((h | h) | h) | h) <;> simp [h]
      · rintro (h | h | h | h) <;> simp [h]
    · rw [if_neg hu]
      simp only [Bool.or_eq_true, decide_eq_true_eq, hu, false_and, or_false]
      constructor
      · rintro ((h | h) | h) <;> simp [h]
      · rintro (h | h | h) <;> simp [h]
  have e0 : simpF S nb size p = if size ≤ v ∨ t = 1 ∧ (b ≤ v ∨ size ≤ b) then .opened else if 8 * nb < p + 1 ∨ 8 * nb < p1 + 1 ∨ 8 * nb < p2 + kk ∨ t = 1 ∧ 8 * nb < p3 + 8 then .short else .tree (simC v b (t + 1)) p4 := by
    rw [d2, d1, c3, c2, c1, b2, b1, a2, a1]
    rfl
  rw [e0]
  by_cases hc : size ≤ v ∨ t = 1 ∧ (b ≤ v ∨ size ≤ b)
  · rw [if_pos hc, if_pos hc]
  · rw [if_neg hc, if_neg hc]
    by_cases h : sh4 = true
    · rw [if_pos h, if_pos (key.1 h)]
    · rw [if_neg h, if_neg (fun e => h (key.2 e))]
/-- A load that is one value in every world at hand. -/
theorem wpQuiet_load_v {P : Program} {ops : Array Oper} {C : World → Prop} {Q : Act → Prop} {rest : List Oper} {op : Oper} {a : Act} (hgd : op.guard = none) (ty : TypeId) (x : Operand) (ho : op.op = .load ty x) (ad : Addr) (hx : a.eval x = .pointer (some ad)) (v : Value)
    (hl : ∀ w, C w → (loadVar ty ad).run P w = .ok v w) (h : wpQuiet P ops C Q rest (a.put op.dst v)) : wpQuiet P ops C Q (op :: rest) a := by
  have hw : Region.wanted op (yielded ops a.tmps) = true := by simp [Region.wanted, hgd]
  refine BigFrame.wpQuiet_want hw (fun K hK => ⟨v, fun w hC => ?_, hK _ h⟩)
  unfold Oper.quietAt execOp
  simp only [ho, hx, Instr.loadAt, Instr.sureAddr, Sem.run_bind, Sem.run_pure, Result.andThen_ok, hl w hC]
  exact ⟨rfl, rfl⟩
/-- A whole code loaded and stored, as one word each. -/
noncomputable def codeLoad (a : Addr) : Sem Value := loadVar 86 a
theorem load_code_run (a : Addr) : loadVar 86 a = codeLoad a := rfl
noncomputable def codeStore (a : Addr) (v : Value) : Sem Unit := storeVar 86 a v
theorem store_code_run (a : Addr) (v : Value) : storeVar 86 a v = codeStore a v := rfl
theorem smp_fin {S nb size p t v b p4 L M : Nat} {sh4 op4 op5 tw okb : Bool} (hSF : simpF S nb size p = if size ≤ v ∨ t = 1 ∧ (b ≤ v ∨ size ≤ b) then .opened else if sh4 = true then .short else .tree (simC v b (t + 1)) p4) (hv : v < size) (hb : t = 1 → b < size) (ht : t < 2) (hL : size ≤ L) (hL2 : L ≤ 4096)
    (hM : M = (sys (simL v b (t + 1)) L 15).length) (hok : okb = madeB (simL v b (t + 1)) L) (h4 : op4 = (decide (t = 1) && decide (b < v))) (h5 : op5 = (op4 || (tw && decide (M = 1)))) (htw : tw = decide (t = 1)) :
    (op5 = true ∧ simpF S nb size p = .opened) ∨ (op5 = false ∧ (simpF S nb size p = if sh4 = true then .short else .tree (simC v b (t + 1)) p4) ∧ okb = true ∧ (∃ I, Code (simC v b (t + 1)) I) ∧
      ∀ w cs sa sc, CodeR w (hh (simL v b (t + 1)) L) (sys (simL v b (t + 1)) L 15) cs sa sc → CodeOK (simC v b (t + 1)) w cs sa sc M) := by
  by_cases ht1 : t = 1
  · subst ht1
    have htw1 : tw = true := htw
    have hb := hb rfl
    by_cases hbv : b ≤ v
    · refine .inl ⟨?_, by rw [hSF, if_pos (.inr ⟨rfl, .inl hbv⟩)]⟩
      by_cases hlt : b < v
      · rw [h5, h4, decide_eq_true hlt]; rfl
      · obtain rfl : b = v := by omega
        have e1 : simL b b (1 + 1) = simL b b 1 := by funext k; unfold simL; by_cases h : k = b <;> simp [h]
        have e2 : M = 1 := by rw [hM, e1, sys_simL1 b b L (by omega)]; rfl
        rw [h5, htw1, decide_eq_true e2, Bool.true_and, Bool.or_true]
    · have hm := sim_made v b L 2 (.inr rfl) (by omega) (fun _ => by omega) (by omega)
      have e2 : M = 2 := by rw [hM]; exact sys_simL2 v b L (by omega) (by omega)
      refine .inr ⟨?_, by rw [hSF, if_neg]; rintro (h | ⟨_, h | h⟩) <;> omega, by rw [hok]; exact hm.1, ⟨_, simC_code v b 2 (.inr rfl) (by omega) (fun _ => by omega)⟩, fun w cs sa sc h => by rw [hM]; exact hm.2 w cs sa sc h⟩
      rw [h5, h4, e2, decide_eq_false (show ¬ b < v by omega)]
      simp
  · obtain rfl : t = 0 := by omega
    have htw1 : tw = false := htw
    have hm := sim_made v b L 1 (.inl rfl) (by omega) (fun h => by omega) (by omega)
    refine .inr ⟨?_, by rw [hSF, if_neg]; rintro (h | ⟨h, _⟩) <;> omega, by rw [hok]; exact hm.1, ⟨_, simC_code v b 1 (.inl rfl) (by omega) (fun h => by omega)⟩, fun w cs sa sc h => by rw [hM]; exact hm.2 w cs sa sc h⟩
    rw [h5, h4, htw1]
    rfl
theorem simL_made (v b t L : Nat) (ht : t < 2) (hv : v < L) (hb : b < L) (hL : L ≤ 4096) : madeB (simL v b (t + 1)) L = true := by
  by_cases ht1 : t = 1
  · subst ht1
    rcases Nat.lt_trichotomy v b with h | h | h
    · exact (sim_made v b L 2 (.inr rfl) hv (fun _ => ⟨h, hb⟩) (by omega)).1
    · subst h
      have e1 : simL v v (1 + 1) = simL v v 1 := by funext k; unfold simL; by_cases h : k = v <;> simp [h]
      rw [e1]
      exact (sim_made v v L 1 (.inl rfl) hv (fun h => by omega) (by omega)).1
    · have e1 : simL v b (1 + 1) = simL b v 2 := by funext k; unfold simL; by_cases h1 : k = v <;> by_cases h2 : k = b <;> simp [h1, h2]
      rw [e1]
      exact (sim_made b v L 2 (.inr rfl) hb (fun _ => ⟨h, hv⟩) (by omega)).1
  · obtain rfl : t = 0 := by omega
    exact (sim_made v b L 1 (.inl rfl) hv (fun h => by omega) (by omega)).1
theorem infoCode17 (cs : Array Value) (h : cs.size = 17) : (Tryd.prog.info? 86).map (·.size) = some cs.size := by rw [infoCode, h]

theorem res_load {w : World} {g4 : Nat} {cs : Array Value} (h : SObj w g4 86 cs.toList) (hsz : cs.size = 17) : (loadVar 86 ⟨g4, 0, none⟩).run Tryd.prog w = .ok (.agg cs) w := by
  have hl := run_loadVar_mid (P := Tryd.prog) w g4 0 86 cs.toList _ (fun j v hv => by rw [Nat.zero_add]; exact h.cell j hv) Tryd.underlying86 rfl (by rw [infoCode]; simp [hsz])
  rwa [Array.toArray_toList] at hl

attribute [local go_sem ↓] load_code_run store_code_run

set_option maxRecDepth 100000 in
set_option maxHeartbeats 4000000 in
theorem ssmp_any (g : Nat) (a : Option Addr) (nb cb : Nat) (f : Nat → Int) (S p size : Nat) (w : World) (h : SB w g a nb cb f S p false false) (hs1 : 1 ≤ size) (hs2 : size ≤ 4096) :
    Calls Tryd.prog 56 #[.pointer (some ⟨g, 0, none⟩), .int .i64 size] w fun e w' => CRes (simpF S nb size p) S nb w w' g a cb f e ∧ Only (fun k => k = g) w w' := by
  obtain ⟨i0, hi, hz0, hz1, hz2⟩ := info_parts infoInt
  have HI := Lib.hid (And.intro hi (And.intro hz0 (And.intro hz1 hz2)))
  have har : ∀ x, 0 < nb → a = some x → x.block < w.heap.size := fun x h0 hx => by
    obtain ⟨g1, o1, e, hg1, _⟩ := h.row h0
    rw [hx] at e; injection e with e; subst e; exact hg1
  have H := Lib.hid (And.intro h har)
  clear h har
  go_enter Tryd.func56, Tryd.ntmps56
  go_upto_region 1 with fail
  obtain ⟨g4, hg4⟩ : ∃ x, x = w.heap.size := ⟨_, rfl⟩
  generalize hw1 : World.alloc _ _ = w1
  have H1 : Hid (SObj w1 g4 86 (cdCells (fun _ => 0) (.slice none 0 0)) ∧ Only (fun _ => False) w w1 ∧ g4 = w.heap.size) := Lib.hid (by rw [← hw1, hg4]; exact ⟨obj_new _ _ _, Only.alloc _ _ _, rfl⟩)
  rw [← hg4]
  clear hw1 hg4
  have hb1 : SB w1 g a nb cb f S p false false := H.out.1.only H1.out.2.1 (fun h => h) (fun _ _ _ h => h)
  have HFL := Lib.hid (flag_any g a nb cb f S p false false w1 hb1)
  obtain ⟨t, ht⟩ : ∃ x, x = rdv S nb p 1 := ⟨_, rfl⟩
  have ht2 : t < 2 := by rw [ht]; exact rdv_lt S nb p 1
  obtain ⟨p1, hp1⟩ : ∃ x, x = nx nb p 1 := ⟨_, rfl⟩
  obtain ⟨sh1, hsh1⟩ : ∃ x, x = decide (8 * nb < p + 1) := ⟨_, rfl⟩
  rw [← ht, ← hp1, Bool.false_or, ← hsh1] at HFL
  have HP1 := Lib.hid (And.intro ht (And.intro hp1 hsh1))
  obtain ⟨tw, htw⟩ : ∃ x : Bool, x = decide (t = 1) := ⟨_, rfl⟩
  rw [← htw] at HFL
  have HTW := Lib.hid htw
  clear ht hp1 hsh1 hb1 htw
  go_wp2_with fail
  refine HFL.out.mono ?_
  rintro _ w2 ⟨rfl, hs2, ho2⟩
  have H2 := Lib.hid (And.intro hs2 ho2)
  have HR1 := Lib.hid (sread_f g a nb cb f S p1 1 sh1 false w2 hs2 (by decide))
  obtain ⟨x1, hx1⟩ : ∃ x, x = rdv S nb p1 1 := ⟨_, rfl⟩
  have hx12 : x1 < 2 := by rw [hx1]; exact rdv_lt S nb p1 1
  obtain ⟨p2, hp2⟩ : ∃ x, x = nx nb p1 1 := ⟨_, rfl⟩
  obtain ⟨sh2, hsh2⟩ : ∃ x, x = (sh1 || decide (8 * nb < p1 + 1)) := ⟨_, rfl⟩
  rw [← hx1, ← hp2, ← hsh2] at HR1
  have HP2 := Lib.hid (And.intro hx1 (And.intro hp2 hsh2))
  clear hx1 hp2 hsh2 hs2 ho2 HFL
  go_wp2_with fail
  refine HR1.out.mono ?_
  rintro _ w3 ⟨rfl, hs3, ho3⟩
  obtain ⟨kk, hkk⟩ : ∃ x, x = 1 + 7 * x1 := ⟨_, rfl⟩
  have H3 := Lib.hid (And.intro hs3 (H2.out.2.tr ho3))
  have HR2 := Lib.hid (sread_f g a nb cb f S p2 kk sh2 false w3 hs3 (by omega))
  obtain ⟨v, hv⟩ : ∃ x, x = rdv S nb p2 kk := ⟨_, rfl⟩
  have hv256 : v < 256 := by
    have h1 := rdv_lt S nb p2 kk
    have h2 : (2 : Nat) ^ kk ≤ 2 ^ 8 := Nat.pow_le_pow_right (by decide) (by omega)
    have e8 : (2 : Nat) ^ 8 = 256 := rfl
    omega
  obtain ⟨p3, hp3⟩ : ∃ x, x = nx nb p2 kk := ⟨_, rfl⟩
  obtain ⟨sh3, hsh3⟩ : ∃ x, x = (sh2 || decide (8 * nb < p2 + kk)) := ⟨_, rfl⟩
  rw [← hv, ← hp3, ← hsh3] at HR2
  have ekk : (1 : Int) + 7 * (x1 : Int) = (kk : Int) := by omega
  have HP3 := Lib.hid (And.intro hkk (And.intro hv (And.intro hp3 hsh3)))
  clear hkk hv hp3 hsh3 hs3 ho3 HR1
  go_wp2_with fail
  refine HR2.out.mono ?_
  rintro _ w4 ⟨rfl, hs4, ho4⟩
  have H4 := Lib.hid (And.intro hs4 (H3.out.2.tr ho4))
  clear hs4 ho4 HR2 ekk H3 H2
  obtain ⟨L, hL⟩ : ∃ x, x = max size 256 := ⟨_, rfl⟩
  have hL1 : L ≤ 4096 := by omega
  have hL2 : 256 ≤ L := by omega
  have hL3 : size ≤ L := by omega
  have HL := Lib.hid hL
  clear hL
  go_upto_region 4 with fail
  obtain ⟨g9, hg9⟩ : ∃ x, x = w4.heap.size := ⟨_, rfl⟩
  go_cut [9] from 23 to 25 (fun s9 wx => s9 = .slice (some ⟨g9, 0, none⟩) L L ∧ w4.alloc (.cells (cellsOf .i64 L (fun _ => 0)).toArray 3) = wx)
  case first =>
    by_cases hq : 256 ≤ size
    · have hqi : (256 : Int) ≤ (size : Int) := by omega
      have e : size = L := by have := HL.out; omega
      have HE := Lib.hid (And.intro e hg9)
      clear e hg9
      obtain ⟨hi, hz0, hz1, hz2⟩ := HI.out
      go_wp2_with (refine wpList_make_row _ rfl _ _ 22 rfl 3 i0 (.int .i64 0) Tryd.underlying22 hi hz0 hz1 rfl .i64 .i64 size rfl rfl (by rw [hz2]; omega) (by omega) ?_)
      rw [ints_made]
      go_meet
      exact ⟨by rw [← HE.out.1, HE.out.2], by rw [HE.out.1]⟩
    · have hqi : ¬ (256 : Int) ≤ (size : Int) := by omega
      have e : 256 = L := by have := HL.out; omega
      have HE := Lib.hid (And.intro e hg9)
      clear e hg9
      obtain ⟨hi, hz0, hz1, hz2⟩ := HI.out
      go_wp2_with (refine wpList_make_row _ rfl _ _ 22 rfl 3 i0 (.int .i64 0) Tryd.underlying22 hi hz0 hz1 rfl .i64 .i64 256 rfl rfl (by rw [hz2]; omega) (by omega) ?_)
      rw [ints_made]
      go_meet
      exact ⟨by rw [← HE.out.1, HE.out.2], by rw [← HE.out.1]⟩
  case rest =>
    obtain ⟨rfl, hw5⟩ := hcut
    have H5 : Hid (SmpR w wc g g4 g9 a nb cb f S p3 sh3 false L (fun _ => 0)) := Lib.hid (by
      have e1 : Only (fun _ => False) w4 wc := by rw [← hw5]; exact Only.alloc _ _ _
      have h1 := H1.out.1.lt
      have hgl := H.out.1.obj.lt
      have hon : Only (fun k => k = g) w1 w4 := H4.out.2
      have hsz := hon.size
      have hg4 := H1.out.2.2
      have ho4 : Only (New1 g w) w w4 := (H1.out.2.1.mono (fun _ h => h.elim)).tr (hon.mono (fun _ e => .inl e))
      exact ⟨by rw [← hw5, hg9]; exact obj_new _ _ _, (H1.out.1.only hon (by omega)).only e1 (fun h => h), H4.out.1.only e1 (fun h => h) (fun _ _ _ h => h), ho4.tr (e1.mono (fun _ h => h.elim)), by omega, by have := ho4.size; omega, by omega, hgl⟩)
    clear hw5 hg9 H4 H1 HI
    have hvL : v < L := by omega
    have cv := H5.out.out.cell v (by simp [cellsOf, hvL] : (cellsOf .i64 L (fun _ => ((0 : Nat) : Int)))[v]? = some (.int .i64 ((0 : Nat) : Int)))
    have fv := H5.out.out.free v
    go_upto_region 6 with fail
    generalize hw6 : World.setCell _ _ _ = w6
    have H6 : Hid (SmpR w w6 g g4 g9 a nb cb f S p3 sh3 false L (simL v 0 1)) := Lib.hid (by
      rw [← hw6]
      exact (H5.out.set v 1 H.out.2).congr _ (fun k => by unfold updN simL; by_cases h : k = v <;> simp [h]))
    clear hw6 cv fv H5
    obtain ⟨b, hb⟩ : ∃ x, x = rdv S nb p3 8 := ⟨_, rfl⟩
    have hb256 : b < 256 := by rw [hb]; exact rdv_lt S nb p3 8
    obtain ⟨p4, hp4⟩ : ∃ x, x = (if t = 1 then nx nb p3 8 else p3) := ⟨_, rfl⟩
    obtain ⟨sh4, hsh4⟩ : ∃ x, x = (if t = 1 then (sh3 || decide (8 * nb < p3 + 8)) else sh3) := ⟨_, rfl⟩
    obtain ⟨op4, hop4⟩ : ∃ x, x = (decide (t = 1) && decide (b < v)) := ⟨_, rfl⟩
    have HP4 := Lib.hid (And.intro hb (And.intro hp4 (And.intro hsh4 hop4)))
    clear hb hp4 hsh4 hop4
    go_upto_if 29 with fail
    go_cut [10] from 29 to 46 (fun s10 wx => Hid (SmpR w wx g g4 g9 a nb cb f S p4 sh4 op4 L (simL v b (t + 1))))
    case first =>
      cases tw with
      | true =>
        have ht1 : t = 1 := of_decide_eq_true HTW.out.symm
        have hud : decide (t = 1) = true := decide_eq_true ht1
        have HQ : Hid (p4 = nx nb p3 8 ∧ sh4 = (sh3 || decide (8 * nb < p3 + 8)) ∧ op4 = decide (b < v)) := Lib.hid (by
          have h5 := HP4.out.2
          rw [if_pos ht1, if_pos ht1, hud, Bool.true_and] at h5
          exact h5)
        have HR3 := Lib.hid (sread_f g a nb cb f S p3 8 sh3 false w6 H6.out.bits (by decide))
        rw [← HP4.out.1, ← HQ.out.1, ← HQ.out.2.1] at HR3
        have HT1 := Lib.hid ht1
        clear ht1 hud
        go_wp2_with fail
        refine HR3.out.mono ?_
        rintro _ w7 ⟨rfl, hs7, ho7⟩
        have hR7 := H6.out.read ho7 hs7
        have hbL : b < L := by omega
        have cb1 := hR7.out.cell b (by simp [cellsOf, hbL] : (cellsOf .i64 L (fun k => (simL v 0 1 k : Int)))[b]? = some (.int .i64 (simL v 0 1 b : Int)))
        have fb1 := hR7.out.free b
        have H7 := Lib.hid (hR7.set b 1 H.out.2)
        have c3 := hR7.bits.obj.cell 3 rfl
        clear hs7 ho7 HR3 hR7
        go_upto_region 9 with fail
        generalize hw8 : World.setCell _ _ _ = w8
        have H8 : Hid (SmpR w w8 g g4 g9 a nb cb f S p4 sh4 false L (simL v b 2)) := Lib.hid (by
          rw [← hw8]
          exact H7.out.congr _ (simL_two v b))
        have c3 := H8.out.bits.obj.cell 3 rfl
        have z3 := H8.out.bits.obj.free 3
        have HO8 : Hid (SmpR w (w8.setCell ⟨g, 3, none⟩ (.bool (decide (b < v)))) g g4 g9 a nb cb f S p4 sh4 op4 L (simL v b (t + 1))) := Lib.hid (by
          have e : decide (b < v) = op4 := HQ.out.2.2.symm
          rw [e, HT1.out]
          exact H8.out.op op4)
        clear hw8 cb1 fb1 H7
        go_wp2
        go_meet
        exact HO8.out
      | false =>
        have ht1 : ¬ t = 1 := of_decide_eq_false HTW.out.symm
        have hud : decide (t = 1) = false := decide_eq_false ht1
        have HQ : Hid (p4 = p3 ∧ sh4 = sh3 ∧ op4 = false ∧ t = 0) := Lib.hid (by
          have h5 := HP4.out.2
          rw [if_neg ht1, if_neg ht1, hud, Bool.false_and] at h5
          exact ⟨h5.1, h5.2.1, h5.2.2, by omega⟩)
        clear ht1 hud
        go_wp2
        go_meet
        rw [HQ.out.1, HQ.out.2.1, HQ.out.2.2.1, HQ.out.2.2.2]
        exact H6.out.congr _ (fun k => by unfold simL; by_cases h : k = v <;> simp [h])
    case rest =>
      have hC := hcut
      have HSF := Lib.hid (simpF_of (size := size) HP1.out HP2.out HP3.out HP4.out)
      have HAR := Lib.hid H.out.2
      clear H6 hi hz0 hz1 hz2 hcut HP1 HP2 HP3
      go_wp2_with fail
      go_loopg [11] (L + 1) (fun j s11 wr => ∃ s : Nat, s11 = .int .i64 s ∧ size ≤ s ∧ s ≤ L ∧ L < j + s ∧ wc = wr ∧ Hid (∀ k, size ≤ k → k < s → simL v b (t + 1) k = 0))
      case atStart => exact ⟨size, rfl, Nat.le_refl _, hL3, by omega, rfl, fun k h1 h2 => absurd h1 (by omega)⟩
      case round =>
        obtain ⟨s, rfl, hs3, hs4, hs5, rfl, hZ⟩ := hrel
        by_cases hlt : s < L
        · obtain ⟨y, hy⟩ : ∃ y, y = simL v b (t + 1) s := ⟨_, rfl⟩
          have hy1 : y ≤ 1 := by rw [hy]; exact simL_le _ _ _ _
          have cy := hC.out.out.cell s (by simp [cellsOf, hlt] : (cellsOf .i64 L (fun k => (simL v b (t + 1) k : Int)))[s]? = some (.int .i64 (simL v b (t + 1) s : Int)))
          rw [← hy] at cy
          have HY := Lib.hid hy
          clear hy
          by_cases hy0 : y = 0
          · subst hy0
            go_wp2
            go_roundg (gk - 1)
            case measure => omega
            case rel =>
              refine ⟨s + 1, by go_num, by omega, by omega, by omega, rfl, fun k h1 h2 => ?_⟩
              by_cases e : k = s
              · rw [e]; exact HY.out.symm
              · exact hZ.out k h1 (by omega)
          · have hyn : ((y : Int) == 0) = false := by simp; omega
            have hyn2 : ((y : Int) != 0) = true := by simp; omega
            have c3 := hC.out.bits.obj.cell 3 rfl
            have z3 := hC.out.bits.obj.free 3
            have HOP := Lib.hid (hC.out.op true)
            have HTH : Hid (World.there (wc.setCell ⟨g, 3, none⟩ (.bool true)) g4 0 cs0.size) := Lib.hid (there_of_obj HOP.out.res (by rw [cs0_size, cdCells_len]; exact Nat.le_refl _))
            go_wp2_with (refine wpList_store_mid rfl 86 (.tmp 4) (.tmp 62) rfl g4 0 cs0 rfl rfl HTH.out (infoCode17 cs0 cs0_size) cs0_all ?_)
            have hput := res_put HOP.out.res (cdCells_len _ _) cs0 cs0_size
            have HF := Lib.hid hput
            clear hput HTH
            generalize World.setCells _ _ _ _ = wf at HF ⊢
            have h9 := HOP.out
            refine bodyPost_ret (v := .tuple #[.agg cs0, .bool false]) ?_ rfl ⟨⟨cs0, false, p4, sh4, true, rfl, cs0_size, cs0_all, h9.bits.only HF.out.2 (by have := h9.h4; have := h9.glt; omega) (fun h0 x hx e => by have := HAR.out x h0 hx; have := h9.h4; omega), .inl ⟨rfl, ?_⟩⟩, New1.cut (h9.only.tr (HF.out.2.mono (fun k e => .inr (by have := h9.h4; omega))))⟩
            · rw [results_cell_tmp Tryd.results56]
              have hl := res_load HF.out.1 cs0_size
              simp [asAddr, hl]
            · rw [HSF.out, if_pos]
              have h5 := HY.out
              unfold simL at h5
              by_cases hq : 0 < t + 1 ∧ s = v ∨ 1 < t + 1 ∧ s = b
              · rcases hq with hq | hq
                · left; omega
                · right; exact ⟨by omega, by omega⟩
              · rw [if_neg hq] at h5; omega
        · have hsL : s = L := by omega
          have hvs : v < size := by
            rcases Nat.lt_or_ge v size with h | h
            · exact h
            · have h5 := hZ.out v h (by omega)
              unfold simL at h5
              rw [if_pos (.inl ⟨by omega, rfl⟩)] at h5
              omega
          have hbs : t = 1 → b < size := fun ht1 => by
            rcases Nat.lt_or_ge b size with h | h
            · exact h
            · have h5 := hZ.out b h (by omega)
              unfold simL at h5
              rw [if_pos (.inr ⟨by omega, rfl⟩)] at h5
              omega
          have hfo : natF (fun k => (simL v b (t + 1) k : Int)) = simL v b (t + 1) := by funext k; unfold natF; simp
          have HM := Lib.hid (made_any (some ⟨g9, 0, none⟩) L L (fun k => (simL v b (t + 1) k : Int)) wc (arg_of_obj hC.out.out) hL1 (fun k _ => by have := simL_le v b (t + 1) k; omega))
          rw [hfo] at HM
          have HVB := Lib.hid (And.intro hvs hbs)
          clear hfo hsL hbs hZ
          go_wp2_with fail
          refine HM.out.mono ?_
          rintro _ w7 ⟨⟨cs, sa, sc, rfl, hcr, hfr⟩, hb7⟩
          obtain ⟨M, hM⟩ : ∃ x, x = (sys (simL v b (t + 1)) L 15).length := ⟨_, rfl⟩
          have hML : M ≤ 4096 := by rw [hM]; have := sys_le (simL v b (t + 1)) L (fun k _ => by have := simL_le v b (t + 1) k; omega); omega
          have hsz : cs.size = 17 := by rw [hcr.cells]; simp [cdCells]
          have hall : (cs.all (·.oneCell')) = true := by rw [hcr.cells]; exact cdCells_all _ _ _ _
          obtain ⟨okb, hokb⟩ : ∃ x, x = madeB (simL v b (t + 1)) L := ⟨_, rfl⟩
          rw [← hokb]
          rw [← hM] at hfr
          have HPT := Lib.hid (cd_put w7 cs hsz)
          have HTH := Lib.hid (cd_there w7 cs hsz)
          have HSZ := Lib.hid (And.intro hsz hall)
          have H7 := Lib.hid (And.intro hcr (And.intro hfr (And.intro hb7 (And.intro hM hokb))))
          clear hcr hfr hb7 hM hokb hall hsz HM
          go_upto_region 17 with (first | (refine wpList_store_mid rfl 86 (.tmp 12) (.tmp 66) rfl w7.heap.size 0 cs rfl rfl HTH.out (infoCode17 cs HSZ.out.1) HSZ.out.2 ?_))
          (try simp only [Act.put])
          obtain ⟨g12, hg12⟩ : ∃ x, x = w7.heap.size := ⟨_, rfl⟩
          rw [← hg12] at HPT ⊢
          generalize hw8 : World.setCells _ _ _ _ = w8
          have H8 : Hid (CodeR w8 (hh (simL v b (t + 1)) L) (sys (simL v b (t + 1)) L 15) cs sa sc ∧ SObj w8 g12 86 cs.toList ∧ SmpR w w8 g g4 g9 a nb cb f S p4 sh4 op4 L (simL v b (t + 1)) ∧ g4 < g12 ∧ (0 < M → ∀ x, sa = some x → g4 < x.block ∧ x.block < w8.heap.size)) := Lib.hid (by
            have e1 : Only (fun _ => False) w7 w8 := by rw [← hw8]; exact HPT.out.2
            have e2 : SObj w8 g12 86 cs.toList := by rw [← hw8]; exact HPT.out.1
            have e3 : Only (fun _ => False) wc w8 := (Only.of_below H7.out.2.2.1).tr e1
            have hs := hC.out
            refine ⟨H7.out.1.only e1 (fun _ _ _ h => h), e2, ⟨hs.out.only e3 (fun h => h), hs.res.only e3 (fun h => h), hs.bits.only e3 (fun h => h) (fun _ _ _ h => h), hs.only.tr (e3.mono (fun _ h => h.elim)), hs.h4, hs.h9, hs.ne, hs.glt⟩, by have h5 := H7.out.2.2.1.size; have h6 := hs.res.lt; omega, fun h0 x hx => ⟨by have h5 := H7.out.2.1 h0 x hx; have h6 := hs.res.lt; omega, ?_⟩⟩
            obtain ⟨g1, o1, e6, hg1, _⟩ := H7.out.1.row (by rw [← H7.out.2.2.2.1]; exact h0)
            rw [hx] at e6; injection e6 with e6; subst e6
            exact Nat.lt_of_lt_of_le hg1 e1.size)
          have d16 : w8.cell? ⟨g12, 16, none⟩ = some (.slice sa M sc) := H8.out.2.1.cell 16 (by rw [H8.out.1.cells]; show (cdCells _ _)[16]? = _; rw [cdCells_sym, ← H7.out.2.2.2.1])
          have b3 := H8.out.2.2.1.bits.obj.cell 3 rfl
          have z3 := H8.out.2.2.1.bits.obj.free 3
          obtain ⟨op5, hop5⟩ : ∃ x : Bool, x = (op4 || (tw && decide (M = 1))) := ⟨_, rfl⟩
          have HOP := Lib.hid hop5
          clear hw8 HPT HTH hg12 hop5
          go_cut [] from 68 to 83 (fun wx => Hid (SmpR w wx g g4 g9 a nb cb f S p4 sh4 op5 L (simL v b (t + 1)) ∧ Only (fun k => k = g) w8 wx))
          case first =>
            have HSET : Hid (∀ b1 : Bool, b1 = op5 → Hid (SmpR w (w8.setCell ⟨g, 3, none⟩ (.bool b1)) g g4 g9 a nb cb f S p4 sh4 op5 L (simL v b (t + 1)) ∧ Only (fun k => k = g) w8 (w8.setCell ⟨g, 3, none⟩ (.bool b1)))) := Lib.hid (fun b1 hb => by
              subst hb
              exact ⟨H8.out.2.2.1.op b1, Only.setCell _ _ _ rfl⟩)
            cases op4 with
            | true =>
              go_wp2
              go_meet
              exact HSET.out _ (by rw [HOP.out]; rfl)
            | false =>
              cases tw with
              | false =>
                go_wp2
                go_meet
                exact HSET.out _ (by rw [HOP.out]; rfl)
              | true =>
                go_wp2
                go_meet
                exact HSET.out _ (by rw [HOP.out]; by_cases h : M = 1 <;> simp [h] <;> omega)
          case rest =>
            clear d16 b3 z3
            have c2 := hcut.out.1.bits.obj.cell 2 rfl
            have hob : SObj wc g12 86 cs.toList := H8.out.2.1.only hcut.out.2 (by have := hcut.out.1.glt; have := H8.out.2.2.2; have := hcut.out.1.h4; omega)
            have HFN := Lib.hid (smp_fin HSF.out hvs HVB.out.2 ht2 hL3 hL1 H7.out.2.2.2.1 H7.out.2.2.2.2 HP4.out.2.2.2 HOP.out HTW.out)
            have HLD : Hid (∀ d : Nat, (loadVar 86 ⟨g12, 0, none⟩).run Tryd.prog (wc.drewN d) = .ok (.agg cs) (wc.drewN d)) := Lib.hid (fun d => res_load (hob.only (Only.drewN (fun _ => False) wc d) (fun h => h)) HSZ.out.1)
            have HTH : Hid (∀ d : Nat, World.there (wc.drewN d) g4 0 cs.size) := Lib.hid (fun d => there_of_obj (hcut.out.1.res.only (Only.drewN (fun _ => False) wc d) (fun h => h)) (by rw [HSZ.out.1, cdCells_len]; exact Nat.le_refl _))
            have HEND : Hid (∀ (d : Nat) (ok : Bool), ok = (okb && !sh4) → CRes (simpF S nb size p) S nb w ((wc.drewN d).setCells g4 0 cs.toList) g a cb f (.returned (.tuple #[.agg cs, .bool ok])) ∧ Only (fun k => k = g) w ((wc.drewN d).setCells g4 0 cs.toList) ∧ SObj ((wc.drewN d).setCells g4 0 cs.toList) g4 86 cs.toList) := Lib.hid (fun d ok hok => by
              have hon : Only (fun _ => False) wc (wc.drewN d) := Only.drewN (fun _ => False) wc d
              have h9 := hcut.out.1
              obtain ⟨f1, f2⟩ := res_put (h9.res.only hon (fun h => h)) (cdCells_len _ _) cs HSZ.out.1
              have ho : Only (fun k => k = g4) wc ((wc.drewN d).setCells g4 0 cs.toList) := (hon.mono (fun _ h => h.elim)).tr f2
              have hsb := h9.bits.only ho (by have := h9.h4; have := h9.glt; omega) (fun h0 x hx e => by have := HAR.out x h0 hx; have := h9.h4; omega)
              refine ⟨⟨cs, ok, p4, sh4, op5, rfl, HSZ.out.1, HSZ.out.2, hsb, ?_⟩, New1.cut (h9.only.tr (ho.mono (fun k e => .inr (by have := h9.h4; omega)))), f1⟩
              rcases HFN.out with ⟨e1, e2⟩ | ⟨e1, e2, e3, ⟨I, e4⟩, e5⟩
              · exact .inl ⟨e1, e2⟩
              · cases sh4 with
                | true => exact .inr (.inl ⟨e1, rfl, by rw [e2, if_pos rfl]⟩)
                | false =>
                  refine .inr (.inr ⟨e1, rfl, by rw [hok, e3]; rfl, simC v b (t + 1), I, sa, sc, M, by rw [e2, if_neg (show ¬ (false = true) from Bool.noConfusion)], e4, ?_, fun x h0 hx => ?_⟩)
                  · have hc8 := e5 w8 cs sa sc H8.out.1
                    exact (hc8.only hcut.out.2 (fun h0 x hx e => by have := (H8.out.2.2.2.2 h0 x hx).1; have := h9.h4; have := h9.glt; omega)).only ho (fun h0 x hx e => by have := (H8.out.2.2.2.2 h0 x hx).1; omega)
                  · have h10 := H8.out.2.2.2.2 h0 x hx
                    have h11 := hcut.out.2.size
                    have h12 := ho.size
                    have := h9.h4
                    omega)
            have HCT := Lib.hid hcut.out
            have HOB := Lib.hid (And.intro hob H8.out.2.2.2.1)
            have H7o := Lib.hid H7.out.2.2.2.2
            clear hob hcut H8 H7 HFN HSF HP4 HOP HVB
            have hokt : okb = true := by rw [H7o.out]; exact simL_made v b t L ht2 (by omega) (by omega) hL1
            have HKA : Hid (∀ w', w' = wc.drew ∨ w' = wc.drew.setCells g4 0 cs.toList → (codeLoad ⟨g12, 0, none⟩).run Tryd.prog w' = .ok (.agg cs) w' ∧ w'.cell? ⟨g, 2, none⟩ = some (.bool sh4) ∧ (codeStore ⟨g4, 0, none⟩ (.agg cs)).run Tryd.prog w' = .ok () (w'.setCells g4 0 cs.toList)) := Lib.hid (by
              have h4 := HCT.out.1.h4
              have hgl := HCT.out.1.glt
              have key : ∀ w', Only (fun k => k = g4) wc w' → (∃ us : List Value, us.length = 17 ∧ SObj w' g4 86 us) → (codeLoad ⟨g12, 0, none⟩).run Tryd.prog w' = .ok (.agg cs) w' ∧ w'.cell? ⟨g, 2, none⟩ = some (.bool sh4) ∧ (codeStore ⟨g4, 0, none⟩ (.agg cs)).run Tryd.prog w' = .ok () (w'.setCells g4 0 cs.toList) := fun w' ho hu => by
                obtain ⟨us, hl, hu⟩ := hu
                refine ⟨res_load (HOB.out.1.only ho (by have := HOB.out.2; omega)) HSZ.out.1, ?_, ?_⟩
                · exact (World.cell?_of_block (ho.block g HCT.out.1.bits.obj.lt (by omega))).trans c2
                · exact run_storeVar_mid w' g4 0 86 cs (there_of_obj hu (by rw [HSZ.out.1, hl]; exact Nat.le_refl _)) (infoCode17 cs HSZ.out.1) HSZ.out.2
              have hd : Only (fun k => k = g4) wc wc.drew := Only.drewN _ wc 1
              have hr := HCT.out.1.res.only (Only.drewN (fun _ => False) wc 1) (fun h => h)
              obtain ⟨f1, f2⟩ := res_put hr (cdCells_len _ _) cs HSZ.out.1
              rintro w' (rfl | rfl)
              · exact key _ hd ⟨_, cdCells_len _ _, hr⟩
              · exact key _ (hd.tr f2) ⟨_, by simp [HSZ.out.1], f1⟩)
            have HE := Lib.hid (HEND.out 1 (!sh4) (by rw [hokt, Bool.true_and]))
            subst hokt
            clear c2
            go_upto_region 18 with fail
            go_region_held3 (fun w' => (codeLoad ⟨g12, 0, none⟩).run Tryd.prog w' = .ok (.agg cs) w' ∧ w'.cell? ⟨g, 2, none⟩ = some (.bool sh4) ∧ (codeStore ⟨g4, 0, none⟩ (.agg cs)).run Tryd.prog w' = .ok () (w'.setCells g4 0 cs.toList)) (first | exact HKA.out _ (.inl rfl) | exact HKA.out _ (.inr rfl)) (fail)
            go_wp2
            refine bodyPost_ret (v := .tuple #[.agg cs, .bool (!sh4)]) ?_ rfl ⟨HE.out.1, HE.out.2.1⟩
            rw [results_cell_tmp Tryd.results56]
            have hl : (loadVar 86 ⟨g4, 0, none⟩).run Tryd.prog (wc.drew.setCells g4 0 cs.toList) = .ok (.agg cs) (wc.drew.setCells g4 0 cs.toList) := res_load HE.out.2.2 HSZ.out.1
            simp [asAddr, hl]
end Go.Proofs.YtdmefbpfpmkdcaaDoor
