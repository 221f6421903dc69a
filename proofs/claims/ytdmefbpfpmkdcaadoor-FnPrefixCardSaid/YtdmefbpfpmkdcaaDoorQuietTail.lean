/- A region that draws its order, all of whose operations but the last few read or call quietly, the last ones in one forced order (an allocation, an append, a store): one walk of the text's order serves every order. The library has this with 'the very same world' in the head (wp_region_still_tail); here the head's callees may draw. -/
import Derived.Test.YtdmefbpfpmkdcaaDoorRows
import Derived.StillTail
import Derived.Deep.Quiet
import Derived.BigRegion
import Derived.KernelRfl
namespace Go.Proofs.YtdmefbpfpmkdcaaDoor
section
variable {P : Program} {ops : Array Oper} {md : Region.Mode} {C : World → Prop}

/-- The head in whatever order, then L. -/
def headQ (P : Program) (md : Region.Mode) (ops : Array Oper) (C : World → Prop) (n : Nat) (L : Array Bool → Act → Prop) : Nat → Array Bool → Act → Prop
  | 0, done, a => L done a
  | f + 1, done, a => Region.ready md ops done ≠ [] ∧ ∀ i ∈ Region.ready md ops done, i < n ∧ qOp P ops C i (headQ P md ops C n L f (done.setIfInBounds i true)) a

theorem any_of_headQ {n g : Nat} {L : Array Bool → Act → Prop} {Q : Exit → Act → World → Prop} (hL : ∀ done a w, C w → L done a → wpAny P md ops Q g done a w) :
    ∀ (f : Nat) (done : Array Bool) (a : Act) (w : World), C w → headQ P md ops C n L f done a → wpAny P md ops Q (f + g) done a w := by
  intro f
  induction f with
  | zero => intro done a w hw h; rw [Nat.zero_add]; exact hL _ _ _ hw h
  | succ f ih =>
    intro done a w hw h
    have e : f + 1 + g = (f + g) + 1 := by omega
    rw [e]
    exact ⟨fun h0 => absurd h0 h.1, fun i hi => wpOp_of_qOp hw (fun a' w' hw' h' => ih _ a' w' hw' h') (h.2 i hi).2⟩

/-- What is asked of the sets of operations that have come up while the head runs: kept by one more of the head; as long as one of the head is missing none of the tail can come up. -/
structure HeadSets (md : Region.Mode) (ops : Array Oper) (n : Nat) (Inv : Array Bool → Prop) : Prop where
  step : ∀ done j, Inv done → j ∈ Region.ready md ops done → j < n → Inv (done.setIfInBounds j true)
  wait : ∀ done i, Inv done → i < n → done.getD i true = false → ∀ t, n ≤ t → t ∉ Region.ready md ops done

theorem headQ_first {n i : Nat} {oi : Oper} {v : Value} {L : Array Bool → Act → Prop} {Inv : Array Bool → Prop} (hI : HeadSets md ops n Inv) (hi : ops[i]? = some oi) (hsel : ∀ (j : Nat) (o : Oper) cs b, ops[j]? = some o → o.op ≠ .select cs b)
    (hin : i < n) (hend : ∀ done a, L done a → ∀ j ∈ Region.ready md ops done, n ≤ j) (f : Nat) :
    ∀ (done : Array Bool) (a : Act), Inv done →
      (∀ j oj, ops[j]? = some oj → j ≠ i → done.getD j true = false → (∀ e ∈ oj.after, Region.binds md e = true → e.on ≠ i) → oi.apart ops oj = true) →
      i ∈ Region.ready md ops done → YieldsIn P ops C oi v a →
      headQ P md ops C n L f (done.setIfInBounds i true) (a.put oi.dst v) → headQ P md ops C n L (f + 1) done a := by
  induction f with
  | zero =>
    intro done a inv _ hr hy H
    have hun := (mem_ready.1 hr).1
    refine ⟨List.ne_nil_of_mem hr, fun j hj => ?_⟩
    have hjn : j < n := Nat.lt_of_not_le fun h => hI.wait done i inv hin hun j h hj
    refine ⟨hjn, ?_⟩
    rcases Nat.decEq j i with hji | hji
    · exact absurd (hend _ _ H j (ready_mono hj hji)) (by omega)
    · subst hji; exact hy.qOp hi H
  | succ f ih =>
    intro done a inv hfree hr hy H
    have hun := (mem_ready.1 hr).1
    refine ⟨List.ne_nil_of_mem hr, fun j hj => ?_⟩
    have hjn : j < n := Nat.lt_of_not_le fun h => hI.wait done i inv hin hun j h hj
    refine ⟨hjn, ?_⟩
    rcases Nat.decEq j i with hji | hji
    · obtain ⟨hjun, oj, hoj, hall⟩ := mem_ready.1 hj
      have hnot : ∀ e ∈ oj.after, Region.binds md e = true → e.on ≠ i := by
        intro e he hb heq
        have h1 := hall e he hb
        rw [heq, getD_both hun] at h1
        cases h1
      refine qOp_mono (fun a' h3 => ?_) (qOp_put hoj (hfree j oj hoj hji hjun hnot) (fun cs b => hsel i oi cs b hi) (fun cs b => hsel j oj cs b hoj) hy (H.2 j (ready_mono hj hji)).2)
      refine ih (done.setIfInBounds j true) a' (hI.step done j inv hj hjn) (fun k ok hk hki hunk hno => hfree k ok hk hki ?_ hno) (ready_mono hr (Ne.symm hji)) h3.1 ?_
      · rcases Nat.decEq j k with h | h
        · rw [getD_set_ne true h] at hunk; exact hunk
        · subst h; exact hjun
      · rw [Array.setIfInBounds_comm _ _ hji]; exact h3.2
    · subst hji; exact hy.qOp hi H

theorem headQ_lex {n g : Nat} {K : Act → Prop} {Inv : Array Bool → Prop} (hI : HeadSets md ops n Inv) (hsel : Region.noSelect ops = true) (l : List Oper) :
    ∀ (k : Nat) (done : Array Bool) (a : Act), (∀ j, j < l.length → l[j]? = ops[k + j]?) → k + l.length = n → Inv done →
    Region.lexHead md ops g l.length k done = true → wpQuiet P ops C K l a →
    headQ P md ops C n (fun done' a' => Region.seqB md ops g n done' = true ∧ K a') l.length done a := by
  induction l with
  | nil =>
    intro k done a _ hk _ hB h
    obtain rfl : k = n := by simpa using hk
    exact ⟨by simpa [Region.lexHead] using hB, h⟩
  | cons o l ih =>
    intro k done a hl hk inv hB h
    have h0 : ops[k]? = some o := by simpa using (hl 0 (by simp)).symm
    simp only [List.length_cons] at hk
    simp only [List.length_cons, Region.lexHead, Bool.and_eq_true] at hB
    obtain ⟨⟨hr, hf⟩, hB'⟩ := hB
    have hr' : k ∈ Region.ready md ops done := by simpa using hr
    have hq : qOp P ops C k (wpQuiet P ops C K l) a := by unfold qOp; simp only [h0]; exact h
    obtain ⟨v, hy, hK⟩ := yieldsIn_of_qOp h0 hq
    refine headQ_first hI h0 (Region.noSelect_spec hsel) (by omega) (fun done' a' hL => seqB_ready hL.1) l.length done a inv (Region.free_spec h0 hf) hr' hy ?_
    exact ih (k + 1) _ _ (fun j hj => by have := hl (j + 1) (by simp; omega); simpa [Nat.add_assoc, Nat.add_comm 1 j] using this) (by omega) (hI.step done k inv hr' (by omega)) hB' hK

theorem headSets_all {n : Nat} (hs : Region.sinkB md ops n = true) (hc : Region.chainB md ops n = true) (hn : n < ops.size) : HeadSets md ops n (HeadInv md ops n) :=
  ⟨fun _ _ inv hj hjn => inv.set hj hjn, fun _ i inv hin hun => tail_waits hs hc hn inv _ i rfl hin hun⟩

/-- Each operation of the head but the first one is waited for by a later one of the head, or by the first of the tail. -/
def sinkB1 (md : Region.Mode) (ops : Array Oper) (n : Nat) : Bool :=
  (List.range n).all fun i => decide (i = 0) || (List.range (n + 1)).any fun j => decide (i < j) && Region.waitsFor md ops j i

theorem tail_waits1 {n : Nat} {done : Array Bool} (hs : sinkB1 md ops n = true) (hc : Region.chainB md ops n = true) (hn : n < ops.size) (inv : HeadInv md ops n done) (hz : done.getD 0 true = true) :
    ∀ (d i : Nat), n - i = d → i < n → done.getD i true = false → ∀ t, n ≤ t → t ∉ Region.ready md ops done := by
  intro d
  induction d using Nat.strongRecOn with
  | _ d ih =>
    intro i hd hin hun t ht hr
    obtain ⟨_, ot, hot, hall⟩ := mem_ready.1 hr
    have htlt : t < ops.size := (Array.getElem?_eq_some_iff.1 hot).1
    rcases Nat.lt_or_ge n t with hnt | hnt
    · have h1 := List.all_eq_true.1 hc t (List.mem_range.2 htlt)
      simp only [Bool.or_eq_true, decide_eq_true_eq] at h1
      obtain ⟨o', ho', e, he, hb, hon⟩ := Region.waitsFor_spec (h1.resolve_left (by omega))
      obtain rfl : o' = ot := Option.some.inj (ho'.symm.trans hot)
      have h2 := hall e he hb
      rw [hon, getD_both (inv.tail (t - 1) (by omega) (by omega))] at h2
      cases h2
    · obtain rfl : t = n := by omega
      have hi0 : i ≠ 0 := by intro h; rw [h, hz] at hun; cases hun
      have h1 := List.all_eq_true.1 hs i (List.mem_range.2 hin)
      simp only [Bool.or_eq_true, decide_eq_true_eq] at h1
      obtain ⟨j, hj, hj2⟩ := List.any_eq_true.1 (h1.resolve_left hi0)
      simp only [Bool.and_eq_true, decide_eq_true_eq] at hj2
      obtain ⟨oj, hoj, e, he, hb, hon⟩ := Region.waitsFor_spec hj2.2
      have hjle : j ≤ t := by have := List.mem_range.1 hj; omega
      rcases Nat.decEq j t with hjt | hjt
      · cases hl : done.getD j false with
        | true =>
          have h2 := inv.closed j oj hoj hl e he hb
          rw [hon, getD_both hun] at h2
          cases h2
        | false => exact ih (t - j) (by omega) j rfl (by omega) (getD_in (by rw [inv.size]; omega) hl) t (Nat.le_refl _) hr
      · subst hjt
        obtain rfl : oj = ot := Option.some.inj (hoj.symm.trans hot)
        have h2 := hall e he hb
        rw [hon, getD_both hun] at h2
        cases h2

theorem headSets_but0 {n : Nat} (hs : sinkB1 md ops n = true) (hc : Region.chainB md ops n = true) (hn : n < ops.size) : HeadSets md ops n (fun done => HeadInv md ops n done ∧ done.getD 0 true = true) := by
  refine ⟨fun done j inv hj hjn => ⟨inv.1.set hj hjn, ?_⟩, fun _ i inv hin hun => tail_waits1 hs hc hn inv.1 inv.2 _ i rfl hin hun⟩
  rcases Nat.decEq j 0 with h | h
  · rw [getD_set_ne true h]; exact inv.2
  · subst h
    rcases Nat.lt_or_ge 0 done.size with h' | h'
    · simp [h']
    · simp

/-- The region: the head walked once, in the text's order, in the class 'the world after some draws'; then the tail as a plain list. -/
theorem wp_region_quiet_tail {id : Nat} {Q : Exit → Act → World → Prop} {a : Act} {w : World} {l : List Oper} (n : Nat) (hm : P.follows .mixedOrders = true) (hB : Region.lexTailB .any l.toArray n = true)
    (h : wpQuiet P l.toArray (fun w' => ∃ d, w' = w.drewN d) (fun a' => ∀ w', (∃ d, w' = w.drewN d) → wpList P l.toArray Q (l.drop n) a' w') (l.take n) a) : (Code.region id l.toArray true).wp P Q a w := by
  simp only [Region.lexTailB, Bool.and_eq_true, decide_eq_true_eq] at hB
  obtain ⟨⟨⟨⟨hsel, hn⟩, hs⟩, hc⟩, hlex⟩ := hB
  have hn' : n < l.length := by simpa using hn
  have htl : (l.take n).length = n := by simp; omega
  have inv0 : HeadInv .any l.toArray n (Array.replicate l.toArray.size false) :=
    ⟨by simp, fun j oj _ hl => (by rw [getD_replicate_false] at hl; cases hl), fun t _ ht => getD_in (by simpa using ht) (getD_replicate_false _ _)⟩
  have H := headQ_lex (md := .any) (g := l.toArray.size - n) (headSets_all hs hc hn) hsel (l.take n) 0 _ a (fun j hj => by
    have hj' : j < n := by rw [htl] at hj; exact hj
    simp [hj']) (by simpa using htl) inv0 (by rw [htl]; exact hlex) h
  refine wp_region_any hm ?_
  have := any_of_headQ (Q := Q) (g := l.toArray.size - n) (C := fun w' => ∃ d, w' = w.drewN d) (fun done a' w' hw' hL => by
    have hdl : (l.drop n).length = l.toArray.size - n := by simp
    have h1 := wpAny_of_seq (P := P) (md := .any) (Q' := Q) (l.drop n) n done a' w' (fun j => by simp [List.getElem?_drop]) (by rw [hdl]; exact hL.1) (hL.2 w' hw')
    rwa [hdl] at h1) _ _ _ { w with drawn := w.drawn + 1 } ⟨1, rfl⟩ H
  rw [htl, show n + (l.toArray.size - n) = l.toArray.size by omega] at this
  exact this

/-- The Bool that is asked of a region whose first operation is a mere move that only the tail waits for ('out' in 'out = append(out, ..)'): it is taken first; then as above. -/
def lexTail1B (ops : Array Oper) (n : Nat) : Bool :=
  Region.noSelect ops && decide (n < ops.size) && sinkB1 .any ops n && Region.chainB .any ops n && (Region.ready .any ops (Array.replicate ops.size false)).contains 0 && Region.free .any ops (Array.replicate ops.size false) 0 &&
    decide (0 < n) && Region.lexHead .any ops (ops.size - n) (n - 1) 1 ((Array.replicate ops.size false).setIfInBounds 0 true)

theorem wp_region_move_quiet_tail {id : Nat} {Q : Exit → Act → World → Prop} {a : Act} {w : World} {o : Oper} {l : List Oper} (n : Nat) (x : Operand) (ho : o.op = .move x) (hg : o.guard = none) (hm : P.follows .mixedOrders = true) (hB : lexTail1B (o :: l).toArray n = true)
    (hQ : ∀ c b w, Q (.panic c) (b.put o.dst (a.eval x)) w → Q (.panic c) b w)
    (h0 : wpQuiet P (o :: l).toArray (fun w' => ∃ d, w' = w.drewN d) (fun a' => ∀ w', (∃ d, w' = w.drewN d) → wpList P (o :: l).toArray Q ((o :: l).drop n) a' w') ((o :: l).take n) a) : (Code.region id (o :: l).toArray true).wp P Q a w := by
  simp only [lexTail1B, Bool.and_eq_true, decide_eq_true_eq] at hB
  obtain ⟨⟨⟨⟨⟨⟨⟨hsel, hn⟩, hs⟩, hc⟩, hr0⟩, hf0⟩, hn0⟩, hlex⟩ := hB
  have hn' : n < l.length + 1 := by simpa using hn
  have h : wpQuiet P (o :: l).toArray (fun w' => ∃ d, w' = w.drewN d) (fun a' => ∀ w', (∃ d, w' = w.drewN d) → wpList P (o :: l).toArray Q ((o :: l).drop n) a' w') (l.take (n - 1)) (a.put o.dst (a.eval x)) := by
    have e1 : (o :: l).take n = o :: l.take (n - 1) := by
      cases n with
      | zero => omega
      | succ n => simp
    rw [e1] at h0
    simp only [wpQuiet, Region.wanted, hg, if_true] at h0
    obtain ⟨v, hv, hk⟩ := h0
    have hv1 := hv w ⟨0, rfl⟩
    unfold Oper.quietAt at hv1
    rw [BigFrame.run_move x ho] at hv1
    rw [hv1.2]; exact hk
  have htl : (l.take (n - 1)).length = n - 1 := by simp; omega
  have hr0' : 0 ∈ Region.ready .any (o :: l).toArray (Array.replicate (o :: l).toArray.size false) := by simpa using hr0
  have inv0 : HeadInv .any (o :: l).toArray n (Array.replicate (o :: l).toArray.size false) :=
    ⟨by simp, fun j oj _ hl => (by rw [getD_replicate_false] at hl; cases hl), fun t _ ht => getD_in (by simpa using ht) (getD_replicate_false _ _)⟩
  have inv1 := inv0.set hr0' hn0
  have hz : ((Array.replicate (o :: l).toArray.size false).setIfInBounds 0 true).getD 0 true = true := by simp
  have H := headQ_lex (P := P) (md := .any) (C := fun w' => ∃ d, w' = w.drewN d) (g := (o :: l).toArray.size - n) (headSets_but0 hs hc hn) hsel (l.take (n - 1)) 1 _ (a.put o.dst (a.eval x)) (fun j hj => by
    have hj' : j < n - 1 := by rw [htl] at hj; exact hj
    have e : 1 + j = j + 1 := by omega
    simp [hj', e]) (by rw [htl]; omega) ⟨inv1, hz⟩ (by rw [htl]; exact hlex) h
  refine wp_region_any hm ?_
  have K := any_of_headQ (Q := Q) (g := (o :: l).toArray.size - n) (C := fun w' => ∃ d, w' = w.drewN d) (fun done a' w' hw' hL => by
    have hdl : ((o :: l).drop n).length = (o :: l).toArray.size - n := by simp
    have h1 := wpAny_of_seq (P := P) (md := .any) (Q' := Q) ((o :: l).drop n) n done a' w' (fun j => by simp [List.getElem?_drop]) (by rw [hdl]; exact hL.1) (hL.2 w' hw')
    rwa [hdl] at h1) _ _ _ { w with drawn := w.drawn + 1 } ⟨1, rfl⟩ H
  have e2 : (o :: l).toArray.size = (n - 1 + ((o :: l).toArray.size - n)) + 1 := by simp; omega
  rw [htl] at K
  have K2 := wpAny_take (P := P) (md := .any) (Q := Q) (i := 0) (oi := o) (v := a.eval x) (by simp) hsel hf0 hr0 hQ
    (.inl ⟨by simp [Region.wanted, hg], fun w => BigFrame.run_move x ho w⟩) K
  rw [← e2] at K2
  exact K2
end
end Go.Proofs.YtdmefbpfpmkdcaaDoor
