/- The package's decodeHuffmanTree. -/
import Derived.Test.YtdmefbpfpmkdcaaDoorIDcl
import Derived.Test.YtdmefbpfpmkdcaaDoorSSmp
import Derived.Deep.RegionHeld3
namespace Go.Proofs.YtdmefbpfpmkdcaaDoor
open Go.RowKit
set_option linter.unusedVariables false

/-- What decodeHuffmanTree comes to. -/
def HPost (pre : Pre) (w : World) (gd gr gh : Nat) (a : Option Addr) (n c : Nat) (f : Nat → Int) (S : Nat) (e : Ending) (w' : World) : Prop :=
  (pre = .short ∧ ∃ x, e = .returned (errV x)) ∨
  (e = .returned .nilIface ∧ ∃ C I q gn, pre = .tree C q ∧ Code C I ∧ C.length ≤ 4096 ∧ TreeS C C w' gh gn ∧ w.heap.size ≤ gn ∧ Rdr w' gd gr a n c f S q)
/-- A tree's block (still empty) and the reader. -/
structure HufR (w wr : World) (gd gr gh : Nat) (a : Option Addr) (n c : Nat) (f : Nat → Int) (S p : Nat) : Prop where
  rdr : Rdr wr gd gr a n c f S p
  obj : SObj wr gh 74 (hCells (.slice none 0 0) (fun _ => 0))
  only : Only (fun k => (Two gd gr k ∨ k = gh) ∨ w.heap.size ≤ k) w wr
  hgh : gh < w.heap.size
  far : ∀ x, 0 < n → a = some x → x.block ≠ gh ∧ x.block < w.heap.size
  ne : ¬ Two gd gr gh
  lt : gd < w.heap.size ∧ gr < w.heap.size
theorem HufR.new {w wr w2 : World} {gd gr gh : Nat} {a : Option Addr} {n c : Nat} {f : Nat → Int} {S p : Nat} (h : HufR w wr gd gr gh a n c f S p) (ho : Only (fun k => w.heap.size ≤ k) wr w2) : HufR w w2 gd gr gh a n c f S p :=
  ⟨h.rdr.only ho (by have := h.lt; omega) (by have := h.lt; omega) (fun h0 x hx e => by have := (h.far x h0 hx).2; omega), h.obj.only ho (by have := h.hgh; omega), h.only.tr (ho.mono (fun _ e => .inr e)), h.hgh, h.far, h.ne, h.lt⟩
theorem HufR.read {w wr w2 : World} {gd gr gh : Nat} {a : Option Addr} {n c : Nat} {f : Nat → Int} {S p p' : Nat} (h : HufR w wr gd gr gh a n c f S p) (ho : Only (Two gd gr) wr w2) (hr : Rdr w2 gd gr a n c f S p') : HufR w w2 gd gr gh a n c f S p' :=
  ⟨hr, h.obj.only ho h.ne, h.only.tr (ho.mono (fun _ e => .inl (.inl e))), h.hgh, h.far, h.ne, h.lt⟩
theorem HufR.out {w wr : World} {gd gr gh : Nat} {a : Option Addr} {n c : Nat} {f : Nat → Int} {S p : Nat} (h : HufR w wr gd gr gh a n c f S p) {w2 : World} (ho : Only (fun k => Two gd gr k ∨ k = gh) wr w2) : Only (fun k => Two gd gr k ∨ k = gh) w w2 := by
  have h1 := h.only.tr (ho.mono (fun _ e => .inl e))
  exact ⟨h1.os, h1.tape, h1.output, h1.size, fun k hk hn => h1.block k hk (fun e => by rcases e with e | e; exact hn e; omega)⟩
theorem ucells_set (n : Nat) (o : Nat → Nat) (j v : Nat) : (cellsOf .u32 n (fun k => (o k : Int))).set j (.int .u32 (v : Int)) = cellsOf .u32 n (fun k => ((updN o j v k : Nat) : Int)) := by
  apply List.ext_getElem
  · simp [cellsOf]
  · intro i h1 h2
    simp only [cellsOf, List.getElem_set, List.getElem_map, List.getElem_range]
    unfold updN
    by_cases e : j = i
    · subst e; simp
    · simp [e, show ¬ i = j from fun h => e h.symm]
theorem ucells_congr {n : Nat} {o o' : Nat → Nat} (h : ∀ k, k < n → o k = o' k) : cellsOf .u32 n (fun k => (o k : Int)) = cellsOf .u32 n (fun k => (o' k : Int)) := by
  simp only [cellsOf]
  exact List.map_congr_left fun i hi => by rw [h i (List.mem_range.1 hi)]
theorem u32s_made (n : Nat) : (madeCells #[.int .u32 0] n) = (cellsOf .u32 n (fun _ => 0)).toArray := by
  apply Array.ext
  · simp [madeCells, cellsOf]
  · intro i h1 h2
    simp [madeCells, cellsOf, Nat.mod_one]
/-- The array of own lengths, empty. -/
def za19 : Array Value := (cellsOf .u32 19 (fun _ => 0)).toArray
theorem za19_all : za19.all (·.oneCell') = true := by
  refine Array.all_eq_true_iff_forall_mem.2 (fun v hv => ?_)
  have hv : v ∈ cellsOf .u32 19 (fun _ => 0) := by simpa [za19] using hv
  obtain ⟨i, _, rfl⟩ := List.mem_map.1 hv
  rfl
theorem info110 : (Tryd.prog.info? 110).map (·.size) = some za19.size := by kernel_rfl
theorem lens_three {A B : Prop} [Decidable A] [Decidable B] (X : Lens) (h : B) : (if A then Lens.opened else if B then Lens.short else X) = .opened ∨ (if A then Lens.opened else if B then Lens.short else X) = .short := by
  by_cases hA : A
  · rw [if_pos hA]; exact .inl rfl
  · rw [if_neg hA, if_pos h]; exact .inr rfl
theorem normL_end4 {S N size p : Nat} (h : 8 * N < p + 4) : normL S N size p = .opened ∨ normL S N size p = .short := by
  unfold normL
  exact lens_three _ (.inl h)
theorem pre_first {S n size : Nat} (h : 8 * n < 0 + 1) (hp : preF S n size ≠ .opened) : preF S n size = .short := by
  have e1 : rdv S n 0 1 = 0 := by unfold rdv; rw [if_neg (by omega)]
  have e2 : nx n 0 1 = 8 * n := by unfold nx; rw [if_neg (by omega)]
  unfold preF at hp ⊢
  rw [e1, e2, if_neg (by decide)] at hp ⊢
  rcases normL_end4 (S := S) (N := n) (size := size) (p := 8 * n) (by omega) with h | h
  · rw [h] at hp; exact absurd rfl hp
  · rw [h]; rfl

set_option maxRecDepth 100000 in
set_option maxHeartbeats 4000000 in
theorem ihuf_any (gd gr gh : Nat) (a : Option Addr) (n c : Nat) (f : Nat → Int) (S size : Nat) (w : World)
    (hr : Rdr w gd gr a n c f S 0) (hse : SntE w) (htp : TabP w) (hrev : RevT w) (hbig : 7 < gd ∧ 7 < gr ∧ 7 < gh ∧ 7 < w.heap.size)
    (hob : SObj w gh 74 (hCells (.slice none 0 0) (fun _ => 0))) (hfar : ∀ x, 0 < n → a = some x → x.block ≠ gh ∧ x.block < w.heap.size) (hne : ¬ Two gd gr gh)
    (hs1 : 1 ≤ size) (hs2 : size ≤ 4096) (hpre : preF S n size ≠ .opened) :
    Calls Tryd.prog 58 #[.pointer (some ⟨gd, 0, none⟩), .pointer (some ⟨gh, 0, none⟩), .int .u32 size] w fun e' w' =>
      HPost (preF S n size) w gd gr gh a n c f S e' w' ∧ Only (fun k => Two gd gr k ∨ k = gh) w w' := by
  have H0 : Hid (HufR w w gd gr gh a n c f S 0) := Lib.hid ⟨hr, hob, Only.refl _ _, hob.lt, hfar, hne, by have h5 := hr.lt; omega⟩
  have HBIG : Hid (∀ g, g ≤ 7 → ¬ ((Two gd gr g ∨ g = gh) ∨ w.heap.size ≤ g)) := Lib.hid (fun g hg e => by
    rcases e with (e | e) | e
    · rcases e with e | e <;> omega
    · omega
    · omega)
  have HSN : Hid (∀ w' : World, Only (fun k => (Two gd gr k ∨ k = gh) ∨ w.heap.size ≤ k) w w' → SntE w' ∧ TabP w' ∧ RevT w') := Lib.hid (fun w' h => ⟨hse.only h (fun g hg => HBIG.out g (by omega)), htp.only h HBIG.out, hrev.only h (HBIG.out _ (by decide))⟩)
  have HNE : Hid (∀ g, g ≤ 1 → ¬ Two gd gr g) := Lib.hid (fun g hg e => HBIG.out g (by omega) (.inl (.inl e)))
  have HPR := Lib.hid hpre
  clear hr hse htp hrev hbig hob hfar hne hpre
  obtain ⟨u, hu⟩ : ∃ x, x = rdv S n 0 1 := ⟨_, rfl⟩
  obtain ⟨p1, hp1⟩ : ∃ x, x = nx n 0 1 := ⟨_, rfl⟩
  have hu2 : u < 2 := by rw [hu]; exact rdv_lt S n 0 1
  have HU := Lib.hid (And.intro hu hp1)
  by_cases hE1 : 8 * n < 0 + 1
  · have HN := Lib.hid (read_end gd gr a n c f S 0 1 w H0.out.rdr (by decide) hE1 (HSN.out _ H0.out.only).1 HNE.out)
    have HS := Lib.hid (pre_first (S := S) (size := size) hE1 HPR.out)
    clear hE1 hu hp1
    go_enter Tryd.func58, Tryd.ntmps58
    go_wp2_with fail
    refine HN.out.mono ?_
    rintro _ w3 ⟨⟨x, rfl⟩, ho3⟩
    have HO := Lib.hid (H0.out.out (ho3.mono (fun _ e => .inl e)))
    clear ho3
    unfold errV
    go_wp2
    go_ret
    exact ⟨.inl ⟨HS.out, x, rfl⟩, HO.out⟩
  · have HN := Lib.hid (read_in gd gr a n c f S 0 1 w H0.out.rdr (by decide) (by omega))
    rw [← hu, ← hp1] at HN
    clear hu hp1 hE1
    go_enter Tryd.func58, Tryd.ntmps58
    go_wp2_with fail
    refine HN.out.mono ?_
    rintro _ w3 ⟨rfl, hr3, ho3⟩
    have H3 := Lib.hid (H0.out.read ho3 hr3)
    clear hr3 ho3 HN
    by_cases hu1 : u = 1
    · have hpre : preF S n size = simpF S n size p1 := by unfold preF; rw [← HU.out.1, ← HU.out.2, if_pos hu1]
      obtain ⟨t, ht⟩ : ∃ x, x = rdv S n p1 1 := ⟨_, rfl⟩
      obtain ⟨p2, hp2⟩ : ∃ x, x = nx n p1 1 := ⟨_, rfl⟩
      obtain ⟨x1, hx1⟩ : ∃ x, x = rdv S n p2 1 := ⟨_, rfl⟩
      obtain ⟨p3, hp3⟩ : ∃ x, x = nx n p2 1 := ⟨_, rfl⟩
      obtain ⟨kk, hkk⟩ : ∃ x, x = 1 + 7 * x1 := ⟨_, rfl⟩
      obtain ⟨v, hv⟩ : ∃ x, x = rdv S n p3 kk := ⟨_, rfl⟩
      obtain ⟨p4, hp4⟩ : ∃ x, x = nx n p3 kk := ⟨_, rfl⟩
      obtain ⟨b, hb⟩ : ∃ x, x = rdv S n p4 8 := ⟨_, rfl⟩
      obtain ⟨p5, hp5⟩ : ∃ x, x = (if t = 1 then nx n p4 8 else p4) := ⟨_, rfl⟩
      have ht2 : t < 2 := by rw [ht]; exact rdv_lt S n p1 1
      have hx2 : x1 < 2 := by rw [hx1]; exact rdv_lt S n p2 1
      have hkk8 : kk ≤ 8 := by omega
      have hv256 : v < 256 := by
        have h1 := rdv_lt S n p3 kk
        have h2 : (2 : Nat) ^ kk ≤ 2 ^ 8 := Nat.pow_le_pow_right (by decide) hkk8
        have e8 : (2 : Nat) ^ 8 = 256 := rfl
        omega
      have hb256 : b < 256 := by rw [hb]; exact rdv_lt S n p4 8
      have HSF := simpF_of (size := size) (sh1 := decide (8 * n < p1 + 1)) (sh2 := (decide (8 * n < p1 + 1) || decide (8 * n < p2 + 1))) (sh3 := (decide (8 * n < p1 + 1) || decide (8 * n < p2 + 1) || decide (8 * n < p3 + kk))) (sh4 := if t = 1 then (decide (8 * n < p1 + 1) || decide (8 * n < p2 + 1) || decide (8 * n < p3 + kk)) || decide (8 * n < p4 + 8) else (decide (8 * n < p1 + 1) || decide (8 * n < p2 + 1) || decide (8 * n < p3 + kk))) (op4 := (decide (t = 1) && decide (b < v)))
        ⟨ht, hp2, rfl⟩ ⟨hx1, hp3, rfl⟩ ⟨hkk, hv, hp4, rfl⟩ ⟨hb, hp5, rfl, rfl⟩
      have hno : ¬ (size ≤ v ∨ t = 1 ∧ (b ≤ v ∨ size ≤ b)) := fun h => by
        rw [if_pos h] at HSF
        exact HPR.out (hpre.trans HSF)
      rw [if_neg hno, ← hpre] at HSF
      have HSHORT : Hid ((8 * n < p1 + 1 ∨ 8 * n < p2 + 1 ∨ 8 * n < p3 + kk ∨ t = 1 ∧ 8 * n < p4 + 8) → preF S n size = .short) := Lib.hid (fun h => by
        rw [HSF, if_pos]
        by_cases h1 : t = 1
        · rw [if_pos h1]
          rcases h with h | h | h | h <;> simp [h]
        · rw [if_neg h1]
          rcases h with h | h | h | h
          · simp [h]
          · simp [h]
          · simp [h]
          · exact absurd h.1 h1)
      have HTREE : Hid (¬ (8 * n < p1 + 1 ∨ 8 * n < p2 + 1 ∨ 8 * n < p3 + kk ∨ t = 1 ∧ 8 * n < p4 + 8) → preF S n size = .tree (simC v b (t + 1)) p5) := Lib.hid (fun h => by
        rw [HSF, if_neg]
        intro h2
        refine h ?_
        by_cases h1 : t = 1
        · rw [if_pos h1] at h2
          simp only [Bool.or_eq_true, decide_eq_true_eq] at h2
          rcases h2 with ((h2 | h2) | h2) | h2
          · exact .inl h2
          · exact .inr (.inl h2)
          · exact .inr (.inr (.inl h2))
          · exact .inr (.inr (.inr ⟨h1, h2⟩))
        · rw [if_neg h1] at h2
          simp only [Bool.or_eq_true, decide_eq_true_eq] at h2
          rcases h2 with (h2 | h2) | h2
          · exact .inl h2
          · exact .inr (.inl h2)
          · exact .inr (.inr (.inl h2)))
      have HLT := Lib.hid (And.intro ht (And.intro hp2 (And.intro hx1 (And.intro hp3 (And.intro hkk (And.intro hv (And.intro hp4 (And.intro hb (And.intro hp5 hno)))))))))
      clear ht hp2 hx1 hp3 hkk hv hp4 hb hp5 HSF hno hpre
      subst hu1
      by_cases hE2 : 8 * n < p1 + 1
      · have HN := Lib.hid (read_end gd gr a n c f S p1 1 w3 H3.out.rdr (by decide) hE2 (HSN.out _ H3.out.only).1 HNE.out)
        have HS := Lib.hid (HSHORT.out (.inl hE2))
        clear hE2
        go_wp2_with fail
        refine HN.out.mono ?_
        rintro _ w4 ⟨⟨x, rfl⟩, ho4⟩
        have HO := Lib.hid (H3.out.out (ho4.mono (fun _ e => .inl e)))
        clear ho4
        unfold errV
        go_wp2
        go_ret
        exact ⟨.inl ⟨HS.out, x, rfl⟩, HO.out⟩
      have HN := Lib.hid (read_in gd gr a n c f S p1 1 w3 H3.out.rdr (by decide) (by omega))
      rw [← HLT.out.1, ← HLT.out.2.1] at HN
      have HE2 := Lib.hid hE2
      clear hE2
      go_wp2_with fail
      refine HN.out.mono ?_
      rintro _ w4 ⟨rfl, hr4, ho4⟩
      have H4 := Lib.hid (H3.out.read ho4 hr4)
      clear hr4 ho4 HN
      by_cases hE3 : 8 * n < p2 + 1
      · have HN := Lib.hid (read_end gd gr a n c f S p2 1 w4 H4.out.rdr (by decide) hE3 (HSN.out _ H4.out.only).1 HNE.out)
        have HS := Lib.hid (HSHORT.out (.inr (.inl hE3)))
        clear hE3
        go_wp2_with fail
        refine HN.out.mono ?_
        rintro _ w5 ⟨⟨x, rfl⟩, ho5⟩
        have HO := Lib.hid (H4.out.out (ho5.mono (fun _ e => .inl e)))
        clear ho5
        unfold errV
        go_wp2
        go_ret
        exact ⟨.inl ⟨HS.out, x, rfl⟩, HO.out⟩
      have HN := Lib.hid (read_in gd gr a n c f S p2 1 w4 H4.out.rdr (by decide) (by omega))
      rw [← HLT.out.2.2.1, ← HLT.out.2.2.2.1] at HN
      have HE3 := Lib.hid hE3
      clear hE3
      go_wp2_with fail
      refine HN.out.mono ?_
      rintro _ w5 ⟨rfl, hr5, ho5⟩
      have H5 := Lib.hid (H4.out.read ho5 hr5)
      have ekk : (7 : Int) * (x1 : Int) + 1 = (kk : Int) := by have := HLT.out.2.2.2.2.1; omega
      clear hr5 ho5 HN
      go_upto_region 14 with fail
      obtain ⟨g12, hg12⟩ : ∃ x, x = w5.heap.size := ⟨_, rfl⟩
      generalize hw6 : World.alloc _ _ = w6
      have H6 : Hid (HufR w w6 gd gr gh a n c f S p3 ∧ SObj w6 g12 76 [.int .u32 0, .int .u32 0] ∧ w.heap.size ≤ g12) := Lib.hid (by
        have ho : Only (fun k => w.heap.size ≤ k) w5 w6 := by rw [← hw6]; exact Only.alloc _ _ _
        exact ⟨H5.out.new ho, by rw [← hw6, hg12]; exact obj_new w5 76 [.int .u32 0, .int .u32 0], by rw [hg12]; exact H5.out.only.size⟩)
      rw [← hg12]
      clear hw6 hg12
      have hg12r : ¬ Two gd gr g12 := fun e => by have h5 := H6.out.1.lt; have h6 := H6.out.2.2; rcases e with e | e <;> omega
      have HG12 := Lib.hid hg12r
      clear hg12r
      by_cases hE4 : 8 * n < p3 + kk
      · have HN := Lib.hid (read_end gd gr a n c f S p3 kk w6 H6.out.1.rdr (by omega) hE4 (HSN.out _ H6.out.1.only).1 HNE.out)
        have HS := Lib.hid (HSHORT.out (.inr (.inr (.inl hE4))))
        clear hE4
        go_wp2_with fail
        refine HN.out.mono ?_
        rintro _ w7 ⟨⟨x, rfl⟩, ho7⟩
        have hob7 := H6.out.2.1.only ho7 HG12.out
        have c0 := hob7.cell 0 rfl
        have f0 := hob7.free 0
        have HO : Hid (Only (fun k => Two gd gr k ∨ k = gh) w (w7.setCell ⟨g12, 0, none⟩ (.int .u32 0))) := Lib.hid (by
          have h1 := (H6.out.1.only.tr (ho7.mono (fun _ e => .inl (.inl e)))).tr (Only.setCell (S := fun k => (Two gd gr k ∨ k = gh) ∨ w.heap.size ≤ k) w7 ⟨g12, 0, none⟩ (.int .u32 0) (.inr H6.out.2.2))
          exact ⟨h1.os, h1.tape, h1.output, h1.size, fun k hk hn => h1.block k hk (fun e => by rcases e with e | e; exact hn e; omega)⟩)
        clear ho7 hob7
        unfold errV
        go_wp2
        go_ret
        exact ⟨.inl ⟨HS.out, x, rfl⟩, HO.out⟩
      have HN := Lib.hid (read_in gd gr a n c f S p3 kk w6 H6.out.1.rdr (by omega) (by omega))
      rw [← HLT.out.2.2.2.2.2.1, ← HLT.out.2.2.2.2.2.2.1] at HN
      have HE4 := Lib.hid hE4
      clear hE4
      go_wp2_with fail
      refine HN.out.mono ?_
      rintro _ w7 ⟨rfl, hr7, ho7⟩
      have hob7 := H6.out.2.1.only ho7 HG12.out
      have c0 := hob7.cell 0 rfl
      have f0 := hob7.free 0
      have H7 : Hid (HufR w (w7.setCell ⟨g12, 0, none⟩ (.int .u32 v)) gd gr gh a n c f S p4 ∧ SObj (w7.setCell ⟨g12, 0, none⟩ (.int .u32 v)) g12 76 [.int .u32 v, .int .u32 0]) := Lib.hid
        ⟨(H6.out.1.read ho7 hr7).new (Only.setCell _ _ _ H6.out.2.2), hob7.set 0 (.int .u32 v)⟩
      clear ho7 hob7 hr7 HN ekk
      go_upto_region 17 with fail
      generalize hw8 : World.setCell _ _ _ = w8
      rw [hw8] at H7
      clear hw8 c0 f0
      have c0 := H7.out.2.cell 0 rfl
      have c1 := H7.out.2.cell 1 rfl
      have f1 := H7.out.2.free 1
      by_cases ht1 : t = 1
      · have hp5 : p5 = nx n p4 8 := by rw [HLT.out.2.2.2.2.2.2.2.2.1, if_pos ht1]
        have hq := HLT.out.2.2.2.2.2.2.2.2.2
        have HQ := Lib.hid (show v < size ∧ v < b ∧ b < size by omega)
        have HP5 := Lib.hid hp5
        clear hp5 hq
        subst ht1
        by_cases hE5 : 8 * n < p4 + 8
        · have HN := Lib.hid (read_end gd gr a n c f S p4 8 w8 H7.out.1.rdr (by decide) hE5 (HSN.out _ H7.out.1.only).1 HNE.out)
          have HS := Lib.hid (HSHORT.out (.inr (.inr (.inr ⟨rfl, hE5⟩))))
          clear hE5
          go_wp2_with fail
          refine HN.out.mono ?_
          rintro _ w9 ⟨⟨x, rfl⟩, ho9⟩
          have hob9 := H7.out.2.only ho9 HG12.out
          have c1 := hob9.cell 1 rfl
          have f1 := hob9.free 1
          have HO : Hid (Only (fun k => Two gd gr k ∨ k = gh) w (w9.setCell ⟨g12, 1, none⟩ (.int .u32 0))) := Lib.hid (by
            have h1 := (H7.out.1.only.tr (ho9.mono (fun _ e => .inl (.inl e)))).tr (Only.setCell (S := fun k => (Two gd gr k ∨ k = gh) ∨ w.heap.size ≤ k) w9 ⟨g12, 1, none⟩ (.int .u32 0) (.inr H6.out.2.2))
            exact ⟨h1.os, h1.tape, h1.output, h1.size, fun k hk hn => h1.block k hk (fun e => by rcases e with e | e; exact hn e; omega)⟩)
          clear ho9 hob9 c0
          unfold errV
          go_wp2
          go_ret
          exact ⟨.inl ⟨HS.out, x, rfl⟩, HO.out⟩
        have HN := Lib.hid (read_in gd gr a n c f S p4 8 w8 H7.out.1.rdr (by decide) (by omega))
        rw [← HLT.out.2.2.2.2.2.2.2.1, ← HP5.out] at HN
        have HT1 := Lib.hid (HTREE.out (by
          rintro (h | h | h | ⟨_, h⟩)
          · exact HE2.out h
          · exact HE3.out h
          · exact HE4.out h
          · exact hE5 h))
        clear hE5
        go_wp2_with fail
        refine HN.out.mono ?_
        rintro _ w9 ⟨rfl, hr9, ho9⟩
        have hob9 := H7.out.2.only ho9 HG12.out
        have c1 := hob9.cell 1 rfl
        have f1 := hob9.free 1
        have H9 : Hid (HufR w (w9.setCell ⟨g12, 1, none⟩ (.int .u32 b)) gd gr gh a n c f S p5 ∧ SObj (w9.setCell ⟨g12, 1, none⟩ (.int .u32 b)) g12 76 [.int .u32 v, .int .u32 b]) := Lib.hid
          ⟨(H7.out.1.read ho9 hr9).new (Only.setCell _ _ _ H6.out.2.2), hob9.set 1 (.int .u32 b)⟩
        clear ho9 hob9 hr9 HN c0
        go_upto_region 21 with fail
        generalize hwa : World.setCell _ _ _ = wa
        rw [hwa] at H9
        clear hwa c1 f1
        have c0 := H9.out.2.cell 0 rfl
        have c1 := H9.out.2.cell 1 rfl
        have HB := Lib.hid (bldS_any gh 2 size v b wa H9.out.1.obj (HSN.out _ H9.out.1.only).2.2 (fun e => HBIG.out _ (by decide) (.inl (.inr e))) (.inr rfl) HQ.out.1 (fun _ => HQ.out.2.2) (by omega) hs2)
        go_wp2_with fail
        refine HB.out.mono ?_
        rintro _ wb ⟨rfl, ⟨gn, hts, hgn⟩, hob⟩
        have HE : Hid (HPost (preF S n size) w gd gr gh a n c f S (.returned .nilIface) wb ∧ Only (fun k => Two gd gr k ∨ k = gh) w wb) := Lib.hid (by
          have h7 := H9.out.1
          have hne := h7.ne
          refine ⟨.inr ⟨rfl, simC v b 2, simI 2, p5, gn, HT1.out, simC_code v b 2 (.inr rfl) (by omega) (fun _ => by omega), by simp [simC], hts, ?_, ?_⟩, h7.out (hob.mono (fun _ e => .inr e))⟩
          · have := h7.only.size; omega
          · exact h7.rdr.only hob (fun e => hne (.inl e.symm)) (fun e => hne (.inr e.symm)) (fun h0 x hx e => (h7.far x h0 hx).1 e))
        clear hts hgn hob
        go_wp2
        go_ret
        exact HE.out
      · have hp5 : p5 = p4 := by rw [HLT.out.2.2.2.2.2.2.2.2.1, if_neg ht1]
        have ht0 : t = 0 := by omega
        have HT0 := Lib.hid (HTREE.out (by
          rintro (h | h | h | ⟨h, _⟩)
          · exact HE2.out h
          · exact HE3.out h
          · exact HE4.out h
          · exact ht1 h))
        have hvs : v < size := by have := HLT.out.2.2.2.2.2.2.2.2.2; omega
        have HP5 := Lib.hid hp5
        subst ht0
        have HB := Lib.hid (bldS_any gh 1 size v 0 w8 H7.out.1.obj (HSN.out _ H7.out.1.only).2.2 (fun e => HBIG.out _ (by decide) (.inl (.inr e))) (.inl rfl) hvs (fun h => by omega) (by decide) hs2)
        clear hp5 ht1
        go_wp2_with fail
        refine HB.out.mono ?_
        rintro _ w9 ⟨rfl, ⟨gn, hts, hgn⟩, ho9⟩
        have HE : Hid (HPost (preF S n size) w gd gr gh a n c f S (.returned .nilIface) w9 ∧ Only (fun k => Two gd gr k ∨ k = gh) w w9) := Lib.hid (by
          have h7 := H7.out.1
          have hne := h7.ne
          refine ⟨.inr ⟨rfl, simC v b 1, simI 1, p5, gn, HT0.out, simC_code v b 1 (.inl rfl) (by omega) (fun h => by omega), by simp [simC], hts, ?_, ?_⟩, h7.out (ho9.mono (fun _ e => .inr e))⟩
          · have := h7.only.size; omega
          · rw [HP5.out]
            exact h7.rdr.only ho9 (fun e => hne (.inl e.symm)) (fun e => hne (.inr e.symm)) (fun h0 x hx e => (h7.far x h0 hx).1 e))
        clear hts hgn ho9
        go_wp2
        go_ret
        exact HE.out
    · have hpre : preF S n size = lensP size (normL S n size p1) := by unfold preF; rw [← HU.out.1, ← HU.out.2, if_neg hu1]
      obtain ⟨v4, hv4⟩ : ∃ x, x = rdv S n p1 4 := ⟨_, rfl⟩
      obtain ⟨q1, hq1⟩ : ∃ x, x = nx n p1 4 := ⟨_, rfl⟩
      obtain ⟨nn, hnn⟩ : ∃ x, x = 4 + v4 := ⟨_, rfl⟩
      obtain ⟨own, hown⟩ : ∃ x, x = ownF S n q1 nn := ⟨_, rfl⟩
      obtain ⟨p2, hp2⟩ : ∃ x, x = nx3 n q1 nn := ⟨_, rfl⟩
      obtain ⟨uu, huu⟩ : ∃ x, x = rdv S n p2 1 := ⟨_, rfl⟩
      obtain ⟨p3, hp3⟩ : ∃ x, x = nx n p2 1 := ⟨_, rfl⟩
      obtain ⟨x3, hx3⟩ : ∃ x, x = rdv S n p3 3 := ⟨_, rfl⟩
      obtain ⟨e, he⟩ : ∃ x, x = 2 + 2 * x3 := ⟨_, rfl⟩
      obtain ⟨p4, hp4⟩ : ∃ x, x = nx n p3 3 := ⟨_, rfl⟩
      obtain ⟨x4, hx4⟩ : ∃ x, x = rdv S n p4 e := ⟨_, rfl⟩
      obtain ⟨most, hmost⟩ : ∃ x, x = (if uu = 1 then 2 + x4 else size) := ⟨_, rfl⟩
      obtain ⟨p5, hp5⟩ : ∃ x, x = (if uu = 1 then nx n p4 e else p3) := ⟨_, rfl⟩
      obtain ⟨tot, htot⟩ : ∃ x, x = lensF (codesL own 19 19) S n size most p5 0 8 (fun _ => 0) := ⟨_, rfl⟩
      have hv16 : v4 < 16 := by rw [hv4]; exact rdv_lt S n p1 4
      have HNL := normL_of (S := S) (nb := n) (size := size) (p := p1) (sh := false) (fun h => by cases h) ⟨hq1, hv4⟩ rfl hnn ⟨hown, hp2, rfl⟩ ⟨huu, hp3, rfl⟩ ⟨hx3, he, hp4, hx4, hmost, hp5, rfl⟩
      have hwb : ¬ (wholeB own 19 = false ∨ size < most) := fun h => by
        rw [if_pos h] at HNL
        exact HPR.out (hpre.trans (by rw [HNL]; rfl))
      rw [if_neg hwb, ← htot] at HNL
      have HKEY : Hid (((8 * n < p1 + 4 ∨ 8 * n < q1 + 3 * nn ∨ Hs n p2 uu p3 p4 e) → preF S n size = .short) ∧ (¬ (8 * n < p1 + 4 ∨ 8 * n < q1 + 3 * nn ∨ Hs n p2 uu p3 p4 e) → preF S n size = lensP size tot)) := Lib.hid (by
        rw [hpre, HNL]
        unfold Hs
        by_cases hu : uu = 1
        · rw [if_pos hu]
          constructor
          · intro h
            rw [if_pos]
            · rfl
            · rcases h with h | h | h | ⟨_, h | h⟩ <;> simp [h]
          · intro h
            rw [if_neg]
            intro h2
            simp only [Bool.or_eq_true, decide_eq_true_eq] at h2
            rcases h2 with ((((h2 | h2) | h2) | h2) | h2) | h2
            · cases h2
            · exact h (.inl h2)
            · exact h (.inr (.inl h2))
            · exact h (.inr (.inr (.inl h2)))
            · exact h (.inr (.inr (.inr ⟨hu, .inl h2⟩)))
            · exact h (.inr (.inr (.inr ⟨hu, .inr h2⟩)))
        · rw [if_neg hu]
          constructor
          · intro h
            rw [if_pos]
            · rfl
            · rcases h with h | h | h | ⟨h0, _⟩
              · simp [h]
              · simp [h]
              · simp [h]
              · exact absurd h0 hu
          · intro h
            rw [if_neg]
            intro h2
            simp only [Bool.or_eq_true, decide_eq_true_eq] at h2
            rcases h2 with ((h2 | h2) | h2) | h2
            · cases h2
            · exact h (.inl h2)
            · exact h (.inr (.inl h2))
            · exact h (.inr (.inr (.inl h2))))
      have HLT := Lib.hid (And.intro hv4 (And.intro hq1 (And.intro hnn (And.intro hown (And.intro hp2 (And.intro (And.intro huu hp3) (And.intro (And.intro hx3 (And.intro he (And.intro hp4 (And.intro hx4 (And.intro hmost hp5))))) (And.intro htot hwb))))))))
      have hnn19 : nn ≤ 19 := by omega
      have hnn4 : (v4 : Int) + 4 = (nn : Int) := by omega
      clear hv4 hq1 hown hp2 huu hp3 hx3 he hp4 hx4 hmost hp5 htot HNL hwb hpre hnn
      have hu0 : u = 0 := by omega
      subst hu0
      clear hu1
      by_cases hE2 : 8 * n < p1 + 4
      · have HN := Lib.hid (read_end gd gr a n c f S p1 4 w3 H3.out.rdr (by decide) hE2 (HSN.out _ H3.out.only).1 HNE.out)
        have HS := Lib.hid (HKEY.out.1 (.inl hE2))
        clear hE2
        go_wp2_with fail
        refine HN.out.mono ?_
        rintro _ w4 ⟨⟨x, rfl⟩, ho4⟩
        have HO := Lib.hid (H3.out.out (ho4.mono (fun _ e => .inl e)))
        clear ho4
        unfold errV
        go_wp2
        go_ret
        exact ⟨.inl ⟨HS.out, x, rfl⟩, HO.out⟩
      have HN := Lib.hid (read_in gd gr a n c f S p1 4 w3 H3.out.rdr (by decide) (by omega))
      rw [← HLT.out.1, ← HLT.out.2.1] at HN
      have HE2 := Lib.hid hE2
      clear hE2
      go_wp2_with fail
      refine HN.out.mono ?_
      rintro _ w4 ⟨rfl, hr4, ho4⟩
      have H4 := Lib.hid (H3.out.read ho4 hr4)
      clear hr4 ho4 HN
      go_upto_region 28 with fail
      obtain ⟨g14, hg14⟩ : ∃ x, x = w4.heap.size := ⟨_, rfl⟩
      have hob : SObj (w4.alloc (.cells za19 110)) w4.heap.size 110 (cellsOf .u32 19 (fun _ => 0)) := obj_new _ _ _
      have HTH : Hid (World.there (w4.alloc (.cells za19 110)) w4.heap.size 0 za19.size) := Lib.hid (there_of_obj hob (by simp [za19]))
      have hpa : SObj (World.setCells (w4.alloc (.cells za19 110)) w4.heap.size 0 za19.toList) w4.heap.size 110 za19.toList := SObj.putAll _ (cellsOf .u32 19 (fun _ => 0)) [] 0 _ hob (by simp [za19]) rfl
      have hon : Only (fun k => w.heap.size ≤ k) w4 (World.setCells (w4.alloc (.cells za19 110)) w4.heap.size 0 za19.toList) := (Only.alloc (fun k => w.heap.size ≤ k) _ _).tr (Only.setCells (S := fun k => w.heap.size ≤ k) H4.out.only.size _ _ _)
      have HPA := Lib.hid (And.intro hpa hon)
      clear hob hpa hon
      go_upto_region 29 with (refine wpList_store_mid rfl 110 (.tmp 14) (.tmp 88) rfl w4.heap.size 0 za19 rfl rfl HTH.out info110 za19_all ?_)
      (try simp only [Act.put])
      rw [← hg14] at HPA ⊢
      generalize hw5 : World.setCells _ _ _ _ = w5
      have H5 : Hid (HufR w w5 gd gr gh a n c f S q1 ∧ SObj w5 g14 110 (cellsOf .u32 19 (fun k => (ownF S n q1 0 k : Int))) ∧ w.heap.size ≤ g14) := Lib.hid (by
        have h51 : SObj w5 g14 110 za19.toList := by rw [← hw5]; exact HPA.out.1
        have h52 : Only (fun k => w.heap.size ≤ k) w4 w5 := by rw [← hw5]; exact HPA.out.2
        have e : cellsOf .u32 19 (fun k => (ownF S n q1 0 k : Int)) = za19.toList := by
          unfold za19
          rw [List.toList_toArray]
          simp only [cellsOf]
          exact List.map_congr_left fun k _ => by rw [ownF_zero]; rfl
        rw [e]
        exact ⟨H4.out.new h52, h51, by rw [hg14]; exact H4.out.only.size⟩)
      have HG14 : Hid (¬ Two gd gr g14) := Lib.hid (fun e => by have h5 := H5.out.1.lt; have h6 := H5.out.2.2; rcases e with e | e <;> omega)
      clear hw5 hg14 HPA HTH
      go_wp2_with fail
      go_loopg [15] (nn + 1) (fun j s15 wr => ∃ i : Nat, s15 = .int .u32 i ∧ i ≤ nn ∧ nn < j + i ∧ Hid (q1 + 3 * i ≤ 8 * n ∧ HufR w wr gd gr gh a n c f S (q1 + 3 * i) ∧ SObj wr g14 110 (cellsOf .u32 19 (fun k => (ownF S n q1 i k : Int)))))
      case atStart => exact ⟨0, rfl, Nat.zero_le _, by omega, by have := HLT.out.2.1; have := nx_le n p1 4; omega, H5.out.1, H5.out.2.1⟩
      case round =>
        obtain ⟨i, rfl, hin, hj, hR⟩ := hrel
        by_cases hlt : i < nn
        · have hi19 : i < 19 := by omega
          obtain ⟨y, hy⟩ : ∃ y, y = ordP i := ⟨_, rfl⟩
          have hy19 : y < 19 := by rw [hy]; exact (ordI_P i hi19).2
          have htp := (HSN.out _ hR.out.2.1.only).2.1
          have cq : wr.cell? ⟨3, i, none⟩ = some (.int .u8 y) := by rw [hy]; exact htp.ord i hi19
          have hyi0 : (0 : Int) ≤ (y : Int) := by omega
          have hyi2 : (y : Int) < 19 := by omega
          have hii0 : (0 : Int) ≤ (i : Int) := by omega
          have hii2 : (i : Int) < 19 := by omega
          have HY := Lib.hid hy
          clear hy htp
          by_cases hE3 : q1 + 3 * i + 3 ≤ 8 * n
          · have HN : Hid (∀ w', Only (fun _ => False) wr w' → Calls Tryd.prog 48 #[.pointer (some ⟨gd, 0, none⟩), .int .u32 3] w' fun e w'' => e = .returned (.tuple #[.int .u32 (rdv S n (q1 + 3 * i) 3), .nilIface]) ∧ Rdr w'' gd gr a n c f S (nx n (q1 + 3 * i) 3) ∧ Only (Two gd gr) w' w'') := Lib.hid (fun w' ho => read_in gd gr a n c f S (q1 + 3 * i) 3 w' ((hR.out.2.1.new (ho.mono (fun _ h => h.elim))).rdr) (by decide) hE3)
            obtain ⟨v, hv⟩ : ∃ v, v = rdv S n (q1 + 3 * i) 3 := ⟨_, rfl⟩
            rw [← hv] at HN
            have HV := Lib.hid hv
            clear hv
            have HQ : Hid (∀ (wx : World) (px : Nat), HufR w wx gd gr gh a n c f S px → wx.cell? ⟨3, i, none⟩ = some (.int .u8 y)) := Lib.hid (fun wx px h => by rw [HY.out]; exact (HSN.out _ h.only).2.1.ord i hi19)
            go_upto_region 32 with fail
            go_region_held3 (fun w' => w'.cell? ⟨3, i, none⟩ = some (.int .u8 y)) (first | exact cq | exact HQ.out _ _ ‹_› | exact HQ.out _ _ (HufR.new ‹_› (Only.setCell _ _ _ H5.out.2.2)))
              (first | (go_at_call 48; refine (HN.out _ (Only.drewN _ wr 1)).mono ?_; rintro e w6 ⟨rfl, hr6, ho6⟩; have H6 : HufR w w6 gd gr gh a n c f S _ := (hR.out.2.1.new (Only.drewN _ wr 1)).read ho6 hr6; have h14 := (hR.out.2.2.only (Only.drewN (fun _ => False) wr 1) (fun h => h)).only ho6 HG14.out; have ko := h14.cell y (by simp [cellsOf, hy19] : (cellsOf .u32 19 (fun k => (ownF S n q1 i k : Int)))[y]? = some (.int .u32 (ownF S n q1 i y : Int))); have kf := h14.free y; have H14 := Lib.hid h14; clear hr6 ho6 h14))
            rename_i hHeld
            have HN6 : Hid (q1 + 3 * (i + 1) ≤ 8 * n ∧ HufR w (w6.setCell ⟨g14, y, none⟩ (.int .u32 v)) gd gr gh a n c f S (q1 + 3 * (i + 1)) ∧ SObj (w6.setCell ⟨g14, y, none⟩ (.int .u32 v)) g14 110 (cellsOf .u32 19 (fun k => (ownF S n q1 (i + 1) k : Int)))) := Lib.hid (by
              have h6 := H6.new (Only.setCell _ ⟨g14, y, none⟩ (.int .u32 v) H5.out.2.2)
              rw [nx_in (by omega), Nat.add_assoc] at h6
              refine ⟨by omega, by rw [show q1 + 3 * (i + 1) = q1 + (3 * i + 3) by omega]; exact h6, ?_⟩
              have h7 := H14.out.set y (.int .u32 v)
              rw [ucells_set, ucells_congr (o' := ownF S n q1 (i + 1)) (fun k hk => ?_)] at h7
              · exact h7
              · have h8 := ownF_next S n q1 i k hi19 hk
                rw [← h8, HV.out]
                unfold updN nx3
                rw [if_pos hR.out.1, HY.out])
            clear H6 H14 ko kf HQ HN hHeld cq hR
            go_wp2
            go_roundg (gk - 1)
            case measure => omega
            case rel => exact ⟨i + 1, by go_num, by omega, by omega, HN6.out⟩
          · have HN : Hid (∀ w', Only (fun _ => False) wr w' → Calls Tryd.prog 48 #[.pointer (some ⟨gd, 0, none⟩), .int .u32 3] w' fun e w'' => (∃ x, e = .returned (.tuple #[.int .u32 0, errV x])) ∧ Only (Two gd gr) w' w'') := Lib.hid (fun w' ho => read_end gd gr a n c f S (q1 + 3 * i) 3 w' ((hR.out.2.1.new (ho.mono (fun _ h => h.elim))).rdr) (by decide) (by omega) (HSN.out _ (hR.out.2.1.new (ho.mono (fun _ h => h.elim))).only).1 HNE.out)
            have HS := Lib.hid (HKEY.out.1 (.inr (.inl (by omega))))
            have HQ : Hid (∀ wx : World, Only (fun k => (Two gd gr k ∨ k = gh) ∨ w.heap.size ≤ k) w wx → wx.cell? ⟨3, i, none⟩ = some (.int .u8 y)) := Lib.hid (fun wx h => by rw [HY.out]; exact (HSN.out _ h).2.1.ord i hi19)
            go_upto_region 32 with fail
            go_region_held3 (fun w' => w'.cell? ⟨3, i, none⟩ = some (.int .u8 y)) (first | exact cq | exact HQ.out _ ‹_› | exact HQ.out _ (Only.tr ‹_› (Only.setCell _ _ _ (.inr H5.out.2.2))))
              (first | (go_at_call 48; refine (HN.out _ (Only.drewN _ wr 1)).mono ?_; rintro e w6 ⟨⟨x, rfl⟩, ho6⟩; have H6 : Only (fun k => (Two gd gr k ∨ k = gh) ∨ w.heap.size ≤ k) w w6 := (hR.out.2.1.only.dN 1).tr (ho6.mono (fun _ e => .inl (.inl e))); have h14 := (hR.out.2.2.only (Only.drewN (fun _ => False) wr 1) (fun h => h)).only ho6 HG14.out; have ko := h14.cell y (by simp [cellsOf, hy19] : (cellsOf .u32 19 (fun k => (ownF S n q1 i k : Int)))[y]? = some (.int .u32 (ownF S n q1 i y : Int))); have kf := h14.free y; clear ho6 h14; unfold errV))
            rename_i hHeld
            have HO : Hid (Only (fun k => Two gd gr k ∨ k = gh) w (w6.setCell ⟨g14, y, none⟩ (.int .u32 0))) := Lib.hid (by
              have h1 := H6.tr (Only.setCell (S := fun k => (Two gd gr k ∨ k = gh) ∨ w.heap.size ≤ k) w6 ⟨g14, y, none⟩ (.int .u32 0) (.inr H5.out.2.2))
              exact ⟨h1.os, h1.tape, h1.output, h1.size, fun k hk hn => h1.block k hk (fun e => by rcases e with e | e; exact hn e; omega)⟩)
            clear H6 ko kf HQ HN hHeld cq hR
            go_wp2
            go_ret
            exact ⟨.inl ⟨HS.out, _, rfl⟩, HO.out⟩
        · obtain rfl : i = nn := by omega
          obtain ⟨i0, hi, hz0, hz1, hz2⟩ := info_parts infoU32
          have hown := HLT.out.2.2.2.1
          have hW : Whole own 19 ∧ 1 < used own 19 := whole_of (by cases h : wholeB own 19 with
            | true => rfl
            | false => exact absurd (.inl h) HLT.out.2.2.2.2.2.2.2.2) (fun k hk => by rw [hown]; have := ownF_lt S n q1 i k; omega) (by decide)
          have hms : most ≤ size := by
            rcases Nat.lt_or_ge size most with h | h
            · exact absurd (.inr h) HLT.out.2.2.2.2.2.2.2.2
            · exact h
          have hp2 : p2 = q1 + 3 * i := by rw [HLT.out.2.2.2.2.1]; unfold nx3; rw [if_pos hR.out.1]
          have HW := Lib.hid (And.intro hW hms)
          have HM : Hid (HufR w wr gd gr gh a n c f S p2 ∧ SObj wr g14 110 (cellsOf .u32 19 (fun k => (own k : Int)))) := Lib.hid (by
            rw [hp2, hown]
            exact hR.out.2)
          have HE3 := Lib.hid hR.out.1
          clear hown hW hms hp2 hR hlt hj hin
          go_upto_region 36 with (refine wpList_make_row _ rfl _ _ 66 rfl 61 i0 (.int .u32 0) Tryd.underlying66 hi hz0 hz1 rfl .u32 .u32 size rfl rfl (by rw [hz2]; omega) (by omega) ?_)
          rw [u32s_made]
          clear hi hz0 hz1 hz2
          obtain ⟨gs, hgs⟩ : ∃ x, x = wr.heap.size := ⟨_, rfl⟩
          rw [← hgs]
          generalize hw6 : World.alloc _ _ = w6
          have H6 : Hid (HufR w w6 gd gr gh a n c f S p2 ∧ SObj w6 g14 110 (cellsOf .u32 19 (fun k => (own k : Int))) ∧ SObj w6 gs 61 (cellsOf .u32 size (fun _ => 0)) ∧ w.heap.size ≤ gs) := Lib.hid (by
            have e1 : Only (fun k => w.heap.size ≤ k) wr w6 := by rw [← hw6]; exact Only.alloc _ _ _
            exact ⟨HM.out.1.new e1, by rw [← hw6]; exact HM.out.2.alloc _, by rw [← hw6, hgs]; exact obj_new _ _ _, by rw [hgs]; exact HM.out.1.only.size⟩)
          clear hw6 hgs HM
          have HNO : Hid (¬ Hs n p2 uu p3 p4 e → preF S n size = lensP size tot) := Lib.hid (fun h => HKEY.out.2 (by
            rintro (h2 | h2 | h2)
            · exact HE2.out h2
            · have := HE3.out; omega
            · exact h h2))
          have HD := Lib.hid (idcl_any gd gr gs g14 110 a n c f S size own p2 uu p3 x3 e p4 x4 most p5 tot w6 H6.out.1.rdr (HSN.out _ H6.out.1.only).1 (HSN.out _ H6.out.1.only).2.1 (HSN.out _ H6.out.1.only).2.2
            ⟨by rcases Nat.lt_or_ge 7 gd with h | h; exact h; exact absurd (.inl (.inl (.inl rfl))) (HBIG.out gd h), by rcases Nat.lt_or_ge 7 gr with h | h; exact h; exact absurd (.inl (.inl (.inr rfl))) (HBIG.out gr h),
             by rcases Nat.lt_or_ge 7 gs with h | h; exact h; exact absurd (.inr H6.out.2.2.2) (HBIG.out gs h), by rcases Nat.lt_or_ge 7 w6.heap.size with h | h; exact h; exact absurd (.inr H6.out.1.only.size) (HBIG.out _ h)⟩
            H6.out.2.2.1 H6.out.2.1 (fun x h0 hx e => by have := (H6.out.1.far x h0 hx).2; have := H6.out.2.2.2; omega) HW.out.1.1 HW.out.1.2 hs1 hs2 HW.out.2
            HLT.out.2.2.2.2.2.1 HLT.out.2.2.2.2.2.2.1 HLT.out.2.2.2.2.2.2.2.1 (fun h e => by
              have h5 := HNO.out h
              rw [e] at h5
              exact HPR.out h5))
          go_wp2_with fail
          refine HD.out.mono ?_
          rintro _ w7 ⟨hd, ho7⟩
          have HO7 : Hid (Only (fun k => (Two gd gr k ∨ k = gh) ∨ w.heap.size ≤ k) w w7) := Lib.hid (H6.out.1.only.tr (ho7.mono (fun k e => by
            rcases e with e | e
            · exact .inl (.inl e)
            · exact .inr (by rw [e]; exact H6.out.2.2.2))))
          rcases hd with ⟨⟨x, rfl⟩, hsh⟩ | ⟨hnh, rfl, o, q, hto, hob, hrd, hle⟩
          · have HE : Hid (HPost (preF S n size) w gd gr gh a n c f S (.returned (errV x)) w7 ∧ Only (fun k => Two gd gr k ∨ k = gh) w w7) := Lib.hid (by
              have h1 := HO7.out
              refine ⟨.inl ⟨?_, x, rfl⟩, h1.os, h1.tape, h1.output, h1.size, fun k hk hn => h1.block k hk (fun e => by rcases e with e | e; exact hn e; omega)⟩
              by_cases h : Hs n p2 uu p3 p4 e
              · exact HKEY.out.1 (.inr (.inr h))
              · rcases hsh with h2 | h2
                · exact absurd h2 h
                · rw [HNO.out h, h2]; rfl)
            clear hsh ho7
            unfold errV at HE ⊢
            go_wp2
            go_ret
            exact HE.out
          · have hpr := HNO.out hnh
            rw [hto] at hpr
            have hwb : wholeB o size = true := by
              cases h : wholeB o size with
              | true => rfl
              | false =>
                refine absurd (hpr.trans ?_) HPR.out
                show (if wholeB o size = true then _ else _) = _
                rw [h]; rfl
            have hpt : preF S n size = .tree (codesL o size size) q := by
              rw [hpr]
              show (if wholeB o size = true then _ else _) = _
              rw [if_pos hwb]
            obtain ⟨hW, hus⟩ := whole_of hwb hle (by omega)
            have h6 := H6.out.1
            have hgs := H6.out.2.2.2
            have hob7 : SObj w7 gh 74 (hCells (.slice none 0 0) (fun _ => 0)) := h6.obj.only ho7 (fun e => by
              rcases e with e | e
              · exact h6.ne e
              · have := h6.hgh; omega)
            have hrev := (HSN.out _ HO7.out).2.2
            have HB := Lib.hid (build_any gh size size (some ⟨gs, 0, none⟩) o w7 hob7 hrev (fun e => HBIG.out _ (by decide) (.inl (.inr e)))
              (fun h0 => ⟨gs, 0, rfl, hob.lt, fun i hi => by rw [Nat.zero_add]; exact hob.cell i (by simp [cellsOf, hi])⟩)
              (fun h0 x hx e => by injection hx with hx; subst hx; have := h6.hgh; simp only at e; omega) hW hus hs2)
            have hlen : (codesL o size size).length ≤ 4096 := by rw [codesL_used]; have := used_le o size; omega
            have H7 := Lib.hid (And.intro hpt (And.intro hW.code (And.intro hlen (And.intro hrd (And.intro h6.ne h6.far)))))
            clear hto hpr hwb hpt hob7 hrev hW hus hlen hob hrd hle h6 hgs hnh ho7 HD
            go_wp2_with fail
            refine HB.out.mono ?_
            rintro _ w8 ⟨rfl, ⟨gn, hts, hgn⟩, ho8⟩
            have HE : Hid (HPost (preF S n size) w gd gr gh a n c f S (.returned .nilIface) w8 ∧ Only (fun k => Two gd gr k ∨ k = gh) w w8) := Lib.hid (by
              have hne := H7.out.2.2.2.2.1
              have h1 := HO7.out.tr (ho8.mono (fun _ e => .inl (.inr e)))
              refine ⟨.inr ⟨rfl, _, _, q, gn, H7.out.1, H7.out.2.1, H7.out.2.2.1, hts, ?_, ?_⟩, h1.os, h1.tape, h1.output, h1.size, fun k hk hn => h1.block k hk (fun e => by rcases e with e | e; exact hn e; omega)⟩
              · have := HO7.out.size; omega
              · exact H7.out.2.2.2.1.only ho8 (fun e => hne (.inl e.symm)) (fun e => hne (.inr e.symm)) (fun h0 x hx e => (H7.out.2.2.2.2.2 x h0 hx).1 e))
            clear hts hgn ho8
            go_wp2
            go_ret
            exact HE.out
end Go.Proofs.YtdmefbpfpmkdcaaDoor
