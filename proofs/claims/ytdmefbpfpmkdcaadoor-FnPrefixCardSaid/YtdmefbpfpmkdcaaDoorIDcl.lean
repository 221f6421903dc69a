/- The package's decodeCodeLengths. -/
import Derived.Test.YtdmefbpfpmkdcaaDoorReadE
import Derived.Test.YtdmefbpfpmkdcaaDoorPre
import Derived.Test.YtdmefbpfpmkdcaaDoorISyms
import Derived.Test.YtdmefbpfpmkdcaaDoorSLens
import Derived.Deep.CutBlock
namespace Go.Proofs.YtdmefbpfpmkdcaaDoor
open Go.RowKit
set_option linter.unusedVariables false

/-- The tables and errors that the reading of lengths names. -/
structure TabP (w : World) : Prop where
  ord : ∀ i, i < 19 → w.cell? ⟨3, i, none⟩ = some (.int .u8 (ordP i : Int))
  bits : ∀ i, i < 3 → w.cell? ⟨6, i, none⟩ = some (.int .u8 (extB (16 + i) : Int))
  offs : ∀ i, i < 3 → w.cell? ⟨7, i, none⟩ = some (.int .u8 (extO (16 + i) : Int))
theorem TabP.only {T : Nat → Prop} {w w' : World} (h : TabP w) (ho : Only T w w') (hg : ∀ g, g ≤ 7 → ¬ T g) : TabP w' :=
  ⟨fun i hi => (World.cell?_of_block (ho.block _ (World.block_lt_of_cell? w _ (h.ord i hi)) (hg _ (by show 3 ≤ 7; decide)))).trans (h.ord i hi),
   fun i hi => (World.cell?_of_block (ho.block _ (World.block_lt_of_cell? w _ (h.bits i hi)) (hg _ (by show 6 ≤ 7; decide)))).trans (h.bits i hi),
   fun i hi => (World.cell?_of_block (ho.block _ (World.block_lt_of_cell? w _ (h.offs i hi)) (hg _ (by show 7 ≤ 7; decide)))).trans (h.offs i hi)⟩

theorem infoTree : (Tryd.prog.info? 74).map (·.size) = some 129 := by kernel_rfl
theorem hCells_len (v : Value) (lut : Nat → Nat) : (hCells v lut).length = 129 := by simp [hCells, lutCells]
theorem zeroTree_size : (Tryd.zeroCells74).size = 129 := by rw [zeroTree, List.size_toArray, hCells_len]
theorem zeroTree_all : (Tryd.zeroCells74).all (·.oneCell') = true := by
  rw [zeroTree]
  refine Array.all_eq_true_iff_forall_mem.2 (fun v hv => ?_)
  have hv : v ∈ hCells (.slice none 0 0) (fun _ => 0) := by simpa using hv
  unfold hCells at hv
  rcases List.mem_cons.1 hv with rfl | hv
  · rfl
  · unfold lutCells at hv
    obtain ⟨i, _, rfl⟩ := List.mem_map.1 hv
    rfl
theorem infoTreeZ : (Tryd.prog.info? 74).map (·.size) = some (Tryd.zeroCells74).size := by rw [zeroTree_size]; exact infoTree

theorem read_in (gd gr : Nat) (a : Option Addr) (n c : Nat) (f : Nat → Int) (S p k : Nat) (w : World) (h : Rdr w gd gr a n c f S p) (hk : k ≤ 24) (hp : p + k ≤ 8 * n) :
    Calls Tryd.prog 48 #[.pointer (some ⟨gd, 0, none⟩), .int .u32 k] w fun e w' => e = .returned (.tuple #[.int .u32 (rdv S n p k), .nilIface]) ∧ Rdr w' gd gr a n c f S (nx n p k) ∧ Only (Two gd gr) w w' := by
  rw [rdv_in hp, nx_in hp]
  exact read_ok gd gr a n c f S p k w h hk hp
/-- The bits end ahead of the lengths. -/
def Hs (n p2 u p3 p4 e : Nat) : Prop := 8 * n < p2 + 1 ∨ u = 1 ∧ (8 * n < p3 + 3 ∨ 8 * n < p4 + e)
/-- What decodeCodeLengths comes to. -/
def DPost (sh : Prop) (tot : Lens) (gd gr gs : Nat) (a : Option Addr) (n c : Nat) (f : Nat → Int) (S size : Nat) (e' : Ending) (w' : World) : Prop :=
  ((∃ x, e' = .returned (errV x)) ∧ (sh ∨ tot = .short)) ∨
  (¬ sh ∧ e' = .returned .nilIface ∧ ∃ o q, tot = .got o q ∧ SObj w' gs 61 (cellsOf .u32 size (fun k => (o k : Int))) ∧ Rdr w' gd gr a n c f S q ∧ ∀ k, k < size → o k ≤ 15)
/-- What the reading of lengths holds: the reader, its tree, the lengths. -/
structure DclR (w wr : World) (gd gr gs gh gn : Nat) (C : List (Nat × Nat)) (a : Option Addr) (n c : Nat) (f : Nat → Int) (S p size : Nat) (o : Nat → Nat) : Prop where
  rdr : Rdr wr gd gr a n c f S p
  tree : TreeW C wr gh gn
  dst : SObj wr gs 61 (cellsOf .u32 size (fun k => (o k : Int)))
  only : Only (fun k => (Two gd gr k ∨ k = gs) ∨ w.heap.size ≤ k) w wr
  hgs : gs < w.heap.size
  new : w.heap.size ≤ gh ∧ w.heap.size ≤ gn
  far : ∀ x, 0 < n → a = some x → x.block ≠ gs
theorem Rdr.ty_ne {w : World} {gd gr gs : Nat} {a : Option Addr} {n c : Nat} {f : Nat → Int} {S p : Nat} {vs : List Value} (h : Rdr w gd gr a n c f S p) (hs : SObj w gs 61 vs) : gs ≠ gd ∧ gs ≠ gr := by
  obtain ⟨_, b, i, hdb, _⟩ := h
  refine ⟨fun e => ?_, fun e => ?_⟩
  · subst e; exact absurd (hdb.1.ty.inj hs.ty) (by decide)
  · subst e; obtain ⟨pr, h2⟩ := hdb.2; exact absurd (h2.ty.inj hs.ty) (by decide)
theorem DclR.read {w wr w2 : World} {gd gr gs gh gn : Nat} {C : List (Nat × Nat)} {a : Option Addr} {n c : Nat} {f : Nat → Int} {S p p' size : Nat} {o : Nat → Nat} (h : DclR w wr gd gr gs gh gn C a n c f S p size o) (ho : Only (Two gd gr) wr w2) (hr : Rdr w2 gd gr a n c f S p') : DclR w w2 gd gr gs gh gn C a n c f S p' size o := by
  have h1 := h.tree.ne h.rdr
  have h2 := h.rdr.ty_ne h.dst
  exact ⟨hr, h.tree.only ho h1.1 h1.2, h.dst.only ho (fun e => by rcases e with e | e; exact h2.1 e; exact h2.2 e), h.only.tr (ho.mono (fun _ e => .inl (.inl e))), h.hgs, h.new, h.far⟩
theorem DclR.set {w wr : World} {gd gr gs gh gn : Nat} {C : List (Nat × Nat)} {a : Option Addr} {n c : Nat} {f : Nat → Int} {S p size : Nat} {o : Nat → Nat} (h : DclR w wr gd gr gs gh gn C a n c f S p size o) (j v : Nat) :
    DclR w (wr.setCell ⟨gs, j, none⟩ (.int .u32 (v : Int))) gd gr gs gh gn C a n c f S p size (updN o j v) := by
  have ho : Only (fun k => k = gs) wr (wr.setCell ⟨gs, j, none⟩ (.int .u32 (v : Int))) := Only.setCell _ _ _ rfl
  have h2 := h.rdr.ty_ne h.dst
  refine ⟨h.rdr.only ho (fun e => h2.1 e.symm) (fun e => h2.2 e.symm) (fun h0 x hx e => h.far x h0 hx e), h.tree.only ho (by have := h.hgs; have := h.new; omega) (by have := h.hgs; have := h.new; omega), ?_, h.only.tr (ho.mono (fun _ e => .inl (.inr e))), h.hgs, h.new, h.far⟩
  have h5 := h.dst.set j (.int .u32 (v : Int))
  have e5 : (cellsOf .u32 size (fun k => (o k : Int))).set j (.int .u32 (v : Int)) = cellsOf .u32 size (fun k => ((updN o j v k : Nat) : Int)) := by
    apply List.ext_getElem
    · simp [cellsOf]
    · intro i h1 h2
      simp only [cellsOf, List.getElem_set, List.getElem_map, List.getElem_range]
      unfold updN
      by_cases e : j = i
      · subst e; simp
      · simp [e, show ¬ i = j from fun h => e h.symm]
  rw [e5] at h5
  exact h5
theorem DclR.congr {w wr : World} {gd gr gs gh gn : Nat} {C : List (Nat × Nat)} {a : Option Addr} {n c : Nat} {f : Nat → Int} {S p size : Nat} {o : Nat → Nat} (h : DclR w wr gd gr gs gh gn C a n c f S p size o) (o' : Nat → Nat) (e : ∀ k, o k = o' k) : DclR w wr gd gr gs gh gn C a n c f S p size o' := by
  obtain rfl : o = o' := funext e
  exact h
/-- The changes as the callers see them. -/
theorem DclR.out {w wr : World} {gd gr gs gh gn : Nat} {C : List (Nat × Nat)} {a : Option Addr} {n c : Nat} {f : Nat → Int} {S p size : Nat} {o : Nat → Nat} (h : DclR w wr gd gr gs gh gn C a n c f S p size o) {w2 : World} (ho : Only (Two gd gr) wr w2) : Only (fun k => Two gd gr k ∨ k = gs) w w2 := by
  have h1 := h.only.tr (ho.mono (fun _ e => .inl (.inl e)))
  exact ⟨h1.os, h1.tape, h1.output, h1.size, fun k hk hn => h1.block k hk (fun e => by rcases e with e | e; exact hn e; omega)⟩

set_option maxRecDepth 100000 in
set_option maxHeartbeats 4000000 in
theorem idcl_any (gd gr gs go : Nat) (T19 : TypeId) (a : Option Addr) (n c : Nat) (f : Nat → Int) (S size : Nat) (own : Nat → Nat) (p2 u p3 x3 e p4 x4 most p5 : Nat) (tot : Lens) (w : World)
    (hr : Rdr w gd gr a n c f S p2) (hse : SntE w) (htp : TabP w) (hrev : RevT w) (hbig : 7 < gd ∧ 7 < gr ∧ 7 < gs ∧ 7 < w.heap.size)
    (hds : SObj w gs 61 (cellsOf .u32 size (fun _ => 0))) (how : SObj w go T19 (cellsOf .u32 19 (fun k => (own k : Int)))) (hfar : ∀ x, 0 < n → a = some x → x.block ≠ gs)
    (hW : Whole own 19) (hus : 1 < used own 19) (hs1 : 1 ≤ size) (hs2 : size ≤ 4096) (hms : most ≤ size)
    (h3 : u = rdv S n p2 1 ∧ p3 = nx n p2 1) (h5 : x3 = rdv S n p3 3 ∧ e = 2 + 2 * x3 ∧ p4 = nx n p3 3 ∧ x4 = rdv S n p4 e ∧ (most = if u = 1 then 2 + x4 else size) ∧ (p5 = if u = 1 then nx n p4 e else p3))
    (htot : tot = lensF (codesL own 19 19) S n size most p5 0 8 (fun _ => 0)) (hno : ¬ Hs n p2 u p3 p4 e → tot ≠ .opened) :
    Calls Tryd.prog 67 #[.pointer (some ⟨gd, 0, none⟩), .slice (some ⟨gs, 0, none⟩) size size, .slice (some ⟨go, 0, none⟩) 19 19] w fun e' w' =>
      DPost (Hs n p2 u p3 p4 e) tot gd gr gs a n c f S size e' w' ∧
      Only (fun k => Two gd gr k ∨ k = gs) w w' := by
  have H := Lib.hid (And.intro hr (And.intro hse (And.intro htp (And.intro hrev (And.intro hbig (And.intro hds (And.intro how (And.intro hfar (And.intro hW (And.intro hus (And.intro h3 (And.intro h5 (And.intro htot hno)))))))))))))
  clear hr hse htp hrev hbig hds how hfar hW hus h3 h5 htot hno
  go_enter Tryd.func67, Tryd.ntmps67
  obtain ⟨gh, hgh⟩ : ∃ x, x = w.heap.size := ⟨_, rfl⟩
  have hob : SObj (w.alloc (.cells Tryd.zeroCells74 74)) w.heap.size 74 (hCells (.slice none 0 0) (fun _ => 0)) := by rw [zeroTree]; exact obj_new _ _ _
  have HTH : Hid (World.there (w.alloc (.cells Tryd.zeroCells74 74)) w.heap.size 0 (Tryd.zeroCells74).size) := Lib.hid (there_of_obj hob (by rw [zeroTree_size, hCells_len]; exact Nat.le_refl _))
  have hpa : SObj (World.setCells (w.alloc (.cells Tryd.zeroCells74 74)) w.heap.size 0 (Tryd.zeroCells74).toList) w.heap.size 74 (Tryd.zeroCells74).toList := SObj.putAll _ (hCells (.slice none 0 0) (fun _ => 0)) [] 0 _ hob (by rw [zeroTree]) rfl
  have hon : Only (fun k => w.heap.size ≤ k) w (World.setCells (w.alloc (.cells Tryd.zeroCells74 74)) w.heap.size 0 (Tryd.zeroCells74).toList) := (Only.alloc (fun k => w.heap.size ≤ k) _ _).tr (Only.setCells (S := fun k => w.heap.size ≤ k) (Nat.le_refl _) _ _ _)
  have HPA := Lib.hid (And.intro hpa hon)
  clear hob hpa hon
  go_upto_region 2 with (refine wpList_store_mid rfl 74 (.tmp 7) (.tmp 21) rfl w.heap.size 0 Tryd.zeroCells74 rfl rfl HTH.out infoTreeZ zeroTree_all ?_)
  (try simp only [Act.put])
  rw [← hgh] at HPA ⊢
  generalize hw1 : World.setCells _ _ _ _ = w1
  have H1 : Hid (SObj w1 gh 74 (hCells (.slice none 0 0) (fun _ => 0)) ∧ Only (fun _ => False) w w1 ∧ gh = w.heap.size) := Lib.hid (by
    have h5 := HPA.out.1
    have h6 := HPA.out.2
    rw [hw1] at h5 h6
    rw [zeroTree] at h5
    exact ⟨h5, ⟨h6.os, h6.tape, h6.output, h6.size, fun k hk _ => h6.block k hk (by omega)⟩, hgh⟩)
  clear hw1 hgh HPA HTH
  have HBD := Lib.hid (build_any gh 19 19 (some ⟨go, 0, none⟩) own w1 H1.out.1 (H.out.2.2.2.1.only H1.out.2.1 (fun h => h)) (by have := H.out.2.2.2.2.1; have := H1.out.2.2; show 4 ≠ gh; omega)
    (fun h0 => ⟨go, 0, rfl, (H.out.2.2.2.2.2.2.1.only H1.out.2.1 (fun h => h)).lt, fun i hi => by rw [Nat.zero_add]; exact (H.out.2.2.2.2.2.2.1.only H1.out.2.1 (fun h => h)).cell i (by simp [cellsOf, hi])⟩)
    (fun h0 x hx e => by injection hx with hx; subst hx; have := H.out.2.2.2.2.2.2.1.lt; have := H1.out.2.2; simp only at e; omega) H.out.2.2.2.2.2.2.2.2.1 H.out.2.2.2.2.2.2.2.2.2.1 (by decide))
  have hcd : Code (codesL own 19 19) (inn own 19 15) := H.out.2.2.2.2.2.2.2.2.1.code
  have hlen : (codesL own 19 19).length ≤ 4096 := by rw [codesL_used]; have := used_le own 19; omega
  go_wp2_with fail
  refine HBD.out.mono ?_
  rintro _ w2 ⟨rfl, ⟨gn, ht, hgn⟩, ho2⟩
  obtain ⟨C, hCe⟩ : ∃ C, C = codesL own 19 19 := ⟨_, rfl⟩
  have h19 : ∀ u s, (u, s) ∈ C → s < 19 := fun u s hu => by rw [hCe] at hu; exact ((mem_codesL own 19 u s 19).1 hu).1
  have hBIG : Hid (∀ g, g ≤ 7 → ¬ ((Two gd gr g ∨ g = gs) ∨ w.heap.size ≤ g)) := Lib.hid (fun g hg e => by
    have h5 := H.out.2.2.2.2.1
    rcases e with (e | e) | e
    · rcases e with e | e <;> omega
    · omega
    · omega)
  have H2 : Hid (DclR w w2 gd gr gs gh gn C a n c f S p2 size (fun _ => 0)) := Lib.hid (by
    have ho : Only (fun k => k = gh) w w2 := (H1.out.2.1.mono (fun _ h => h.elim)).tr ho2
    have hgl := H.out.2.2.2.2.2.1.lt
    have hg := H1.out.2.2
    have hr := H.out.1
    have hlt := hr.lt
    rw [hCe]
    refine ⟨hr.only ho (by omega) (by omega) (fun h0 x hx e => ?_), ht.whole hcd (fun _ _ h => h) hlen, H.out.2.2.2.2.2.1.only ho (by omega), ho.mono (fun k e => .inr (by omega)), hgl, ⟨by omega, by have := H1.out.2.1.size; omega⟩, H.out.2.2.2.2.2.2.2.1⟩
    obtain ⟨g1, o1, e6, hg1, _⟩ := hr.1.row h0
    rw [hx] at e6; injection e6 with e6; subst e6
    simp only at e
    omega)
  have HC : Hid (Code C (inn own 19 15) ∧ (∀ u s, (u, s) ∈ C → s < 19) ∧ tot = lensF C S n size most p5 0 8 (fun _ => 0) ∧ (¬ Hs n p2 u p3 p4 e → tot ≠ .opened)) := Lib.hid (by
    rw [hCe]
    refine ⟨hcd, ?_, H.out.2.2.2.2.2.2.2.2.2.2.2.2.1, H.out.2.2.2.2.2.2.2.2.2.2.2.2.2⟩
    rw [← hCe]; exact h19)
  clear ht hgn ho2 hcd hlen HBD hCe h19 H1
  have hu2 : u < 2 := by rw [H.out.2.2.2.2.2.2.2.2.2.2.1.1]; exact rdv_lt S n p2 1
  have hsn : ∀ w' : World, Only (fun k => (Two gd gr k ∨ k = gs) ∨ w.heap.size ≤ k) w w' → SntE w' := fun w' h => H.out.2.1.only h (fun g hg => hBIG.out g (by omega))
  have hne : ∀ g, g ≤ 1 → ¬ Two gd gr g := fun g hg e => hBIG.out g (by omega) (.inl (.inl e))
  have HSN := Lib.hid hsn
  have HNE := Lib.hid hne
  clear hsn hne
  by_cases hE1 : 8 * n < p2 + 1
  · have HN := Lib.hid (read_end gd gr a n c f S p2 1 w2 H2.out.rdr (by decide) hE1 (HSN.out _ H2.out.only) HNE.out)
    have HE1 : Hid (Hs n p2 u p3 p4 e) := Lib.hid (.inl hE1)
    clear hE1
    go_wp2_with fail
    refine HN.out.mono ?_
    rintro _ w3 ⟨⟨x, rfl⟩, ho3⟩
    have HO := Lib.hid (H2.out.out ho3)
    clear ho3
    unfold errV
    go_wp2
    go_ret
    exact ⟨.inl ⟨⟨x, rfl⟩, .inl HE1.out⟩, HO.out⟩
  · have HN := Lib.hid (read_in gd gr a n c f S p2 1 w2 H2.out.rdr (by decide) (by omega))
    rw [← H.out.2.2.2.2.2.2.2.2.2.2.1.1, ← H.out.2.2.2.2.2.2.2.2.2.2.1.2] at HN
    go_wp2_with fail
    refine HN.out.mono ?_
    rintro _ w3 ⟨rfl, hr3, ho3⟩
    have H3 := Lib.hid (H2.out.read ho3 hr3)
    clear hr3 ho3 HN
    have hx8 : x3 < 8 := by rw [H.out.2.2.2.2.2.2.2.2.2.2.2.1.1]; exact rdv_lt S n p3 3
    have h5 := H.out.2.2.2.2.2.2.2.2.2.2.2.1
    have he16 : e ≤ 16 := by have := h5.2.1; omega
    have hx465 : x4 < 65536 := by
      have h1 := rdv_lt S n p4 e
      rw [← h5.2.2.2.1] at h1
      have h2 : (2 : Nat) ^ e ≤ 2 ^ 16 := Nat.pow_le_pow_right (by decide) he16
      have e16 : (2 : Nat) ^ 16 = 65536 := rfl
      omega
    have HH5 := Lib.hid h5
    have hE1' := Lib.hid hE1
    clear h5 hE1
    go_upto_if 38 with fail
    go_cut [9] from 38 to 66 (fun s9 wx => s9 = .int .i64 most ∧ Hid (DclR w wx gd gr gs gh gn C a n c f S p5 size (fun _ => 0) ∧ ¬ Hs n p2 u p3 p4 e))
    case first =>
      by_cases hu : u = 1
      · have HU := Lib.hid hu
        have hun : ((u : Int) != 0) = true := by simp; omega
        have hmo : most = 2 + x4 := by rw [HH5.out.2.2.2.2.1, if_pos hu]
        have hp5 : p5 = nx n p4 e := by rw [HH5.out.2.2.2.2.2, if_pos hu]
        have HM5 := Lib.hid (And.intro hmo hp5)
        clear hmo hp5
        subst hu
        by_cases hE3 : 8 * n < p3 + 3
        · have HN := Lib.hid (read_end gd gr a n c f S p3 3 w3 H3.out.rdr (by decide) hE3 (HSN.out _ H3.out.only) HNE.out)
          have HE1 : Hid (Hs n p2 1 p3 p4 e) := Lib.hid (.inr ⟨rfl, .inl hE3⟩)
          clear hE3
          go_wp2_with fail
          refine HN.out.mono ?_
          rintro _ w4 ⟨⟨x, rfl⟩, ho4⟩
          have HO := Lib.hid (H3.out.out ho4)
          clear ho4
          unfold errV
          go_wp2
          go_ret
          exact ⟨.inl ⟨⟨x, rfl⟩, .inl HE1.out⟩, HO.out⟩
        · have HN := Lib.hid (read_in gd gr a n c f S p3 3 w3 H3.out.rdr (by decide) (by omega))
          rw [← HH5.out.1, ← HH5.out.2.2.1] at HN
          have hE3' := Lib.hid hE3
          clear hE3
          have ee : (2 : Int) + 2 * (x3 : Int) = (e : Int) := by have := HH5.out.2.1; omega
          go_wp2_with fail
          refine HN.out.mono ?_
          rintro _ w4 ⟨rfl, hr4, ho4⟩
          have H4 := Lib.hid (H3.out.read ho4 hr4)
          clear hr4 ho4 HN
          by_cases hE4 : 8 * n < p4 + e
          · have HN := Lib.hid (read_end gd gr a n c f S p4 e w4 H4.out.rdr (by omega) hE4 (HSN.out _ H4.out.only) HNE.out)
            have HE1 : Hid (Hs n p2 1 p3 p4 e) := Lib.hid (.inr ⟨rfl, .inr hE4⟩)
            clear hE4
            go_wp2_with fail
            refine HN.out.mono ?_
            rintro _ w5 ⟨⟨x, rfl⟩, ho5⟩
            have HO := Lib.hid (H4.out.out ho5)
            clear ho5
            unfold errV
            go_wp2
            go_ret
            exact ⟨.inl ⟨⟨x, rfl⟩, .inl HE1.out⟩, HO.out⟩
          · have HN := Lib.hid (read_in gd gr a n c f S p4 e w4 H4.out.rdr (by omega) (by omega))
            rw [← HH5.out.2.2.2.1, ← HM5.out.2] at HN
            have HHS : Hid (¬ Hs n p2 1 p3 p4 e) := Lib.hid (by
              rintro (h | ⟨_, h | h⟩)
              · exact hE1'.out h
              · exact hE3'.out h
              · exact hE4 h)
            clear hE4
            go_wp2_with fail
            refine HN.out.mono ?_
            rintro _ w5 ⟨rfl, hr5, ho5⟩
            have H5 := Lib.hid (H4.out.read ho5 hr5)
            clear hr5 ho5 HN
            have e2 : (x4 : Int) + 2 = (most : Int) := by have := HM5.out.1; omega
            go_wp2
            go_meet
            exact ⟨rfl, H5.out, HHS.out⟩
      · have hu0 : u = 0 := by omega
        have hmo : most = size := by rw [HH5.out.2.2.2.2.1, if_neg hu]
        have hp5 : p5 = p3 := by rw [HH5.out.2.2.2.2.2, if_neg hu]
        have HM5 := Lib.hid (And.intro hmo hp5)
        have HHS : Hid (¬ Hs n p2 u p3 p4 e) := Lib.hid (by
          rintro (h | ⟨h, _⟩)
          · exact hE1'.out h
          · exact hu h)
        clear hmo hp5 hu HH5
        subst hu0
        go_wp2
        go_meet
        rw [HM5.out.1, HM5.out.2]
        exact ⟨rfl, H3.out, HHS.out⟩
    case rest =>
      obtain ⟨rfl, hC⟩ := hcut
      have HT : Hid (tot ≠ .opened) := Lib.hid (HC.out.2.2.2 hC.out.2)
      clear H3 hE1' HH5
      go_wp2_with fail
      go_loopg [9, 15, 16] (most + 1) (fun j s9 s15 s16 wr => ∃ (m i last px : Nat) (o : Nat → Nat), s9 = .int .i64 m ∧ s15 = .int .u32 last ∧ s16 = .int .i64 i ∧ m ≤ 4096 ∧ m < j ∧ i ≤ size ∧ last ≤ 15 ∧ Hid (DclR w wr gd gr gs gh gn C a n c f S px size o ∧ tot = lensF C S n size m px i last o ∧ ∀ k, k < size → o k ≤ 15))
      case atStart => exact ⟨most, 0, 8, p5, fun _ => 0, rfl, rfl, rfl, by omega, by omega, Nat.zero_le _, by decide, hC.out.1, HC.out.2.2.1, fun _ _ => Nat.zero_le _⟩
      case round =>
        obtain ⟨m, i, last, px, o, rfl, rfl, rfl, hm4, hmj, hisz, hl15, hR⟩ := hrel
        by_cases hi : i < size
        · by_cases hm0 : m = 0
          · subst hm0
            have HE : Hid (DPost (Hs n p2 u p3 p4 e) tot gd gr gs a n c f S size (.returned .nilIface) wr ∧ Only (fun k => Two gd gr k ∨ k = gs) w wr) := Lib.hid (by
              have h5 := hR.out.2.1
              rw [lensF_zero] at h5
              exact ⟨.inr ⟨hC.out.2, rfl, o, px, h5, hR.out.1.dst, hR.out.1.rdr, hR.out.2.2⟩, hR.out.1.out (Only.refl _ _)⟩)
            go_wp2
            go_ret
            exact HE.out
          · obtain ⟨m', rfl⟩ : ∃ m', m = m' + 1 := ⟨m - 1, by omega⟩
            obtain ⟨k, s, htl⟩ := HC.out.1.tells (S / 2 ^ px)
            have htt := hR.out.2.1
            rw [lensF_step HC.out.1 S n size m' px i last k s o hi htl] at htt
            have hs19 := HC.out.2.1 _ s htl
            have HNX := Lib.hid (next_any C (inn own 19 15) gh gn gd gr a n c f S px k s wr HC.out.1 hR.out.1.tree hR.out.1.rdr (HSN.out _ hR.out.1.only) HNE.out htl)
            have HTT := Lib.hid htt
            clear htt htl
            go_wp2_with fail
            refine HNX.out.mono ?_
            rintro _ w4 ⟨⟨hk, rfl, hr4⟩ | ⟨hk, b, rfl⟩, ho4⟩
            · have H4 := Lib.hid (hR.out.1.read ho4 hr4)
              have hknk : ¬ 8 * n < px + k := by omega
              have htt := HTT.out
              rw [if_neg hknk] at htt
              clear hr4 ho4 HNX HTT hknk
              obtain ⟨pk, hpk⟩ : ∃ x, x = px + k := ⟨_, rfl⟩
              rw [← hpk] at H4 htt
              clear hpk hk
              by_cases hs16 : s < 16
              · rw [if_pos hs16] at htt
                have ci := H4.out.dst.cell i (by simp [cellsOf, hi] : (cellsOf .u32 size (fun k => (o k : Int)))[i]? = some (.int .u32 (o i : Int)))
                have fi := H4.out.dst.free i
                have HN := Lib.hid (H4.out.set i s)
                have hbd : ∀ k, k < size → updN o i s k ≤ 15 := fun k hk => by unfold updN; split; omega; exact hR.out.2.2 k hk
                have HTT := Lib.hid (And.intro htt hbd)
                clear htt hbd
                by_cases hs0 : s = 0
                · subst hs0
                  go_wp2
                  go_roundg (gk - 1)
                  case measure => omega
                  case rel => exact ⟨m', i + 1, last, pk, updN o i 0, by go_num, rfl, by go_num, by omega, by omega, by omega, hl15, HN.out, HTT.out.1, HTT.out.2⟩
                · have hspos : 0 < s := by omega
                  have hsn : ((s : Int) != 0) = true := by simp; omega
                  have HT1 := Lib.hid HTT.out.1
                  rw [if_pos hspos] at HT1
                  go_wp2
                  go_roundg (gk - 1)
                  case measure => omega
                  case rel => exact ⟨m', i + 1, s, pk, updN o i s, by go_num, rfl, by go_num, by omega, by omega, by omega, by omega, HN.out, HT1.out, HTT.out.2⟩
              · rw [if_neg hs16] at htt
                obtain ⟨y, hy⟩ : ∃ y, y = s - 16 := ⟨_, rfl⟩
                have hy3 : y < 3 := by omega
                have hsy : s = 16 + y := by omega
                have htp4 := H.out.2.2.1.only H4.out.only hBIG.out
                have cb := htp4.bits y hy3
                have co := htp4.offs y hy3
                obtain ⟨ex, hex⟩ : ∃ x, x = extB s := ⟨_, rfl⟩
                obtain ⟨bs, hbs⟩ : ∃ x, x = extO s := ⟨_, rfl⟩
                rw [← hsy, ← hex] at cb
                rw [← hsy, ← hbs] at co
                have hex7 : ex ≤ 7 := by rw [hex]; exact extB_le s
                have hbs11 : bs ≤ 11 := by rw [hbs]; exact (extO_le s).2
                rw [← hex, ← hbs] at htt
                obtain ⟨v, hv⟩ : ∃ x, x = rdv S n pk ex := ⟨_, rfl⟩
                rw [← hv] at htt
                have hv128 : v < 128 := by
                  have h1 := rdv_lt S n pk ex
                  have h2 : (2 : Nat) ^ ex ≤ 2 ^ 7 := Nat.pow_le_pow_right (by decide) hex7
                  have e7 : (2 : Nat) ^ 7 = 128 := rfl
                  omega
                have hfit : ¬ size - i < bs + v := fun h => by
                  rw [if_pos h] at htt
                  exact HT.out htt
                rw [if_neg hfit] at htt
                have eyi : (s : Int) - 16 = (y : Int) := by omega
                have hy0 : (0 : Int) ≤ (y : Int) := by omega
                have hy31 : (y : Int) < 3 := by omega
                have HV := Lib.hid (And.intro hv htt)
                clear hy hsy htp4 hex hbs hv htt
                by_cases hE : 8 * n < pk + ex
                · have HN := Lib.hid (read_end gd gr a n c f S pk ex w4 H4.out.rdr (by omega) hE (HSN.out _ H4.out.only) HNE.out)
                  have HSH : Hid (tot = .short) := Lib.hid (by have h5 := HV.out.2; rw [if_pos hE] at h5; exact h5)
                  clear hE
                  go_wp2_with fail
                  refine HN.out.mono ?_
                  rintro _ w5 ⟨⟨x, rfl⟩, ho5⟩
                  have HO := Lib.hid (H4.out.out ho5)
                  clear ho5
                  unfold errV
                  go_wp2
                  go_ret
                  exact ⟨.inl ⟨⟨x, rfl⟩, .inr HSH.out⟩, HO.out⟩
                · have HN := Lib.hid (read_in gd gr a n c f S pk ex w4 H4.out.rdr (by omega) (by omega))
                  rw [← HV.out.1] at HN
                  obtain ⟨ag, hag⟩ : ∃ x, x = bs + v := ⟨_, rfl⟩
                  obtain ⟨wh, hwh⟩ : ∃ x, x = (if s = 16 then last else 0) := ⟨_, rfl⟩
                  have hwh15 : wh ≤ 15 := by rw [hwh]; split <;> omega
                  have HTT : Hid (tot = lensF C S n size m' (nx n pk ex) (i + ag) last (filN o i ag wh)) := Lib.hid (by
                    have h5 := HV.out.2
                    rw [if_neg hE] at h5
                    rw [nx_in (by omega), hag, hwh]
                    exact h5)
                  have eag : (v : Int) + (bs : Int) = (ag : Int) := by omega
                  have hfi : i + ag ≤ size := by omega
                  have hfii : ¬ (size : Int) < (i : Int) + (ag : Int) := by omega
                  have HWH := Lib.hid hwh
                  obtain ⟨p6, hp6⟩ : ∃ x, x = nx n pk ex := ⟨_, rfl⟩
                  rw [← hp6] at HN HTT
                  clear hE hag hwh hp6 hfit HV
                  go_wp2_with fail
                  refine HN.out.mono ?_
                  rintro _ w5 ⟨rfl, hr5, ho5⟩
                  have H5 := Lib.hid (H4.out.read ho5 hr5)
                  have co5 : w5.cell? ⟨7, y, none⟩ = some (.int .u8 bs) :=
                    (World.cell?_of_block (ho5.block _ (World.block_lt_of_cell? w4 _ co) (fun e => hBIG.out _ (by show 7 ≤ 7; decide) (.inl (.inl e))))).trans co
                  obtain ⟨G, hG⟩ : ∃ G, G = gk := ⟨_, rfl⟩
                  have HGK := Lib.hid hG
                  have hmG : m' + 1 < G := by omega
                  clear hr5 ho5 cb co H4 HN hG hmj
                  go_upto_if 123 with fail
                  go_cut [20] from 122 to 124 (fun s20 wx => s20 = .int .u32 wh ∧ w5 = wx)
                  case first =>
                    by_cases h16 : s = 16
                    · have e3 : wh = last := by rw [HWH.out, if_pos h16]
                      have HE3 := Lib.hid e3
                      clear e3
                      have h16i : ((s : Int) == 16) = true := by simp; omega
                      clear h16
                      go_wp2
                      go_meet
                      exact ⟨by rw [HE3.out], rfl⟩
                    · have e3 : wh = 0 := by rw [HWH.out, if_neg h16]
                      have HE3 := Lib.hid e3
                      clear e3
                      have h16i : ((s : Int) == 16) = false := by simp; omega
                      clear h16
                      go_wp2
                      go_meet
                      exact ⟨by rw [HE3.out]; rfl, rfl⟩
                  case rest =>
                    obtain ⟨rfl, rfl⟩ := hcut
                    clear co5
                    have hag139 : ag ≤ 139 := by omega
                    go_wp2_with fail
                    go_loopg [16, 19] (ag + 1) (fun j s16 s19 wy => ∃ r : Nat, s16 = .int .i64 ((i : Int) + (r : Int)) ∧ s19 = .int .u32 ((ag : Int) - (r : Int)) ∧ r ≤ ag ∧ ag < j + r ∧ Hid (DclR w wy gd gr gs gh gn C a n c f S p6 size (filN o i r wh)))
                    case atStart => exact ⟨0, by go_num, by go_num, Nat.zero_le _, by omega, H5.out.congr _ (fun k => (filN_zero o i wh k).symm)⟩
                    case round =>
                      obtain ⟨r, rfl, rfl, hr, hjr, hX⟩ := hrel
                      by_cases hlr : r < ag
                      · have hir : i + r < size := by omega
                        have ei : (i : Int) + (r : Int) = ((i + r : Nat) : Int) := by omega
                        have ci := hX.out.dst.cell (i + r) (by simp [cellsOf, hir] : (cellsOf .u32 size (fun k => (filN o i r wh k : Int)))[i + r]? = some (.int .u32 (filN o i r wh (i + r) : Int)))
                        have fi := hX.out.dst.free (i + r)
                        have HN := Lib.hid (hX.out.set (i + r) wh)
                        obtain ⟨ir, hir2⟩ : ∃ x, x = i + r := ⟨_, rfl⟩
                        rw [← hir2] at ci fi HN ei hir
                        rw [ei]
                        have HIR := Lib.hid (And.intro hir2 ei)
                        clear hir2 ei
                        go_wp2
                        go_roundg (gk - 1)
                        case measure => omega
                        case rel =>
                          refine ⟨r + 1, ?_, by go_num, by omega, by omega, HN.out.congr _ (fun k => ?_)⟩
                          · have := HIR.out.1
                            go_num
                          · rw [HIR.out.1]
                            exact filN_next o i r wh k
                      · obtain rfl : r = ag := by omega
                        go_wp2
                        go_roundg (G - 1)
                        case measure => have := HGK.out; omega
                        case rel => exact ⟨m', i + r, last, p6, filN o i r wh, by go_num, rfl, by go_num, by omega, by omega, by omega, hl15, hX.out, HTT.out, fun k hk => (by unfold filN; split; omega; exact hR.out.2.2 k hk)⟩
            · have HE : Hid (DPost (Hs n p2 u p3 p4 e) tot gd gr gs a n c f S size (.returned (errV b)) w4 ∧ Only (fun k => Two gd gr k ∨ k = gs) w w4) := Lib.hid (by
                have h5 := HTT.out
                rw [if_pos hk] at h5
                exact ⟨.inl ⟨⟨b, rfl⟩, .inr h5⟩, hR.out.1.out ho4⟩)
              clear hk ho4
              unfold errV at HE ⊢
              go_wp2
              go_ret
              exact HE.out
        · have HE : Hid (DPost (Hs n p2 u p3 p4 e) tot gd gr gs a n c f S size (.returned .nilIface) wr ∧ Only (fun k => Two gd gr k ∨ k = gs) w wr) := Lib.hid (by
            have h5 := hR.out.2.1
            rw [lensF_full C S n size m px i last o (by omega)] at h5
            exact ⟨.inr ⟨hC.out.2, rfl, o, px, h5, hR.out.1.dst, hR.out.1.rdr, hR.out.2.2⟩, hR.out.1.out (Only.refl _ _)⟩)
          go_wp2
          go_ret
          exact HE.out
end Go.Proofs.YtdmefbpfpmkdcaaDoor
