/- spec.FiltersOf. Printed by wip/gen_fill.py. -/
import Derived.Test.YthmkmemocjnleaaDoorFilW
import Derived.Test.YthmkmemocjnleaaDoorFilY
import Derived.Test.YthmkmemocjnleaaDoorFilI
import Derived.Test.YthmkmemocjnleaaDoorSegL
namespace Go.Proofs.YthmkmemocjnleaaDoor
open Go.RowKit
set_option linter.unusedVariables false
set_option linter.unusedSimpArgs false

theorem FD.putAll {b : Nat} : ∀ (vs : List Value) (o : Nat) (D : Nat → Option Value) (w : World), FD D w b → (∀ j, j < vs.length → ∃ x, D (o + j) = some x) → FD (fun i => if o ≤ i ∧ i < o + vs.length then vs[i - o]? else D i) (w.setCells b o vs) b
  | [], o, D, w, h, _ => h.congr (fun i => by rw [if_neg (by simp)])
  | v :: r, o, D, w, h, e => by
    obtain ⟨x, hx⟩ := e 0 (by simp)
    rw [Nat.add_zero] at hx
    have h1 := h.put o v hx (fun _ => rfl)
    have h2 := FD.putAll r (o + 1) (At51.updR D o v) _ h1 (fun j hj => by
      obtain ⟨y, hy⟩ := e (j + 1) (by simp; omega)
      refine ⟨y, ?_⟩
      unfold At51.updR
      rw [if_neg (by omega), show o + 1 + j = o + (j + 1) by omega, hy])
    refine h2.congr (fun i => ?_)
    simp only [List.length_cons]
    by_cases c : o + 1 ≤ i ∧ i < o + 1 + r.length
    · rw [if_pos c, if_pos (by omega), show i - o = (i - (o + 1)) + 1 by omega, List.getElem?_cons_succ]
    · rw [if_neg c]
      unfold At51.updR
      by_cases c2 : i = o
      · subst c2; rw [if_pos rfl, if_pos (by omega), Nat.sub_self]; rfl
      · rw [if_neg c2, if_neg (by omega)]
theorem SW.putAll {w0 w : World} {B gd g n c : Nat} {D D' : Nat → Option Value} {ao : Option Addr} {zs : List Int} {s : SS} {o : Nat} {vs : List Value} (h : SW w0 B D w gd g ao n c zs s) (k : SK w0 B gd g ao n) (hf : FD D' (w.setCells gd o vs) gd) : SW w0 B D' (w.setCells gd o vs) gd g ao n c zs s := by
  obtain ⟨⟨ov, h1⟩, h2, h3⟩ := h
  exact ⟨⟨ov, h1.grown (setCells_grown gd vs o w) B (fun r hr => by injection hr with hr; subst hr; exact ⟨k.2.1, k.2.2.1⟩) k.2.2.2.1⟩, hf, below_cells2 k.2.1 vs o w h3⟩

theorem grown_cell {w w' : World} {r b i : Nat} {v : Value} (hg : w.grownBy w' (some r)) (hne : b ≠ r) (hc : w.cell? ⟨b, i, none⟩ = some v) : w'.cell? ⟨b, i, none⟩ = some v := by
  rw [World.cell?_of_block (w := w) (hg.block b (World.block_lt_of_cell? w _ hc) (by intro c; injection c with c; exact hne c))]; exact hc
theorem zD_fil : (Tryd.zeroCells112.toList.drop 272).take 12 = [.bool false, .int .i64 0, .int .i64 0, .bool false, .int .i64 0, .int .i64 0, .int .i64 0, .int .i64 0, .int .i64 0, .int .i64 0, .int .i64 0, .int .i64 0] := by kernel_rfl
/-- The cells of the reference's filters in a fresh decoder. -/
theorem zDS_fil (g : Nat) (i : Nat) (hi : i < 12) : zDS g (272 + i) = ([.bool false, .int .i64 0, .int .i64 0, .bool false, .int .i64 0, .int .i64 0, .int .i64 0, .int .i64 0, .int .i64 0, .int .i64 0, .int .i64 0, .int .i64 0] : List Value)[i]? := by
  unfold zDS
  have hf := zD_fil
  generalize Tryd.zeroCells112 = Z at *
  rw [Array.getElem?_setIfInBounds_ne (by omega), ← Array.getElem?_toList]
  exact at_drop _ 272 12 _ hf i hi
def sgL (u r : Bool) (s0 s1 s2 s3 : Int) : List Value := [.bool u, .bool false, .bool (!r), .int .i64 0, .int .i64 0, .int .i64 0, .int .i64 0, .int .i64 s0, .int .i64 s1, .int .i64 s2, .int .i64 s3, .int .i64 0, .int .i64 0, .int .i64 0]
theorem info98 : (Tryd.prog.info? 98).map (·.size) = some 14 := by kernel_rfl
theorem sgL_all (u r : Bool) (s0 s1 s2 s3 : Int) : (sgL u r s0 s1 s2 s3).toArray.all (·.oneCell') = true := by simp [sgL, Value.oneCell']
def lv4 (s0 s1 s2 s3 : Int) (i : Nat) : Int := ([s0, s1, s2, s3] : List Int).getD i 0
theorem sgL_put (z : Nat → Option Value) (g : Nat) (u r : Bool) (s0 s1 s2 s3 : Int) (i : Nat) :
    (if 258 ≤ i ∧ i < 258 + (sgL u r s0 s1 s2 s3).length then (sgL u r s0 s1 s2 s3)[i - 258]? else sgD z g false false false (fun _ => 0) (fun _ => 0) (fun _ => 0) false false false i) = sgD z g u false (!r) (fun _ => 0) (lv4 s0 s1 s2 s3) (fun _ => 0) false false false i := by
  have e : (sgL u r s0 s1 s2 s3).length = 14 := rfl
  rw [e]
  unfold sgD
  by_cases a : i = 256
  · rw [if_neg (by omega), if_pos a, if_pos a]
  · rw [if_neg a, if_neg a]
    by_cases b : 258 ≤ i ∧ i < 272
    · rw [if_pos (by omega), if_pos b]
      generalize hk : i - 258 = k
      have hc : k = 0 ∨ k = 1 ∨ k = 2 ∨ k = 3 ∨ k = 4 ∨ k = 5 ∨ k = 6 ∨ k = 7 ∨ k = 8 ∨ k = 9 ∨ k = 10 ∨ k = 11 ∨ k = 12 ∨ k = 13 := by omega
      clear hk b a e
      rcases hc with rfl | rfl | rfl | rfl | rfl | rfl | rfl | rfl | rfl | rfl | rfl | rfl | rfl | rfl <;> rfl
    · rw [if_neg (by omega), if_neg b, if_neg b]
/-- What the reference's filters are made of. -/
def NN (u r : Bool) (lv : Int) (st : Nat → Int) (m : Nat) : Int := nS u (!r) lv (st (m / 2))
def MM (dl : Bool) (rf md : Nat → Int) (m : Nat) : Int := mS dl (rf 0) (md 0) (decide (m % 2 = 1))
def OO (u r : Bool) (lv : Int) (dl : Bool) (rf md st : Nat → Int) : Nat → Bool
  | 0 => false
  | m + 1 => odd3 (odd2 (odd1 (OO u r lv dl rf md st m) dl (NN u r lv st m) (rf 0)) (NN u r lv st m) (MM dl rf md m)) lv (NN u r lv st m) (MM dl rf md m)
def PP (u r : Bool) (lv sh : Int) (dl : Bool) (rf md st : Nat → Int) (m k : Nat) : Int := sayI sh (lvO (NN u r lv st m) (MM dl rf md m)) k
/-- What the reference tells. -/
def filS38 (sm : Bool) (lv sh : Int) (dl : Bool) (rf md : Nat → Int) (P : Nat → Nat → Int) (d o : Bool) : List Value := [.bool sm, .int .i64 lv, .int .i64 sh, .bool dl, .int .i64 (rf 0), .int .i64 (rf 1), .int .i64 (rf 2), .int .i64 (rf 3), .int .i64 (md 0), .int .i64 (md 1), .int .i64 (md 2), .int .i64 (md 3), .int .i64 (P 0 0), .int .i64 (P 0 1), .int .i64 (P 0 2), .int .i64 (P 1 0), .int .i64 (P 1 1), .int .i64 (P 1 2), .int .i64 (P 2 0), .int .i64 (P 2 1), .int .i64 (P 2 2), .int .i64 (P 3 0), .int .i64 (P 3 1), .int .i64 (P 3 2), .int .i64 (P 4 0), .int .i64 (P 4 1), .int .i64 (P 4 2), .int .i64 (P 5 0), .int .i64 (P 5 1), .int .i64 (P 5 2), .int .i64 (P 6 0), .int .i64 (P 6 1), .int .i64 (P 6 2), .int .i64 (P 7 0), .int .i64 (P 7 1), .int .i64 (P 7 2), .bool d, .bool o]
def z38 : List Value := [.bool false, .int .i64 0, .int .i64 0, .bool false, .int .i64 0, .int .i64 0, .int .i64 0, .int .i64 0, .int .i64 0, .int .i64 0, .int .i64 0, .int .i64 0, .int .i64 0, .int .i64 0, .int .i64 0, .int .i64 0, .int .i64 0, .int .i64 0, .int .i64 0, .int .i64 0, .int .i64 0, .int .i64 0, .int .i64 0, .int .i64 0, .int .i64 0, .int .i64 0, .int .i64 0, .int .i64 0, .int .i64 0, .int .i64 0, .int .i64 0, .int .i64 0, .int .i64 0, .int .i64 0, .int .i64 0, .int .i64 0, .bool false, .bool false]
theorem info63 : (Tryd.prog.info? 63).map (·.size) = some 38 := by kernel_rfl
theorem filS38_all (sm : Bool) (lv sh : Int) (dl : Bool) (rf md : Nat → Int) (P : Nat → Nat → Int) (d o : Bool) : (filS38 sm lv sh dl rf md P d o).toArray.all (·.oneCell') = true := by simp [filS38, Value.oneCell']
theorem run_build38 (f : Operand → Value) (o : Oper) (sm dl : Bool) (lv sh : Int) (rf md : Nat → Int) (P : Nat → Nat → Int) (ho : o.op = .build 63 #[(0, Operand.tmp 31), (1, Operand.tmp 33), (2, Operand.tmp 35), (3, Operand.tmp 37), (4, Operand.tmp 39), (5, Operand.tmp 41), (6, Operand.tmp 43)])
    (h0 : f (.tmp 31) = Value.bool sm) (h1 : f (.tmp 33) = .int .i64 lv) (h2 : f (.tmp 35) = .int .i64 sh) (h3 : f (.tmp 37) = Value.bool dl) (h4 : f (.tmp 39) = .agg #[.int .i64 (rf 0), .int .i64 (rf 1), .int .i64 (rf 2), .int .i64 (rf 3)]) (h5 : f (.tmp 41) = .agg #[.int .i64 (md 0), .int .i64 (md 1), .int .i64 (md 2), .int .i64 (md 3)]) (h6 : f (.tmp 43) = .agg #[.int .i64 (P 0 0), .int .i64 (P 0 1), .int .i64 (P 0 2), .int .i64 (P 1 0), .int .i64 (P 1 1), .int .i64 (P 1 2), .int .i64 (P 2 0), .int .i64 (P 2 1), .int .i64 (P 2 2), .int .i64 (P 3 0), .int .i64 (P 3 1), .int .i64 (P 3 2), .int .i64 (P 4 0), .int .i64 (P 4 1), .int .i64 (P 4 2), .int .i64 (P 5 0), .int .i64 (P 5 1), .int .i64 (P 5 2), .int .i64 (P 6 0), .int .i64 (P 6 1), .int .i64 (P 6 2), .int .i64 (P 7 0), .int .i64 (P 7 1), .int .i64 (P 7 2)]) (w : World) :
    (execOp f o).run Tryd.prog w = .ok (Next.value (.agg (filS38 sm lv sh dl rf md P false false).toArray)) w := by
  have hb : (Instr.build 63 #[(0, Value.bool sm), (1, .int .i64 lv), (2, .int .i64 sh), (3, Value.bool dl), (4, .agg #[.int .i64 (rf 0), .int .i64 (rf 1), .int .i64 (rf 2), .int .i64 (rf 3)]), (5, .agg #[.int .i64 (md 0), .int .i64 (md 1), .int .i64 (md 2), .int .i64 (md 3)]), (6, .agg #[.int .i64 (P 0 0), .int .i64 (P 0 1), .int .i64 (P 0 2), .int .i64 (P 1 0), .int .i64 (P 1 1), .int .i64 (P 1 2), .int .i64 (P 2 0), .int .i64 (P 2 1), .int .i64 (P 2 2), .int .i64 (P 3 0), .int .i64 (P 3 1), .int .i64 (P 3 2), .int .i64 (P 4 0), .int .i64 (P 4 1), .int .i64 (P 4 2), .int .i64 (P 5 0), .int .i64 (P 5 1), .int .i64 (P 5 2), .int .i64 (P 6 0), .int .i64 (P 6 1), .int .i64 (P 6 2), .int .i64 (P 7 0), .int .i64 (P 7 1), .int .i64 (P 7 2)])]).run Tryd.prog w = .ok (.agg (filS38 sm lv sh dl rf md P false false).toArray) w := by kernel_rfl
  unfold execOp
  simp only [ho]
  have e : Array.map (fun x : Nat × Operand => (x.fst, f x.snd)) #[(0, Operand.tmp 31), (1, Operand.tmp 33), (2, Operand.tmp 35), (3, Operand.tmp 37), (4, Operand.tmp 39), (5, Operand.tmp 41), (6, Operand.tmp 43)] = #[(0, Value.bool sm), (1, .int .i64 lv), (2, .int .i64 sh), (3, Value.bool dl), (4, .agg #[.int .i64 (rf 0), .int .i64 (rf 1), .int .i64 (rf 2), .int .i64 (rf 3)]), (5, .agg #[.int .i64 (md 0), .int .i64 (md 1), .int .i64 (md 2), .int .i64 (md 3)]), (6, .agg #[.int .i64 (P 0 0), .int .i64 (P 0 1), .int .i64 (P 0 2), .int .i64 (P 1 0), .int .i64 (P 1 1), .int .i64 (P 1 2), .int .i64 (P 2 0), .int .i64 (P 2 1), .int .i64 (P 2 2), .int .i64 (P 3 0), .int .i64 (P 3 1), .int .i64 (P 3 2), .int .i64 (P 4 0), .int .i64 (P 4 1), .int .i64 (P 4 2), .int .i64 (P 5 0), .int .i64 (P 5 1), .int .i64 (P 5 2), .int .i64 (P 6 0), .int .i64 (P 6 1), .int .i64 (P 6 2), .int .i64 (P 7 0), .int .i64 (P 7 1), .int .i64 (P 7 2)])] := by
    simp only [List.map_toArray, List.map_cons, List.map_nil, h0, h1, h2, h3, h4, h5, h6]
  rw [e]
  simp [hb]
def FilRes (v : FG) (P : Nat → Nat → Int) (d : Bool) (e : Ending) : Prop := ∃ o, e = .returned (.agg (filS38 v.simple v.level v.sharp v.deltas v.ref v.mode P d o).toArray)

set_option maxRecDepth 100000 in
set_option maxHeartbeats 8000000 in
theorem filtersOfS_any (ao : Option Addr) (n c : Nat) (zs : List Int) (u r : Bool) (s0 s1 s2 s3 : Int) (w : World) (hl : zs.length = n) (hrow : Arg .u8 w ao n (fun i => zs.getD i 0)) (hz : Bytes zs) (h255 : zs.getD 0 0 ≠ 255) (hn : n ≤ 1048576)
    (a0 : -63 ≤ s0) (a1 : s0 ≤ 63) (b0 : -63 ≤ s1) (b1 : s1 ≤ 63) (c0 : -63 ≤ s2) (c1 : s2 ≤ 63) (d0 : -63 ≤ s3) (d1 : s3 ≤ 63)
    (v : FG × SS) (hv : v = filG (stepS zs) (ss0 zs)) :
    Calls Tryd.prog 27 #[.slice ao n c, .bool u, .bool r, .agg #[.int .i64 s0, .int .i64 s1, .int .i64 s2, .int .i64 s3]] w fun e w' => FilRes v.1 (PP u r v.1.level v.1.sharp v.1.deltas v.1.ref v.1.mode (lv4 s0 s1 s2 s3)) (!(OO u r v.1.level v.1.deltas v.1.ref v.1.mode (lv4 s0 s1 s2 s3) 8)) e ∧ Below w.heap.size w w' := by
  have HST : Hid (∀ i, i < 4 → -63 ≤ lv4 s0 s1 s2 s3 i ∧ lv4 s0 s1 s2 s3 i ≤ 63) := Lib.hid (fun i hi => by
    have : i = 0 ∨ i = 1 ∨ i = 2 ∨ i = 3 := by omega
    rcases this with rfl | rfl | rfl | rfl
    · show -63 ≤ s0 ∧ s0 ≤ 63; omega
    · show -63 ≤ s1 ∧ s1 ≤ 63; omega
    · show -63 ≤ s2 ∧ s2 ≤ 63; omega
    · show -63 ≤ s3 ∧ s3 ≤ 63; omega)
  have HO : Hid (SObj ((w.alloc (.cells #[.int .i64 s0, .int .i64 s1, .int .i64 s2, .int .i64 s3] 40)).alloc (.cells z38.toArray 63)) (w.heap.size + 1) 63 z38 ∧ SObj ((w.alloc (.cells #[.int .i64 s0, .int .i64 s1, .int .i64 s2, .int .i64 s3] 40)).alloc (.cells z38.toArray 63)) w.heap.size 40 [.int .i64 s0, .int .i64 s1, .int .i64 s2, .int .i64 s3] ∧ Below w.heap.size w ((w.alloc (.cells #[.int .i64 s0, .int .i64 s1, .int .i64 s2, .int .i64 s3] 40)).alloc (.cells z38.toArray 63)) ∧ ((w.alloc (.cells #[.int .i64 s0, .int .i64 s1, .int .i64 s2, .int .i64 s3] 40)).alloc (.cells z38.toArray 63)).heap.size = w.heap.size + 1 + 1) := Lib.hid (by
    have := obj_new (w.alloc (.cells #[.int .i64 s0, .int .i64 s1, .int .i64 s2, .int .i64 s3] 40)) 63 z38
    exact ⟨by simpa using this, (obj_new w 40 [.int .i64 s0, .int .i64 s1, .int .i64 s2, .int .i64 s3]).alloc _, ((Below.refl _ _).alloc (Nat.le_refl _) _).alloc (by simp) _, by simp⟩)
  unfold z38 at HO
  have HA := Lib.hid (And.intro hl (And.intro hrow (And.intro hz (And.intro h255 hv)))); clear hl hrow hz h255 hv
  obtain ⟨S, hS⟩ : ∃ S, S = w.heap.size := ⟨_, rfl⟩
  go_enter Tryd.func27, Tryd.ntmps27
  go_wp2_with fail
  generalize World.alloc _ _ = w1 at HO ⊢
  refine (newBools_any ao n c zs w1 HA.out.1 (HA.out.2.1.below HO.out.2.2.1) HA.out.2.2.1 HA.out.2.2.2.1 hn).mono ?_
  rintro _ w2 ⟨rfl, ⟨over, hsd⟩, hb⟩
  have e1 := HO.out.2.2.2
  obtain ⟨g, hg⟩ : ∃ g, g = w1.heap.size := ⟨_, rfl⟩
  rw [← hg] at hsd hb ⊢
  have H2 : Hid (Sd w2 g ao n c zs (ss0 zs).pos (ss0 zs).v (ss0 zs).z over ∧ Below g w1 w2 ∧ g < w2.heap.size) := Lib.hid ⟨hsd, hb, SObj.lt hsd.obj⟩
  rw [← hS]
  rw [← hS] at HO e1
  have HB := Lib.hid (And.intro hS (And.intro hg e1)); clear hS hg e1 hsd hb
  obtain ⟨gd, hgd⟩ : ∃ gd, gd = w2.heap.size := ⟨_, rfl⟩
  have H3 : Hid (SW w1 g (sgD (zDS g) g false false false (fun _ => 0) (fun _ => 0) (fun _ => 0) false false false) (w2.alloc (.cells (Tryd.zeroCells112.setIfInBounds 256 (.pointer (some ⟨g, 0, none⟩))) 112)) gd g ao n c zs (ss0 zs) ∧ SK w1 g gd g ao n) := Lib.hid (by
    obtain ⟨h1, h2, h3⟩ := H2.out
    rw [hgd]
    refine ⟨⟨⟨over, h1.below ((Below.refl _ _).alloc (Nat.le_refl _) _)⟩, dec_s w2 g, h2.alloc (by omega) _⟩, Nat.le_refl _, by omega, by omega, ?_, ?_⟩
    · intro h a ha
      obtain ⟨ga, oa, hao, hlt, _⟩ := (HA.out.2.1) h
      rw [ha] at hao
      injection hao with hao
      subst hao
      show ga < g
      have := HB.out
      omega
    · have := HB.out; omega)
  have HS0 : Hid (∀ i, i < 4 → w2.cell? ⟨S, i, none⟩ = some (.int .i64 (lv4 s0 s1 s2 s3 i))) := Lib.hid (fun i hi => by
    have hb := H2.out.2.1
    have e := HB.out
    rw [hb.cell (p := ⟨S, i, none⟩) (by show S < g; omega)]
    have : i = 0 ∨ i = 1 ∨ i = 2 ∨ i = 3 := by omega
    rcases this with rfl | rfl | rfl | rfl
    · exact HO.out.2.1.cell 0 rfl
    · exact HO.out.2.1.cell 1 rfl
    · exact HO.out.2.1.cell 2 rfl
    · exact HO.out.2.1.cell 3 rfl)
  have q0 : (w2.alloc (.cells (Tryd.zeroCells112.setIfInBounds 256 (.pointer (some ⟨g, 0, none⟩))) 112)).cell? ⟨S, 0, none⟩ = some (.int .i64 s0) := alloc_cell (HS0.out 0 (by omega))
  have q1 : (w2.alloc (.cells (Tryd.zeroCells112.setIfInBounds 256 (.pointer (some ⟨g, 0, none⟩))) 112)).cell? ⟨S, 1, none⟩ = some (.int .i64 s1) := alloc_cell (HS0.out 1 (by omega))
  have q2 : (w2.alloc (.cells (Tryd.zeroCells112.setIfInBounds 256 (.pointer (some ⟨g, 0, none⟩))) 112)).cell? ⟨S, 2, none⟩ = some (.int .i64 s2) := alloc_cell (HS0.out 2 (by omega))
  have q3 : (w2.alloc (.cells (Tryd.zeroCells112.setIfInBounds 256 (.pointer (some ⟨g, 0, none⟩))) 112)).cell? ⟨S, 3, none⟩ = some (.int .i64 s3) := alloc_cell (HS0.out 3 (by omega))
  go_upto_region 2 with fail
  rw [← hgd]
  generalize World.alloc _ _ = w3 at H3 q0 q1 q2 q3 ⊢
  have HZfl : Hid (∀ i, i < 12 → zDS g (272 + i) = ([.bool false, .int .i64 0, .int .i64 0, .bool false, .int .i64 0, .int .i64 0, .int .i64 0, .int .i64 0, .int .i64 0, .int .i64 0, .int .i64 0, .int .i64 0] : List Value)[i]?) := Lib.hid (zDS_fil g)
  generalize zDS g = z at H3 HZfl
  clear hgd
  have HT3 : Hid (World.there w3 gd 258 (sgL u r s0 s1 s2 s3).toArray.size) := Lib.hid (fun j hj => by
    have hj : j < 14 := hj
    have hf := H3.out.1.2.1
    refine ⟨?_, hf.2.2 _⟩
    rw [hf.2.1]
    unfold sgD
    rw [if_neg (by omega), if_pos (by omega)]; rfl)
  have HI3 : Hid ((Tryd.prog.info? 98).map (·.size) = some (sgL u r s0 s1 s2 s3).toArray.size) := Lib.hid info98
  obtain ⟨D0, hD0⟩ : ∃ D, D = sgD z g u false (!r) (fun _ => 0) (lv4 s0 s1 s2 s3) (fun _ => 0) false false false := ⟨_, rfl⟩
  have H4 : Hid (SW w1 g D0 (w3.setCells gd 258 (sgL u r s0 s1 s2 s3)) gd g ao n c zs (ss0 zs)) := Lib.hid (by
    have hf := (FD.putAll (sgL u r s0 s1 s2 s3) 258 _ w3 H3.out.1.2.1 (fun j hj => by
      have hj : j < 14 := hj
      unfold sgD
      rw [if_neg (by omega), if_pos (by omega)]
      exact ⟨_, rfl⟩)).congr (sgL_put z g u r s0 s1 s2 s3)
    rw [hD0]
    exact H3.out.1.putAll H3.out.2 hf)
  have HD0 : Hid (D0 256 = some (.pointer (some ⟨g, 0, none⟩)) ∧ D0 258 = some (.bool u) ∧ D0 260 = some (.bool (!r)) ∧ (∀ i, i < 4 → D0 (265 + i) = some (.int .i64 (lv4 s0 s1 s2 s3 i))) ∧ D0 350 = some (.bool false) ∧ FilT D0 D0 false 0 0 false (fun _ => 0) (fun _ => 0)) := Lib.hid (by
    have hz : ∀ i, i < 12 → D0 (272 + i) = ([.bool false, .int .i64 0, .int .i64 0, .bool false, .int .i64 0, .int .i64 0, .int .i64 0, .int .i64 0, .int .i64 0, .int .i64 0, .int .i64 0, .int .i64 0] : List Value)[i]? := fun i hi => by
      rw [hD0]
      unfold sgD
      rw [if_neg (by omega), if_neg (by omega), if_neg (by omega), if_neg (by omega), if_neg (by omega)]
      exact HZfl.out i hi
    refine ⟨by rw [hD0]; rfl, by rw [hD0]; rfl, by rw [hD0]; rfl, fun i hi => by rw [hD0]; exact sat_l _ _ _ _ _ _ _ _ _ _ _ i hi, by rw [hD0]; rfl, ?_⟩
    refine ⟨hz 0 (by omega), hz 1 (by omega), hz 2 (by omega), hz 3 (by omega), fun i hi => ?_, fun i hi => ?_, ⟨false, by rw [hD0]; rfl⟩, fun _ _ _ => rfl⟩
    · have : i = 0 ∨ i = 1 ∨ i = 2 ∨ i = 3 := by omega
      rcases this with rfl | rfl | rfl | rfl
      · exact hz 4 (by omega)
      · exact hz 5 (by omega)
      · exact hz 6 (by omega)
      · exact hz 7 (by omega)
    · have : i = 0 ∨ i = 1 ∨ i = 2 ∨ i = 3 := by omega
      rcases this with rfl | rfl | rfl | rfl
      · exact hz 8 (by omega)
      · exact hz 9 (by omega)
      · exact hz 10 (by omega)
      · exact hz 11 (by omega))
  clear hD0
  go_upto_region 3 with (first | (refine wpList_store_mid rfl 98 (.tmp 23) (.tmp 21) rfl gd 258 (sgL u r s0 s1 s2 s3).toArray rfl rfl HT3.out HI3.out (sgL_all u r s0 s1 s2 s3) ?_))
  (try simp only [Act.put])
  generalize World.setCells _ _ _ _ = w4 at H4 ⊢
  have HSK := Lib.hid H3.out.2
  clear HT3 HI3 q0 q1 q2 q3 H3 HZfl
  go_wp2_with fail
  refine (readFilS_any w1 g gd g ao n c zs (ss0 zs) D0 w4 HSK.out ⟨D0, H4.out, HD0.out.2.2.2.2.2⟩ HD0.out.1 (ss0_ok zs HA.out.2.2.1 HA.out.2.2.2.1) (by show 8 ≤ 1000; omega) v HA.out.2.2.2.2).mono ?_
  rintro _ w5 ⟨rfl, hfz⟩
  obtain ⟨⟨bl0, bl1⟩, ⟨bs0, bs1⟩, bref, bmode⟩ := filG_bd (stepS zs) (ss0 zs)
  rw [← HA.out.2.2.2.2] at bl0 bl1 bs0 bs1 bref bmode
  obtain ⟨sm, hsm⟩ : ∃ y, y = v.1.simple := ⟨_, rfl⟩
  obtain ⟨lv, hlv⟩ : ∃ y, y = v.1.level := ⟨_, rfl⟩
  obtain ⟨sh, hsh⟩ : ∃ y, y = v.1.sharp := ⟨_, rfl⟩
  obtain ⟨dl, hdl⟩ : ∃ y, y = v.1.deltas := ⟨_, rfl⟩
  obtain ⟨rf, hrf⟩ : ∃ y, y = v.1.ref := ⟨_, rfl⟩
  obtain ⟨md, hmd⟩ : ∃ y, y = v.1.mode := ⟨_, rfl⟩
  rw [← hlv] at bl0 bl1
  rw [← hsh] at bs0 bs1
  rw [← hrf] at bref
  rw [← hmd] at bmode
  rw [← hsm, ← hlv, ← hsh, ← hdl, ← hrf, ← hmd] at hfz
  obtain ⟨D, h5, hft⟩ := hfz
  obtain ⟨P, hP⟩ : ∃ P, P = PP u r lv sh dl rf md (lv4 s0 s1 s2 s3) := ⟨_, rfl⟩
  obtain ⟨O8, hO8⟩ : ∃ O, O = OO u r lv dl rf md (lv4 s0 s1 s2 s3) 8 := ⟨_, rfl⟩
  have HV := Lib.hid (And.intro hsm (And.intro hlv (And.intro hsh (And.intro hdl (And.intro hrf (And.intro hmd (And.intro hP hO8))))))); clear hsm hlv hsh hdl hrf hmd hP hO8
  have HBD := Lib.hid (And.intro bref bmode); clear bref bmode
  have H5 := Lib.hid (And.intro h5 hft); clear h5 hft H4
  have k0 : w5.cell? ⟨gd, 272, none⟩ = some (.bool sm) := H5.out.1.cell 272 H5.out.2.sm
  have k1 : w5.cell? ⟨gd, 273, none⟩ = some (.int .i64 lv) := H5.out.1.cell 273 H5.out.2.lv
  have k2 : w5.cell? ⟨gd, 274, none⟩ = some (.int .i64 sh) := H5.out.1.cell 274 H5.out.2.sh
  have k3 : w5.cell? ⟨gd, 275, none⟩ = some (.bool dl) := H5.out.1.cell 275 H5.out.2.dl
  have k4 : w5.cell? ⟨gd, 276, none⟩ = some (.int .i64 (rf 0)) := H5.out.1.cell 276 (H5.out.2.rf 0 (by omega))
  have k5 : w5.cell? ⟨gd, 277, none⟩ = some (.int .i64 (rf 1)) := H5.out.1.cell 277 (H5.out.2.rf 1 (by omega))
  have k6 : w5.cell? ⟨gd, 278, none⟩ = some (.int .i64 (rf 2)) := H5.out.1.cell 278 (H5.out.2.rf 2 (by omega))
  have k7 : w5.cell? ⟨gd, 279, none⟩ = some (.int .i64 (rf 3)) := H5.out.1.cell 279 (H5.out.2.rf 3 (by omega))
  have k8 : w5.cell? ⟨gd, 280, none⟩ = some (.int .i64 (md 0)) := H5.out.1.cell 280 (H5.out.2.md 0 (by omega))
  have k9 : w5.cell? ⟨gd, 281, none⟩ = some (.int .i64 (md 1)) := H5.out.1.cell 281 (H5.out.2.md 1 (by omega))
  have k10 : w5.cell? ⟨gd, 282, none⟩ = some (.int .i64 (md 2)) := H5.out.1.cell 282 (H5.out.2.md 2 (by omega))
  have k11 : w5.cell? ⟨gd, 283, none⟩ = some (.int .i64 (md 3)) := H5.out.1.cell 283 (H5.out.2.md 3 (by omega))
  have H6 : Hid (SObj (w5.alloc (.cells #[.bool sm, .int .i64 lv, .int .i64 sh, .bool dl, .int .i64 (rf 0), .int .i64 (rf 1), .int .i64 (rf 2), .int .i64 (rf 3), .int .i64 (md 0), .int .i64 (md 1), .int .i64 (md 2), .int .i64 (md 3)] 100)) w5.heap.size 100 [.bool sm, .int .i64 lv, .int .i64 sh, .bool dl, .int .i64 (rf 0), .int .i64 (rf 1), .int .i64 (rf 2), .int .i64 (rf 3), .int .i64 (md 0), .int .i64 (md 1), .int .i64 (md 2), .int .i64 (md 3)] ∧ SW w1 g D (w5.alloc (.cells #[.bool sm, .int .i64 lv, .int .i64 sh, .bool dl, .int .i64 (rf 0), .int .i64 (rf 1), .int .i64 (rf 2), .int .i64 (rf 3), .int .i64 (md 0), .int .i64 (md 1), .int .i64 (md 2), .int .i64 (md 3)] 100)) gd g ao n c zs v.2 ∧ SObj (w5.alloc (.cells #[.bool sm, .int .i64 lv, .int .i64 sh, .bool dl, .int .i64 (rf 0), .int .i64 (rf 1), .int .i64 (rf 2), .int .i64 (rf 3), .int .i64 (md 0), .int .i64 (md 1), .int .i64 (md 2), .int .i64 (md 3)] 100)) (S + 1) 63 z38 ∧ gd < w5.heap.size ∧ g < w5.heap.size ∧ S + 1 < g ∧ S + 1 < gd) := Lib.hid (by
    have e := HB.out
    have hk := HSK.out
    have b5 := H5.out.1.2.2
    have hs := b5.size
    have hl := H5.out.1.2.1.1
    have o1 : SObj w5 (S + 1) 63 z38 := SObj.below HO.out.1 b5 (by omega)
    obtain ⟨ov, hov⟩ := H5.out.1.1
    refine ⟨obj_new _ _ _, ⟨⟨ov, hov.below ((Below.refl _ _).alloc (Nat.le_refl _) _)⟩, H5.out.1.2.1.grown (World.grownBy_alloc _ _ none) (by intro c; cases c), b5.alloc (by have := hk.2.2.2.2; omega) _⟩, o1.alloc _, hl, SObj.lt hov.obj, by omega, by have := hk.2.1; omega⟩)
  go_upto_region 5 with fail
  generalize World.alloc _ _ = w6 at H6 ⊢
  obtain ⟨h, hh⟩ : ∃ h, h = w5.heap.size := ⟨_, rfl⟩
  rw [← hh] at H6 ⊢
  clear k0 k1 k2 k3 k4 k5 k6 k7 k8 k9 k10 k11
  have HH := Lib.hid hh; clear hh
  have hne : h ≠ gd := by have := H6.out.2.2.2.1; have := HH.out; omega
  have k0 : w6.cell? ⟨h, 0, none⟩ = some (.bool sm) := H6.out.1.cell 0 rfl
  have k1 : w6.cell? ⟨h, 1, none⟩ = some (.int .i64 lv) := H6.out.1.cell 1 rfl
  have k2 : w6.cell? ⟨h, 2, none⟩ = some (.int .i64 sh) := H6.out.1.cell 2 rfl
  have k3 : w6.cell? ⟨h, 3, none⟩ = some (.bool dl) := H6.out.1.cell 3 rfl
  have k4 : w6.cell? ⟨h, 4, none⟩ = some (.int .i64 (rf 0)) := H6.out.1.cell 4 rfl
  have k5 : w6.cell? ⟨h, 5, none⟩ = some (.int .i64 (rf 1)) := H6.out.1.cell 5 rfl
  have k6 : w6.cell? ⟨h, 6, none⟩ = some (.int .i64 (rf 2)) := H6.out.1.cell 6 rfl
  have k7 : w6.cell? ⟨h, 7, none⟩ = some (.int .i64 (rf 3)) := H6.out.1.cell 7 rfl
  have k8 : w6.cell? ⟨h, 8, none⟩ = some (.int .i64 (md 0)) := H6.out.1.cell 8 rfl
  have k9 : w6.cell? ⟨h, 9, none⟩ = some (.int .i64 (md 1)) := H6.out.1.cell 9 rfl
  have k10 : w6.cell? ⟨h, 10, none⟩ = some (.int .i64 (md 2)) := H6.out.1.cell 10 rfl
  have k11 : w6.cell? ⟨h, 11, none⟩ = some (.int .i64 (md 3)) := H6.out.1.cell 11 rfl
  have HPC : Hid (∀ w', FD D w' gd → Calls Tryd.prog 52 #[.pointer (some ⟨gd, 0, none⟩)] w' fun e w'' => e = .returned (.agg #[.int .i64 (P 0 0), .int .i64 (P 0 1), .int .i64 (P 0 2), .int .i64 (P 1 0), .int .i64 (P 1 1), .int .i64 (P 1 2), .int .i64 (P 2 0), .int .i64 (P 2 1), .int .i64 (P 2 2), .int .i64 (P 3 0), .int .i64 (P 3 1), .int .i64 (P 3 2), .int .i64 (P 4 0), .int .i64 (P 4 1), .int .i64 (P 4 2), .int .i64 (P 5 0), .int .i64 (P 5 1), .int .i64 (P 5 2), .int .i64 (P 6 0), .int .i64 (P 6 1), .int .i64 (P 6 2), .int .i64 (P 7 0), .int .i64 (P 7 1), .int .i64 (P 7 2)]) ∧ FD (At51.updR D 350 (.bool O8)) w'' gd ∧ w'.grownBy w'' (some gd)) := Lib.hid (fun w' hf => by
    obtain ⟨e1, e2, e3, e4, e5, e6, e7, e8⟩ := HV.out
    obtain ⟨d1, d2, d3, d4, d5, d6⟩ := HD0.out
    obtain ⟨bref, bmode⟩ := HBD.out
    have ft := H5.out.2
    have b0 := bref 0
    have b1 := bmode 0
    have := params_any gd D u (!r) dl false lv sh (rf 0) (md 0) (lv4 s0 s1 s2 s3) w' hf ((ft.oth 258 (by omega) (by omega)).trans d2) ((ft.oth 260 (by omega) (by omega)).trans d3) (fun i hi => (ft.oth (265 + i) (by omega) (by omega)).trans (d4 i hi)) ft.lv ft.sh ft.dl (ft.rf 0 (by omega)) (ft.md 0 (by omega)) ((ft.oth 350 (by omega) (by omega)).trans d5) bl0 bl1 bs0 bs1 HST.out b0.1 b0.2 b1.1 b1.2 (NN u r lv (lv4 s0 s1 s2 s3)) (MM dl rf md) (OO u r lv dl rf md (lv4 s0 s1 s2 s3)) P (fun _ => rfl) (fun _ => rfl) rfl (fun _ => rfl) (fun m k => by rw [e7]; rfl)
    rw [← e8] at this
    exact this)
  go_cut [11] from 30 to 44 (fun s11 wc => ∃ hF : Nat, s11 = .pointer (some ⟨hF, 0, none⟩) ∧ Hid (SObj wc hF 63 (filS38 sm lv sh dl rf md P false false) ∧ FD (At51.updR D 350 (.bool O8)) wc gd ∧ w6.grownBy wc (some gd) ∧ w6.heap.size ≤ hF))
  case first =>
    refine wp_region_noPanic ?_
    refine wp_region_held_drew (S := fun w' => w6.grownBy w' (some gd)) rfl (grownBy_drewN w6 1 _) (fun hS0 => ?_)
    (try dsimp only at hS0)
    have hF0 : Hid (FD D (World.drew w6) gd) := Lib.hid H6.out.2.1.2.1
    have hz0 : Hid (w6.heap.size ≤ (World.drew w6).heap.size) := Lib.hid (Nat.le_refl _)
    generalize World.drew w6 = wk0 at hS0 hF0 hz0 ⊢
    refine wpAnyH_take (i := 0) (oi := ⟨some 30, _, _, _, _, _⟩) (v := ?_) rfl (by kernel_rfl) (by kernel_rfl) (by kernel_rfl) (fun _ _ _ h => h) (Or.inl ⟨by rfl, ?_⟩) (by assumption) ?_
    rotate_left
    · intro w hSw; (try dsimp only at hSw); go_simp; (try with_reducible rfl)
    (try simp only [Act.put, List.setIfInBounds_toArray, List.set_cons_zero, List.set_cons_succ])
    refine wpAnyH_take (i := 1) (oi := ⟨some 31, _, _, _, _, _⟩) (v := ?_) rfl (by kernel_rfl) (by kernel_rfl) (by kernel_rfl) (fun _ _ _ h => h) (Or.inl ⟨by rfl, ?_⟩) (by assumption) ?_
    rotate_left
    · intro w hSw; (try dsimp only at hSw); have _q0 := grown_cell hSw hne k0; go_simp; (try with_reducible rfl)
    (try simp only [Act.put, List.setIfInBounds_toArray, List.set_cons_zero, List.set_cons_succ])
    refine wpAnyH_take (i := 2) (oi := ⟨some 32, _, _, _, _, _⟩) (v := ?_) rfl (by kernel_rfl) (by kernel_rfl) (by kernel_rfl) (fun _ _ _ h => h) (Or.inl ⟨by rfl, ?_⟩) (by assumption) ?_
    rotate_left
    · intro w hSw; (try dsimp only at hSw); go_simp; (try with_reducible rfl)
    (try simp only [Act.put, List.setIfInBounds_toArray, List.set_cons_zero, List.set_cons_succ])
    refine wpAnyH_take (i := 3) (oi := ⟨some 33, _, _, _, _, _⟩) (v := ?_) rfl (by kernel_rfl) (by kernel_rfl) (by kernel_rfl) (fun _ _ _ h => h) (Or.inl ⟨by rfl, ?_⟩) (by assumption) ?_
    rotate_left
    · intro w hSw; (try dsimp only at hSw); have _q1 := grown_cell hSw hne k1; go_simp; (try with_reducible rfl)
    (try simp only [Act.put, List.setIfInBounds_toArray, List.set_cons_zero, List.set_cons_succ])
    refine wpAnyH_take (i := 4) (oi := ⟨some 34, _, _, _, _, _⟩) (v := ?_) rfl (by kernel_rfl) (by kernel_rfl) (by kernel_rfl) (fun _ _ _ h => h) (Or.inl ⟨by rfl, ?_⟩) (by assumption) ?_
    rotate_left
    · intro w hSw; (try dsimp only at hSw); go_simp; (try with_reducible rfl)
    (try simp only [Act.put, List.setIfInBounds_toArray, List.set_cons_zero, List.set_cons_succ])
    refine wpAnyH_take (i := 5) (oi := ⟨some 35, _, _, _, _, _⟩) (v := ?_) rfl (by kernel_rfl) (by kernel_rfl) (by kernel_rfl) (fun _ _ _ h => h) (Or.inl ⟨by rfl, ?_⟩) (by assumption) ?_
    rotate_left
    · intro w hSw; (try dsimp only at hSw); have _q2 := grown_cell hSw hne k2; go_simp; (try with_reducible rfl)
    (try simp only [Act.put, List.setIfInBounds_toArray, List.set_cons_zero, List.set_cons_succ])
    refine wpAnyH_take (i := 6) (oi := ⟨some 36, _, _, _, _, _⟩) (v := ?_) rfl (by kernel_rfl) (by kernel_rfl) (by kernel_rfl) (fun _ _ _ h => h) (Or.inl ⟨by rfl, ?_⟩) (by assumption) ?_
    rotate_left
    · intro w hSw; (try dsimp only at hSw); go_simp; (try with_reducible rfl)
    (try simp only [Act.put, List.setIfInBounds_toArray, List.set_cons_zero, List.set_cons_succ])
    refine wpAnyH_take (i := 7) (oi := ⟨some 37, _, _, _, _, _⟩) (v := ?_) rfl (by kernel_rfl) (by kernel_rfl) (by kernel_rfl) (fun _ _ _ h => h) (Or.inl ⟨by rfl, ?_⟩) (by assumption) ?_
    rotate_left
    · intro w hSw; (try dsimp only at hSw); have _q3 := grown_cell hSw hne k3; go_simp; (try with_reducible rfl)
    (try simp only [Act.put, List.setIfInBounds_toArray, List.set_cons_zero, List.set_cons_succ])
    refine wpAnyH_take (i := 8) (oi := ⟨some 38, _, _, _, _, _⟩) (v := ?_) rfl (by kernel_rfl) (by kernel_rfl) (by kernel_rfl) (fun _ _ _ h => h) (Or.inl ⟨by rfl, ?_⟩) (by assumption) ?_
    rotate_left
    · intro w hSw; (try dsimp only at hSw); go_simp; (try with_reducible rfl)
    (try simp only [Act.put, List.setIfInBounds_toArray, List.set_cons_zero, List.set_cons_succ])
    refine wpAnyH_take (i := 9) (oi := ⟨some 39, _, _, _, _, _⟩) (v := ?_) rfl (by kernel_rfl) (by kernel_rfl) (by kernel_rfl) (fun _ _ _ h => h) (Or.inl ⟨by rfl, ?_⟩) (by assumption) ?_
    rotate_left
    · intro w hSw; (try dsimp only at hSw); have _q4 := grown_cell hSw hne k4; have _q5 := grown_cell hSw hne k5; have _q6 := grown_cell hSw hne k6; have _q7 := grown_cell hSw hne k7; go_simp; (try with_reducible rfl)
    (try simp only [Act.put, List.setIfInBounds_toArray, List.set_cons_zero, List.set_cons_succ])
    refine wpAnyH_take (i := 10) (oi := ⟨some 40, _, _, _, _, _⟩) (v := ?_) rfl (by kernel_rfl) (by kernel_rfl) (by kernel_rfl) (fun _ _ _ h => h) (Or.inl ⟨by rfl, ?_⟩) (by assumption) ?_
    rotate_left
    · intro w hSw; (try dsimp only at hSw); go_simp; (try with_reducible rfl)
    (try simp only [Act.put, List.setIfInBounds_toArray, List.set_cons_zero, List.set_cons_succ])
    refine wpAnyH_take (i := 11) (oi := ⟨some 41, _, _, _, _, _⟩) (v := ?_) rfl (by kernel_rfl) (by kernel_rfl) (by kernel_rfl) (fun _ _ _ h => h) (Or.inl ⟨by rfl, ?_⟩) (by assumption) ?_
    rotate_left
    · intro w hSw; (try dsimp only at hSw); have _q8 := grown_cell hSw hne k8; have _q9 := grown_cell hSw hne k9; have _q10 := grown_cell hSw hne k10; have _q11 := grown_cell hSw hne k11; go_simp; (try with_reducible rfl)
    (try simp only [Act.put, List.setIfInBounds_toArray, List.set_cons_zero, List.set_cons_succ])
    refine wpAnyH_take (i := 12) (oi := ⟨some 42, _, _, _, _, _⟩) (v := ?_) rfl (by kernel_rfl) (by kernel_rfl) (by kernel_rfl) (fun _ _ _ h => h) (Or.inl ⟨by rfl, ?_⟩) (by assumption) ?_
    rotate_left
    · intro w hSw; (try dsimp only at hSw); go_simp; (try with_reducible rfl)
    (try simp only [Act.put, List.setIfInBounds_toArray, List.set_cons_zero, List.set_cons_succ])
    refine wpAnyH_ready (rs := [13, 15]) (by kernel_rfl) (by simp) ?_
    refine AllReadyH.cons (o := ⟨some 43, _, _, _, _, none⟩) rfl (fun K hK => ?_) ?_
    · as_aux_lemma =>
      go_simp
      go_at_call 52; refine (HPC.out _ hF0.out).mono ?_; rintro e wk1 ⟨rfl, hf, hb⟩
      have hS1' := grownBy.trans hS0 hb
      refine hK.out _ _ hS1' (fun hS1 => ?_)
      clear hK K
      (try simp only [Act.put, List.setIfInBounds_toArray, List.set_cons_zero, List.set_cons_succ])
      refine wpAnyH_take (i := 14) (oi := ⟨some 44, _, _, _, _, _⟩) (v := .agg (filS38 sm lv sh dl rf md P false false).toArray) rfl (by kernel_rfl) (by kernel_rfl) (by kernel_rfl) (fun _ _ _ h => h) (Or.inl ⟨by kernel_rfl, ?_⟩) (by assumption) ?_
      · intro w hSw; exact run_build38 _ _ sm dl lv sh rf md P rfl (by kernel_rfl) (by kernel_rfl) (by kernel_rfl) (by kernel_rfl) (by kernel_rfl) (by kernel_rfl) (by kernel_rfl) w
      (try simp only [Act.put, List.setIfInBounds_toArray, List.set_cons_zero, List.set_cons_succ])
      refine wpAnyH_ready (rs := [15]) (by kernel_rfl) (by simp) ?_
      refine AllReadyH.cons (o := ⟨some 11, .alloc 63, _, _, _, none⟩) rfl (fun K hK => ?_) AllReadyH.nil
      go_simp
      obtain ⟨hF, hhF⟩ : ∃ x, x = wk1.heap.size := ⟨_, rfl⟩
      have hO : Hid (SObj (World.alloc wk1 (.cells z38.toArray 63)) hF 63 z38 ∧ FD (At51.updR D 350 (.bool O8)) (World.alloc wk1 (.cells z38.toArray 63)) gd ∧ w6.grownBy (World.alloc wk1 (.cells z38.toArray 63)) (some gd)) := Lib.hid (by rw [hhF]; exact ⟨obj_new _ _ _, hf.grown (World.grownBy_alloc _ _ none) (by intro c; cases c), grownBy.trans hS1 (World.grownBy_alloc _ _ _)⟩)
      have hle : w6.heap.size ≤ hF := by rw [hhF]; exact hS1.size
      rw [← hhF]
      clear hhF hf hb
      unfold z38 at hO
      generalize World.alloc _ _ = wk2 at hO ⊢
      refine hK.out _ _ hO.out.2.2 (fun hS2 => ?_)
      clear hK K
      (try simp only [Act.put, List.setIfInBounds_toArray, List.set_cons_zero, List.set_cons_succ])
      refine wpAnyH_ready (rs := [16]) (by kernel_rfl) (by simp) ?_
      refine AllReadyH.cons (o := ⟨none, .store 63 (.tmp 11) (.tmp 44), _, _, _, none⟩) rfl (fun K hK => ?_) AllReadyH.nil
      rw [if_pos (by kernel_rfl)]
      refine wp_store_mid 63 (.tmp 11) (.tmp 44) rfl hF 0 (filS38 sm lv sh dl rf md P false false).toArray (by kernel_rfl) (by kernel_rfl) (there_of_objW hO.out.1 (Nat.le_refl _)) info63 (filS38_all _ _ _ _ _ _ _ _ _) ?_
      have hP : Hid (SObj (World.setCells wk2 hF 0 (filS38 sm lv sh dl rf md P false false)) hF 63 (filS38 sm lv sh dl rf md P false false) ∧ FD (At51.updR D 350 (.bool O8)) (World.setCells wk2 hF 0 (filS38 sm lv sh dl rf md P false false)) gd ∧ w6.grownBy (World.setCells wk2 hF 0 (filS38 sm lv sh dl rf md P false false)) (some gd)) := Lib.hid ⟨SObj.putAllW (filS38 sm lv sh dl rf md P false false) z38 [] 0 wk2 hO.out.1 rfl rfl, hO.out.2.1.grown (setCells_grown hF _ 0 wk2) (by intro c; injection c with c; have := H6.out.2.1.2.1.1; omega), grownBy_newCells hle _ 0 wk2 hO.out.2.2⟩
      rw [List.toList_toArray]
      generalize World.setCells _ _ _ _ = wk4 at hP ⊢
      refine hK.out _ _ hP.out.2.2 (fun hS4 => ?_)
      clear hK K
      (try simp only [Act.put, List.setIfInBounds_toArray, List.set_cons_zero, List.set_cons_succ])
      refine wpAnyH_done (by kernel_rfl) ?_ _
      refine NoPanic.normal ?_
      go_wp2
      go_meet
      exact ⟨hF, rfl, Lib.hid ⟨hP.out.1, hP.out.2.1, hP.out.2.2, hle⟩⟩
    · refine AllReadyH.cons (o := ⟨some 11, .alloc 63, _, _, _, none⟩) rfl (fun K hK => ?_) AllReadyH.nil
      as_aux_lemma =>
      go_simp
      obtain ⟨hF, hhF⟩ : ∃ x, x = wk0.heap.size := ⟨_, rfl⟩
      have hO : Hid (SObj (World.alloc wk0 (.cells z38.toArray 63)) hF 63 z38 ∧ FD D (World.alloc wk0 (.cells z38.toArray 63)) gd ∧ w6.grownBy (World.alloc wk0 (.cells z38.toArray 63)) (some gd)) := Lib.hid (by rw [hhF]; exact ⟨obj_new _ _ _, hF0.out.grown (World.grownBy_alloc _ _ none) (by intro c; cases c), grownBy.trans hS0 (World.grownBy_alloc _ _ _)⟩)
      have hle : w6.heap.size ≤ hF := by rw [hhF]; exact hz0.out
      rw [← hhF]
      clear hhF
      unfold z38 at hO
      generalize World.alloc _ _ = wk1 at hO ⊢
      refine hK.out _ _ hO.out.2.2 (fun hS1 => ?_)
      clear hK K
      (try simp only [Act.put, List.setIfInBounds_toArray, List.set_cons_zero, List.set_cons_succ])
      refine wpAnyH_ready (rs := [13]) (by kernel_rfl) (by simp) ?_
      refine AllReadyH.cons (o := ⟨some 43, _, _, _, _, none⟩) rfl (fun K hK => ?_) AllReadyH.nil
      go_simp
      go_at_call 52; refine (HPC.out _ hO.out.2.1).mono ?_; rintro e wk2 ⟨rfl, hf, hb⟩
      have hO : Hid (SObj wk2 hF 63 z38 ∧ FD (At51.updR D 350 (.bool O8)) wk2 gd ∧ w6.grownBy wk2 (some gd)) := Lib.hid ⟨hO.out.1.grown hb (by intro c; injection c with c; have := H6.out.2.1.2.1.1; omega), hf, grownBy.trans hO.out.2.2 hb⟩
      clear hf hb
      refine hK.out _ _ hO.out.2.2 (fun hS2 => ?_)
      clear hK K
      (try simp only [Act.put, List.setIfInBounds_toArray, List.set_cons_zero, List.set_cons_succ])
      refine wpAnyH_take (i := 14) (oi := ⟨some 44, _, _, _, _, _⟩) (v := .agg (filS38 sm lv sh dl rf md P false false).toArray) rfl (by kernel_rfl) (by kernel_rfl) (by kernel_rfl) (fun _ _ _ h => h) (Or.inl ⟨by kernel_rfl, ?_⟩) (by assumption) ?_
      · intro w hSw; exact run_build38 _ _ sm dl lv sh rf md P rfl (by kernel_rfl) (by kernel_rfl) (by kernel_rfl) (by kernel_rfl) (by kernel_rfl) (by kernel_rfl) (by kernel_rfl) w
      (try simp only [Act.put, List.setIfInBounds_toArray, List.set_cons_zero, List.set_cons_succ])
      (try simp only [Act.put, List.setIfInBounds_toArray, List.set_cons_zero, List.set_cons_succ])
      refine wpAnyH_ready (rs := [16]) (by kernel_rfl) (by simp) ?_
      refine AllReadyH.cons (o := ⟨none, .store 63 (.tmp 11) (.tmp 44), _, _, _, none⟩) rfl (fun K hK => ?_) AllReadyH.nil
      rw [if_pos (by kernel_rfl)]
      refine wp_store_mid 63 (.tmp 11) (.tmp 44) rfl hF 0 (filS38 sm lv sh dl rf md P false false).toArray (by kernel_rfl) (by kernel_rfl) (there_of_objW hO.out.1 (Nat.le_refl _)) info63 (filS38_all _ _ _ _ _ _ _ _ _) ?_
      have hP : Hid (SObj (World.setCells wk2 hF 0 (filS38 sm lv sh dl rf md P false false)) hF 63 (filS38 sm lv sh dl rf md P false false) ∧ FD (At51.updR D 350 (.bool O8)) (World.setCells wk2 hF 0 (filS38 sm lv sh dl rf md P false false)) gd ∧ w6.grownBy (World.setCells wk2 hF 0 (filS38 sm lv sh dl rf md P false false)) (some gd)) := Lib.hid ⟨SObj.putAllW (filS38 sm lv sh dl rf md P false false) z38 [] 0 wk2 hO.out.1 rfl rfl, hO.out.2.1.grown (setCells_grown hF _ 0 wk2) (by intro c; injection c with c; have := H6.out.2.1.2.1.1; omega), grownBy_newCells hle _ 0 wk2 hO.out.2.2⟩
      rw [List.toList_toArray]
      generalize World.setCells _ _ _ _ = wk4 at hP ⊢
      refine hK.out _ _ hP.out.2.2 (fun hS4 => ?_)
      clear hK K
      (try simp only [Act.put, List.setIfInBounds_toArray, List.set_cons_zero, List.set_cons_succ])
      refine wpAnyH_done (by kernel_rfl) ?_ _
      refine NoPanic.normal ?_
      go_wp2
      go_meet
      exact ⟨hF, rfl, Lib.hid ⟨hP.out.1, hP.out.2.1, hP.out.2.2, hle⟩⟩
  case rest =>
    rcases hcut with ⟨hF, rfl, HC⟩
    clear k0 k1 k2 k3 k4 k5 k6 k7 k8 k9 k10 k11
    obtain ⟨ov, hov⟩ := H6.out.2.1.1
    have HFD : Hid (hF ≠ gd ∧ S + 1 ≠ hF ∧ S + 1 ≠ gd) := Lib.hid (by
      obtain ⟨e1, e2, e3, e4⟩ := HC.out
      obtain ⟨q1, q2, q3, q4, q5, q6, q7⟩ := H6.out
      have l := q2.2.1.1
      omega)
    have c350 : wc.cell? ⟨gd, 350, none⟩ = some (.bool O8) := (HC.out.2.1.2.1 350).trans (by unfold At51.updR; rw [if_pos rfl])
    have c256 : wc.cell? ⟨gd, 256, none⟩ = some (.pointer (some ⟨g, 0, none⟩)) := (HC.out.2.1.2.1 256).trans (updR_off ((H5.out.2.oth 256 (by omega) (by omega)).trans HD0.out.1) (by decide))
    have HOD : Hid (ST wc.drew g ao n c v.2.pos v.2.v v.2.z ov) := Lib.hid (SObj.drew (hov.grown HC.out.2.2.1 g (fun r hr => by injection hr with hr; subst hr; exact ⟨HSK.out.2.1, HSK.out.2.2.1⟩) HSK.out.2.2.2.1).obj)
    clear hov
    have s36 : wc.cell? ⟨hF, 36, none⟩ = some (.bool false) := HC.out.1.cell 36 rfl
    have f36 : wc.frozen? ⟨hF, 36, none⟩ = false := HC.out.1.free 36
    have s37 : wc.cell? ⟨hF, 37, none⟩ = some (.bool false) := HC.out.1.cell 37 rfl
    have f37 : wc.frozen? ⟨hF, 37, none⟩ = false := HC.out.1.free 37
    have n0 := HFD.out.1
    obtain ⟨cs, hcs⟩ : ∃ cs, cs = filS38 sm lv sh dl rf md P (!O8) (decide (0 < ov)) := ⟨_, rfl⟩
    have HCS : Hid (cs = filS38 sm lv sh dl rf md P (!O8) (decide (0 < ov)) ∧ cs.length = 38) := Lib.hid ⟨hcs, by rw [hcs]; rfl⟩
    have HW : Hid (SObj ((wc.setCell ⟨hF, 36, none⟩ (.bool (!O8))).setCell ⟨hF, 37, none⟩ (.bool (decide (0 < ov)))).drew hF 63 cs ∧ SObj ((wc.setCell ⟨hF, 36, none⟩ (.bool (!O8))).setCell ⟨hF, 37, none⟩ (.bool (decide (0 < ov)))).drew (S + 1) 63 z38 ∧ Below w.heap.size w ((wc.setCell ⟨hF, 36, none⟩ (.bool (!O8))).setCell ⟨hF, 37, none⟩ (.bool (decide (0 < ov)))).drew) := Lib.hid (by
      obtain ⟨e1, e2, e3, e4⟩ := HC.out
      obtain ⟨q1, q2, q3, q4, q5, q6, q7⟩ := H6.out
      obtain ⟨n1, n2, n3⟩ := HFD.out
      obtain ⟨p1, p2, p3⟩ := HB.out
      have b1 : Below w.heap.size w w6 := by rw [← p1]; exact HO.out.2.2.1.trans (q2.2.2.mono (by omega))
      have b2 : Below w.heap.size w wc := b1.grown e3 (by have := b1.size; omega) (fun r hr => by injection hr with hr; omega)
      refine ⟨?_, ?_, ?_⟩
      · rw [hcs]
        exact SObj.drew ((e1.set 36 _).set 37 _)
      · exact SObj.drew (((q3.grown e3 (by intro c; injection c; omega)).far ⟨hF, 36, none⟩ n2 _).far ⟨hF, 37, none⟩ n2 _)
      · exact Below.drew ((b2.setCell (p := ⟨hF, 36, none⟩) (by have := b1.size; show w.heap.size ≤ hF; omega) _).setCell (p := ⟨hF, 37, none⟩) (by have := b1.size; show w.heap.size ≤ hF; omega) _))
    clear hcs
    go_wp2_with fail
    go_region_held3 (fun w' => w'.cell? ⟨gd, 350, none⟩ = some (.bool O8) ∧ w'.cell? ⟨gd, 256, none⟩ = some (.pointer (some ⟨g, 0, none⟩))) (first | (simp only [drew_cell]; exact ⟨c350, c256⟩) | (simp only [far_cell n0, drew_cell]; exact ⟨c350, c256⟩)) (first | (go_at_call 38; refine (isOver_any g ao n c _ _ _ ov _ HOD.out).mono ?_; rintro e w' ⟨rfl, rfl⟩))
    generalize World.drew _ = wd at HW ⊢
    have HR : Hid (wd.rangeAt hF 0 cs) := Lib.hid (fun j x hx => by rw [Nat.zero_add]; exact HW.out.1.cell j hx)
    have HI6 : Hid ((Tryd.prog.info? 63).map (·.size) = some cs.length) := Lib.hid (by rw [info63, HCS.out.2])
    have HI7 : Hid ((Tryd.prog.info? 63).map (·.size) = some cs.toArray.size) := Lib.hid (by rw [info63]; simp [HCS.out.2])
    have HO6 : Hid (cs.toArray.all (·.oneCell') = true) := Lib.hid (by rw [HCS.out.1]; exact filS38_all _ _ _ _ _ _ _ _ _)
    have HT6 : Hid (World.there wd (S + 1) 0 cs.toArray.size) := Lib.hid (there_of_objW HW.out.2.1 (by simp [HCS.out.2, z38]))
    have HP : Hid (SObj (wd.setCells (S + 1) 0 cs) (S + 1) 63 cs ∧ Below w.heap.size w (wd.setCells (S + 1) 0 cs)) := Lib.hid ⟨SObj.putAllW cs z38 [] 0 wd HW.out.2.1 (by rw [HCS.out.2]; rfl) rfl, below_cells2 (by have := HB.out; omega) cs 0 wd HW.out.2.2⟩
    go_wp2_with (first | (refine wpList_load_mid rfl 63 (.tmp 11) rfl hF 0 rfl cs _ HR.out Tryd.underlying63 rfl HI6.out ?_) | (refine wpList_store_mid rfl 63 (.tmp 8) (.tmp 57) rfl (S + 1) 0 cs.toArray rfl rfl HT6.out HI7.out HO6.out ?_))
    (try rw [List.toList_toArray])
    generalize World.setCells _ _ _ _ = wf at HP ⊢
    refine bodyPost_ret (v := .agg cs.toArray) ?_ rfl ⟨?_, HP.out.2⟩
    · exact results_one Tryd.results27 rfl (run_loadVar_mid (P := Tryd.prog) wf (S + 1) 0 63 cs _ (fun j v hv => by rw [Nat.zero_add]; exact HP.out.1.cell j hv) Tryd.underlying63 rfl HI6.out)
    · obtain ⟨e1, e2, e3, e4, e5, e6, e7, e8⟩ := HV.out
      refine ⟨decide (0 < ov), ?_⟩
      rw [HCS.out.1, e7, e8, e1, e2, e3, e4, e5, e6]
end Go.Proofs.YthmkmemocjnleaaDoor
