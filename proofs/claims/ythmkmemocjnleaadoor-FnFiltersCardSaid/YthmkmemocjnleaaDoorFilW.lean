/- The reference's params. Printed by wip/gen_filw.py. -/
import Derived.Test.YthmkmemocjnleaaDoorFilE
import Derived.Test.YthmkmemocjnleaaDoorSelfSt
import Derived.Test.YthmkmemocjnleaaDoorSegI
import Derived.Deep.CutRange
namespace Go.Proofs.YthmkmemocjnleaaDoor
open Go.RowKit
set_option linter.unusedVariables false
set_option linter.unusedSimpArgs false

theorem grownBy_new {w w' : World} {row : Option Nat} (h : w.grownBy w' row) (p : Addr) (hp : w.heap.size ≤ p.block) (v : Value) : w.grownBy (w'.setCell p v) row := by
  obtain ⟨a1, a2, a3, a4, a5⟩ := h
  obtain ⟨b1, b2, b3, b4, b5⟩ := grownBy_setCell w' p v
  exact ⟨b1.trans a1, b2.trans a2, b3.trans a3, Nat.le_trans a4 b4, fun k hk hr => (b5 k (Nat.lt_of_lt_of_le hk a4) (by intro e; injection e with e; omega)).trans (a5 k hk hr)⟩
theorem grownBy_newCells {w : World} {row : Option Nat} {b : Nat} (hb : w.heap.size ≤ b) : ∀ (vs : List Value) (o : Nat) (w' : World), w.grownBy w' row → w.grownBy (w'.setCells b o vs) row
  | [], _, _, h => h
  | v :: r, o, w', h => grownBy_newCells hb r (o + 1) _ (grownBy_new h ⟨b, o, none⟩ hb v)
theorem setCells_grown (b : Nat) : ∀ (vs : List Value) (o : Nat) (w : World), w.grownBy (w.setCells b o vs) (some b)
  | [], _, w => World.grownBy.refl w _
  | v :: r, o, w => grownBy.trans (grownBy_setCell w ⟨b, o, none⟩ v) (setCells_grown b r (o + 1) _)
def z24 : List Value := [.int .i64 0, .int .i64 0, .int .i64 0, .int .i64 0, .int .i64 0, .int .i64 0, .int .i64 0, .int .i64 0, .int .i64 0, .int .i64 0, .int .i64 0, .int .i64 0, .int .i64 0, .int .i64 0, .int .i64 0, .int .i64 0, .int .i64 0, .int .i64 0, .int .i64 0, .int .i64 0, .int .i64 0, .int .i64 0, .int .i64 0, .int .i64 0]
/-- The numbers of the first n blocks, as they stand in the answer. -/
def dQ (P : Nat → Nat → Int) (n i : Nat) : Option Value := if i < 24 then some (.int .i64 (if i / 3 < n then P (i / 3) (i % 3) else 0)) else none
theorem dQ_zero (P : Nat → Nat → Int) (i : Nat) : z24[i]? = dQ P 0 i := by
  have e : z24 = List.replicate 24 (.int .i64 0) := rfl
  rw [e, List.getElem?_replicate]
  unfold dQ
  by_cases h : i < 24
  · rw [if_pos h, if_pos h, if_neg (by omega)]
  · rw [if_neg h, if_neg h]
theorem dQ_step {P : Nat → Nat → Int} {w : World} {b n o : Nat} (h : FD (dQ P n) w b) (ho : o = 3 * n) (hn : n < 8) :
    FD (dQ P (n + 1)) (((w.setCell ⟨b, o, none⟩ (.int .i64 (P n 0))).setCell ⟨b, o + 1, none⟩ (.int .i64 (P n 1))).setCell ⟨b, o + 2, none⟩ (.int .i64 (P n 2))) b := by
  subst ho
  have old : ∀ k, k < 3 → dQ P n (3 * n + k) = some (.int .i64 0) := fun k hk => by unfold dQ; rw [if_pos (by omega), if_neg (by omega)]
  have f1 := h.put (3 * n) (.int .i64 (P n 0)) (old 0 (by omega)) (fun _ => rfl)
  have f2 := f1.put (3 * n + 1) (.int .i64 (P n 1)) (old := .int .i64 0) (by unfold At51.updR; rw [if_neg (by omega)]; exact old 1 (by omega)) (fun _ => rfl)
  have f3 := f2.put (3 * n + 2) (.int .i64 (P n 2)) (old := .int .i64 0) (by unfold At51.updR; rw [if_neg (by omega), if_neg (by omega)]; exact old 2 (by omega)) (fun _ => rfl)
  refine f3.congr (fun i => ?_)
  unfold At51.updR
  by_cases e2 : i = 3 * n + 2
  · rw [if_pos e2]; unfold dQ; rw [if_pos (by omega), if_pos (by omega), show i / 3 = n by omega, show i % 3 = 2 by omega]
  · rw [if_neg e2]
    by_cases e1 : i = 3 * n + 1
    · rw [if_pos e1]; unfold dQ; rw [if_pos (by omega), if_pos (by omega), show i / 3 = n by omega, show i % 3 = 1 by omega]
    · rw [if_neg e1]
      by_cases e0 : i = 3 * n
      · rw [if_pos e0]; unfold dQ; rw [if_pos (by omega), if_pos (by omega), show i / 3 = n by omega, show i % 3 = 0 by omega]
      · rw [if_neg e0]; unfold dQ
        by_cases hi : i < 24
        · rw [if_pos hi, if_pos hi]
          by_cases hl : i / 3 < n
          · rw [if_pos hl, if_pos (by omega)]
          · rw [if_neg hl, if_neg (by omega)]
        · rw [if_neg hi, if_neg hi]
theorem dQ_none {P : Nat → Nat → Int} {n : Nat} (h : ∀ k, P n k = 0) (i : Nat) : dQ P n i = dQ P (n + 1) i := by
  unfold dQ
  by_cases hi : i < 24
  · rw [if_pos hi, if_pos hi]
    by_cases hl : i / 3 < n
    · rw [if_pos hl, if_pos (by omega)]
    · rw [if_neg hl]
      by_cases he : i / 3 < n + 1
      · rw [if_pos he, show i / 3 = n by omega, h]
      · rw [if_neg he]
  · rw [if_neg hi, if_neg hi]
def dQL (P : Nat → Nat → Int) : List Value := [.int .i64 (P 0 0), .int .i64 (P 0 1), .int .i64 (P 0 2), .int .i64 (P 1 0), .int .i64 (P 1 1), .int .i64 (P 1 2), .int .i64 (P 2 0), .int .i64 (P 2 1), .int .i64 (P 2 2), .int .i64 (P 3 0), .int .i64 (P 3 1), .int .i64 (P 3 2), .int .i64 (P 4 0), .int .i64 (P 4 1), .int .i64 (P 4 2), .int .i64 (P 5 0), .int .i64 (P 5 1), .int .i64 (P 5 2), .int .i64 (P 6 0), .int .i64 (P 6 1), .int .i64 (P 6 2), .int .i64 (P 7 0), .int .i64 (P 7 1), .int .i64 (P 7 2)]
theorem dQL_at (P : Nat → Nat → Int) (i : Nat) (hi : i < (dQL P).length) : dQ P 8 i = (dQL P)[i]? := by
  have hi : i < 24 := hi
  unfold dQ
  rw [if_pos hi, if_pos (by omega)]
  have e : ∀ m, m < 8 → ∀ k, k < 3 → (dQL P)[3 * m + k]? = some (.int .i64 (P m k)) := fun m hm k hk => by
    have : m = 0 ∨ m = 1 ∨ m = 2 ∨ m = 3 ∨ m = 4 ∨ m = 5 ∨ m = 6 ∨ m = 7 := by omega
    have hk3 : k = 0 ∨ k = 1 ∨ k = 2 := by omega
    rcases this with rfl | rfl | rfl | rfl | rfl | rfl | rfl | rfl <;> rcases hk3 with rfl | rfl | rfl <;> rfl
  have := e (i / 3) (by omega) (i % 3) (by omega)
  rw [show 3 * (i / 3) + i % 3 = i by omega] at this
  exact this.symm
theorem dQL_all (P : Nat → Nat → Int) : (dQL P).toArray.all (·.oneCell') = true := by simp [dQL, Value.oneCell']
theorem info56 : (Tryd.prog.info? 56).map (·.size) = some 24 := by kernel_rfl
theorem info177 : (Tryd.prog.info? 177).map (·.size) = some 21 := by kernel_rfl
theorem updR_twice (D : Nat → Option Value) (i : Nat) (a b : Value) (k : Nat) : At51.updR (At51.updR D i a) i b k = At51.updR D i b k := by
  unfold At51.updR
  by_cases e : k = i
  · rw [if_pos e, if_pos e]
  · rw [if_neg e, if_neg e, if_neg e]
theorem updR_off {D : Nat → Option Value} {i k : Nat} {a v : Value} (h : D k = some v) (hk : k ≠ i) : At51.updR D i a k = some v := by
  unfold At51.updR; rw [if_neg hk, h]
theorem SObj.putAllW {g : Nat} {T : TypeId} : ∀ (vs us pre : List Value) (o : Nat) (w : World), SObj w g T (pre ++ us) → us.length = vs.length → pre.length = o → SObj (w.setCells g o vs) g T (pre ++ vs)
  | [], us, pre, o, w, h, e, _ => by
    obtain rfl : us = [] := List.length_eq_zero_iff.1 e
    exact h
  | v :: r, [], _, _, _, _, e, _ => by simp at e
  | v :: r, u :: us, pre, o, w, h, e, ho => by
    have h1 := h.set o v
    rw [List.set_append_right _ _ (by omega), show o - pre.length = 0 by omega, List.set_cons_zero] at h1
    have := SObj.putAllW r us (pre ++ [v]) (o + 1) (w.setCell ⟨g, o, none⟩ v) (by simpa using h1) (by simpa using e) (by simp [ho])
    have e2 : pre ++ [v] ++ r = pre ++ v :: r := by simp
    rw [e2] at this
    exact this
theorem there_of_objW {w : World} {g : Nat} {T : TypeId} {vs : List Value} (h : SObj w g T vs) {n : Nat} (hn : n ≤ vs.length) : w.there g 0 n := fun j hj => by
  rw [Nat.zero_add]
  exact ⟨by rw [h.cell j (v := vs[j]'(by omega)) (by simp)]; rfl, h.free j⟩
theorem fd_of_objW {w : World} {g : Nat} {T : TypeId} {vs : List Value} (h : SObj w g T vs) : FD (fun i => vs[i]?) w g := by
  refine ⟨h.lt, fun i => ?_, fun i => h.free i⟩
  rw [cell_of_row w g i _ T (0, 0) h]; simp
/-- The decoder's block with the mark of n blocks; the answer with the numbers of m. -/
def PW (w : World) (B gd : Nat) (D : Nat → Option Value) (O : Nat → Bool) (P : Nat → Nat → Int) (n m : Nat) (wr : World) : Prop :=
  FD (At51.updR D 350 (.bool (O n))) wr gd ∧ FD (dQ P m) wr (B + 1) ∧ SObj wr B 56 z24 ∧ w.grownBy wr (some gd)
theorem PW.grown {w : World} {B gd : Nat} {D : Nat → Option Value} {O : Nat → Bool} {P : Nat → Nat → Int} {n m : Nat} {wr w' : World} (h : PW w B gd D O P n m wr) (hg : wr.grownBy w' none) : PW w B gd D O P n m w' := by
  obtain ⟨h1, h2, h3, h4⟩ := h
  refine ⟨h1.grown hg (by intro c; cases c), h2.grown hg (by intro c; cases c), h3.grown hg (by intro c; cases c), ?_⟩
  exact grownBy.trans h4 ⟨hg.os, hg.tape, hg.output, hg.size, fun k hk hr => hg.block k hk (by intro c; cases c)⟩
theorem PW.alloc {w : World} {B gd : Nat} {D : Nat → Option Value} {O : Nat → Bool} {P : Nat → Nat → Int} {n m : Nat} {wr : World} (h : PW w B gd D O P n m wr) (o : Go.Obj) : PW w B gd D O P n m (wr.alloc o) := h.grown (World.grownBy_alloc wr o none)
theorem PW.far {w : World} {B gd : Nat} {D : Nat → Option Value} {O : Nat → Bool} {P : Nat → Nat → Int} {n m : Nat} {wr : World} (h : PW w B gd D O P n m wr) (p : Addr) (v : Value) (h1 : p.block ≠ gd) (h2 : p.block ≠ B) (h3 : p.block ≠ B + 1) (hw : w.heap.size ≤ p.block) : PW w B gd D O P n m (wr.setCell p v) := by
  obtain ⟨a1, a2, a3, a4⟩ := h
  exact ⟨a1.grown (grownBy_setCell _ _ _) (by intro c; injection c with c; exact h1 c.symm), a2.grown (grownBy_setCell _ _ _) (by intro c; injection c with c; exact h3 c.symm), a3.far p (fun e => h2 e.symm) v, grownBy_new a4 p hw v⟩
theorem PW.cells {w : World} {B gd : Nat} {D : Nat → Option Value} {O : Nat → Bool} {P : Nat → Nat → Int} {n m : Nat} {wr : World} (h : PW w B gd D O P n m wr) (b o : Nat) (vs : List Value) (h1 : b ≠ gd) (h2 : b ≠ B) (h3 : b ≠ B + 1) (hw : w.heap.size ≤ b) : PW w B gd D O P n m (wr.setCells b o vs) := by
  obtain ⟨a1, a2, a3, a4⟩ := h
  have g := setCells_grown b vs o wr
  exact ⟨a1.grown g (by intro c; injection c with c; exact h1 c.symm), a2.grown g (by intro c; injection c with c; exact h3 c.symm), a3.grown g (by intro c; injection c with c; exact h2 c.symm), grownBy_newCells hw vs o wr a4⟩
theorem blk177_all (i lm : Int) : (blk177 i lm).toArray.all (·.oneCell') = true := by simp [blk177, Value.oneCell']

set_option maxRecDepth 100000 in
set_option maxHeartbeats 8000000 in
theorem params_any (gd : Nat) (D : Nat → Option Value) (on ab dl odd : Bool) (lv sh r mo : Int) (st : Nat → Int) (w : World) (h : FD D w gd)
    (k0 : D 258 = some (.bool on)) (k1 : D 260 = some (.bool ab)) (k2 : ∀ i, i < 4 → D (265 + i) = some (.int .i64 (st i))) (k3 : D 273 = some (.int .i64 lv)) (ks : D 274 = some (.int .i64 sh)) (k4 : D 275 = some (.bool dl)) (k5 : D 276 = some (.int .i64 r)) (k6 : D 280 = some (.int .i64 mo)) (k7 : D 350 = some (.bool odd))
    (b0 : 0 ≤ lv) (b1 : lv ≤ 63) (s0 : 0 ≤ sh) (s1 : sh ≤ 7) (b2 : ∀ i, i < 4 → -63 ≤ st i ∧ st i ≤ 63) (b4 : -63 ≤ r) (b5 : r ≤ 63) (b6 : -63 ≤ mo) (b7 : mo ≤ 63)
    (N M : Nat → Int) (O : Nat → Bool) (P : Nat → Nat → Int) (hN : ∀ m, N m = nS on ab lv (st (m / 2))) (hM : ∀ m, M m = mS dl r mo (decide (m % 2 = 1)))
    (hO0 : O 0 = odd) (hO : ∀ m, O (m + 1) = odd3 (odd2 (odd1 (O m) dl (N m) r) (N m) (M m)) lv (N m) (M m)) (hP : ∀ m k, P m k = sayI sh (lvO (N m) (M m)) k) :
    Calls Tryd.prog 52 #[.pointer (some ⟨gd, 0, none⟩)] w fun e w' => e = .returned (.agg (dQL P).toArray) ∧ FD (At51.updR D 350 (.bool (O 8))) w' gd ∧ w.grownBy w' (some gd) := by
  have HK := Lib.hid (And.intro k0 (And.intro k1 (And.intro k2 (And.intro k3 (And.intro ks (And.intro k4 (And.intro k5 (And.intro k6 k7)))))))); clear k0 k1 k2 k3 ks k4 k5 k6 k7
  have HD := Lib.hid (And.intro hN (And.intro hM (And.intro hO0 (And.intro hO (And.intro hP b2))))); clear hN hM hO0 hO hP b2
  obtain ⟨B, hB⟩ : ∃ B, B = w.heap.size := ⟨_, rfl⟩
  have hgd := h.1
  have HB : Hid (B = w.heap.size ∧ gd < B) := Lib.hid ⟨hB, by omega⟩
  have HL : Hid (PW w B gd D O P (2 * 0) (2 * 0) ((w.alloc (.cells #[.int .i64 0, .int .i64 0, .int .i64 0, .int .i64 0, .int .i64 0, .int .i64 0, .int .i64 0, .int .i64 0, .int .i64 0, .int .i64 0, .int .i64 0, .int .i64 0, .int .i64 0, .int .i64 0, .int .i64 0, .int .i64 0, .int .i64 0, .int .i64 0, .int .i64 0, .int .i64 0, .int .i64 0, .int .i64 0, .int .i64 0, .int .i64 0] 56)).alloc (.cells #[.int .i64 0, .int .i64 0, .int .i64 0, .int .i64 0, .int .i64 0, .int .i64 0, .int .i64 0, .int .i64 0, .int .i64 0, .int .i64 0, .int .i64 0, .int .i64 0, .int .i64 0, .int .i64 0, .int .i64 0, .int .i64 0, .int .i64 0, .int .i64 0, .int .i64 0, .int .i64 0, .int .i64 0, .int .i64 0, .int .i64 0, .int .i64 0] 56))) := Lib.hid (by
    have a1 := obj_new w 56 z24
    have a2 := obj_new (w.alloc (.cells z24.toArray 56)) 56 z24
    have e1 : (w.alloc (.cells z24.toArray 56)).heap.size = B + 1 := by simp [hB]
    rw [e1] at a2
    rw [← hB] at a1
    have g1 := World.grownBy_alloc w (.cells z24.toArray 56) (some gd)
    have g2 := World.grownBy_alloc (w.alloc (.cells z24.toArray 56)) (.cells z24.toArray 56) (some gd)
    have g3 := World.grownBy_alloc w (.cells z24.toArray 56) none
    have g4 := World.grownBy_alloc (w.alloc (.cells z24.toArray 56)) (.cells z24.toArray 56) none
    exact ⟨((h.grown g3 (by intro c; cases c)).grown g4 (by intro c; cases c)).congr (fun k => (updR_self (by rw [HK.out.2.2.2.2.2.2.2.2, HD.out.2.2.1]) k).symm), (fd_of_objW a2).congr (dQ_zero P), a1.alloc _, grownBy.trans g1 g2⟩)
  clear h
  go_enter Tryd.func52, Tryd.ntmps52
  go_upto_region 2 with fail
  generalize World.alloc _ _ = w1 at HL ⊢
  try rw [← hB]
  clear hB
  go_wp2_with fail
  go_loopw [4] (fun i wr => ∃ p : Nat, p ≤ 4 ∧ i = .int .i64 p ∧ Hid (PW w B gd D O P (2 * p) (2 * p) wr)) (fun i _ => 4 - (intOf i).toNat)
  case atStart => exact ⟨0, by omega, rfl, HL⟩
  case round =>
    obtain ⟨p, hp, rfl, hR⟩ := hrel
    by_cases hlt : p < 4
    · have hd : decide ((p : Int) < 4) = true := decide_eq_true (by omega)
      obtain ⟨wo, hwo⟩ : ∃ wo : World, wo = wr := ⟨_, rfl⟩
      subst hwo
      go_wp2
      go_loopw [5] (fun i wr => ∃ q : Nat, q ≤ 2 ∧ i = .int .i64 q ∧ Hid (PW w B gd D O P (2 * p + q) (2 * p + q) wr)) (fun i _ => 2 - (intOf i).toNat)
      case atStart => exact ⟨0, by omega, rfl, hR⟩
      case round =>
        obtain ⟨q, hq, rfl, hQR⟩ := hrel
        by_cases hq2 : q < 2
        · have ip0 : (0 : Int) ≤ (p : Int) := by omega
          have ip1 : (p : Int) < 4 := by omega
          have iq0 : (0 : Int) ≤ (q : Int) := by omega
          have iq1 : (q : Int) < 2 := by omega
          have hdq : decide ((q : Int) < 2) = true := decide_eq_true (by omega)
          obtain ⟨m, hm⟩ : ∃ m, m = 2 * p + q := ⟨_, rfl⟩
          rw [← hm] at hQR
          have HM : Hid (m = 2 * p + q ∧ m < 8) := Lib.hid ⟨hm, by omega⟩; clear hm
          by_cases hq1 : q = 1
          · as_aux_lemma =>
            have hq1d : ((q : Int) == 1) = true := by simp; omega
            have hq1e : decide ((q : Int) = 1) = true := decide_eq_true (by omega)
            have HQ1 := Lib.hid hq1; clear hq1
            have HT8 : Hid (World.there (wr.alloc (.cells #[.int .i64 0, .bool false, .int .i64 0, .int .i64 0, .int .i64 0, .int .i64 0, .int .i64 0, .int .i64 0, .int .i64 0, .int .i64 0, .int .i64 0, .int .i64 0, .int .i64 0, .int .i64 0, .int .i64 0, .int .i64 0, .int .i64 0, .int .i64 0, .int .i64 0, .int .i64 0, .bool false] 177)) wr.heap.size 0 (blk177 p 0).toArray.size) := Lib.hid (there_of_objW (obj_new wr 177 (blk177 0 0)) (by simp [blk177]))
            have HI8 : Hid ((Tryd.prog.info? 177).map (·.size) = some (blk177 p 0).toArray.size) := Lib.hid info177
            have H8 : Hid (SObj ((wr.alloc (.cells #[.int .i64 0, .bool false, .int .i64 0, .int .i64 0, .int .i64 0, .int .i64 0, .int .i64 0, .int .i64 0, .int .i64 0, .int .i64 0, .int .i64 0, .int .i64 0, .int .i64 0, .int .i64 0, .int .i64 0, .int .i64 0, .int .i64 0, .int .i64 0, .int .i64 0, .int .i64 0, .bool false] 177)).setCells wr.heap.size 0 (blk177 p 0).toArray.toList) wr.heap.size 177 (blk177 p 0) ∧ PW w B gd D O P m m ((wr.alloc (.cells #[.int .i64 0, .bool false, .int .i64 0, .int .i64 0, .int .i64 0, .int .i64 0, .int .i64 0, .int .i64 0, .int .i64 0, .int .i64 0, .int .i64 0, .int .i64 0, .int .i64 0, .int .i64 0, .int .i64 0, .int .i64 0, .int .i64 0, .int .i64 0, .int .i64 0, .int .i64 0, .bool false] 177)).setCells wr.heap.size 0 (blk177 p 0).toArray.toList) ∧ B + 1 < wr.heap.size) := Lib.hid (by
              obtain ⟨eB, eg⟩ := HB.out
              have hl := hQR.out.2.1.1
              have hs := hQR.out.2.2.2.size
              have a1 := SObj.putAllW (blk177 p 0) (blk177 0 0) [] 0 _ (obj_new wr 177 (blk177 0 0)) rfl rfl
              have a2 := (hQR.out.alloc (.cells (blk177 0 0).toArray 177)).cells wr.heap.size 0 (blk177 p 0) (by omega) (by omega) (by omega) hs
              exact ⟨a1, a2, hl⟩)
            go_upto_region 9 with (first | (refine wpList_store_mid rfl 177 (.tmp 6) (.tmp 18) rfl wr.heap.size 0 (blk177 p 0).toArray rfl rfl HT8.out HI8.out (blk177_all p 0) ?_))
            (try simp only [Act.put])
            clear HT8 HI8
            clear hdq
            generalize World.setCells _ _ _ _ = w8 at H8 ⊢
            obtain ⟨g, hg⟩ : ∃ g, g = wr.heap.size := ⟨_, rfl⟩
            rw [← hg] at H8 ⊢
            have HG : Hid (g = wr.heap.size) := Lib.hid hg
            as_aux_lemma =>
              clear hg
              have y2 : w8.cell? ⟨g, 2, none⟩ = some (.int .i64 0) := H8.out.1.cell 2 rfl
              have z2 : w8.frozen? ⟨g, 2, none⟩ = false := H8.out.1.free 2
              have H8 : Hid (SObj (w8.setCell ⟨g, 2, none⟩ (.int .i64 4)) g 177 (blk177 p 4) ∧ PW w B gd D O P m m (w8.setCell ⟨g, 2, none⟩ (.int .i64 4)) ∧ B + 1 < g) := Lib.hid (by
                obtain ⟨eB, eg⟩ := HB.out
                obtain ⟨a1, a2, hl⟩ := H8.out
                exact ⟨a1.set 2 (.int .i64 4), a2.far ⟨g, 2, none⟩ _ (by simp only; omega) (by simp only; omega) (by simp only; omega) (by have := hQR.out.2.2.2.size; have := HG.out; simp only; omega), hl⟩)
              go_upto_region 11 with fail
              clear hq1d hq1e
              generalize World.setCell _ _ _ = w8 at H8 ⊢
              obtain ⟨cb, hcb⟩ : ∃ cb, cb = blk177 p 4 := ⟨_, rfl⟩
              have HCB := Lib.hid hcb; clear hcb
              have HRB : Hid (w8.rangeAt g 0 cb) := Lib.hid (fun j v hv => by rw [Nat.zero_add]; rw [HCB.out] at hv; exact H8.out.1.cell j hv)
              have HIB : Hid ((Tryd.prog.info? 177).map (·.size) = some cb.length) := Lib.hid (by rw [info177, HCB.out]; rfl)
              obtain ⟨L, hL⟩ : ∃ L, L = lvO (N m) (M m) := ⟨_, rfl⟩
              have HLV := Lib.hid hL
              have bL : 0 ≤ L ∧ L ≤ 63 := by rw [hL]; unfold lvO; exact wi_bd (by decide)
              obtain ⟨bL0, bL1⟩ := bL
              have HC73 : Hid (Calls Tryd.prog 73 #[.pointer (some ⟨gd, 0, none⟩), .agg cb.toArray] w8 fun e w' => e = .returned (.int .i64 L) ∧ FD (At51.updR D 350 (.bool (O (m + 1)))) w' gd ∧ World.grownBy w8 w' (some gd)) := Lib.hid (by
                obtain ⟨k0, k1, k2, k3, ks, k4, k5, k6, k7⟩ := HK.out
                obtain ⟨hN, hM, hO0, hO, hP, b2⟩ := HD.out
                obtain ⟨em, e8⟩ := HM.out
                have hst := b2 p (by omega)
                have hq1 := HQ1.out
                rw [HCB.out]
                refine (levelOf_any gd (At51.updR D 350 (.bool (O m))) p true on ab dl (O m) lv (st p) r mo w8 H8.out.2.1.1 hlt (updR_off k0 (by decide)) (updR_off k1 (by decide)) (updR_off (k2 p hlt) (by omega)) (updR_off k3 (by decide)) (updR_off k4 (by decide)) (updR_off k5 (by decide)) (updR_off k6 (by decide)) (by unfold At51.updR; rw [if_pos rfl]) b0 b1 hst.1 hst.2 b4 b5 b6 b7 4 rfl (N m) (M m) (by rw [hN, show m / 2 = p by omega]) (by rw [hM, decide_eq_true (by omega)])).mono ?_
                rintro e w' ⟨h1, h2, h3⟩
                refine ⟨by rw [h1, hL], h2.congr (fun k => ?_), h3⟩
                rw [updR_twice, hO])
              clear hL
              go_wp2_with (first | (refine wpList_load_mid rfl 177 (.tmp 6) rfl g 0 rfl cb _ HRB.out Tryd.underlying177 rfl HIB.out ?_))
              refine HC73.out.mono ?_
              rintro _ w9 ⟨rfl, hf9, hg9⟩
              have H9 : Hid (PW w B gd D O P (m + 1) m w9) := Lib.hid (by
                obtain ⟨eB, eg⟩ := HB.out
                obtain ⟨h1, h2, h3, h4⟩ := H8.out.2.1
                exact ⟨hf9, h2.grown hg9 (by intro c; injection c; omega), h3.grown hg9 (by intro c; injection c; omega), grownBy.trans h4 hg9⟩)
              clear hf9 hg9 HC73
              as_aux_lemma =>
                by_cases hL0 : 0 < L
                · have hLd : decide (0 < L) = true := decide_eq_true hL0
                  go_wp2_with fail
                  refine (boundOf_any gd L sh w9 (by rw [H9.out.1.2.1]; exact updR_off HK.out.2.2.2.2.1 (by decide)) s0 s1 (by omega) bL1).mono ?_
                  rintro _ w10 ⟨rfl, hb⟩
                  have H10 : Hid (PW w B gd D O P (m + 1) m w10) := Lib.hid (H9.out.grown (grown_of_below hb none))
                  clear hb hLd
                  obtain ⟨x0, hx0⟩ : ∃ x, x = 2 * (L + 2) + ilI sh L := ⟨_, rfl⟩
                  obtain ⟨x1, hx1⟩ : ∃ x, x = 2 * L + ilI sh L := ⟨_, rfl⟩
                  obtain ⟨x2, hx2⟩ : ∃ x, x = ilI sh L := ⟨_, rfl⟩
                  obtain ⟨x3, hx3⟩ : ∃ x, x = hiI L := ⟨_, rfl⟩
                  rw [← hx0, ← hx1, ← hx2, ← hx3]
                  have HX : Hid (x1 = P m 0 ∧ x2 = P m 1 ∧ x3 = P m 2) := Lib.hid (by
                    rw [hx1, hx2, hx3, HD.out.2.2.2.2.1, HD.out.2.2.2.2.1, HD.out.2.2.2.2.1, ← HLV.out]
                    unfold sayI
                    simp [hL0])
                  clear hx0 hx1 hx2 hx3
                  have H11 : Hid (SObj (w10.alloc (.cells #[.int .i64 x0, .int .i64 x1, .int .i64 x2, .int .i64 x3] 180)) w10.heap.size 180 [.int .i64 x0, .int .i64 x1, .int .i64 x2, .int .i64 x3] ∧ PW w B gd D O P (m + 1) m (w10.alloc (.cells #[.int .i64 x0, .int .i64 x1, .int .i64 x2, .int .i64 x3] 180)) ∧ B + 1 < w10.heap.size) := Lib.hid ⟨obj_new _ _ _, H10.out.alloc _, H10.out.2.1.1⟩
                  go_upto_region 14 with fail
                  generalize World.alloc _ _ = w11 at H11 ⊢
                  obtain ⟨g', hg'⟩ : ∃ g, g = w10.heap.size := ⟨_, rfl⟩
                  rw [← hg'] at H11 ⊢
                  clear hg'
                  have c1 : w11.cell? ⟨g', 1, none⟩ = some (.int .i64 x1) := H11.out.1.cell 1 rfl
                  have c2 : w11.cell? ⟨g', 2, none⟩ = some (.int .i64 x2) := H11.out.1.cell 2 rfl
                  have c3 : w11.cell? ⟨g', 3, none⟩ = some (.int .i64 x3) := H11.out.1.cell 3 rfl
                  have n0 : B + 1 ≠ g' := by have := H11.out.2.2; omega
                  have HDD : Hid (∀ k, k < 3 → w11.cell? ⟨B + 1, p * 6 + q * 3 + k, none⟩ = some (.int .i64 0)) := Lib.hid (fun k hk => by
                    have := HM.out
                    rw [H11.out.2.1.2.1.2.1]
                    unfold dQ
                    rw [if_pos (by omega), if_neg (by omega)])
                  have d0 : w11.cell? ⟨B + 1, p * 6 + q * 3, none⟩ = some (.int .i64 0) := HDD.out 0 (by omega)
                  have d1 : w11.cell? ⟨B + 1, p * 6 + q * 3 + 1, none⟩ = some (.int .i64 0) := HDD.out 1 (by omega)
                  have d2 : w11.cell? ⟨B + 1, p * 6 + q * 3 + 2, none⟩ = some (.int .i64 0) := HDD.out 2 (by omega)
                  have f0 : w11.frozen? ⟨B + 1, p * 6 + q * 3, none⟩ = false := H11.out.2.1.2.1.2.2 _
                  have f1 : w11.frozen? ⟨B + 1, p * 6 + q * 3 + 1, none⟩ = false := H11.out.2.1.2.1.2.2 _
                  have f2 : w11.frozen? ⟨B + 1, p * 6 + q * 3 + 2, none⟩ = false := H11.out.2.1.2.1.2.2 _
                  have HN : Hid (PW w B gd D O P (2 * p + (q + 1)) (2 * p + (q + 1)) (((w11.setCell ⟨B + 1, p * 6 + q * 3, none⟩ (.int .i64 x1)).setCell ⟨B + 1, p * 6 + q * 3 + 1, none⟩ (.int .i64 x2)).setCell ⟨B + 1, p * 6 + q * 3 + 2, none⟩ (.int .i64 x3)).drew) := Lib.hid (by
                    obtain ⟨em, e8⟩ := HM.out
                    obtain ⟨eB, eg⟩ := HB.out
                    obtain ⟨y1, y2, y3⟩ := HX.out
                    obtain ⟨h1, h2, h3, h4⟩ := H11.out.2.1
                    rw [show 2 * p + (q + 1) = m + 1 by omega, y1, y2, y3]
                    have z2 := dQ_step h2 (o := p * 6 + q * 3) (by omega) e8
                    refine ⟨?_, z2.grown (grownBy_drewN _ 1 none) (by intro c; cases c), SObj.drew (((h3.far ⟨B + 1, _, none⟩ (by simp only; omega) _).far ⟨B + 1, _, none⟩ (by simp only; omega) _).far ⟨B + 1, _, none⟩ (by simp only; omega) _), grownBy.trans (grownBy_new (grownBy_new (grownBy_new h4 ⟨B + 1, _, none⟩ (by simp only; omega) _) ⟨B + 1, _, none⟩ (by simp only; omega) _) ⟨B + 1, _, none⟩ (by simp only; omega) _) (grownBy_drewN _ 1 _)⟩
                    have hn : some gd ≠ some (B + 1) := by intro c; injection c; omega
                    exact (((h1.grown (grownBy_setCell _ ⟨B + 1, p * 6 + q * 3, none⟩ _) hn).grown (grownBy_setCell _ ⟨B + 1, p * 6 + q * 3 + 1, none⟩ _) hn).grown (grownBy_setCell _ ⟨B + 1, p * 6 + q * 3 + 2, none⟩ _) hn).grown (grownBy_drewN _ 1 none) (by intro c; cases c))
                  as_aux_lemma =>
                    go_region_held3 (fun w' => w'.cell? ⟨g', 1, none⟩ = some (.int .i64 x1) ∧ w'.cell? ⟨g', 2, none⟩ = some (.int .i64 x2) ∧ w'.cell? ⟨g', 3, none⟩ = some (.int .i64 x3)) (first | (simp only [drew_cell, far_cell n0]; exact ⟨c1, c2, c3⟩)) (first | fail)
                    all_goals as_aux_lemma =>
                      go_wp2
                      go_roundw
                      case rel => first | exact ⟨q + 1, by omega, by go_num, HN⟩ | ((repeat apply Exists.intro); refine ⟨?_, rfl⟩; exact ⟨q + 1, by omega, by go_num, HN⟩)
                      case measure => simp [intOf]; omega
                · have hLd : decide (0 < L) = false := decide_eq_false hL0
                  have HN : Hid (PW w B gd D O P (2 * p + (q + 1)) (2 * p + (q + 1)) w9) := Lib.hid (by
                    obtain ⟨em, e8⟩ := HM.out
                    obtain ⟨h1, h2, h3, h4⟩ := H9.out
                    rw [show 2 * p + (q + 1) = m + 1 by omega]
                    refine ⟨h1, h2.congr (dQ_none (fun k => ?_)), h3, h4⟩
                    rw [HD.out.2.2.2.2.1, ← HLV.out]
                    unfold sayI
                    rw [if_neg hL0])
                  go_wp2
                  go_roundw
                  case rel => first | exact ⟨q + 1, by omega, by go_num, HN⟩ | ((repeat apply Exists.intro); refine ⟨?_, rfl⟩; exact ⟨q + 1, by omega, by go_num, HN⟩)
                  case measure => simp [intOf]; omega
          · as_aux_lemma =>
            have hq1d : ((q : Int) == 1) = false := by simp; omega
            have hq1e : decide ((q : Int) = 1) = false := decide_eq_false (by omega)
            have HQ1 := Lib.hid hq1; clear hq1
            have HT8 : Hid (World.there (wr.alloc (.cells #[.int .i64 0, .bool false, .int .i64 0, .int .i64 0, .int .i64 0, .int .i64 0, .int .i64 0, .int .i64 0, .int .i64 0, .int .i64 0, .int .i64 0, .int .i64 0, .int .i64 0, .int .i64 0, .int .i64 0, .int .i64 0, .int .i64 0, .int .i64 0, .int .i64 0, .int .i64 0, .bool false] 177)) wr.heap.size 0 (blk177 p 0).toArray.size) := Lib.hid (there_of_objW (obj_new wr 177 (blk177 0 0)) (by simp [blk177]))
            have HI8 : Hid ((Tryd.prog.info? 177).map (·.size) = some (blk177 p 0).toArray.size) := Lib.hid info177
            have H8 : Hid (SObj ((wr.alloc (.cells #[.int .i64 0, .bool false, .int .i64 0, .int .i64 0, .int .i64 0, .int .i64 0, .int .i64 0, .int .i64 0, .int .i64 0, .int .i64 0, .int .i64 0, .int .i64 0, .int .i64 0, .int .i64 0, .int .i64 0, .int .i64 0, .int .i64 0, .int .i64 0, .int .i64 0, .int .i64 0, .bool false] 177)).setCells wr.heap.size 0 (blk177 p 0).toArray.toList) wr.heap.size 177 (blk177 p 0) ∧ PW w B gd D O P m m ((wr.alloc (.cells #[.int .i64 0, .bool false, .int .i64 0, .int .i64 0, .int .i64 0, .int .i64 0, .int .i64 0, .int .i64 0, .int .i64 0, .int .i64 0, .int .i64 0, .int .i64 0, .int .i64 0, .int .i64 0, .int .i64 0, .int .i64 0, .int .i64 0, .int .i64 0, .int .i64 0, .int .i64 0, .bool false] 177)).setCells wr.heap.size 0 (blk177 p 0).toArray.toList) ∧ B + 1 < wr.heap.size) := Lib.hid (by
              obtain ⟨eB, eg⟩ := HB.out
              have hl := hQR.out.2.1.1
              have hs := hQR.out.2.2.2.size
              have a1 := SObj.putAllW (blk177 p 0) (blk177 0 0) [] 0 _ (obj_new wr 177 (blk177 0 0)) rfl rfl
              have a2 := (hQR.out.alloc (.cells (blk177 0 0).toArray 177)).cells wr.heap.size 0 (blk177 p 0) (by omega) (by omega) (by omega) hs
              exact ⟨a1, a2, hl⟩)
            go_upto_region 9 with (first | (refine wpList_store_mid rfl 177 (.tmp 6) (.tmp 18) rfl wr.heap.size 0 (blk177 p 0).toArray rfl rfl HT8.out HI8.out (blk177_all p 0) ?_))
            (try simp only [Act.put])
            clear HT8 HI8
            clear hdq
            generalize World.setCells _ _ _ _ = w8 at H8 ⊢
            obtain ⟨g, hg⟩ : ∃ g, g = wr.heap.size := ⟨_, rfl⟩
            rw [← hg] at H8 ⊢
            have HG : Hid (g = wr.heap.size) := Lib.hid hg
            as_aux_lemma =>
              clear hg
              have H8 : Hid (SObj w8 g 177 (blk177 p 0) ∧ PW w B gd D O P m m w8 ∧ B + 1 < g) := Lib.hid (by
                obtain ⟨eB, eg⟩ := HB.out
                obtain ⟨a1, a2, hl⟩ := H8.out
                exact ⟨a1, a2, hl⟩)
              go_upto_region 11 with fail
              clear hq1d hq1e
              generalize w8 = w8 at H8 ⊢
              obtain ⟨cb, hcb⟩ : ∃ cb, cb = blk177 p 0 := ⟨_, rfl⟩
              have HCB := Lib.hid hcb; clear hcb
              have HRB : Hid (w8.rangeAt g 0 cb) := Lib.hid (fun j v hv => by rw [Nat.zero_add]; rw [HCB.out] at hv; exact H8.out.1.cell j hv)
              have HIB : Hid ((Tryd.prog.info? 177).map (·.size) = some cb.length) := Lib.hid (by rw [info177, HCB.out]; rfl)
              obtain ⟨L, hL⟩ : ∃ L, L = lvO (N m) (M m) := ⟨_, rfl⟩
              have HLV := Lib.hid hL
              have bL : 0 ≤ L ∧ L ≤ 63 := by rw [hL]; unfold lvO; exact wi_bd (by decide)
              obtain ⟨bL0, bL1⟩ := bL
              have HC73 : Hid (Calls Tryd.prog 73 #[.pointer (some ⟨gd, 0, none⟩), .agg cb.toArray] w8 fun e w' => e = .returned (.int .i64 L) ∧ FD (At51.updR D 350 (.bool (O (m + 1)))) w' gd ∧ World.grownBy w8 w' (some gd)) := Lib.hid (by
                obtain ⟨k0, k1, k2, k3, ks, k4, k5, k6, k7⟩ := HK.out
                obtain ⟨hN, hM, hO0, hO, hP, b2⟩ := HD.out
                obtain ⟨em, e8⟩ := HM.out
                have hst := b2 p (by omega)
                have hq1 := HQ1.out
                rw [HCB.out]
                refine (levelOf_any gd (At51.updR D 350 (.bool (O m))) p false on ab dl (O m) lv (st p) r mo w8 H8.out.2.1.1 hlt (updR_off k0 (by decide)) (updR_off k1 (by decide)) (updR_off (k2 p hlt) (by omega)) (updR_off k3 (by decide)) (updR_off k4 (by decide)) (updR_off k5 (by decide)) (updR_off k6 (by decide)) (by unfold At51.updR; rw [if_pos rfl]) b0 b1 hst.1 hst.2 b4 b5 b6 b7 0 rfl (N m) (M m) (by rw [hN, show m / 2 = p by omega]) (by rw [hM, decide_eq_false (by omega)])).mono ?_
                rintro e w' ⟨h1, h2, h3⟩
                refine ⟨by rw [h1, hL], h2.congr (fun k => ?_), h3⟩
                rw [updR_twice, hO])
              clear hL
              go_wp2_with (first | (refine wpList_load_mid rfl 177 (.tmp 6) rfl g 0 rfl cb _ HRB.out Tryd.underlying177 rfl HIB.out ?_))
              refine HC73.out.mono ?_
              rintro _ w9 ⟨rfl, hf9, hg9⟩
              have H9 : Hid (PW w B gd D O P (m + 1) m w9) := Lib.hid (by
                obtain ⟨eB, eg⟩ := HB.out
                obtain ⟨h1, h2, h3, h4⟩ := H8.out.2.1
                exact ⟨hf9, h2.grown hg9 (by intro c; injection c; omega), h3.grown hg9 (by intro c; injection c; omega), grownBy.trans h4 hg9⟩)
              clear hf9 hg9 HC73
              as_aux_lemma =>
                by_cases hL0 : 0 < L
                · have hLd : decide (0 < L) = true := decide_eq_true hL0
                  go_wp2_with fail
                  refine (boundOf_any gd L sh w9 (by rw [H9.out.1.2.1]; exact updR_off HK.out.2.2.2.2.1 (by decide)) s0 s1 (by omega) bL1).mono ?_
                  rintro _ w10 ⟨rfl, hb⟩
                  have H10 : Hid (PW w B gd D O P (m + 1) m w10) := Lib.hid (H9.out.grown (grown_of_below hb none))
                  clear hb hLd
                  obtain ⟨x0, hx0⟩ : ∃ x, x = 2 * (L + 2) + ilI sh L := ⟨_, rfl⟩
                  obtain ⟨x1, hx1⟩ : ∃ x, x = 2 * L + ilI sh L := ⟨_, rfl⟩
                  obtain ⟨x2, hx2⟩ : ∃ x, x = ilI sh L := ⟨_, rfl⟩
                  obtain ⟨x3, hx3⟩ : ∃ x, x = hiI L := ⟨_, rfl⟩
                  rw [← hx0, ← hx1, ← hx2, ← hx3]
                  have HX : Hid (x1 = P m 0 ∧ x2 = P m 1 ∧ x3 = P m 2) := Lib.hid (by
                    rw [hx1, hx2, hx3, HD.out.2.2.2.2.1, HD.out.2.2.2.2.1, HD.out.2.2.2.2.1, ← HLV.out]
                    unfold sayI
                    simp [hL0])
                  clear hx0 hx1 hx2 hx3
                  have H11 : Hid (SObj (w10.alloc (.cells #[.int .i64 x0, .int .i64 x1, .int .i64 x2, .int .i64 x3] 180)) w10.heap.size 180 [.int .i64 x0, .int .i64 x1, .int .i64 x2, .int .i64 x3] ∧ PW w B gd D O P (m + 1) m (w10.alloc (.cells #[.int .i64 x0, .int .i64 x1, .int .i64 x2, .int .i64 x3] 180)) ∧ B + 1 < w10.heap.size) := Lib.hid ⟨obj_new _ _ _, H10.out.alloc _, H10.out.2.1.1⟩
                  go_upto_region 14 with fail
                  generalize World.alloc _ _ = w11 at H11 ⊢
                  obtain ⟨g', hg'⟩ : ∃ g, g = w10.heap.size := ⟨_, rfl⟩
                  rw [← hg'] at H11 ⊢
                  clear hg'
                  have c1 : w11.cell? ⟨g', 1, none⟩ = some (.int .i64 x1) := H11.out.1.cell 1 rfl
                  have c2 : w11.cell? ⟨g', 2, none⟩ = some (.int .i64 x2) := H11.out.1.cell 2 rfl
                  have c3 : w11.cell? ⟨g', 3, none⟩ = some (.int .i64 x3) := H11.out.1.cell 3 rfl
                  have n0 : B + 1 ≠ g' := by have := H11.out.2.2; omega
                  have HDD : Hid (∀ k, k < 3 → w11.cell? ⟨B + 1, p * 6 + q * 3 + k, none⟩ = some (.int .i64 0)) := Lib.hid (fun k hk => by
                    have := HM.out
                    rw [H11.out.2.1.2.1.2.1]
                    unfold dQ
                    rw [if_pos (by omega), if_neg (by omega)])
                  have d0 : w11.cell? ⟨B + 1, p * 6 + q * 3, none⟩ = some (.int .i64 0) := HDD.out 0 (by omega)
                  have d1 : w11.cell? ⟨B + 1, p * 6 + q * 3 + 1, none⟩ = some (.int .i64 0) := HDD.out 1 (by omega)
                  have d2 : w11.cell? ⟨B + 1, p * 6 + q * 3 + 2, none⟩ = some (.int .i64 0) := HDD.out 2 (by omega)
                  have f0 : w11.frozen? ⟨B + 1, p * 6 + q * 3, none⟩ = false := H11.out.2.1.2.1.2.2 _
                  have f1 : w11.frozen? ⟨B + 1, p * 6 + q * 3 + 1, none⟩ = false := H11.out.2.1.2.1.2.2 _
                  have f2 : w11.frozen? ⟨B + 1, p * 6 + q * 3 + 2, none⟩ = false := H11.out.2.1.2.1.2.2 _
                  have HN : Hid (PW w B gd D O P (2 * p + (q + 1)) (2 * p + (q + 1)) (((w11.setCell ⟨B + 1, p * 6 + q * 3, none⟩ (.int .i64 x1)).setCell ⟨B + 1, p * 6 + q * 3 + 1, none⟩ (.int .i64 x2)).setCell ⟨B + 1, p * 6 + q * 3 + 2, none⟩ (.int .i64 x3)).drew) := Lib.hid (by
                    obtain ⟨em, e8⟩ := HM.out
                    obtain ⟨eB, eg⟩ := HB.out
                    obtain ⟨y1, y2, y3⟩ := HX.out
                    obtain ⟨h1, h2, h3, h4⟩ := H11.out.2.1
                    rw [show 2 * p + (q + 1) = m + 1 by omega, y1, y2, y3]
                    have z2 := dQ_step h2 (o := p * 6 + q * 3) (by omega) e8
                    refine ⟨?_, z2.grown (grownBy_drewN _ 1 none) (by intro c; cases c), SObj.drew (((h3.far ⟨B + 1, _, none⟩ (by simp only; omega) _).far ⟨B + 1, _, none⟩ (by simp only; omega) _).far ⟨B + 1, _, none⟩ (by simp only; omega) _), grownBy.trans (grownBy_new (grownBy_new (grownBy_new h4 ⟨B + 1, _, none⟩ (by simp only; omega) _) ⟨B + 1, _, none⟩ (by simp only; omega) _) ⟨B + 1, _, none⟩ (by simp only; omega) _) (grownBy_drewN _ 1 _)⟩
                    have hn : some gd ≠ some (B + 1) := by intro c; injection c; omega
                    exact (((h1.grown (grownBy_setCell _ ⟨B + 1, p * 6 + q * 3, none⟩ _) hn).grown (grownBy_setCell _ ⟨B + 1, p * 6 + q * 3 + 1, none⟩ _) hn).grown (grownBy_setCell _ ⟨B + 1, p * 6 + q * 3 + 2, none⟩ _) hn).grown (grownBy_drewN _ 1 none) (by intro c; cases c))
                  as_aux_lemma =>
                    go_region_held3 (fun w' => w'.cell? ⟨g', 1, none⟩ = some (.int .i64 x1) ∧ w'.cell? ⟨g', 2, none⟩ = some (.int .i64 x2) ∧ w'.cell? ⟨g', 3, none⟩ = some (.int .i64 x3)) (first | (simp only [drew_cell, far_cell n0]; exact ⟨c1, c2, c3⟩)) (first | fail)
                    all_goals as_aux_lemma =>
                      go_wp2
                      go_roundw
                      case rel => first | exact ⟨q + 1, by omega, by go_num, HN⟩ | ((repeat apply Exists.intro); refine ⟨?_, rfl⟩; exact ⟨q + 1, by omega, by go_num, HN⟩)
                      case measure => simp [intOf]; omega
                · have hLd : decide (0 < L) = false := decide_eq_false hL0
                  have HN : Hid (PW w B gd D O P (2 * p + (q + 1)) (2 * p + (q + 1)) w9) := Lib.hid (by
                    obtain ⟨em, e8⟩ := HM.out
                    obtain ⟨h1, h2, h3, h4⟩ := H9.out
                    rw [show 2 * p + (q + 1) = m + 1 by omega]
                    refine ⟨h1, h2.congr (dQ_none (fun k => ?_)), h3, h4⟩
                    rw [HD.out.2.2.2.2.1, ← HLV.out]
                    unfold sayI
                    rw [if_neg hL0])
                  go_wp2
                  go_roundw
                  case rel => first | exact ⟨q + 1, by omega, by go_num, HN⟩ | ((repeat apply Exists.intro); refine ⟨?_, rfl⟩; exact ⟨q + 1, by omega, by go_num, HN⟩)
                  case measure => simp [intOf]; omega
        · obtain rfl : q = 2 := by omega
          go_wp2
          go_roundw
          case rel => exact ⟨p + 1, by omega, by go_num, hQR⟩
          case measure => simp [intOf]; omega
    · obtain rfl : p = 4 := by omega
      obtain ⟨cs, hcs⟩ : ∃ cs, cs = dQL P := ⟨_, rfl⟩
      have HF : Hid (Fix (B + 1) cs wr ∧ cs.length = 24 ∧ cs.toArray.all (·.oneCell') = true) := Lib.hid (by
        rw [hcs]
        exact ⟨fix_of_fd hR.out.2.1 (dQL_at P), rfl, dQL_all _⟩)
      have HI6 : Hid ((Tryd.prog.info? 56).map (·.size) = some cs.length) := Lib.hid (by rw [info56, HF.out.2.1])
      have HI7 : Hid ((Tryd.prog.info? 56).map (·.size) = some cs.toArray.size) := Lib.hid (by rw [info56]; simp [HF.out.2.1])
      have HO6 := Lib.hid HF.out.2.2
      have HT6 : Hid (World.there wr B 0 cs.toArray.size) := Lib.hid (there_of_objW hR.out.2.2.1 (by simp [HF.out.2.1, z24]))
      have HCR := Lib.hid hcs
      clear hcs
      have HP : Hid (SObj (wr.setCells B 0 cs) B 56 cs ∧ FD (At51.updR D 350 (.bool (O 8))) (wr.setCells B 0 cs) gd ∧ w.grownBy (wr.setCells B 0 cs) (some gd)) := Lib.hid (by
        obtain ⟨eB, eg⟩ := HB.out
        obtain ⟨h1, h2, h3, h4⟩ := hR.out
        have hx : wr.grownBy (wr.setCells B 0 cs) (some B) := setCells_grown B cs 0 wr
        exact ⟨SObj.putAllW cs z24 [] 0 wr h3 (by rw [HF.out.2.1]; rfl) rfl, h1.grown hx (by intro c; injection c; omega), grownBy_newCells (by omega) cs 0 wr h4⟩)
      go_wp2_with (first | (refine wpList_load_mid rfl 56 (.tmp 3) rfl (B + 1) 0 rfl cs _ HF.out.1.1 Tryd.underlying56 rfl HI6.out ?_) | (refine wpList_store_mid rfl 56 (.tmp 2) (.tmp 41) rfl B 0 cs.toArray rfl rfl HT6.out HI7.out HO6.out ?_))
      (try rw [List.toList_toArray])
      generalize World.setCells _ _ _ _ = wf at HP ⊢
      refine bodyPost_ret (v := .agg cs.toArray) ?_ rfl ⟨?_, HP.out.2⟩
      · exact results_one Tryd.results52 rfl (run_loadVar_mid (P := Tryd.prog) wf B 0 56 cs _ (fun j v hv => by rw [Nat.zero_add]; exact HP.out.1.cell j hv) Tryd.underlying56 rfl HI6.out)
      · rw [HCR.out]
end Go.Proofs.YthmkmemocjnleaaDoor
