/- impl.small and impl.FiltersOf. -/
import Derived.Test.YthmkmemocjnleaaDoorFilD
import Derived.Test.YthmkmemocjnleaaDoorSegJ
import Derived.Deep.DeepCutAuto
import Derived.Deep.CutRange
namespace Go.Proofs.YthmkmemocjnleaaDoor
open Go.RowKit
set_option linter.unusedVariables false
set_option linter.unusedSimpArgs false

def filO (sm : Bool) (lv sh : Int) (dl : Bool) (rf md : Nat → Int) (inn : Nat → Bool) (eof : Bool) : List Value := [.bool sm, .int .i64 lv, .int .i64 sh, .bool dl, .int .i64 (rf 0), .int .i64 (rf 1), .int .i64 (rf 2), .int .i64 (rf 3), .int .i64 (md 0), .int .i64 (md 1), .int .i64 (md 2), .int .i64 (md 3), .int .i64 0, .int .i64 0, .int .i64 0, .int .i64 0, .int .i64 0, .int .i64 0, .int .i64 0, .int .i64 0, .int .i64 0, .int .i64 0, .int .i64 0, .int .i64 0, .int .i64 0, .int .i64 0, .int .i64 0, .int .i64 0, .int .i64 0, .int .i64 0, .int .i64 0, .int .i64 0, .int .i64 0, .int .i64 0, .int .i64 0, .int .i64 0, .bool (inn 0), .bool (inn 1), .bool (inn 2), .bool (inn 3), .bool (inn 4), .bool (inn 5), .bool (inn 6), .bool (inn 7), .bool eof]
theorem alloc_cell {w : World} {o : Go.Obj} {a : Addr} {v : Value} (h : w.cell? a = some v) : (w.alloc o).cell? a = some v := by
  rw [World.cell?_alloc_some w a o (by rw [h]; rfl)]; exact h
theorem new_ne {X w' : World} {o : Go.Obj} {b i : Nat} {v : Value} (_ : Below (X.alloc o).heap.size (X.alloc o) w') (h : X.cell? ⟨b, i, none⟩ = some v) : X.heap.size ≠ b := by
  have : b < X.heap.size := World.block_lt_of_cell? X _ h
  omega
theorem new_neD {X w' : World} {o : Go.Obj} {b i : Nat} {v : Value} (_ : Below (X.alloc o).drew.heap.size (X.alloc o).drew w') (h : X.cell? ⟨b, i, none⟩ = some v) : X.heap.size ≠ b := by
  have : b < X.heap.size := World.block_lt_of_cell? X _ h
  omega
theorem new_leD {X w' : World} {o : Go.Obj} {n : Nat} (_ : Below (X.alloc o).drew.heap.size (X.alloc o).drew w') (h : n ≤ X.heap.size) : n ≤ X.heap.size := h
theorem new_le {X w' : World} {o : Go.Obj} {n : Nat} (_ : Below (X.alloc o).heap.size (X.alloc o) w') (h : n ≤ X.heap.size) : n ≤ X.heap.size := h
theorem SObj.farCells {g : Nat} {T : TypeId} {us : List Value} {b : Nat} (hb : g ≠ b) : ∀ (vs : List Value) (o : Nat) {w : World}, SObj w g T us → SObj (w.setCells b o vs) g T us
  | [], _, _, h => h
  | v :: r, o, _, h => SObj.farCells hb r (o + 1) (h.far ⟨b, o, none⟩ hb v)
theorem Fix.farCells {b c : Nat} (hb : c ≠ b) {cs : List Value} : ∀ (vs : List Value) (o : Nat) {w : World}, Fix b cs w → Fix b cs (w.setCells c o vs)
  | [], _, _, h => h
  | v :: r, o, _, h => Fix.farCells hb r (o + 1) ((fix_far hb cs _ o v).2 h)
theorem fix_cells {b : Nat} {cs : List Value} {w : World} (h : w.there b 0 cs.length) : Fix b cs (w.setCells b 0 cs) :=
  ⟨World.rangeAt_setCells_same _ _ _ _ h, World.there_setCells h _ _ _⟩
theorem there_of_obj {w : World} {g : Nat} {T : TypeId} {vs : List Value} (h : SObj w g T vs) {n : Nat} (hn : n ≤ vs.length) : w.there g 0 n := fun j hj => by
  rw [Nat.zero_add]
  exact ⟨by rw [h.cell j (v := vs[j]'(by omega)) (by simp)]; rfl, h.free j⟩

set_option maxRecDepth 100000 in
set_option maxHeartbeats 1600000 in
theorem small_any (x0 x1 x2 x3 : Int) (w : World) (a0 : -128 ≤ x0) (a1 : x0 ≤ 127) (b0 : -128 ≤ x1) (b1 : x1 ≤ 127) (c0 : -128 ≤ x2) (c1 : x2 ≤ 127) (d0 : -128 ≤ x3) (d1 : x3 ≤ 127) :
    Calls Tryd.prog 50 #[.agg #[.int .i64 x0, .int .i64 x1, .int .i64 x2, .int .i64 x3]] w fun e w' => e = .returned (.agg #[.int .i8 x0, .int .i8 x1, .int .i8 x2, .int .i8 x3]) ∧ Below w.heap.size w w' := by
  go_enter Tryd.func50, Tryd.ntmps50
  go_wp2
  have HO : Hid (SObj ((w.alloc (.cells #[.int .i64 x0, .int .i64 x1, .int .i64 x2, .int .i64 x3] 40)).alloc (.cells #[.int .i8 x0, .int .i8 x1, .int .i8 x2, .int .i8 x3] 82)) (w.heap.size + 1) 82 [.int .i8 x0, .int .i8 x1, .int .i8 x2, .int .i8 x3] ∧ Below w.heap.size w ((w.alloc (.cells #[.int .i64 x0, .int .i64 x1, .int .i64 x2, .int .i64 x3] 40)).alloc (.cells #[.int .i8 x0, .int .i8 x1, .int .i8 x2, .int .i8 x3] 82))) := Lib.hid (by
    have := obj_new (w.alloc (.cells #[.int .i64 x0, .int .i64 x1, .int .i64 x2, .int .i64 x3] 40)) 82 [.int .i8 x0, .int .i8 x1, .int .i8 x2, .int .i8 x3]
    exact ⟨by simpa using this, ((Below.refl _ _).alloc (Nat.le_refl _) _).alloc (by simp) _⟩)
  generalize World.alloc _ _ = wf at HO ⊢
  refine bodyPost_ret (v := .agg #[.int .i8 x0, .int .i8 x1, .int .i8 x2, .int .i8 x3]) ?_ rfl ⟨rfl, HO.out.2⟩
  exact results_one Tryd.results50 rfl (run_loadVar_mid (P := Tryd.prog) wf (w.heap.size + 1) 0 82 [.int .i8 x0, .int .i8 x1, .int .i8 x2, .int .i8 x3] _ (fun j v hv => by rw [Nat.zero_add]; exact HO.out.1.cell j hv) Tryd.underlying82 rfl (by kernel_rfl))

def z60 : List Value := [.bool false, .int .i64 0, .int .i64 0, .bool false, .int .i64 0, .int .i64 0, .int .i64 0, .int .i64 0, .int .i64 0, .int .i64 0, .int .i64 0, .int .i64 0, .int .i64 0, .int .i64 0, .int .i64 0, .int .i64 0, .int .i64 0, .int .i64 0, .int .i64 0, .int .i64 0, .int .i64 0, .int .i64 0, .int .i64 0, .int .i64 0, .int .i64 0, .int .i64 0, .int .i64 0, .int .i64 0, .int .i64 0, .int .i64 0, .int .i64 0, .int .i64 0, .int .i64 0, .int .i64 0, .int .i64 0, .int .i64 0, .bool false, .bool false, .bool false, .bool false, .bool false, .bool false, .bool false, .bool false, .bool false]

theorem SObj.putAll {g : Nat} {T : TypeId} : ∀ (vs us pre : List Value) (o : Nat) (w : World), SObj w g T (pre ++ us) → us.length = vs.length → pre.length = o → SObj (w.setCells g o vs) g T (pre ++ vs)
  | [], us, pre, o, w, h, e, _ => by
    obtain rfl : us = [] := List.length_eq_zero_iff.1 e
    exact h
  | v :: r, [], _, _, _, _, e, _ => by simp at e
  | v :: r, u :: us, pre, o, w, h, e, ho => by
    have h1 := h.set o v
    rw [List.set_append_right _ _ (by omega), show o - pre.length = 0 by omega, List.set_cons_zero] at h1
    have := SObj.putAll r us (pre ++ [v]) (o + 1) (w.setCell ⟨g, o, none⟩ v) (by simpa using h1) (by simpa using e) (by simp [ho])
    have e2 : pre ++ [v] ++ r = pre ++ v :: r := by simp
    rw [e2] at this
    exact this
/-- Memory is made, called twice, and stored: what holds all along, over the worlds. -/
theorem filO_all (sm : Bool) (lv sh : Int) (dl : Bool) (rf md : Nat → Int) (inn : Nat → Bool) (eof : Bool) : (filO sm lv sh dl rf md inn eof).toArray.all (·.oneCell') = true := by simp [filO, Value.oneCell']
theorem info60 : (Tryd.prog.info? 60).map (·.size) = some 45 := by kernel_rfl
theorem filO_obj {w : World} {h : Nat} (ho : SObj w h 60 z60) (sm : Bool) (lv sh : Int) (dl : Bool) (rf md : Nat → Int) (inn : Nat → Bool) (eof : Bool) : SObj (w.setCells h 0 (filO sm lv sh dl rf md inn eof)) h 60 (filO sm lv sh dl rf md inn eof) :=
  SObj.putAll _ z60 [] 0 w ho rfl rfl

theorem parI_bd {sh l : Int} (h0 : 0 ≤ sh) (h1 : sh ≤ 7) (k : Nat) : 0 ≤ parI sh l k ∧ parI sh l k ≤ 255 := by
  unfold parI
  by_cases hl : l ≤ 0
  · rw [if_pos hl]; omega
  · rw [if_neg hl]
    have hc := capI_bd (l := l) (by omega)
    have hi := ilI_bd h0 h1 hc.1 hc.2
    have hh : 0 ≤ hiI (capI l) ∧ hiI (capI l) ≤ 2 := by
      unfold hiI
      repeat' split
      all_goals omega
    repeat' split
    all_goals omega
theorem QF_bd (u r : Bool) (v : FG) (st : Nat → Int) (h0 : 0 ≤ v.sharp) (h1 : v.sharp ≤ 7) (m k : Nat) : 0 ≤ QF u r v st m k ∧ QF u r v st m k ≤ 255 := by
  unfold QF parM
  split
  · omega
  · exact parI_bd h0 h1 k
/-- The struct's cells, the numbers of the first n blocks in them. -/
def dF (Z : List Value) (Q : Nat → Nat → Int) (n i : Nat) : Option Value := if 12 ≤ i ∧ i < 36 ∧ (i - 12) / 3 < n then some (.int .i64 (Q ((i - 12) / 3) ((i - 12) % 3))) else Z[i]?
theorem dF_zero (Z : List Value) (Q : Nat → Nat → Int) (i : Nat) : Z[i]? = dF Z Q 0 i := by
  unfold dF; rw [if_neg (by omega)]
theorem filO_mid (sm : Bool) (lv sh : Int) (dl : Bool) (rf md : Nat → Int) (inn : Nat → Bool) (eof : Bool) (j : Nat) (hj : j < 24) : (filO sm lv sh dl rf md inn eof)[12 + j]? = some (.int .i64 0) := by
  have e : ((filO sm lv sh dl rf md inn eof).drop 12).take 24 = List.replicate 24 (.int .i64 0) := rfl
  have : (((filO sm lv sh dl rf md inn eof).drop 12).take 24)[j]? = some (.int .i64 0) := by
    rw [e, List.getElem?_replicate, if_pos hj]
  rw [List.getElem?_take, if_pos hj, List.getElem?_drop] at this
  exact this
theorem dF_step {Z : List Value} {Q : Nat → Nat → Int} {w : World} {b n o : Nat} (hZ : ∀ j, j < 24 → Z[12 + j]? = some (.int .i64 0)) (h : FD (dF Z Q n) w b) (ho : o = 12 + 3 * n) (hn : n < 8) :
    FD (dF Z Q (n + 1)) (((w.setCell ⟨b, o, none⟩ (.int .i64 (Q n 0))).setCell ⟨b, o + 1, none⟩ (.int .i64 (Q n 1))).setCell ⟨b, o + 2, none⟩ (.int .i64 (Q n 2))) b := by
  subst ho
  have old : ∀ k, k < 3 → dF Z Q n (12 + 3 * n + k) = some (.int .i64 0) := fun k hk => by unfold dF; rw [if_neg (by omega), Nat.add_assoc, hZ _ (by omega)]
  have f1 := h.put (12 + 3 * n) (.int .i64 (Q n 0)) (old 0 (by omega)) (fun _ => rfl)
  have f2 := f1.put (12 + 3 * n + 1) (.int .i64 (Q n 1)) (old := .int .i64 0) (by unfold At51.updR; rw [if_neg (by omega)]; exact old 1 (by omega)) (fun _ => rfl)
  have f3 := f2.put (12 + 3 * n + 2) (.int .i64 (Q n 2)) (old := .int .i64 0) (by unfold At51.updR; rw [if_neg (by omega), if_neg (by omega)]; exact old 2 (by omega)) (fun _ => rfl)
  refine f3.congr (fun i => ?_)
  unfold At51.updR
  by_cases e2 : i = 12 + 3 * n + 2
  · rw [if_pos e2]; unfold dF; rw [if_pos (by omega), show (i - 12) / 3 = n by omega, show (i - 12) % 3 = 2 by omega]
  · rw [if_neg e2]
    by_cases e1 : i = 12 + 3 * n + 1
    · rw [if_pos e1]; unfold dF; rw [if_pos (by omega), show (i - 12) / 3 = n by omega, show (i - 12) % 3 = 1 by omega]
    · rw [if_neg e1]
      by_cases e0 : i = 12 + 3 * n
      · rw [if_pos e0]; unfold dF; rw [if_pos (by omega), show (i - 12) / 3 = n by omega, show (i - 12) % 3 = 0 by omega]
      · rw [if_neg e0]; unfold dF
        by_cases hl : 12 ≤ i ∧ i < 36 ∧ (i - 12) / 3 < n
        · rw [if_pos hl, if_pos (by omega)]
        · rw [if_neg hl, if_neg (by omega)]
/-- What is answered. -/
def filR (sm : Bool) (lv sh : Int) (dl : Bool) (rf md : Nat → Int) (Q : Nat → Nat → Int) (inn : Nat → Bool) (eof : Bool) : List Value := [.bool sm, .int .i64 lv, .int .i64 sh, .bool dl, .int .i64 (rf 0), .int .i64 (rf 1), .int .i64 (rf 2), .int .i64 (rf 3), .int .i64 (md 0), .int .i64 (md 1), .int .i64 (md 2), .int .i64 (md 3), .int .i64 (Q 0 0), .int .i64 (Q 0 1), .int .i64 (Q 0 2), .int .i64 (Q 1 0), .int .i64 (Q 1 1), .int .i64 (Q 1 2), .int .i64 (Q 2 0), .int .i64 (Q 2 1), .int .i64 (Q 2 2), .int .i64 (Q 3 0), .int .i64 (Q 3 1), .int .i64 (Q 3 2), .int .i64 (Q 4 0), .int .i64 (Q 4 1), .int .i64 (Q 4 2), .int .i64 (Q 5 0), .int .i64 (Q 5 1), .int .i64 (Q 5 2), .int .i64 (Q 6 0), .int .i64 (Q 6 1), .int .i64 (Q 6 2), .int .i64 (Q 7 0), .int .i64 (Q 7 1), .int .i64 (Q 7 2), .bool (inn 0), .bool (inn 1), .bool (inn 2), .bool (inn 3), .bool (inn 4), .bool (inn 5), .bool (inn 6), .bool (inn 7), .bool eof]
theorem filR_all (sm : Bool) (lv sh : Int) (dl : Bool) (rf md : Nat → Int) (Q : Nat → Nat → Int) (inn : Nat → Bool) (eof : Bool) : (filR sm lv sh dl rf md Q inn eof).toArray.all (·.oneCell') = true := by simp [filR, Value.oneCell']
theorem filR_at (sm : Bool) (lv sh : Int) (dl : Bool) (rf md : Nat → Int) (Q : Nat → Nat → Int) (inn : Nat → Bool) (eof : Bool) (i : Nat) (hi : i < (filR sm lv sh dl rf md Q inn eof).length) : dF (filO sm lv sh dl rf md inn eof) Q 8 i = (filR sm lv sh dl rf md Q inn eof)[i]? := by
  have hi : i < 45 := hi
  unfold dF
  by_cases h : 12 ≤ i ∧ i < 36
  · rw [if_pos (by omega)]
    have e : ∀ m, m < 8 → ∀ k, k < 3 → (filR sm lv sh dl rf md Q inn eof)[12 + 3 * m + k]? = some (.int .i64 (Q m k)) := fun m hm k hk => by
      have : m = 0 ∨ m = 1 ∨ m = 2 ∨ m = 3 ∨ m = 4 ∨ m = 5 ∨ m = 6 ∨ m = 7 := by omega
      have hk3 : k = 0 ∨ k = 1 ∨ k = 2 := by omega
      rcases this with rfl | rfl | rfl | rfl | rfl | rfl | rfl | rfl <;> rcases hk3 with rfl | rfl | rfl <;> rfl
    have := e ((i - 12) / 3) (by omega) ((i - 12) % 3) (by omega)
    rw [show 12 + 3 * ((i - 12) / 3) + (i - 12) % 3 = i by omega] at this
    exact this.symm
  · rw [if_neg (by omega)]
    have hlo : i < 12 ∨ 36 ≤ i := by omega
    rcases hlo with hlo | hlo
    · have e : (filO sm lv sh dl rf md inn eof).take 12 = (filR sm lv sh dl rf md Q inn eof).take 12 := rfl
      have := congrArg (fun l : List Value => l[i]?) e
      simpa only [List.getElem?_take, if_pos hlo] using this
    · have e : (filO sm lv sh dl rf md inn eof).drop 36 = (filR sm lv sh dl rf md Q inn eof).drop 36 := rfl
      have := congrArg (fun l : List Value => l[i - 36]?) e
      simpa only [List.getElem?_drop, show 36 + (i - 36) = i by omega] using this
def p6 (Q : Nat → Nat → Int) (p : Nat) : List Value := [.int .u8 (Q (2 * p) 0), .int .u8 (Q (2 * p) 1), .int .u8 (Q (2 * p) 2), .int .u8 (Q (2 * p + 1) 0), .int .u8 (Q (2 * p + 1) 1), .int .u8 (Q (2 * p + 1) 2)]
theorem idx119 (Q : Nat → Nat → Int) (p : Nat) (hp : p < 4) (w : World) : (Instr.index 119 (.agg (dPL Q).toArray) (.int .i64 p)).run Tryd.prog w = .ok (.agg (p6 Q p).toArray) w := by
  obtain rfl | rfl | rfl | rfl : p = 0 ∨ p = 1 ∨ p = 2 ∨ p = 3 := by omega
  all_goals kernel_rfl
theorem idx118 (Q : Nat → Nat → Int) (p q : Nat) (hq : q < 2) (w : World) : (Instr.index 118 (.agg (p6 Q p).toArray) (.int .i64 q)).run Tryd.prog w = .ok (.agg #[.int .u8 (Q (2 * p + q) 0), .int .u8 (Q (2 * p + q) 1), .int .u8 (Q (2 * p + q) 2)]) w := by
  obtain rfl | rfl : q = 0 ∨ q = 1 := by omega
  all_goals kernel_rfl
def FilM (w : World) (B h : Nat) (Z : List Value) (Q : Nat → Nat → Int) (n : Nat) (wr : World) : Prop := FD (dF Z Q n) wr h ∧ SObj wr B 60 z60 ∧ Below w.heap.size w wr ∧ w.heap.size ≤ h ∧ B ≠ h
theorem FilM.alloc {w : World} {B h : Nat} {Z : List Value} {Q : Nat → Nat → Int} {n : Nat} {wr : World} (hm : FilM w B h Z Q n wr) (o : Go.Obj) : FilM w B h Z Q n (wr.alloc o) :=
  ⟨hm.1.grown (World.grownBy_alloc wr o none) (by intro c; cases c), hm.2.1.alloc o, hm.2.2.1.alloc hm.2.2.1.size o, hm.2.2.2⟩

set_option maxRecDepth 100000 in
set_option maxHeartbeats 8000000 in
theorem filtersOf_any (ao : Option Addr) (n c : Nat) (zs : List Int) (u r : Bool) (s0 s1 s2 s3 : Int) (w : World) (ht : Tabs w) (h2 : 2 ≤ w.heap.size) (hl : zs.length = n) (hrow : Arg .u8 w ao n (fun i => zs.getD i 0)) (hz : Bytes zs) (h255 : zs.getD 0 0 ≠ 255) (hn : n ≤ 1048576)
    (a0 : -63 ≤ s0) (a1 : s0 ≤ 63) (b0 : -63 ≤ s1) (b1 : s1 ≤ 63) (c0 : -63 ≤ s2) (c1 : s2 ≤ 63) (d0 : -63 ≤ s3) (d1 : s3 ≤ 63)
    (v : FG × DS) (hv : v = filG (stepP zs) ds0) :
    Calls Tryd.prog 26 #[.slice ao n c, .bool u, .bool r, .agg #[.int .i64 s0, .int .i64 s1, .int .i64 s2, .int .i64 s3]] w fun e w' => e = .returned (.agg (filR v.1.simple v.1.level v.1.sharp v.1.deltas v.1.ref v.1.mode (QF u r v.1 (fun i => ([s0, s1, s2, s3] : List Int).getD i 0)) (innF v.1) v.2.eof).toArray) ∧ Below w.heap.size w w' := by
  have HA := Lib.hid (And.intro ht (And.intro hl (And.intro hrow (And.intro hz (And.intro h255 hv))))); clear ht hl hrow hz h255 hv
  have HST : Hid (∀ i, -128 ≤ ([s0, s1, s2, s3] : List Int).getD i 0 ∧ ([s0, s1, s2, s3] : List Int).getD i 0 ≤ 127) := Lib.hid (fun i => by
    have : i = 0 ∨ i = 1 ∨ i = 2 ∨ i = 3 ∨ 4 ≤ i := by omega
    rcases this with rfl | rfl | rfl | rfl | h
    · show -128 ≤ s0 ∧ s0 ≤ 127; omega
    · show -128 ≤ s1 ∧ s1 ≤ 127; omega
    · show -128 ≤ s2 ∧ s2 ≤ 127; omega
    · show -128 ≤ s3 ∧ s3 ≤ 127; omega
    · have e : ([s0, s1, s2, s3] : List Int).getD i 0 = 0 := by simp [List.getD, List.getElem?_eq_none (show ([s0, s1, s2, s3] : List Int).length ≤ i by simpa using h)]
      rw [e]; omega)
  have HO : Hid (SObj ((w.alloc (.cells #[.int .i64 s0, .int .i64 s1, .int .i64 s2, .int .i64 s3] 40)).alloc (.cells z60.toArray 60)) (w.heap.size + 1) 60 z60 ∧ Below w.heap.size w ((w.alloc (.cells #[.int .i64 s0, .int .i64 s1, .int .i64 s2, .int .i64 s3] 40)).alloc (.cells z60.toArray 60)) ∧ ((w.alloc (.cells #[.int .i64 s0, .int .i64 s1, .int .i64 s2, .int .i64 s3] 40)).alloc (.cells z60.toArray 60)).heap.size = w.heap.size + 1 + 1) := Lib.hid (by
    have := obj_new (w.alloc (.cells #[.int .i64 s0, .int .i64 s1, .int .i64 s2, .int .i64 s3] 40)) 60 z60
    exact ⟨by simpa using this, ((Below.refl _ _).alloc (Nat.le_refl _) _).alloc (by simp) _, by simp⟩)
  unfold z60 at HO
  obtain ⟨B, hB⟩ : ∃ B, B = w.heap.size + 1 := ⟨_, rfl⟩
  go_enter Tryd.func26, Tryd.ntmps26
  go_wp2_with fail
  generalize World.alloc _ _ = w1 at HO ⊢
  rw [← hB] at HO ⊢
  refine (small_any s0 s1 s2 s3 w1 (by omega) (by omega) (by omega) (by omega) (by omega) (by omega) (by omega) (by omega)).mono ?_
  rintro _ w2 ⟨rfl, hb⟩
  have H2 : Hid (SObj w2 B 60 z60 ∧ Below w.heap.size w w2 ∧ B < w2.heap.size) := Lib.hid (by
    have := HO.out.2.2
    have hs := hb.size
    exact ⟨HO.out.1.below hb HO.out.1.lt, HO.out.2.1.trans (hb.mono (by omega)), by omega⟩)
  have HB := Lib.hid hB; clear hb HO hB
  go_wp2_with fail
  refine (doorFil_any ao n c zs u r s0 s1 s2 s3 w2 (HA.out.1.below h2 H2.out.2.1) (by have := H2.out.2.1.size; omega) HA.out.2.1 (HA.out.2.2.1.below H2.out.2.1) HA.out.2.2.2.1 HA.out.2.2.2.2.1 hn HST.out v HA.out.2.2.2.2.2).mono ?_
  rintro _ w3 ⟨rfl, hb⟩
  have H3 : Hid (SObj w3 B 60 z60 ∧ Below w.heap.size w w3 ∧ B < w3.heap.size) := Lib.hid (by
    have hs := hb.size
    have := H2.out.2.2
    have e := H2.out.2.1.size
    exact ⟨H2.out.1.below hb H2.out.1.lt, H2.out.2.1.trans (hb.mono e), by omega⟩)
  clear hb H2
  obtain ⟨⟨bl0, bl1⟩, ⟨bs0, bs1⟩, bref, bmode⟩ := filG_bd (stepP zs) ds0
  rw [← HA.out.2.2.2.2.2] at bl0 bl1 bs0 bs1 bref bmode
  obtain ⟨sm, hsm⟩ : ∃ y, y = v.1.simple := ⟨_, rfl⟩
  obtain ⟨lv, hlv⟩ : ∃ y, y = v.1.level := ⟨_, rfl⟩
  obtain ⟨sh, hsh⟩ : ∃ y, y = v.1.sharp := ⟨_, rfl⟩
  obtain ⟨dl, hdl⟩ : ∃ y, y = v.1.deltas := ⟨_, rfl⟩
  obtain ⟨rf, hrf⟩ : ∃ y, y = v.1.ref := ⟨_, rfl⟩
  obtain ⟨md, hmd⟩ : ∃ y, y = v.1.mode := ⟨_, rfl⟩
  obtain ⟨Q, hQ⟩ : ∃ y, y = QF u r v.1 (fun i => ([s0, s1, s2, s3] : List Int).getD i 0) := ⟨_, rfl⟩
  obtain ⟨inn, hinn⟩ : ∃ y, y = innF v.1 := ⟨_, rfl⟩
  obtain ⟨eof, heof⟩ : ∃ y, y = v.2.eof := ⟨_, rfl⟩
  rw [← hlv] at bl0 bl1
  rw [← hsh] at bs0 bs1
  rw [← hrf] at bref
  rw [← hmd] at bmode
  rw [← hsm, ← hlv, ← hsh, ← hdl, ← hrf, ← hmd, ← hQ, ← hinn, ← heof]
  have HV := Lib.hid (And.intro hsm (And.intro hlv (And.intro hsh (And.intro hdl (And.intro hrf (And.intro hmd (And.intro hQ (And.intro hinn heof)))))))); clear hsm hlv hsh hdl hrf hmd hQ hinn heof HA
  have HBD := Lib.hid (And.intro bref bmode); clear bref bmode
  obtain ⟨cs4, hcs4⟩ : ∃ cs, cs = dPL Q := ⟨_, rfl⟩
  obtain ⟨cs5, hcs5⟩ : ∃ cs, cs = dIL inn := ⟨_, rfl⟩
  rw [← hcs4, ← hcs5]
  have HCS := Lib.hid (And.intro hcs4 hcs5); clear hcs4 hcs5
  have HN : Hid (cs4.length = 24 ∧ cs5.length = 8) := Lib.hid ⟨by rw [HCS.out.1]; rfl, by rw [HCS.out.2]; rfl⟩
  have HI4 : Hid ((Tryd.prog.info? 119).map (·.size) = some cs4.toArray.size) := Lib.hid (by rw [info119]; simp [HN.out.1])
  have HI5 : Hid ((Tryd.prog.info? 58).map (·.size) = some cs5.toArray.size) := Lib.hid (by rw [info58]; simp [HN.out.2])
  have HO4 : Hid (cs4.toArray.all (·.oneCell') = true) := Lib.hid (by rw [HCS.out.1]; simp [dPL, Value.oneCell'])
  have HO5 : Hid (cs5.toArray.all (·.oneCell') = true) := Lib.hid (by rw [HCS.out.2]; simp [dIL, Value.oneCell'])
  have HW : Hid (SObj ((((w3.alloc (.cells #[.int .i8 (rf 0), .int .i8 (rf 1), .int .i8 (rf 2), .int .i8 (rf 3)] 82)).alloc (.cells #[.int .i8 (md 0), .int .i8 (md 1), .int .i8 (md 2), .int .i8 (md 3)] 82)).alloc (.cells #[.int .u8 0, .int .u8 0, .int .u8 0, .int .u8 0, .int .u8 0, .int .u8 0, .int .u8 0, .int .u8 0, .int .u8 0, .int .u8 0, .int .u8 0, .int .u8 0, .int .u8 0, .int .u8 0, .int .u8 0, .int .u8 0, .int .u8 0, .int .u8 0, .int .u8 0, .int .u8 0, .int .u8 0, .int .u8 0, .int .u8 0, .int .u8 0] 119)).alloc (.cells #[.bool false, .bool false, .bool false, .bool false, .bool false, .bool false, .bool false, .bool false] 58)) w3.heap.size 82 [.int .i8 (rf 0), .int .i8 (rf 1), .int .i8 (rf 2), .int .i8 (rf 3)] ∧ SObj ((((w3.alloc (.cells #[.int .i8 (rf 0), .int .i8 (rf 1), .int .i8 (rf 2), .int .i8 (rf 3)] 82)).alloc (.cells #[.int .i8 (md 0), .int .i8 (md 1), .int .i8 (md 2), .int .i8 (md 3)] 82)).alloc (.cells #[.int .u8 0, .int .u8 0, .int .u8 0, .int .u8 0, .int .u8 0, .int .u8 0, .int .u8 0, .int .u8 0, .int .u8 0, .int .u8 0, .int .u8 0, .int .u8 0, .int .u8 0, .int .u8 0, .int .u8 0, .int .u8 0, .int .u8 0, .int .u8 0, .int .u8 0, .int .u8 0, .int .u8 0, .int .u8 0, .int .u8 0, .int .u8 0] 119)).alloc (.cells #[.bool false, .bool false, .bool false, .bool false, .bool false, .bool false, .bool false, .bool false] 58)) (w3.heap.size + 1) 82 [.int .i8 (md 0), .int .i8 (md 1), .int .i8 (md 2), .int .i8 (md 3)] ∧ SObj ((((w3.alloc (.cells #[.int .i8 (rf 0), .int .i8 (rf 1), .int .i8 (rf 2), .int .i8 (rf 3)] 82)).alloc (.cells #[.int .i8 (md 0), .int .i8 (md 1), .int .i8 (md 2), .int .i8 (md 3)] 82)).alloc (.cells #[.int .u8 0, .int .u8 0, .int .u8 0, .int .u8 0, .int .u8 0, .int .u8 0, .int .u8 0, .int .u8 0, .int .u8 0, .int .u8 0, .int .u8 0, .int .u8 0, .int .u8 0, .int .u8 0, .int .u8 0, .int .u8 0, .int .u8 0, .int .u8 0, .int .u8 0, .int .u8 0, .int .u8 0, .int .u8 0, .int .u8 0, .int .u8 0] 119)).alloc (.cells #[.bool false, .bool false, .bool false, .bool false, .bool false, .bool false, .bool false, .bool false] 58)) (w3.heap.size + 1 + 1) 119 [.int .u8 0, .int .u8 0, .int .u8 0, .int .u8 0, .int .u8 0, .int .u8 0, .int .u8 0, .int .u8 0, .int .u8 0, .int .u8 0, .int .u8 0, .int .u8 0, .int .u8 0, .int .u8 0, .int .u8 0, .int .u8 0, .int .u8 0, .int .u8 0, .int .u8 0, .int .u8 0, .int .u8 0, .int .u8 0, .int .u8 0, .int .u8 0] ∧ SObj ((((w3.alloc (.cells #[.int .i8 (rf 0), .int .i8 (rf 1), .int .i8 (rf 2), .int .i8 (rf 3)] 82)).alloc (.cells #[.int .i8 (md 0), .int .i8 (md 1), .int .i8 (md 2), .int .i8 (md 3)] 82)).alloc (.cells #[.int .u8 0, .int .u8 0, .int .u8 0, .int .u8 0, .int .u8 0, .int .u8 0, .int .u8 0, .int .u8 0, .int .u8 0, .int .u8 0, .int .u8 0, .int .u8 0, .int .u8 0, .int .u8 0, .int .u8 0, .int .u8 0, .int .u8 0, .int .u8 0, .int .u8 0, .int .u8 0, .int .u8 0, .int .u8 0, .int .u8 0, .int .u8 0] 119)).alloc (.cells #[.bool false, .bool false, .bool false, .bool false, .bool false, .bool false, .bool false, .bool false] 58)) (w3.heap.size + 1 + 1 + 1) 58 [.bool false, .bool false, .bool false, .bool false, .bool false, .bool false, .bool false, .bool false] ∧ SObj ((((w3.alloc (.cells #[.int .i8 (rf 0), .int .i8 (rf 1), .int .i8 (rf 2), .int .i8 (rf 3)] 82)).alloc (.cells #[.int .i8 (md 0), .int .i8 (md 1), .int .i8 (md 2), .int .i8 (md 3)] 82)).alloc (.cells #[.int .u8 0, .int .u8 0, .int .u8 0, .int .u8 0, .int .u8 0, .int .u8 0, .int .u8 0, .int .u8 0, .int .u8 0, .int .u8 0, .int .u8 0, .int .u8 0, .int .u8 0, .int .u8 0, .int .u8 0, .int .u8 0, .int .u8 0, .int .u8 0, .int .u8 0, .int .u8 0, .int .u8 0, .int .u8 0, .int .u8 0, .int .u8 0] 119)).alloc (.cells #[.bool false, .bool false, .bool false, .bool false, .bool false, .bool false, .bool false, .bool false] 58)) B 60 z60 ∧ Below w.heap.size w ((((w3.alloc (.cells #[.int .i8 (rf 0), .int .i8 (rf 1), .int .i8 (rf 2), .int .i8 (rf 3)] 82)).alloc (.cells #[.int .i8 (md 0), .int .i8 (md 1), .int .i8 (md 2), .int .i8 (md 3)] 82)).alloc (.cells #[.int .u8 0, .int .u8 0, .int .u8 0, .int .u8 0, .int .u8 0, .int .u8 0, .int .u8 0, .int .u8 0, .int .u8 0, .int .u8 0, .int .u8 0, .int .u8 0, .int .u8 0, .int .u8 0, .int .u8 0, .int .u8 0, .int .u8 0, .int .u8 0, .int .u8 0, .int .u8 0, .int .u8 0, .int .u8 0, .int .u8 0, .int .u8 0] 119)).alloc (.cells #[.bool false, .bool false, .bool false, .bool false, .bool false, .bool false, .bool false, .bool false] 58))) := Lib.hid (by
    have a1 := ((((obj_new w3 82 [.int .i8 (rf 0), .int .i8 (rf 1), .int .i8 (rf 2), .int .i8 (rf 3)]).alloc (.cells #[.int .i8 (md 0), .int .i8 (md 1), .int .i8 (md 2), .int .i8 (md 3)] 82)).alloc (.cells #[.int .u8 0, .int .u8 0, .int .u8 0, .int .u8 0, .int .u8 0, .int .u8 0, .int .u8 0, .int .u8 0, .int .u8 0, .int .u8 0, .int .u8 0, .int .u8 0, .int .u8 0, .int .u8 0, .int .u8 0, .int .u8 0, .int .u8 0, .int .u8 0, .int .u8 0, .int .u8 0, .int .u8 0, .int .u8 0, .int .u8 0, .int .u8 0] 119))).alloc (.cells #[.bool false, .bool false, .bool false, .bool false, .bool false, .bool false, .bool false, .bool false] 58)
    have a2 := ((obj_new (w3.alloc (.cells #[.int .i8 (rf 0), .int .i8 (rf 1), .int .i8 (rf 2), .int .i8 (rf 3)] 82)) 82 [.int .i8 (md 0), .int .i8 (md 1), .int .i8 (md 2), .int .i8 (md 3)]).alloc (.cells #[.int .u8 0, .int .u8 0, .int .u8 0, .int .u8 0, .int .u8 0, .int .u8 0, .int .u8 0, .int .u8 0, .int .u8 0, .int .u8 0, .int .u8 0, .int .u8 0, .int .u8 0, .int .u8 0, .int .u8 0, .int .u8 0, .int .u8 0, .int .u8 0, .int .u8 0, .int .u8 0, .int .u8 0, .int .u8 0, .int .u8 0, .int .u8 0] 119)).alloc (.cells #[.bool false, .bool false, .bool false, .bool false, .bool false, .bool false, .bool false, .bool false] 58)
    have a3 := (obj_new ((w3.alloc (.cells #[.int .i8 (rf 0), .int .i8 (rf 1), .int .i8 (rf 2), .int .i8 (rf 3)] 82)).alloc (.cells #[.int .i8 (md 0), .int .i8 (md 1), .int .i8 (md 2), .int .i8 (md 3)] 82)) 119 [.int .u8 0, .int .u8 0, .int .u8 0, .int .u8 0, .int .u8 0, .int .u8 0, .int .u8 0, .int .u8 0, .int .u8 0, .int .u8 0, .int .u8 0, .int .u8 0, .int .u8 0, .int .u8 0, .int .u8 0, .int .u8 0, .int .u8 0, .int .u8 0, .int .u8 0, .int .u8 0, .int .u8 0, .int .u8 0, .int .u8 0, .int .u8 0]).alloc (.cells #[.bool false, .bool false, .bool false, .bool false, .bool false, .bool false, .bool false, .bool false] 58)
    have a4 := obj_new (((w3.alloc (.cells #[.int .i8 (rf 0), .int .i8 (rf 1), .int .i8 (rf 2), .int .i8 (rf 3)] 82)).alloc (.cells #[.int .i8 (md 0), .int .i8 (md 1), .int .i8 (md 2), .int .i8 (md 3)] 82)).alloc (.cells #[.int .u8 0, .int .u8 0, .int .u8 0, .int .u8 0, .int .u8 0, .int .u8 0, .int .u8 0, .int .u8 0, .int .u8 0, .int .u8 0, .int .u8 0, .int .u8 0, .int .u8 0, .int .u8 0, .int .u8 0, .int .u8 0, .int .u8 0, .int .u8 0, .int .u8 0, .int .u8 0, .int .u8 0, .int .u8 0, .int .u8 0, .int .u8 0] 119)) 58 [.bool false, .bool false, .bool false, .bool false, .bool false, .bool false, .bool false, .bool false]
    refine ⟨by simpa using a1, by simpa using a2, by simpa using a3, by simpa using a4, (((H3.out.1.alloc _).alloc _).alloc _).alloc _, ?_⟩
    have hs := H3.out.2.1.size
    exact (((H3.out.2.1.alloc hs _).alloc (by simp; omega) _).alloc (by simp; omega) _).alloc (by simp; omega) _)
  have HT4 : Hid (World.there ((((w3.alloc (.cells #[.int .i8 (rf 0), .int .i8 (rf 1), .int .i8 (rf 2), .int .i8 (rf 3)] 82)).alloc (.cells #[.int .i8 (md 0), .int .i8 (md 1), .int .i8 (md 2), .int .i8 (md 3)] 82)).alloc (.cells #[.int .u8 0, .int .u8 0, .int .u8 0, .int .u8 0, .int .u8 0, .int .u8 0, .int .u8 0, .int .u8 0, .int .u8 0, .int .u8 0, .int .u8 0, .int .u8 0, .int .u8 0, .int .u8 0, .int .u8 0, .int .u8 0, .int .u8 0, .int .u8 0, .int .u8 0, .int .u8 0, .int .u8 0, .int .u8 0, .int .u8 0, .int .u8 0] 119)).alloc (.cells #[.bool false, .bool false, .bool false, .bool false, .bool false, .bool false, .bool false, .bool false] 58)) (w3.heap.size + 1 + 1) 0 cs4.toArray.size) := Lib.hid (there_of_obj HW.out.2.2.1 (by simp [HN.out.1]))
  have HT5 : Hid (World.there (((((w3.alloc (.cells #[.int .i8 (rf 0), .int .i8 (rf 1), .int .i8 (rf 2), .int .i8 (rf 3)] 82)).alloc (.cells #[.int .i8 (md 0), .int .i8 (md 1), .int .i8 (md 2), .int .i8 (md 3)] 82)).alloc (.cells #[.int .u8 0, .int .u8 0, .int .u8 0, .int .u8 0, .int .u8 0, .int .u8 0, .int .u8 0, .int .u8 0, .int .u8 0, .int .u8 0, .int .u8 0, .int .u8 0, .int .u8 0, .int .u8 0, .int .u8 0, .int .u8 0, .int .u8 0, .int .u8 0, .int .u8 0, .int .u8 0, .int .u8 0, .int .u8 0, .int .u8 0, .int .u8 0] 119)).alloc (.cells #[.bool false, .bool false, .bool false, .bool false, .bool false, .bool false, .bool false, .bool false] 58)).setCells (w3.heap.size + 1 + 1) 0 cs4.toArray.toList) (w3.heap.size + 1 + 1 + 1) 0 cs5.toArray.size) := Lib.hid (World.there_setCells (there_of_obj HW.out.2.2.2.1 (by simp [HN.out.2])) _ _ _)
  have H6 : Hid (SObj ((((((w3.alloc (.cells #[.int .i8 (rf 0), .int .i8 (rf 1), .int .i8 (rf 2), .int .i8 (rf 3)] 82)).alloc (.cells #[.int .i8 (md 0), .int .i8 (md 1), .int .i8 (md 2), .int .i8 (md 3)] 82)).alloc (.cells #[.int .u8 0, .int .u8 0, .int .u8 0, .int .u8 0, .int .u8 0, .int .u8 0, .int .u8 0, .int .u8 0, .int .u8 0, .int .u8 0, .int .u8 0, .int .u8 0, .int .u8 0, .int .u8 0, .int .u8 0, .int .u8 0, .int .u8 0, .int .u8 0, .int .u8 0, .int .u8 0, .int .u8 0, .int .u8 0, .int .u8 0, .int .u8 0] 119)).alloc (.cells #[.bool false, .bool false, .bool false, .bool false, .bool false, .bool false, .bool false, .bool false] 58)).setCells (w3.heap.size + 1 + 1) 0 cs4.toArray.toList).setCells (w3.heap.size + 1 + 1 + 1) 0 cs5.toArray.toList) w3.heap.size 82 [.int .i8 (rf 0), .int .i8 (rf 1), .int .i8 (rf 2), .int .i8 (rf 3)] ∧ SObj ((((((w3.alloc (.cells #[.int .i8 (rf 0), .int .i8 (rf 1), .int .i8 (rf 2), .int .i8 (rf 3)] 82)).alloc (.cells #[.int .i8 (md 0), .int .i8 (md 1), .int .i8 (md 2), .int .i8 (md 3)] 82)).alloc (.cells #[.int .u8 0, .int .u8 0, .int .u8 0, .int .u8 0, .int .u8 0, .int .u8 0, .int .u8 0, .int .u8 0, .int .u8 0, .int .u8 0, .int .u8 0, .int .u8 0, .int .u8 0, .int .u8 0, .int .u8 0, .int .u8 0, .int .u8 0, .int .u8 0, .int .u8 0, .int .u8 0, .int .u8 0, .int .u8 0, .int .u8 0, .int .u8 0] 119)).alloc (.cells #[.bool false, .bool false, .bool false, .bool false, .bool false, .bool false, .bool false, .bool false] 58)).setCells (w3.heap.size + 1 + 1) 0 cs4.toArray.toList).setCells (w3.heap.size + 1 + 1 + 1) 0 cs5.toArray.toList) (w3.heap.size + 1) 82 [.int .i8 (md 0), .int .i8 (md 1), .int .i8 (md 2), .int .i8 (md 3)] ∧ Fix (w3.heap.size + 1 + 1) cs4 ((((((w3.alloc (.cells #[.int .i8 (rf 0), .int .i8 (rf 1), .int .i8 (rf 2), .int .i8 (rf 3)] 82)).alloc (.cells #[.int .i8 (md 0), .int .i8 (md 1), .int .i8 (md 2), .int .i8 (md 3)] 82)).alloc (.cells #[.int .u8 0, .int .u8 0, .int .u8 0, .int .u8 0, .int .u8 0, .int .u8 0, .int .u8 0, .int .u8 0, .int .u8 0, .int .u8 0, .int .u8 0, .int .u8 0, .int .u8 0, .int .u8 0, .int .u8 0, .int .u8 0, .int .u8 0, .int .u8 0, .int .u8 0, .int .u8 0, .int .u8 0, .int .u8 0, .int .u8 0, .int .u8 0] 119)).alloc (.cells #[.bool false, .bool false, .bool false, .bool false, .bool false, .bool false, .bool false, .bool false] 58)).setCells (w3.heap.size + 1 + 1) 0 cs4.toArray.toList).setCells (w3.heap.size + 1 + 1 + 1) 0 cs5.toArray.toList) ∧ Fix (w3.heap.size + 1 + 1 + 1) cs5 ((((((w3.alloc (.cells #[.int .i8 (rf 0), .int .i8 (rf 1), .int .i8 (rf 2), .int .i8 (rf 3)] 82)).alloc (.cells #[.int .i8 (md 0), .int .i8 (md 1), .int .i8 (md 2), .int .i8 (md 3)] 82)).alloc (.cells #[.int .u8 0, .int .u8 0, .int .u8 0, .int .u8 0, .int .u8 0, .int .u8 0, .int .u8 0, .int .u8 0, .int .u8 0, .int .u8 0, .int .u8 0, .int .u8 0, .int .u8 0, .int .u8 0, .int .u8 0, .int .u8 0, .int .u8 0, .int .u8 0, .int .u8 0, .int .u8 0, .int .u8 0, .int .u8 0, .int .u8 0, .int .u8 0] 119)).alloc (.cells #[.bool false, .bool false, .bool false, .bool false, .bool false, .bool false, .bool false, .bool false] 58)).setCells (w3.heap.size + 1 + 1) 0 cs4.toArray.toList).setCells (w3.heap.size + 1 + 1 + 1) 0 cs5.toArray.toList) ∧ SObj ((((((w3.alloc (.cells #[.int .i8 (rf 0), .int .i8 (rf 1), .int .i8 (rf 2), .int .i8 (rf 3)] 82)).alloc (.cells #[.int .i8 (md 0), .int .i8 (md 1), .int .i8 (md 2), .int .i8 (md 3)] 82)).alloc (.cells #[.int .u8 0, .int .u8 0, .int .u8 0, .int .u8 0, .int .u8 0, .int .u8 0, .int .u8 0, .int .u8 0, .int .u8 0, .int .u8 0, .int .u8 0, .int .u8 0, .int .u8 0, .int .u8 0, .int .u8 0, .int .u8 0, .int .u8 0, .int .u8 0, .int .u8 0, .int .u8 0, .int .u8 0, .int .u8 0, .int .u8 0, .int .u8 0] 119)).alloc (.cells #[.bool false, .bool false, .bool false, .bool false, .bool false, .bool false, .bool false, .bool false] 58)).setCells (w3.heap.size + 1 + 1) 0 cs4.toArray.toList).setCells (w3.heap.size + 1 + 1 + 1) 0 cs5.toArray.toList) B 60 z60 ∧ Below w.heap.size w ((((((w3.alloc (.cells #[.int .i8 (rf 0), .int .i8 (rf 1), .int .i8 (rf 2), .int .i8 (rf 3)] 82)).alloc (.cells #[.int .i8 (md 0), .int .i8 (md 1), .int .i8 (md 2), .int .i8 (md 3)] 82)).alloc (.cells #[.int .u8 0, .int .u8 0, .int .u8 0, .int .u8 0, .int .u8 0, .int .u8 0, .int .u8 0, .int .u8 0, .int .u8 0, .int .u8 0, .int .u8 0, .int .u8 0, .int .u8 0, .int .u8 0, .int .u8 0, .int .u8 0, .int .u8 0, .int .u8 0, .int .u8 0, .int .u8 0, .int .u8 0, .int .u8 0, .int .u8 0, .int .u8 0] 119)).alloc (.cells #[.bool false, .bool false, .bool false, .bool false, .bool false, .bool false, .bool false, .bool false] 58)).setCells (w3.heap.size + 1 + 1) 0 cs4.toArray.toList).setCells (w3.heap.size + 1 + 1 + 1) 0 cs5.toArray.toList)) := Lib.hid (by
    obtain ⟨b1, b2, b3, b4, b5, b6⟩ := HW.out
    have hB := H3.out.2.2
    have hs := H3.out.2.1.size
    refine ⟨SObj.farCells (by omega) _ _ (SObj.farCells (by omega) _ _ b1), SObj.farCells (by omega) _ _ (SObj.farCells (by omega) _ _ b2), Fix.farCells (by omega) _ _ ?_, ?_, SObj.farCells (by omega) _ _ (SObj.farCells (by omega) _ _ b5), below_cells2 (by omega) _ _ _ (below_cells2 (by omega) _ _ _ b6)⟩
    · have := fix_cells (cs := cs4.toArray.toList) (by have := HT4.out; simpa using this)
      simpa using this
    · have := fix_cells (cs := cs5.toArray.toList) (by have := HT5.out; simpa using this)
      simpa using this)
  clear HW
  go_upto_region 2 with (first | (refine wpList_store_mid rfl 119 (.tmp 15) (.tmp 36) rfl (w3.heap.size + 1 + 1) 0 cs4.toArray rfl rfl HT4.out HI4.out HO4.out ?_) | (refine wpList_store_mid rfl 58 (.tmp 16) (.tmp 37) rfl (w3.heap.size + 1 + 1 + 1) 0 cs5.toArray rfl rfl HT5.out HI5.out HO5.out ?_))
  generalize World.setCells _ _ _ _ = w6 at H6 ⊢
  (try simp only [Act.put])
  obtain ⟨E, hE⟩ : ∃ E, E = w3.heap.size := ⟨_, rfl⟩
  rw [← hE] at H6 ⊢
  have HE := Lib.hid (And.intro hE (show B < E by have := H3.out.2.2; omega)); clear hE
  have HS : Below w6.heap.size w6 w6 := Below.refl _ _
  have k0 : w6.cell? ⟨E, 0, none⟩ = some (.int .i8 (rf 0)) := H6.out.1.cell 0 rfl
  have k1 : w6.cell? ⟨E, 1, none⟩ = some (.int .i8 (rf 1)) := H6.out.1.cell 1 rfl
  have k2 : w6.cell? ⟨E, 2, none⟩ = some (.int .i8 (rf 2)) := H6.out.1.cell 2 rfl
  have k3 : w6.cell? ⟨E, 3, none⟩ = some (.int .i8 (rf 3)) := H6.out.1.cell 3 rfl
  have k4 : w6.cell? ⟨E + 1, 0, none⟩ = some (.int .i8 (md 0)) := H6.out.2.1.cell 0 rfl
  have k5 : w6.cell? ⟨E + 1, 1, none⟩ = some (.int .i8 (md 1)) := H6.out.2.1.cell 1 rfl
  have k6 : w6.cell? ⟨E + 1, 2, none⟩ = some (.int .i8 (md 2)) := H6.out.2.1.cell 2 rfl
  have k7 : w6.cell? ⟨E + 1, 3, none⟩ = some (.int .i8 (md 3)) := H6.out.2.1.cell 3 rfl
  have k8 : w6.cell? ⟨E + 1 + 1 + 1, 0, none⟩ = some (.bool (inn 0)) := fix_cell H6.out.2.2.2.1 0 (by rw [HCS.out.2]; rfl)
  have k9 : w6.cell? ⟨E + 1 + 1 + 1, 1, none⟩ = some (.bool (inn 1)) := fix_cell H6.out.2.2.2.1 1 (by rw [HCS.out.2]; rfl)
  have k10 : w6.cell? ⟨E + 1 + 1 + 1, 2, none⟩ = some (.bool (inn 2)) := fix_cell H6.out.2.2.2.1 2 (by rw [HCS.out.2]; rfl)
  have k11 : w6.cell? ⟨E + 1 + 1 + 1, 3, none⟩ = some (.bool (inn 3)) := fix_cell H6.out.2.2.2.1 3 (by rw [HCS.out.2]; rfl)
  have k12 : w6.cell? ⟨E + 1 + 1 + 1, 4, none⟩ = some (.bool (inn 4)) := fix_cell H6.out.2.2.2.1 4 (by rw [HCS.out.2]; rfl)
  have k13 : w6.cell? ⟨E + 1 + 1 + 1, 5, none⟩ = some (.bool (inn 5)) := fix_cell H6.out.2.2.2.1 5 (by rw [HCS.out.2]; rfl)
  have k14 : w6.cell? ⟨E + 1 + 1 + 1, 6, none⟩ = some (.bool (inn 6)) := fix_cell H6.out.2.2.2.1 6 (by rw [HCS.out.2]; rfl)
  have k15 : w6.cell? ⟨E + 1 + 1 + 1, 7, none⟩ = some (.bool (inn 7)) := fix_cell H6.out.2.2.2.1 7 (by rw [HCS.out.2]; rfl)
  have H4 : Hid (∀ f : Nat → Int, (f = rf ∨ f = md) → ∀ w', Calls Tryd.prog 44 #[.agg #[.int .i8 (f 0), .int .i8 (f 1), .int .i8 (f 2), .int .i8 (f 3)]] w' fun e w'' => e = .returned (.agg #[.int .i64 (f 0), .int .i64 (f 1), .int .i64 (f 2), .int .i64 (f 3)]) ∧ Below w'.heap.size w' w'') := Lib.hid (fun f hf w' => by
    rcases hf with rfl | rfl
    · exact four_any _ w' (fun i => by have := HBD.out.1 i; omega)
    · exact four_any _ w' (fun i => by have := HBD.out.2 i; omega))
  have kd0 : Hid (w6.drew.cell? ⟨E, 0, none⟩ = some (.int .i8 (rf 0))) := Lib.hid k0
  have kd4 : Hid (w6.drew.cell? ⟨E + 1, 0, none⟩ = some (.int .i8 (md 0))) := Lib.hid k4
  have kd8 : Hid (w6.drew.cell? ⟨E + 1 + 1 + 1, 0, none⟩ = some (.bool (inn 0))) := Lib.hid k8
  have e0 : IntKind.i64.wrap lv = lv := IntWalk.i64_in _ (by omega)
  have e1 : IntKind.i64.wrap sh = sh := IntWalk.i64_in _ (by omega)
  go_cut [18] from 39 (fun s18 wc => ∃ h : Nat, s18 = .pointer (some ⟨h, 0, none⟩) ∧ Hid (SObj wc h 60 (filO sm lv sh dl rf md inn eof) ∧ Below w.heap.size w wc ∧ w6.heap.size ≤ h ∧ Below w6.heap.size w6 wc))
  case first =>
    refine wp_region_noPanic ?_
    refine wp_region_held_drew (S := fun w' => Below w6.heap.size w6 w') rfl HS.drew (fun hS0 => ?_)
    (try dsimp only at hS0)
    generalize World.drew w6 = wk0 at hS0 ⊢
    refine wpAnyH_take (i := 0) (oi := ⟨some 39, _, _, _, _, _⟩) (v := ?_) rfl (by kernel_rfl) (by kernel_rfl) (by kernel_rfl) (fun _ _ _ h => h) (Or.inl ⟨by rfl, ?_⟩) (by assumption) ?_
    rotate_left
    · intro w hSw; (try dsimp only at hSw);  go_simp; (try with_reducible rfl)
    (try simp only [Act.put, List.setIfInBounds_toArray, List.set_cons_zero, List.set_cons_succ])
    refine wpAnyH_take (i := 1) (oi := ⟨some 40, _, _, _, _, _⟩) (v := ?_) rfl (by kernel_rfl) (by kernel_rfl) (by kernel_rfl) (fun _ _ _ h => h) (Or.inl ⟨by rfl, ?_⟩) (by assumption) ?_
    rotate_left
    · intro w hSw; (try dsimp only at hSw);  go_simp; (try with_reducible rfl)
    (try simp only [Act.put, List.setIfInBounds_toArray, List.set_cons_zero, List.set_cons_succ])
    refine wpAnyH_take (i := 2) (oi := ⟨some 41, _, _, _, _, _⟩) (v := ?_) rfl (by kernel_rfl) (by kernel_rfl) (by kernel_rfl) (fun _ _ _ h => h) (Or.inl ⟨by rfl, ?_⟩) (by assumption) ?_
    rotate_left
    · intro w hSw; (try dsimp only at hSw);  go_simp; (try with_reducible rfl)
    (try simp only [Act.put, List.setIfInBounds_toArray, List.set_cons_zero, List.set_cons_succ])
    refine wpAnyH_take (i := 3) (oi := ⟨some 42, _, _, _, _, _⟩) (v := ?_) rfl (by kernel_rfl) (by kernel_rfl) (by kernel_rfl) (fun _ _ _ h => h) (Or.inl ⟨by rfl, ?_⟩) (by assumption) ?_
    rotate_left
    · intro w hSw; (try dsimp only at hSw);  go_simp; (try with_reducible rfl)
    (try simp only [Act.put, List.setIfInBounds_toArray, List.set_cons_zero, List.set_cons_succ])
    refine wpAnyH_take (i := 4) (oi := ⟨some 43, _, _, _, _, _⟩) (v := ?_) rfl (by kernel_rfl) (by kernel_rfl) (by kernel_rfl) (fun _ _ _ h => h) (Or.inl ⟨by rfl, ?_⟩) (by assumption) ?_
    rotate_left
    · intro w hSw; (try dsimp only at hSw);  go_simp; (try with_reducible rfl)
    (try simp only [Act.put, List.setIfInBounds_toArray, List.set_cons_zero, List.set_cons_succ])
    refine wpAnyH_take (i := 5) (oi := ⟨some 44, _, _, _, _, _⟩) (v := ?_) rfl (by kernel_rfl) (by kernel_rfl) (by kernel_rfl) (fun _ _ _ h => h) (Or.inl ⟨by rfl, ?_⟩) (by assumption) ?_
    rotate_left
    · intro w hSw; (try dsimp only at hSw);  go_simp; (try with_reducible rfl)
    (try simp only [Act.put, List.setIfInBounds_toArray, List.set_cons_zero, List.set_cons_succ])
    refine wpAnyH_take (i := 6) (oi := ⟨some 45, _, _, _, _, _⟩) (v := ?_) rfl (by kernel_rfl) (by kernel_rfl) (by kernel_rfl) (fun _ _ _ h => h) (Or.inl ⟨by rfl, ?_⟩) (by assumption) ?_
    rotate_left
    · intro w hSw; (try dsimp only at hSw); have _q0 := below_cell hSw k0; have _q1 := below_cell hSw k1; have _q2 := below_cell hSw k2; have _q3 := below_cell hSw k3; go_simp; (try with_reducible rfl)
    (try simp only [Act.put, List.setIfInBounds_toArray, List.set_cons_zero, List.set_cons_succ])
    refine wpAnyH_take (i := 8) (oi := ⟨some 47, _, _, _, _, _⟩) (v := ?_) rfl (by kernel_rfl) (by kernel_rfl) (by kernel_rfl) (fun _ _ _ h => h) (Or.inl ⟨by rfl, ?_⟩) (by assumption) ?_
    rotate_left
    · intro w hSw; (try dsimp only at hSw); have _q4 := below_cell hSw k4; have _q5 := below_cell hSw k5; have _q6 := below_cell hSw k6; have _q7 := below_cell hSw k7; go_simp; (try with_reducible rfl)
    (try simp only [Act.put, List.setIfInBounds_toArray, List.set_cons_zero, List.set_cons_succ])
    refine wpAnyH_take (i := 10) (oi := ⟨some 49, _, _, _, _, _⟩) (v := ?_) rfl (by kernel_rfl) (by kernel_rfl) (by kernel_rfl) (fun _ _ _ h => h) (Or.inl ⟨by rfl, ?_⟩) (by assumption) ?_
    rotate_left
    · intro w hSw; (try dsimp only at hSw); have _q8 := below_cell hSw k8; have _q9 := below_cell hSw k9; have _q10 := below_cell hSw k10; have _q11 := below_cell hSw k11; have _q12 := below_cell hSw k12; have _q13 := below_cell hSw k13; have _q14 := below_cell hSw k14; have _q15 := below_cell hSw k15; go_simp; (try with_reducible rfl)
    (try simp only [Act.put, List.setIfInBounds_toArray, List.set_cons_zero, List.set_cons_succ])
    refine wpAnyH_take (i := 11) (oi := ⟨some 50, _, _, _, _, _⟩) (v := ?_) rfl (by kernel_rfl) (by kernel_rfl) (by kernel_rfl) (fun _ _ _ h => h) (Or.inl ⟨by rfl, ?_⟩) (by assumption) ?_
    rotate_left
    · intro w hSw; (try dsimp only at hSw);  go_simp; (try with_reducible rfl)
    (try simp only [Act.put, List.setIfInBounds_toArray, List.set_cons_zero, List.set_cons_succ])
    refine wpAnyH_ready (rs := [7, 13]) (by kernel_rfl) (by simp) ?_
    refine AllReadyH.cons (o := ⟨some 46, _, _, _, _, none⟩) rfl (fun K hK => ?_) ?_
    ·
      go_simp
      go_at_call 44; refine (H4.out rf (by first | exact .inl rfl | exact .inr rfl) _).mono ?_; rintro e wk1 ⟨rfl, hb⟩
      refine hK.out _ _ (below_step hb hS0 (Nat.le_refl _)) (fun hS1 => ?_)
      clear hK K
      (try simp only [Act.put, List.setIfInBounds_toArray, List.set_cons_zero, List.set_cons_succ])
      refine wpAnyH_ready (rs := [9, 13]) (by kernel_rfl) (by simp) ?_
      refine AllReadyH.cons (o := ⟨some 48, _, _, _, _, none⟩) rfl (fun K hK => ?_) ?_
      ·
        go_simp
        go_at_call 44; refine (H4.out md (by first | exact .inl rfl | exact .inr rfl) _).mono ?_; rintro e wk2 ⟨rfl, hb⟩
        refine hK.out _ _ (below_step hb hS1 (Nat.le_refl _)) (fun hS2 => ?_)
        clear hK K
        (try simp only [Act.put, List.setIfInBounds_toArray, List.set_cons_zero, List.set_cons_succ])
        refine wpAnyH_take (i := 12) (oi := ⟨some 51, _, _, _, _, _⟩) (v := ?_) rfl (by kernel_rfl) (by kernel_rfl) (by kernel_rfl) (fun _ _ _ h => h) (Or.inl ⟨by rfl, ?_⟩) (by assumption) ?_
        rotate_left
        · intro w hSw; (try dsimp only at hSw);  go_simp; (try with_reducible rfl)
        (try simp only [Act.put, List.setIfInBounds_toArray, List.set_cons_zero, List.set_cons_succ])
        refine wpAnyH_ready (rs := [13]) (by kernel_rfl) (by simp) ?_
        refine AllReadyH.cons (o := ⟨some 18, .alloc 60, _, _, _, none⟩) rfl (fun K hK => ?_) AllReadyH.nil
        go_simp
        obtain ⟨h, hh⟩ : ∃ h, h = wk2.heap.size := ⟨_, rfl⟩
        have hO : Hid (SObj (World.alloc wk2 (.cells z60.toArray 60)) h 60 z60 ∧ Below w6.heap.size w6 (World.alloc wk2 (.cells z60.toArray 60))) := Lib.hid (by rw [hh]; exact ⟨obj_new _ _ _, hS2.alloc hS2.size _⟩)
        have hle : w6.heap.size ≤ h := by rw [hh]; exact hS2.size
        rw [← hh]
        clear hh
        unfold z60 at hO
        generalize World.alloc _ _ = wk3 at hO ⊢
        refine hK.out _ _ hO.out.2 (fun hS3 => ?_)
        have hO := Lib.hid hO.out.1
        clear hK K
        (try simp only [Act.put, List.setIfInBounds_toArray, List.set_cons_zero, List.set_cons_succ])
        refine wpAnyH_ready (rs := [14]) (by kernel_rfl) (by simp) ?_
        refine AllReadyH.cons (o := ⟨none, .store 60 (.tmp 18) (.tmp 51), _, _, _, none⟩) rfl (fun K hK => ?_) AllReadyH.nil
        rw [if_pos (by kernel_rfl)]
        refine wp_store_mid 60 (.tmp 18) (.tmp 51) rfl h 0 (filO sm lv sh dl rf md inn eof).toArray (by kernel_rfl) (by kernel_rfl) (there_of_obj hO.out (Nat.le_refl _)) info60 (filO_all _ _ _ _ _ _ _ _) ?_
        have hP : Hid (SObj (World.setCells wk3 h 0 (filO sm lv sh dl rf md inn eof)) h 60 (filO sm lv sh dl rf md inn eof) ∧ Below w6.heap.size w6 (World.setCells wk3 h 0 (filO sm lv sh dl rf md inn eof))) := Lib.hid ⟨filO_obj hO.out sm lv sh dl rf md inn eof, below_cells2 hle (filO sm lv sh dl rf md inn eof) 0 _ hS3⟩
        rw [List.toList_toArray]
        generalize World.setCells _ _ _ _ = wk4 at hP ⊢
        refine hK.out _ _ hP.out.2 (fun hS4 => ?_)
        clear hK K
        (try simp only [Act.put, List.setIfInBounds_toArray, List.set_cons_zero, List.set_cons_succ])
        refine wpAnyH_done (by kernel_rfl) ?_ _
        refine NoPanic.normal ?_
        go_wp2
        go_meet
        exact ⟨h, rfl, Lib.hid ⟨hP.out.1, H6.out.2.2.2.2.2.trans (hP.out.2.mono H6.out.2.2.2.2.2.size), hle, hP.out.2⟩⟩
      refine AllReadyH.cons (o := ⟨some 18, .alloc 60, _, _, _, none⟩) rfl (fun K hK => ?_) AllReadyH.nil
      go_simp
      obtain ⟨h, hh⟩ : ∃ h, h = wk1.heap.size := ⟨_, rfl⟩
      have hO : Hid (SObj (World.alloc wk1 (.cells z60.toArray 60)) h 60 z60 ∧ Below w6.heap.size w6 (World.alloc wk1 (.cells z60.toArray 60))) := Lib.hid (by rw [hh]; exact ⟨obj_new _ _ _, hS1.alloc hS1.size _⟩)
      have hle : w6.heap.size ≤ h := by rw [hh]; exact hS1.size
      rw [← hh]
      clear hh
      unfold z60 at hO
      generalize World.alloc _ _ = wk2 at hO ⊢
      refine hK.out _ _ hO.out.2 (fun hS2 => ?_)
      have hO := Lib.hid hO.out.1
      clear hK K
      (try simp only [Act.put, List.setIfInBounds_toArray, List.set_cons_zero, List.set_cons_succ])
      refine wpAnyH_ready (rs := [9]) (by kernel_rfl) (by simp) ?_
      refine AllReadyH.cons (o := ⟨some 48, _, _, _, _, none⟩) rfl (fun K hK => ?_) AllReadyH.nil
      go_simp
      go_at_call 44; refine (H4.out md (by first | exact .inl rfl | exact .inr rfl) _).mono ?_; rintro e wk3 ⟨rfl, hb⟩
      have hO := Lib.hid (hO.out.below hb hO.out.lt)
      refine hK.out _ _ (below_step hb hS2 (Nat.le_refl _)) (fun hS3 => ?_)
      clear hK K
      (try simp only [Act.put, List.setIfInBounds_toArray, List.set_cons_zero, List.set_cons_succ])
      refine wpAnyH_take (i := 12) (oi := ⟨some 51, _, _, _, _, _⟩) (v := ?_) rfl (by kernel_rfl) (by kernel_rfl) (by kernel_rfl) (fun _ _ _ h => h) (Or.inl ⟨by rfl, ?_⟩) (by assumption) ?_
      rotate_left
      · intro w hSw; (try dsimp only at hSw);  go_simp; (try with_reducible rfl)
      (try simp only [Act.put, List.setIfInBounds_toArray, List.set_cons_zero, List.set_cons_succ])
      refine wpAnyH_ready (rs := [14]) (by kernel_rfl) (by simp) ?_
      refine AllReadyH.cons (o := ⟨none, .store 60 (.tmp 18) (.tmp 51), _, _, _, none⟩) rfl (fun K hK => ?_) AllReadyH.nil
      rw [if_pos (by kernel_rfl)]
      refine wp_store_mid 60 (.tmp 18) (.tmp 51) rfl h 0 (filO sm lv sh dl rf md inn eof).toArray (by kernel_rfl) (by kernel_rfl) (there_of_obj hO.out (Nat.le_refl _)) info60 (filO_all _ _ _ _ _ _ _ _) ?_
      have hP : Hid (SObj (World.setCells wk3 h 0 (filO sm lv sh dl rf md inn eof)) h 60 (filO sm lv sh dl rf md inn eof) ∧ Below w6.heap.size w6 (World.setCells wk3 h 0 (filO sm lv sh dl rf md inn eof))) := Lib.hid ⟨filO_obj hO.out sm lv sh dl rf md inn eof, below_cells2 hle (filO sm lv sh dl rf md inn eof) 0 _ hS3⟩
      rw [List.toList_toArray]
      generalize World.setCells _ _ _ _ = wk4 at hP ⊢
      refine hK.out _ _ hP.out.2 (fun hS4 => ?_)
      clear hK K
      (try simp only [Act.put, List.setIfInBounds_toArray, List.set_cons_zero, List.set_cons_succ])
      refine wpAnyH_done (by kernel_rfl) ?_ _
      refine NoPanic.normal ?_
      go_wp2
      go_meet
      exact ⟨h, rfl, Lib.hid ⟨hP.out.1, H6.out.2.2.2.2.2.trans (hP.out.2.mono H6.out.2.2.2.2.2.size), hle, hP.out.2⟩⟩
    refine AllReadyH.cons (o := ⟨some 18, .alloc 60, _, _, _, none⟩) rfl (fun K hK => ?_) AllReadyH.nil
    go_simp
    obtain ⟨h, hh⟩ : ∃ h, h = wk0.heap.size := ⟨_, rfl⟩
    have hO : Hid (SObj (World.alloc wk0 (.cells z60.toArray 60)) h 60 z60 ∧ Below w6.heap.size w6 (World.alloc wk0 (.cells z60.toArray 60))) := Lib.hid (by rw [hh]; exact ⟨obj_new _ _ _, hS0.alloc hS0.size _⟩)
    have hle : w6.heap.size ≤ h := by rw [hh]; exact hS0.size
    rw [← hh]
    clear hh
    unfold z60 at hO
    generalize World.alloc _ _ = wk1 at hO ⊢
    refine hK.out _ _ hO.out.2 (fun hS1 => ?_)
    have hO := Lib.hid hO.out.1
    clear hK K
    (try simp only [Act.put, List.setIfInBounds_toArray, List.set_cons_zero, List.set_cons_succ])
    refine wpAnyH_ready (rs := [7]) (by kernel_rfl) (by simp) ?_
    refine AllReadyH.cons (o := ⟨some 46, _, _, _, _, none⟩) rfl (fun K hK => ?_) AllReadyH.nil
    go_simp
    go_at_call 44; refine (H4.out rf (by first | exact .inl rfl | exact .inr rfl) _).mono ?_; rintro e wk2 ⟨rfl, hb⟩
    have hO := Lib.hid (hO.out.below hb hO.out.lt)
    refine hK.out _ _ (below_step hb hS1 (Nat.le_refl _)) (fun hS2 => ?_)
    clear hK K
    (try simp only [Act.put, List.setIfInBounds_toArray, List.set_cons_zero, List.set_cons_succ])
    refine wpAnyH_ready (rs := [9]) (by kernel_rfl) (by simp) ?_
    refine AllReadyH.cons (o := ⟨some 48, _, _, _, _, none⟩) rfl (fun K hK => ?_) AllReadyH.nil
    go_simp
    go_at_call 44; refine (H4.out md (by first | exact .inl rfl | exact .inr rfl) _).mono ?_; rintro e wk3 ⟨rfl, hb⟩
    have hO := Lib.hid (hO.out.below hb hO.out.lt)
    refine hK.out _ _ (below_step hb hS2 (Nat.le_refl _)) (fun hS3 => ?_)
    clear hK K
    (try simp only [Act.put, List.setIfInBounds_toArray, List.set_cons_zero, List.set_cons_succ])
    refine wpAnyH_take (i := 12) (oi := ⟨some 51, _, _, _, _, _⟩) (v := ?_) rfl (by kernel_rfl) (by kernel_rfl) (by kernel_rfl) (fun _ _ _ h => h) (Or.inl ⟨by rfl, ?_⟩) (by assumption) ?_
    rotate_left
    · intro w hSw; (try dsimp only at hSw);  go_simp; (try with_reducible rfl)
    (try simp only [Act.put, List.setIfInBounds_toArray, List.set_cons_zero, List.set_cons_succ])
    refine wpAnyH_ready (rs := [14]) (by kernel_rfl) (by simp) ?_
    refine AllReadyH.cons (o := ⟨none, .store 60 (.tmp 18) (.tmp 51), _, _, _, none⟩) rfl (fun K hK => ?_) AllReadyH.nil
    rw [if_pos (by kernel_rfl)]
    refine wp_store_mid 60 (.tmp 18) (.tmp 51) rfl h 0 (filO sm lv sh dl rf md inn eof).toArray (by kernel_rfl) (by kernel_rfl) (there_of_obj hO.out (Nat.le_refl _)) info60 (filO_all _ _ _ _ _ _ _ _) ?_
    have hP : Hid (SObj (World.setCells wk3 h 0 (filO sm lv sh dl rf md inn eof)) h 60 (filO sm lv sh dl rf md inn eof) ∧ Below w6.heap.size w6 (World.setCells wk3 h 0 (filO sm lv sh dl rf md inn eof))) := Lib.hid ⟨filO_obj hO.out sm lv sh dl rf md inn eof, below_cells2 hle (filO sm lv sh dl rf md inn eof) 0 _ hS3⟩
    rw [List.toList_toArray]
    generalize World.setCells _ _ _ _ = wk4 at hP ⊢
    refine hK.out _ _ hP.out.2 (fun hS4 => ?_)
    clear hK K
    (try simp only [Act.put, List.setIfInBounds_toArray, List.set_cons_zero, List.set_cons_succ])
    refine wpAnyH_done (by kernel_rfl) ?_ _
    refine NoPanic.normal ?_
    go_wp2
    go_meet
    exact ⟨h, rfl, Lib.hid ⟨hP.out.1, H6.out.2.2.2.2.2.trans (hP.out.2.mono H6.out.2.2.2.2.2.size), hle, hP.out.2⟩⟩
  case rest =>
    rcases hcut with ⟨h, rfl, HC⟩
    clear H4 kd0 kd4 kd8 k0 k1 k2 k3 k4 k5 k6 k7 k8 k9 k10 k11 k12 k13 k14 k15 e0 e1 HO4 HO5 HT4 HT5 HI5
    have HQB : Hid (∀ m k, 0 ≤ Q m k ∧ Q m k ≤ 255) := Lib.hid (fun m k => by
      obtain ⟨_, _, e3, _, _, _, eQ, _⟩ := HV.out
      rw [eQ]
      exact QF_bd _ _ _ _ (by rw [← e3]; exact bs0) (by rw [← e3]; exact bs1) m k)
    obtain ⟨Z, hZ⟩ : ∃ Z, Z = filO sm lv sh dl rf md inn eof := ⟨_, rfl⟩
    have HZ : Hid (Z = filO sm lv sh dl rf md inn eof ∧ ∀ j, j < 24 → Z[12 + j]? = some (.int .i64 0)) := Lib.hid ⟨hZ, by rw [hZ]; exact filO_mid _ _ _ _ _ _ _ _⟩
    clear hZ
    have HL : Hid (FilM w B h Z Q (2 * 0) wc) := Lib.hid (by
      obtain ⟨a1, a2, a3, a4⟩ := HC.out
      have hB := H6.out.2.2.2.2.1
      have hl := hB.lt
      have hs := H6.out.2.2.2.2.2.size
      refine ⟨(fd_of_obj a1).congr (fun i => ?_), hB.below a4 hl, a2, by omega, by omega⟩
      rw [HZ.out.1]; exact dF_zero _ Q i)
    have HR : Hid (wc.rangeAt (E + 1 + 1) 0 cs4) := Lib.hid (fun j x hx => by
      have hx6 := H6.out.2.2.1.1 j x hx
      rw [HC.out.2.2.2.cell (p := ⟨E + 1 + 1, 0 + j, none⟩) (World.block_lt_of_cell? w6 _ hx6)]
      exact hx6)
    have HX : Hid (∀ p : Nat, p < 4 → ∀ w : World, (Instr.index 119 (.agg cs4.toArray) (.int .i64 p)).run Tryd.prog w = .ok (.agg (p6 Q p).toArray) w) := Lib.hid (by rw [HCS.out.1]; exact idx119 Q)
    have HI4L : Hid ((Tryd.prog.info? 119).map (·.size) = some cs4.length) := Lib.hid (by rw [info119, HN.out.1])
    clear HI4
    go_wp2_with (first | (refine wpList_load_mid rfl 119 (.tmp 15) rfl (E + 1 + 1) 0 rfl cs4 _ HR.out Tryd.underlying119 rfl HI4L.out ?_))
    go_loopw [53] (fun i wr => ∃ p : Nat, p ≤ 4 ∧ i = .int .i64 p ∧ Hid (FilM w B h Z Q (2 * p) wr)) (fun i _ => 4 - (intOf i).toNat)
    case atStart => exact ⟨0, by omega, rfl, HL⟩
    case round =>
      obtain ⟨p, hp, rfl, hR⟩ := hrel
      by_cases hlt : p < 4
      · have hix := HX.out p hlt
        have HX7 : Hid (∀ q : Nat, q < 2 → ∀ w : World, (Instr.index 118 (.agg (p6 Q p).toArray) (.int .i64 q)).run Tryd.prog w = .ok (.agg #[.int .u8 (Q (2 * p + q) 0), .int .u8 (Q (2 * p + q) 1), .int .u8 (Q (2 * p + q) 2)]) w) := Lib.hid (idx118 Q p)
        obtain ⟨wo, hwo⟩ : ∃ wo : World, wo = wr := ⟨_, rfl⟩
        subst hwo
        unfold p6 at hix HX7
        have HA8 := Lib.hid (hR.out.alloc (.cells #[.int .u8 (Q (2 * p) 0), .int .u8 (Q (2 * p) 1), .int .u8 (Q (2 * p) 2), .int .u8 (Q (2 * p + 1) 0), .int .u8 (Q (2 * p + 1) 1), .int .u8 (Q (2 * p + 1) 2)] 118))
        have hd : decide ((p : Int) < 4) = true := decide_eq_true (by omega)
        go_wp2
        go_loopw [58] (fun i wr => ∃ q : Nat, q ≤ 2 ∧ i = .int .i64 q ∧ Hid (FilM w B h Z Q (2 * p + q) wr)) (fun i _ => 2 - (intOf i).toNat)
        case atStart => exact ⟨0, by omega, rfl, HA8⟩
        case round =>
          obtain ⟨q, hq, rfl, hQR⟩ := hrel
          by_cases hq2 : q < 2
          · have hix7 := HX7.out q hq2
            clear hix
            go_upto_region 9 with fail
            clear hd hix7
            have ip0 : (0 : Int) ≤ (p : Int) := by omega
            have ip1 : (p : Int) < 4 := by omega
            have iq0 : (0 : Int) ≤ (q : Int) := by omega
            have iq1 : (q : Int) < 2 := by omega
            obtain ⟨m, hm⟩ : ∃ m, m = 2 * p + q := ⟨_, rfl⟩
            rw [← hm]
            have H7 : Hid (SObj (wr.alloc (.cells #[.int .u8 (Q m 0), .int .u8 (Q m 1), .int .u8 (Q m 2)] 83)) wr.heap.size 83 [.int .u8 (Q m 0), .int .u8 (Q m 1), .int .u8 (Q m 2)] ∧ FilM w B h Z Q m (wr.alloc (.cells #[.int .u8 (Q m 0), .int .u8 (Q m 1), .int .u8 (Q m 2)] 83)) ∧ h < wr.heap.size) := Lib.hid ⟨obj_new _ _ _, by rw [hm]; exact hQR.out.alloc _, hQR.out.1.1⟩
            have HM := Lib.hid (And.intro hm (show m < 8 by omega)); clear hm
            generalize World.alloc _ _ = w7 at H7 ⊢
            obtain ⟨g, hg⟩ : ∃ g, g = wr.heap.size := ⟨_, rfl⟩
            rw [← hg] at H7 ⊢
            clear hg
            have c0 : w7.cell? ⟨g, 0, none⟩ = some (.int .u8 (Q m 0)) := H7.out.1.cell 0 rfl
            have c1 : w7.cell? ⟨g, 1, none⟩ = some (.int .u8 (Q m 1)) := H7.out.1.cell 1 rfl
            have c2 : w7.cell? ⟨g, 2, none⟩ = some (.int .u8 (Q m 2)) := H7.out.1.cell 2 rfl
            have n0 : h ≠ g := by have := H7.out.2.2; omega
            have e0 : IntKind.i64.wrap (Q m 0) = Q m 0 := IntWalk.i64_in _ (by have := HQB.out m 0; omega)
            have e1 : IntKind.i64.wrap (Q m 1) = Q m 1 := IntWalk.i64_in _ (by have := HQB.out m 1; omega)
            have e2 : IntKind.i64.wrap (Q m 2) = Q m 2 := IntWalk.i64_in _ (by have := HQB.out m 2; omega)
            have HD : Hid (∀ k, k < 3 → w7.cell? ⟨h, 12 + p * 6 + q * 3 + k, none⟩ = some (.int .i64 0)) := Lib.hid (fun k hk => by
              have := HM.out
              rw [H7.out.2.1.1.2.1]
              unfold dF
              rw [if_neg (by omega), show 12 + p * 6 + q * 3 + k = 12 + (p * 6 + q * 3 + k) by omega]
              exact HZ.out.2 _ (by omega))
            have d0 : w7.cell? ⟨h, 12 + p * 6 + q * 3, none⟩ = some (.int .i64 0) := HD.out 0 (by omega)
            have d1 : w7.cell? ⟨h, 12 + p * 6 + q * 3 + 1, none⟩ = some (.int .i64 0) := HD.out 1 (by omega)
            have d2 : w7.cell? ⟨h, 12 + p * 6 + q * 3 + 2, none⟩ = some (.int .i64 0) := HD.out 2 (by omega)
            have f0 : w7.frozen? ⟨h, 12 + p * 6 + q * 3, none⟩ = false := H7.out.2.1.1.2.2 _
            have f1 : w7.frozen? ⟨h, 12 + p * 6 + q * 3 + 1, none⟩ = false := H7.out.2.1.1.2.2 _
            have f2 : w7.frozen? ⟨h, 12 + p * 6 + q * 3 + 2, none⟩ = false := H7.out.2.1.1.2.2 _
            have HN7 : Hid (FilM w B h Z Q (2 * p + (q + 1)) (((w7.setCell ⟨h, 12 + p * 6 + q * 3, none⟩ (.int .i64 (Q m 0))).setCell ⟨h, 12 + p * 6 + q * 3 + 1, none⟩ (.int .i64 (Q m 1))).setCell ⟨h, 12 + p * 6 + q * 3 + 2, none⟩ (.int .i64 (Q m 2))).drew) := Lib.hid (by
              obtain ⟨em, e8⟩ := HM.out
              obtain ⟨x1, x2, x3, x4, x5⟩ := H7.out.2.1
              have y1 := dF_step HZ.out.2 x1 (o := 12 + p * 6 + q * 3) (by omega) e8
              rw [show 2 * p + (q + 1) = m + 1 by omega]
              exact ⟨y1.grown (grownBy_drewN _ 1 none) (by intro c; cases c), (((x2.far ⟨h, _, none⟩ x5 _).far ⟨h, _, none⟩ x5 _).far ⟨h, _, none⟩ x5 _).drew, Below.drew (((x3.setCell (p := ⟨h, _, none⟩) x4 _).setCell (p := ⟨h, _, none⟩) x4 _).setCell (p := ⟨h, _, none⟩) x4 _), x4, x5⟩)
            go_region_held3 (fun w' => w'.cell? ⟨g, 0, none⟩ = some (.int .u8 (Q m 0)) ∧ w'.cell? ⟨g, 1, none⟩ = some (.int .u8 (Q m 1)) ∧ w'.cell? ⟨g, 2, none⟩ = some (.int .u8 (Q m 2))) (first | (simp only [drew_cell, far_cell n0]; exact ⟨c0, c1, c2⟩)) (first | fail)
            all_goals
              go_wp2
              go_roundw
              case rel => first | exact ⟨q + 1, by omega, by go_num, HN7⟩ | ((repeat apply Exists.intro); refine ⟨?_, rfl⟩; exact ⟨q + 1, by omega, by go_num, HN7⟩)
              case measure => simp [intOf]; omega
          · obtain rfl : q = 2 := by omega
            go_wp2
            go_roundw
            case rel => exact ⟨p + 1, by omega, by go_num, hQR⟩
            case measure => simp [intOf]; omega
      · obtain rfl : p = 4 := by omega
        obtain ⟨cs, hcs⟩ : ∃ cs, cs = filR sm lv sh dl rf md Q inn eof := ⟨_, rfl⟩
        have HF : Hid (Fix h cs wr ∧ cs.length = 45 ∧ cs.toArray.all (·.oneCell') = true) := Lib.hid (by
          rw [hcs]
          exact ⟨fix_of_fd (hR.out.1.congr (fun i => by rw [HZ.out.1])) (filR_at sm lv sh dl rf md Q inn eof), rfl, filR_all _ _ _ _ _ _ _ _ _⟩)
        have HI6 : Hid ((Tryd.prog.info? 60).map (·.size) = some cs.length) := Lib.hid (by rw [info60, HF.out.2.1])
        have HI7 : Hid ((Tryd.prog.info? 60).map (·.size) = some cs.toArray.size) := Lib.hid (by rw [info60]; simp [HF.out.2.1])
        have HO6 := Lib.hid HF.out.2.2
        have HT6 : Hid (World.there wr B 0 cs.toArray.size) := Lib.hid (there_of_obj hR.out.2.1 (by simp [HF.out.2.1, z60]))
        have HCR := Lib.hid hcs
        clear hcs
        have HP : Hid (SObj (wr.setCells B 0 cs) B 60 cs ∧ Below w.heap.size w (wr.setCells B 0 cs)) := Lib.hid (by
          exact ⟨SObj.putAll cs z60 [] 0 wr hR.out.2.1 (by rw [HF.out.2.1]; rfl) rfl, below_cells2 (by have := HB.out; omega) cs 0 wr hR.out.2.2.1⟩)
        go_wp2_with (first | (refine wpList_load_mid rfl 60 (.tmp 18) rfl h 0 rfl cs _ HF.out.1.1 Tryd.underlying60 rfl HI6.out ?_) | (refine wpList_store_mid rfl 60 (.tmp 8) (.tmp 79) rfl B 0 cs.toArray rfl rfl HT6.out HI7.out HO6.out ?_))
        (try rw [List.toList_toArray])
        generalize World.setCells _ _ _ _ = wf at HP ⊢
        refine bodyPost_ret (v := .agg cs.toArray) ?_ rfl ⟨?_, HP.out.2⟩
        · exact results_one Tryd.results26 rfl (run_loadVar_mid (P := Tryd.prog) wf B 0 60 cs _ (fun j v hv => by rw [Nat.zero_add]; exact HP.out.1.cell j hv) Tryd.underlying60 rfl HI6.out)
        · obtain ⟨e1, e2, e3, e4, e5, e6, e7, e8, e9⟩ := HV.out
          rw [HCR.out, e1, e2, e3, e4, e5, e6, e7, e8, e9]
end Go.Proofs.YthmkmemocjnleaaDoor
