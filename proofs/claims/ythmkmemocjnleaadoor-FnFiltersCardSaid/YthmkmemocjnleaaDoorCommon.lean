/- Words and lemmas that the walks share: Base, Mem, Obj, Bits, BoolR, BoolP, BoolL, BoolA, BoolW, BoolW2, Bools, Lit (merged by a program). No condition is added. -/
import Derived.Test.YthmkmemocjnleaaDoorRows
import Derived.WalkKit
import Derived.IntWalk
import Derived.Lib.Hide
import Derived.Deep.Draws
import Derived.Laws.BitsAllLaws
import Derived.RegionTactic
import Derived.BigRegion
import Derived.BigQuiet
import Derived.Deep.QuietTactic
import Derived.WalkSmall
import Derived.Outline
import Derived.Deep.RegionLaw
import Derived.Deep.AppendLies
import Derived.Deep.LoopGhost
namespace Go.Proofs.YthmkmemocjnleaaDoor
open Go.RowKit

/-- What is known of a slice of integers that came in: it is nil, or it leads to a row of 'cap' cells. -/
def IsRow (k : IntKind) (w : World) (a : Option Addr) (len cap : Nat) (zs : List Int) : Prop :=
  (a = none ∧ len = 0 ∧ cap = 0 ∧ zs = []) ∨
  ∃ x, a = some x ∧ len ≤ cap ∧ cap ≤ maxLen ∧ zs.length = cap ∧ (∀ i, i < zs.length → w.cell? (x.add i) = some (.int k (zs.getD i 0))) ∧ ∀ n ∈ zs, (Lit.int k n).wf = true

theorem ret_int {k : IntKind} {a b : Int} (h : a = b) : Ending.returned (.int k a) = .returned (.int k b) := by rw [h]
theorem u8_bounds {n : Int} (h : (Lit.int .u8 n).wf = true) : 0 ≤ n ∧ n ≤ 255 := by simp [Lit.wf, IntKind.min, IntKind.max, IntKind.signed, IntKind.bits] at h; omega
end Go.Proofs.YthmkmemocjnleaaDoor
namespace Go.Proofs.YthmkmemocjnleaaDoor
open Go.RowKit

/-- The n cells of block g from place o on are the integers f 0, f 1, .. of kind k. -/
def Row (k : IntKind) (w : World) (g o n : Nat) (f : Nat → Int) : Prop := ∀ i, i < n → w.cell? ⟨g, o + i, none⟩ = some (.int k (f i))
/-- .. and may be written. -/
def Wr (w : World) (g o n : Nat) : Prop := ∀ i, i < n → w.frozen? ⟨g, o + i, none⟩ = false
/-- What a slice with address a and length n holds. -/
def Arg (k : IntKind) (w : World) (a : Option Addr) (n : Nat) (f : Nat → Int) : Prop := 0 < n → ∃ g o, a = some ⟨g, o, none⟩ ∧ g < w.heap.size ∧ Row k w g o n f
/-- The same of a slice in a block of the call's own (from B on), which may be written. -/
def Own (k : IntKind) (B : Nat) (w : World) (a : Option Addr) (n : Nat) (f : Nat → Int) : Prop :=
  0 < n → ∃ g, a = some ⟨g, 0, none⟩ ∧ B ≤ g ∧ g < w.heap.size ∧ Row k w g 0 n f ∧ Wr w g 0 n
def upd (f : Nat → Int) (i : Nat) (v : Int) : Nat → Int := fun j => if j = i then v else f j

theorem upd_same (f : Nat → Int) (i : Nat) (v : Int) : upd f i v i = v := by simp [upd]
theorem upd_other (f : Nat → Int) (i j : Nat) (v : Int) (h : j ≠ i) : upd f i v j = f j := by simp [upd, h]

theorem Own.arg {k : IntKind} {B : Nat} {w : World} {a : Option Addr} {n : Nat} {f : Nat → Int} (h : Own k B w a n f) : Arg k w a n f := fun hn => by
  obtain ⟨g, h1, _, h2, h3, _⟩ := h hn
  exact ⟨g, 0, h1, h2, h3⟩
theorem Row.below {k : IntKind} {w w' : World} {g o n B : Nat} {f : Nat → Int} (h : Row k w g o n f) (hb : Below B w w') (hg : g < B) : Row k w' g o n f := fun i hi => by
  rw [hb.cell (p := ⟨g, o + i, none⟩) hg]; exact h i hi
theorem Wr.below {w w' : World} {g o n B : Nat} (h : Wr w g o n) (hb : Below B w w') (hg : g < B) : Wr w' g o n := fun i hi => by
  rw [hb.frozen (p := ⟨g, o + i, none⟩) hg]; exact h i hi
theorem Arg.below {k : IntKind} {w w' : World} {a : Option Addr} {n : Nat} {f : Nat → Int} (h : Arg k w a n f) (hb : Below w.heap.size w w') : Arg k w' a n f := fun hn => by
  obtain ⟨g, o, h1, h2, h3⟩ := h hn
  exact ⟨g, o, h1, Nat.lt_of_lt_of_le h2 hb.size, h3.below hb h2⟩
theorem Own.below {k : IntKind} {B : Nat} {w w' : World} {a : Option Addr} {n : Nat} {f : Nat → Int} (h : Own k B w a n f) (hb : Below w.heap.size w w') : Own k B w' a n f := fun hn => by
  obtain ⟨g, h1, h2, h3, h4, h5⟩ := h hn
  exact ⟨g, h1, h2, Nat.lt_of_lt_of_le h3 hb.size, h4.below hb h3, h5.below hb h3⟩
theorem Own.mono {k : IntKind} {B B' : Nat} {w : World} {a : Option Addr} {n : Nat} {f : Nat → Int} (h : Own k B w a n f) (hb : B' ≤ B) : Own k B' w a n f := fun hn => by
  obtain ⟨g, h1, h2, h3⟩ := h hn
  exact ⟨g, h1, Nat.le_trans hb h2, h3⟩
theorem Row.congr {k : IntKind} {w : World} {g o n : Nat} {f f' : Nat → Int} (h : Row k w g o n f) (he : ∀ i, i < n → f i = f' i) : Row k w g o n f' := fun i hi => by rw [← he i hi]; exact h i hi
theorem Arg.congr {k : IntKind} {w : World} {a : Option Addr} {n : Nat} {f f' : Nat → Int} (h : Arg k w a n f) (he : ∀ i, i < n → f i = f' i) : Arg k w a n f' := fun hn => by
  obtain ⟨g, o, h1, h2, h3⟩ := h hn
  exact ⟨g, o, h1, h2, h3.congr he⟩
theorem Own.congr {k : IntKind} {B : Nat} {w : World} {a : Option Addr} {n : Nat} {f f' : Nat → Int} (h : Own k B w a n f) (he : ∀ i, i < n → f i = f' i) : Own k B w a n f' := fun hn => by
  obtain ⟨g, h1, h2, h3, h4, h5⟩ := h hn
  exact ⟨g, h1, h2, h3, h4.congr he, h5⟩

theorem Row.drew {k : IntKind} {w : World} {g o n : Nat} {f : Nat → Int} (h : Row k w g o n f) (d : Nat) : Row k (w.drewN d) g o n f := h
theorem Wr.drew {w : World} {g o n : Nat} (h : Wr w g o n) (d : Nat) : Wr (w.drewN d) g o n := h
theorem Row.set {k : IntKind} {w : World} {g o n : Nat} {f : Nat → Int} (h : Row k w g o n f) (i : Nat) (hi : i < n) (v : Int) : Row k (w.setCell ⟨g, o + i, none⟩ (.int k v)) g o n (upd f i v) := fun j hj => by
  by_cases e : j = i
  · subst e; rw [World.cell?_setCell_same _ _ _ (h j hj), upd_same]
  · rw [World.cell?_setCell_other _ _ _ _ (by intro h; injection h with _ h2 _; omega), upd_other _ _ _ _ e]; exact h j hj
theorem Wr.set {w : World} {g o n : Nat} (h : Wr w g o n) (p : Addr) (v : Value) : Wr (w.setCell p v) g o n := fun j hj => by rw [World.frozen?_setCell]; exact h j hj
theorem Row.far {k : IntKind} {w : World} {g o n : Nat} {f : Nat → Int} (h : Row k w g o n f) (p : Addr) (hp : p.block ≠ g) (v : Value) : Row k (w.setCell p v) g o n f := fun j hj => by
  rw [World.cell?_setCell_other _ _ _ _ (by intro h; rw [h] at hp; exact hp rfl)]; exact h j hj
theorem size_setCell (w : World) (p : Addr) (v : Value) : (w.setCell p v).heap.size = w.heap.size := by simp [World.setCell]

/-- From 'grownBy': a row of another block. -/
theorem Row.grown {k : IntKind} {w w' : World} {g o n : Nat} {f : Nat → Int} {row : Option Nat} (h : Row k w g o n f) (hg : w.grownBy w' row) (hlt : g < w.heap.size) (hne : some g ≠ row) : Row k w' g o n f := fun i hi => by
  rw [World.cell?_of_block (w := w) (hg.block g hlt hne)]; exact h i hi
theorem Arg.grown {k : IntKind} {w w' : World} {a : Option Addr} {n : Nat} {f : Nat → Int} {row : Option Nat} (h : Arg k w a n f) (hg : w.grownBy w' row) (hne : ∀ r, row = some r → ∀ p, a = some p → p.block ≠ r) : Arg k w' a n f := fun hn => by
  obtain ⟨g, o, rfl, h2, h3⟩ := h hn
  refine ⟨g, o, rfl, Nat.lt_of_lt_of_le h2 hg.size, h3.grown hg h2 ?_⟩
  intro e
  exact hne g e.symm _ rfl rfl
theorem below_of_grown {w w' : World} {row : Option Nat} (hg : w.grownBy w' row) {B : Nat} (hB : B ≤ w.heap.size) (hr : ∀ r, row = some r → B ≤ r) : Below B w w' := (Below.refl B w).grown hg hB hr
theorem grown_of_below {w w' : World} (h : Below w.heap.size w w') (row : Option Nat) : w.grownBy w' row := ⟨h.os, h.tape, h.output, h.size, fun k hk _ => h.block k hk⟩
theorem grownBy.trans {a b c : World} {row : Option Nat} (h : a.grownBy b row) (h' : b.grownBy c row) : a.grownBy c row :=
  ⟨h'.os.trans h.os, h'.tape.trans h.tape, h'.output.trans h.output, Nat.le_trans h.size h'.size, fun k hk hne => (h'.block k (Nat.lt_of_lt_of_le hk h.size) hne).trans (h.block k hk hne)⟩
theorem grownBy_setCell (w : World) (p : Addr) (v : Value) : w.grownBy (w.setCell p v) (some p.block) :=
  ⟨rfl, rfl, rfl, by simp [World.setCell], fun k _ hne => Below.heap_setCell _ _ _ _ (fun e => hne (by rw [e]))⟩
theorem grownBy_drewN (w : World) (d : Nat) (row : Option Nat) : w.grownBy (w.drewN d) row := ⟨rfl, rfl, rfl, Nat.le_refl _, fun _ _ _ => rfl⟩

/-- From the law on append to the words here. -/
theorem own_of_ownsRow {k : IntKind} {w : World} {B : Nat} {e : TypeId} {v : Value} {n : Nat} {l : List Int} (h : w.ownsRow B e 1 v n (l.map (Value.int k))) :
    ∃ a c, v = .slice a n c ∧ n = l.length ∧ Own k B w a n (fun i => l.getD i 0) := by
  have hl : n = l.length := by have := h.1; simp at this; omega
  rcases h.2 with ⟨rfl, h0⟩ | ⟨g, cap, cur, rfl, hb, hg, _⟩
  · subst h0; exact ⟨none, 0, rfl, hl, fun h => absurd h (by omega)⟩
  · refine ⟨_, cap, rfl, hl, fun _ => ⟨g, rfl, hb, (Array.getElem?_eq_some_iff.1 hg).1, fun i hi => ?_, fun i hi => ?_⟩⟩
    · rw [Nat.zero_add, h.cellAt i (by omega)]
      simp [List.getD, show i < l.length by omega]
    · exact h.frozenAt _

theorem IsRow.arg {k : IntKind} {w : World} {a : Option Addr} {len cap : Nat} {zs : List Int} (h : IsRow k w a len cap zs) :
    Arg k w a len (fun i => zs.getD i 0) ∧ len ≤ cap ∧ cap ≤ maxLen ∧ (a = none → len = 0) ∧ ∀ i, (Lit.int k (zs.getD i 0)).wf = true := by
  have h00 : (Lit.int k 0).wf = true := by cases k <;> decide
  rcases h with ⟨rfl, rfl, rfl, rfl⟩ | ⟨x, rfl, hl, hm, hz, hcell, hwf⟩
  · exact ⟨fun h => absurd h (by omega), Nat.le_refl _, Nat.zero_le _, fun _ => rfl, fun i => by simpa using h00⟩
  · refine ⟨fun hn => ?_, hl, hm, fun h => (by cases h), fun i => ?_⟩
    · obtain ⟨b, off, spot⟩ := x
      have hc := hcell 0 (by omega)
      have hspot : spot = none := by simpa [Addr.add] using World.cell?_spot hc
      subst hspot
      refine ⟨b, off, rfl, World.block_lt_of_cell? w _ hc, fun i hi => ?_⟩
      have := hcell i (by omega)
      rwa [Addr.add_lit] at this
    · by_cases hi : i < zs.length
      · have e : zs.getD i 0 = zs[i] := by simp [List.getD, hi]
        rw [e]; exact hwf _ (List.getElem_mem hi)
      · have e : zs.getD i 0 = 0 := by simp [List.getD, show ¬ i < zs.length from hi]
        rw [e]; exact h00

/-- The cells of a slice, as a list: what the laws on append ask for. -/
def cellsOf (k : IntKind) (n : Nat) (f : Nat → Int) : List Value := (List.range n).map fun i => Value.int k (f i)
theorem cellsOf_length (k : IntKind) (n : Nat) (f : Nat → Int) : (cellsOf k n f).length = n * 1 := by simp [cellsOf]
theorem cellsOf_one (k : IntKind) (n : Nat) (f : Nat → Int) : ∀ u ∈ cellsOf k n f, u.oneCell' = true := by
  intro u hu
  obtain ⟨_, _, rfl⟩ := List.mem_map.1 hu
  rfl
theorem Arg.news {k : IntKind} {w : World} {ad : Addr} {n : Nat} {f : Nat → Int} (h : Arg k w (some ad) n f) : ∀ j u, (cellsOf k n f)[j]? = some u → w.cell? (ad.add j) = some u := by
  intro j u hj
  have hjn : j < n := by have := (List.getElem?_eq_some_iff.1 hj).1; simpa [cellsOf] using this
  obtain ⟨g, o, e, _, hr⟩ := h (by omega)
  obtain rfl := Option.some.inj e
  have hu : u = .int k (f j) := by simp [cellsOf, hjn] at hj; exact hj.symm
  rw [Addr.add_lit, hu]
  exact hr j hjn
theorem Arg.alloc {k : IntKind} {w : World} {a : Option Addr} {n : Nat} {f : Nat → Int} (h : Arg k w a n f) (ob : Obj) : Arg k (w.alloc ob) a n f := h.below ((Below.refl _ _).alloc (Nat.le_refl _) ob)
theorem Arg.drewN {k : IntKind} {w : World} {a : Option Addr} {n : Nat} {f : Nat → Int} (h : Arg k w a n f) (d : Nat) : Arg k (w.drewN d) a n f := h
/-- A row that was built by append, read as an Own. -/
theorem own_of_cells {k : IntKind} {w : World} {B : Nat} {e : TypeId} {v : Value} {n : Nat} {f : Nat → Int} (h : w.ownsRow B e 1 v n (cellsOf k n f)) :
    ∃ a c, v = .slice a n c ∧ n ≤ c ∧ Own k B w a n f := by
  have e1 : cellsOf k n f = ((List.range n).map f).map (Value.int k) := by simp [cellsOf]
  have h0 := h
  rw [e1] at h
  obtain ⟨a, c, rfl, _, ho⟩ := own_of_ownsRow h
  refine ⟨a, c, rfl, ?_, ho.congr (fun i hi => by simp [List.getD, hi])⟩
  rcases h0.2 with ⟨h1, h2⟩ | ⟨_, _, _, h1, _, _, h2, _⟩
  · simp at h1; omega
  · simp at h1; omega
theorem cellsOf_succ (k : IntKind) (n : Nat) (f : Nat → Int) : cellsOf k (n + 1) f = cellsOf k n f ++ [.int k (f n)] := by simp [cellsOf, List.range_succ]
end Go.Proofs.YthmkmemocjnleaaDoor
namespace Go.Proofs.YthmkmemocjnleaaDoor
open Go.RowKit

/-- Block g is a variable of type T whose cells are vs, not frozen. -/
def SObj (w : World) (g : Nat) (T : TypeId) (vs : List Value) : Prop := w.heap[g]? = some (.cells vs.toArray T (0, 0))

theorem SObj.cell {w : World} {g : Nat} {T : TypeId} {vs : List Value} (h : SObj w g T vs) (j : Nat) {v : Value} (hv : vs[j]? = some v) : w.cell? ⟨g, j, none⟩ = some v := by
  rw [cell_of_row w g j _ T (0, 0) h]; simpa using hv
theorem SObj.free {w : World} {g : Nat} {T : TypeId} {vs : List Value} (h : SObj w g T vs) (j : Nat) : w.frozen? ⟨g, j, none⟩ = false := frozen_of_row w g j _ T h
theorem SObj.lt {w : World} {g : Nat} {T : TypeId} {vs : List Value} (h : SObj w g T vs) : g < w.heap.size := (Array.getElem?_eq_some_iff.1 h).1
theorem SObj.set {w : World} {g : Nat} {T : TypeId} {vs : List Value} (h : SObj w g T vs) (j : Nat) (v : Value) : SObj (w.setCell ⟨g, j, none⟩ v) g T (vs.set j v) := by
  have := heap_setCell_same w g j _ T v h
  unfold SObj
  rw [this]; simp
theorem SObj.far {w : World} {g : Nat} {T : TypeId} {vs : List Value} (h : SObj w g T vs) (p : Addr) (hp : g ≠ p.block) (v : Value) : SObj (w.setCell p v) g T vs := by
  unfold SObj; rw [heap_setCell_other w p g v hp]; exact h
theorem SObj.alloc {w : World} {g : Nat} {T : TypeId} {vs : List Value} (h : SObj w g T vs) (o : Go.Obj) : SObj (w.alloc o) g T vs := by
  unfold SObj; rw [Below.heap_alloc w o g h.lt]; exact h
theorem SObj.drew {w : World} {g : Nat} {T : TypeId} {vs : List Value} (h : SObj w g T vs) : SObj w.drew g T vs := h
theorem SObj.drewN {w : World} {g : Nat} {T : TypeId} {vs : List Value} (h : SObj w g T vs) (d : Nat) : SObj (w.drewN d) g T vs := h
theorem SObj.below {w w' : World} {g B : Nat} {T : TypeId} {vs : List Value} (h : SObj w g T vs) (hb : Below B w w') (hg : g < B) : SObj w' g T vs := by
  unfold SObj; rw [hb.block g hg]; exact h
theorem SObj.grown {w w' : World} {g : Nat} {T : TypeId} {vs : List Value} {row : Option Nat} (h : SObj w g T vs) (hg : w.grownBy w' row) (hne : some g ≠ row) : SObj w' g T vs := by
  unfold SObj; rw [hg.block g h.lt hne]; exact h
theorem obj_new (w : World) (T : TypeId) (vs : List Value) : SObj (w.alloc (.cells vs.toArray T)) w.heap.size T vs := heap_alloc_new w _
end Go.Proofs.YthmkmemocjnleaaDoor
namespace Go.Proofs.YthmkmemocjnleaaDoor
open Go.RowKit

theorem ofInt_i64 (a : Nat) (ha : a < 18446744073709551616) : (BitVec.ofInt 64 (a : Int)).toNat = a := by
  rw [BitVec.ofInt_natCast, BitVec.toNat_ofNat]; exact Nat.mod_eq_of_lt (by omega)
theorem i64_and_nat (a b : Nat) (ha : a < 9223372036854775808) (hb : b < 9223372036854775808) : bits .and .i64 (a : Int) (b : Int) = ((a &&& b : Nat) : Int) := by
  have hab : a &&& b < 9223372036854775808 := Nat.lt_of_le_of_lt Nat.and_le_left ha
  show IntKind.i64.wrap ((BitVec.ofInt 64 (a : Int) &&& BitVec.ofInt 64 (b : Int)).toNat : Int) = _
  rw [BitVec.toNat_and, ofInt_i64 a (by omega), ofInt_i64 b (by omega), IntKind.wrap_i64]
  omega
theorem i64_or_nat (a b : Nat) (ha : a < 9223372036854775808) (hb : b < 9223372036854775808) : bits .or .i64 (a : Int) (b : Int) = ((a ||| b : Nat) : Int) := by
  have hab : a ||| b < 2 ^ 63 := Nat.or_lt_two_pow (by omega) (by omega)
  show IntKind.i64.wrap ((BitVec.ofInt 64 (a : Int) ||| BitVec.ofInt 64 (b : Int)).toNat : Int) = _
  rw [BitVec.toNat_or, ofInt_i64 a (by omega), ofInt_i64 b (by omega), IntKind.wrap_i64]
  omega
/-- A mask of k bits, of whatever number. -/
theorem i64_mask (n : Int) (k : Nat) (hk : k ≤ 62) : bits .and .i64 n ((2 ^ k - 1 : Nat) : Int) = n % ((2 ^ k : Nat) : Int) := by
  have h2 : 2 ^ k ≤ 2 ^ 62 := Nat.pow_le_pow_right (by omega) hk
  have h1 : 0 < 2 ^ k := Nat.pow_pos (by omega)
  have key : (BitVec.ofInt 64 n &&& BitVec.ofInt 64 ((2 ^ k - 1 : Nat) : Int)).toNat = (n % ((2 ^ 64 : Nat) : Int)).toNat % 2 ^ k := by
    rw [BitVec.toNat_and, BitVec.toNat_ofInt, ofInt_i64 _ (by omega), Nat.and_two_pow_sub_one_eq_mod]
  show IntKind.i64.wrap ((BitVec.ofInt 64 n &&& BitVec.ofInt 64 ((2 ^ k - 1 : Nat) : Int)).toNat : Int) = _
  have e : (((n % ((2 ^ 64 : Nat) : Int)).toNat % 2 ^ k : Nat) : Int) = n % ((2 ^ k : Nat) : Int) := by
    rw [Int.natCast_emod, Int.toNat_of_nonneg (Int.emod_nonneg _ (by decide)), Int.emod_emod_of_dvd]
    exact Int.natCast_dvd_natCast.2 (Nat.pow_dvd_pow 2 (by omega))
  rw [key, e, IntKind.wrap_i64]
  have h3 : 0 ≤ n % ((2 ^ k : Nat) : Int) := Int.emod_nonneg _ (by omega)
  have h4 : n % ((2 ^ k : Nat) : Int) < ((2 ^ k : Nat) : Int) := Int.emod_lt_of_pos _ (by omega)
  have h5 : ((2 ^ k : Nat) : Int) ≤ ((2 ^ 62 : Nat) : Int) := Int.ofNat_le.2 h2
  have h6 : ((2 ^ 62 : Nat) : Int) = 4611686018427387904 := by decide
  omega
theorem mask14 (n : Int) : bits .and .i64 n 16383 = n % 16384 := i64_mask n 14 (by decide)
theorem mask20 (n : Int) : bits .and .i64 n 1048575 = n % 1048576 := i64_mask n 20 (by decide)
theorem mask24 (n : Int) : bits .and .i64 n 16777215 = n % 16777216 := i64_mask n 24 (by decide)
theorem mask32 (n : Int) : bits .and .i64 n 4294967295 = n % 4294967296 := i64_mask n 32 (by decide)
theorem mask2 (n : Int) : bits .and .i64 n 3 = n % 4 := i64_mask n 2 (by decide)
theorem mask1 (n : Int) : bits .and .i64 n 1 = n % 2 := i64_mask n 1 (by decide)
theorem mask8 (n : Int) : bits .and .i64 n 255 = n % 256 := i64_mask n 8 (by decide)
/-- Bit 31 of a number that has none. -/
theorem bit31_none (n : Int) (h0 : 0 ≤ n) (h1 : n < 2147483648) : bits .and .i64 n 2147483648 = 0 := by
  obtain ⟨a, rfl⟩ := Int.eq_ofNat_of_zero_le h0
  have e : bits .and .i64 (a : Int) ((2147483648 : Nat) : Int) = ((a &&& 2147483648 : Nat) : Int) := i64_and_nat a 2147483648 (by omega) (by omega)
  have e2 : a &&& 2147483648 = 0 := by
    have := nat_bit 31 a
    rw [show (2 : Nat) ^ 31 = 2147483648 from rfl] at this
    rw [this, Nat.div_eq_of_lt (by omega)]
  rw [e2] at e
  exact e
end Go.Proofs.YthmkmemocjnleaaDoor
namespace Go.Proofs.YthmkmemocjnleaaDoor
open Go.RowKit
set_option linter.unusedVariables false

/-- The tables, as lists. -/
def shiftTab : List Int := [7, 6, 6, 5, 5, 5, 5, 4, 4, 4, 4, 4, 4, 4, 4, 3, 3, 3, 3, 3, 3, 3, 3, 3, 3, 3, 3, 3, 3, 3, 3, 2, 2, 2, 2, 2, 2, 2, 2, 2, 2, 2, 2, 2, 2, 2, 2, 2, 2, 2, 2, 2, 2, 2, 2, 2, 2, 2, 2, 2, 2, 2, 2, 1, 1, 1, 1, 1, 1, 1, 1, 1, 1, 1, 1, 1, 1, 1, 1, 1, 1, 1, 1, 1, 1, 1, 1, 1, 1, 1, 1, 1, 1, 1, 1, 1, 1, 1, 1, 1, 1, 1, 1, 1, 1, 1, 1, 1, 1, 1, 1, 1, 1, 1, 1, 1, 1, 1, 1, 1, 1, 1, 1, 1, 1, 1, 1]
/-- The variables of the package that the decoder reads: the two tables. -/
def Tabs (w : World) : Prop := ∀ i, i < 127 → w.cell? ⟨0, i, none⟩ = some (.int .u8 (shiftTab.getD i 0)) ∧
  w.cell? ⟨1, i, none⟩ = some (.int .u8 ((i + 1) * 2 ^ (shiftTab.getD i 0).toNat - 1))

/-- The decoder at block g. -/
def PT (w : World) (g : Nat) (ao : Option Addr) (n c : Nat) (r : Nat) (m b nb : Int) (eof : Bool) : Prop :=
  SObj w g 128 [.slice ao n c, .int .i64 r, .int .u32 m, .int .u32 b, .int .u8 nb, .bool eof]

theorem shiftTab_range (k : Nat) (h : k < 127) : 1 ≤ shiftTab.getD k 0 ∧ shiftTab.getD k 0 ≤ 7 ∧ 128 ≤ ((k : Int) + 1) * 2 ^ (shiftTab.getD k 0).toNat ∧ ((k : Int) + 1) * 2 ^ (shiftTab.getD k 0).toNat ≤ 254 := by
  have : ∀ k, k < 127 → 1 ≤ shiftTab.getD k 0 ∧ shiftTab.getD k 0 ≤ 7 ∧ 128 ≤ ((k : Int) + 1) * 2 ^ (shiftTab.getD k 0).toNat ∧ ((k : Int) + 1) * 2 ^ (shiftTab.getD k 0).toNat ≤ 254 := by decide +kernel
  exact this k h

/-- The state behind a decision: the range less 1, the bits, how many are there; brought to 127 at least. -/
def normP (m b nb : Int) : Int × Int × Int :=
  if m < 127 then ((m + 1) * 2 ^ (shiftTab.getD m.toNat 0).toNat - 1, b * 2 ^ (shiftTab.getD m.toNat 0).toNat, nb - shiftTab.getD m.toNat 0) else (m, b, nb)

theorem PT.bits {w : World} {g : Nat} {ao : Option Addr} {n c r : Nat} {m b b' nb : Int} {eof : Bool} (h : PT w g ao n c r m b nb eof) (e : b = b') : PT w g ao n c r m b' nb eof := e ▸ h

theorem pow_small (b s : Int) (h1 : 1 ≤ s) (h2 : s ≤ 7) (h3 : 0 ≤ b) (h4 : b < 65536) : (b * 2 ^ s.toNat) % 4294967296 = b * 2 ^ s.toNat := by
  obtain rfl | rfl | rfl | rfl | rfl | rfl | rfl : s = 1 ∨ s = 2 ∨ s = 3 ∨ s = 4 ∨ s = 5 ∨ s = 6 ∨ s = 7 := by omega
  all_goals (simp only [Int.reducePow, Int.reduceToNat]; omega)

set_option maxRecDepth 100000 in
set_option maxHeartbeats 800000 in
theorem readBit_1n (g : Nat) (ao : Option Addr) (n c r : Nat) (m b nb prob : Int) (eof : Bool) (w : World) (ht : Tabs w) (hg : 2 ≤ g) (hp : PT w g ao n c r m b nb eof)
    (hm0 : 0 ≤ m) (hm : m ≤ 254) (hp0 : 0 ≤ prob) (hp1 : prob ≤ 255) (hb0 : 0 ≤ b) (hb : b < 65536) (hbm : b < (m + 1) * 256) (hn : 8 ≤ nb) (hn1 : nb ≤ 15)
    (sp : Int) (hsp : sp = m * prob / 256 + 1) (hbit : sp * 256 ≤ b) (hm2 : ¬ m - sp < 127) :
    Calls Tryd.prog 56 #[.pointer (some ⟨g, 0, none⟩), .int .u8 prob] w fun e w' => e = .returned (.bool true) ∧ PT w' g ao n c r (normP (m - sp) (b - sp * 256) nb).1 (normP (m - sp) (b - sp * 256) nb).2.1 (normP (m - sp) (b - sp * 256) nb).2.2 eof ∧ w.grownBy w' (some g) := by
  have H := Lib.hid hp
  have c2 := hp.cell 2 rfl
  have c3 := hp.cell 3 rfl
  have c4 := hp.cell 4 rfl
  have z2 := hp.free 2
  have z3 := hp.free 3
  have z4 := hp.free 4
  have q0 : 0 ≤ m * prob := Int.mul_nonneg hm0 hp0
  have q1 : m * prob ≤ 254 * 255 := Int.mul_le_mul hm hp1 hp0 (by omega)
  have s0 : 1 ≤ sp := by omega
  have s1 : sp ≤ 254 := by omega
  have s2 : sp ≤ m + 1 := by
    have : m * prob ≤ m * 256 := Int.mul_le_mul_of_nonneg_left (by omega) hm0
    omega
  have esp : m * prob / 256 + 1 = sp := hsp.symm
  have en : normP (m - sp) (b - sp * 256) nb = (m - sp, b - sp * 256, nb) := by unfold normP; rw [if_neg hm2]
  rw [en]
  clear en
  clear hp hsp ht
  go_enter Tryd.func56, Tryd.ntmps56
  go_wp2
  go_ret
  exact ⟨rfl, ((H.out.set 2 _).set 3 _), grownBy.trans (grownBy_setCell _ _ _) (grownBy_setCell _ _ _)⟩

set_option maxRecDepth 100000 in
set_option maxHeartbeats 800000 in
theorem readBit_0n (g : Nat) (ao : Option Addr) (n c r : Nat) (m b nb prob : Int) (eof : Bool) (w : World) (ht : Tabs w) (hg : 2 ≤ g) (hp : PT w g ao n c r m b nb eof)
    (hm0 : 0 ≤ m) (hm : m ≤ 254) (hp0 : 0 ≤ prob) (hp1 : prob ≤ 255) (hb0 : 0 ≤ b) (hb : b < 65536) (hbm : b < (m + 1) * 256) (hn : 8 ≤ nb) (hn1 : nb ≤ 15)
    (sp : Int) (hsp : sp = m * prob / 256 + 1) (hbit : b < sp * 256) (hm2 : ¬ sp - 1 < 127) :
    Calls Tryd.prog 56 #[.pointer (some ⟨g, 0, none⟩), .int .u8 prob] w fun e w' => e = .returned (.bool false) ∧ PT w' g ao n c r (normP (sp - 1) (b) nb).1 (normP (sp - 1) (b) nb).2.1 (normP (sp - 1) (b) nb).2.2 eof ∧ w.grownBy w' (some g) := by
  have H := Lib.hid hp
  have c2 := hp.cell 2 rfl
  have c3 := hp.cell 3 rfl
  have c4 := hp.cell 4 rfl
  have z2 := hp.free 2
  have z3 := hp.free 3
  have z4 := hp.free 4
  have q0 : 0 ≤ m * prob := Int.mul_nonneg hm0 hp0
  have q1 : m * prob ≤ 254 * 255 := Int.mul_le_mul hm hp1 hp0 (by omega)
  have s0 : 1 ≤ sp := by omega
  have s1 : sp ≤ 254 := by omega
  have s2 : sp ≤ m + 1 := by
    have : m * prob ≤ m * 256 := Int.mul_le_mul_of_nonneg_left (by omega) hm0
    omega
  have esp : m * prob / 256 + 1 = sp := hsp.symm
  have hd : decide (sp * 256 ≤ b) = false := decide_eq_false (by omega)
  have en : normP (sp - 1) (b) nb = (sp - 1, b, nb) := by unfold normP; rw [if_neg hm2]
  rw [en]
  clear en
  clear hp hsp ht
  go_enter Tryd.func56, Tryd.ntmps56
  go_wp2
  go_ret
  exact ⟨by first | rfl | (show Ending.returned (.bool (decide (sp * 256 ≤ b))) = _; rw [decide_eq_false (by omega)]), (H.out.set 2 _), grownBy_setCell _ _ _⟩

set_option maxRecDepth 100000 in
set_option maxHeartbeats 800000 in
theorem readBit_1r (g : Nat) (ao : Option Addr) (n c r : Nat) (m b nb prob : Int) (eof : Bool) (w : World) (ht : Tabs w) (hg : 2 ≤ g) (hp : PT w g ao n c r m b nb eof)
    (hm0 : 0 ≤ m) (hm : m ≤ 254) (hp0 : 0 ≤ prob) (hp1 : prob ≤ 255) (hb0 : 0 ≤ b) (hb : b < 65536) (hbm : b < (m + 1) * 256) (hn : 8 ≤ nb) (hn1 : nb ≤ 15)
    (sp : Int) (hsp : sp = m * prob / 256 + 1) (hbit : sp * 256 ≤ b) (hm2 : m - sp < 127) :
    Calls Tryd.prog 56 #[.pointer (some ⟨g, 0, none⟩), .int .u8 prob] w fun e w' => e = .returned (.bool true) ∧ PT w' g ao n c r (normP (m - sp) (b - sp * 256) nb).1 (normP (m - sp) (b - sp * 256) nb).2.1 (normP (m - sp) (b - sp * 256) nb).2.2 eof ∧ w.grownBy w' (some g) := by
  have H := Lib.hid hp
  have c2 := hp.cell 2 rfl
  have c3 := hp.cell 3 rfl
  have c4 := hp.cell 4 rfl
  have z2 := hp.free 2
  have z3 := hp.free 3
  have z4 := hp.free 4
  have q0 : 0 ≤ m * prob := Int.mul_nonneg hm0 hp0
  have q1 : m * prob ≤ 254 * 255 := Int.mul_le_mul hm hp1 hp0 (by omega)
  have s0 : 1 ≤ sp := by omega
  have s1 : sp ≤ 254 := by omega
  have s2 : sp ≤ m + 1 := by
    have : m * prob ≤ m * 256 := Int.mul_le_mul_of_nonneg_left (by omega) hm0
    omega
  have esp : m * prob / 256 + 1 = sp := hsp.symm
  obtain ⟨k, hk⟩ := Int.eq_ofNat_of_zero_le (show 0 ≤ m - sp by omega)
  have hk127 : k < 127 := by omega
  obtain ⟨t1, t2, t3, t4⟩ := shiftTab_range k hk127
  have l0 := (ht k hk127).1
  have l1 := (ht k hk127).2
  have en : normP (m - sp) (b - sp * 256) nb = (((k : Int) + 1) * 2 ^ (shiftTab.getD k 0).toNat - 1, (b - sp * 256) * 2 ^ (shiftTab.getD k 0).toNat, nb - shiftTab.getD k 0) := by
    unfold normP; rw [if_pos hm2, hk]; rfl
  rw [en]
  clear en
  obtain ⟨sh, hsh⟩ : ∃ sh, sh = shiftTab.getD k 0 := ⟨_, rfl⟩
  rw [← hsh] at t1 t2 t3 t4 l0 l1 ⊢
  obtain ⟨rr, hrr⟩ : ∃ rr, rr = ((k : Int) + 1) * 2 ^ sh.toNat - 1 := ⟨_, rfl⟩
  rw [← hrr] at l1 ⊢
  have r0 : 127 ≤ rr := by omega
  have r1 : rr ≤ 253 := by omega
  have HK := Lib.hid hk
  have HS := Lib.hid (And.intro hsh hrr)
  have hb2 : Hid (((b - sp * 256) * 2 ^ sh.toNat) % 4294967296 = (b - sp * 256) * 2 ^ sh.toNat) := Lib.hid (pow_small (b - sp * 256) sh t1 t2 (by omega) (by omega))
  clear hsh hrr t3 t4
  clear hp hsp ht
  go_enter Tryd.func56, Tryd.ntmps56
  go_wp2
  go_ret
  exact ⟨rfl, PT.bits (((((H.out.set 2 _).set 3 _).set 2 _).set 3 _).set 4 _) hb2.out, grownBy.trans (grownBy.trans (grownBy.trans (grownBy.trans (grownBy_setCell _ _ _) (grownBy_setCell _ _ _)) (grownBy_setCell _ _ _)) (grownBy_setCell _ _ _)) (grownBy_setCell _ _ _)⟩

set_option maxRecDepth 100000 in
set_option maxHeartbeats 800000 in
theorem readBit_0r (g : Nat) (ao : Option Addr) (n c r : Nat) (m b nb prob : Int) (eof : Bool) (w : World) (ht : Tabs w) (hg : 2 ≤ g) (hp : PT w g ao n c r m b nb eof)
    (hm0 : 0 ≤ m) (hm : m ≤ 254) (hp0 : 0 ≤ prob) (hp1 : prob ≤ 255) (hb0 : 0 ≤ b) (hb : b < 65536) (hbm : b < (m + 1) * 256) (hn : 8 ≤ nb) (hn1 : nb ≤ 15)
    (sp : Int) (hsp : sp = m * prob / 256 + 1) (hbit : b < sp * 256) (hm2 : sp - 1 < 127) :
    Calls Tryd.prog 56 #[.pointer (some ⟨g, 0, none⟩), .int .u8 prob] w fun e w' => e = .returned (.bool false) ∧ PT w' g ao n c r (normP (sp - 1) (b) nb).1 (normP (sp - 1) (b) nb).2.1 (normP (sp - 1) (b) nb).2.2 eof ∧ w.grownBy w' (some g) := by
  have H := Lib.hid hp
  have c2 := hp.cell 2 rfl
  have c3 := hp.cell 3 rfl
  have c4 := hp.cell 4 rfl
  have z2 := hp.free 2
  have z3 := hp.free 3
  have z4 := hp.free 4
  have q0 : 0 ≤ m * prob := Int.mul_nonneg hm0 hp0
  have q1 : m * prob ≤ 254 * 255 := Int.mul_le_mul hm hp1 hp0 (by omega)
  have s0 : 1 ≤ sp := by omega
  have s1 : sp ≤ 254 := by omega
  have s2 : sp ≤ m + 1 := by
    have : m * prob ≤ m * 256 := Int.mul_le_mul_of_nonneg_left (by omega) hm0
    omega
  have esp : m * prob / 256 + 1 = sp := hsp.symm
  have hd : decide (sp * 256 ≤ b) = false := decide_eq_false (by omega)
  obtain ⟨k, hk⟩ := Int.eq_ofNat_of_zero_le (show 0 ≤ sp - 1 by omega)
  have hk127 : k < 127 := by omega
  obtain ⟨t1, t2, t3, t4⟩ := shiftTab_range k hk127
  have l0 := (ht k hk127).1
  have l1 := (ht k hk127).2
  have en : normP (sp - 1) (b) nb = (((k : Int) + 1) * 2 ^ (shiftTab.getD k 0).toNat - 1, (b) * 2 ^ (shiftTab.getD k 0).toNat, nb - shiftTab.getD k 0) := by
    unfold normP; rw [if_pos hm2, hk]; rfl
  rw [en]
  clear en
  obtain ⟨sh, hsh⟩ : ∃ sh, sh = shiftTab.getD k 0 := ⟨_, rfl⟩
  rw [← hsh] at t1 t2 t3 t4 l0 l1 ⊢
  obtain ⟨rr, hrr⟩ : ∃ rr, rr = ((k : Int) + 1) * 2 ^ sh.toNat - 1 := ⟨_, rfl⟩
  rw [← hrr] at l1 ⊢
  have r0 : 127 ≤ rr := by omega
  have r1 : rr ≤ 253 := by omega
  have HK := Lib.hid hk
  have HS := Lib.hid (And.intro hsh hrr)
  have hb2 : Hid (((b) * 2 ^ sh.toNat) % 4294967296 = (b) * 2 ^ sh.toNat) := Lib.hid (pow_small (b) sh t1 t2 (by omega) (by omega))
  clear hsh hrr t3 t4
  clear hp hsp ht
  go_enter Tryd.func56, Tryd.ntmps56
  go_wp2
  go_ret
  exact ⟨by first | rfl | (show Ending.returned (.bool (decide (sp * 256 ≤ b))) = _; rw [decide_eq_false (by omega)]), PT.bits ((((H.out.set 2 _).set 2 _).set 3 _).set 4 _) hb2.out, grownBy.trans (grownBy.trans (grownBy.trans (grownBy_setCell _ _ _) (grownBy_setCell _ _ _)) (grownBy_setCell _ _ _)) (grownBy_setCell _ _ _)⟩
end Go.Proofs.YthmkmemocjnleaaDoor
namespace Go.Proofs.YthmkmemocjnleaaDoor
open Go.RowKit
set_option linter.unusedVariables false

/-- The package's decoder: bytes taken, range less 1, bits, how many are known, whether it met the end. -/
structure DS where
  r : Nat
  m : Int
  b : Int
  nb : Int
  eof : Bool
/-- The reference's: value, size, bits taken. -/
structure SS where
  v : Int
  z : Int
  pos : Nat

def goP (r : Nat) (m b nb prob : Int) (eof : Bool) : Bool × DS :=
  if (m * prob / 256 + 1) * 256 ≤ b then
    (true, ⟨r, (normP (m - (m * prob / 256 + 1)) (b - (m * prob / 256 + 1) * 256) nb).1, (normP (m - (m * prob / 256 + 1)) (b - (m * prob / 256 + 1) * 256) nb).2.1, (normP (m - (m * prob / 256 + 1)) (b - (m * prob / 256 + 1) * 256) nb).2.2, eof⟩)
  else (false, ⟨r, (normP (m * prob / 256 + 1 - 1) b nb).1, (normP (m * prob / 256 + 1 - 1) b nb).2.1, (normP (m * prob / 256 + 1 - 1) b nb).2.2, eof⟩)
def stepP (zs : List Int) (s : DS) (prob : Int) : Bool × DS :=
  if s.nb < 8 then
    if zs.length ≤ s.r then (false, ⟨s.r, s.m, s.b, s.nb, true⟩)
    else goP (s.r + 1) s.m (s.b + zs.getD s.r 0 * 2 ^ (8 - s.nb).toNat) (s.nb + 8) prob s.eof
  else goP s.r s.m s.b s.nb prob s.eof

def bitAt (zs : List Int) (i : Nat) : Int := zs.getD (i / 8) 0 / 2 ^ (7 - i % 8) % 2
def shiftsS (zs : List Int) : Nat → Int → Nat → Int
  | 0, v, _ => v
  | k + 1, v, pos => shiftsS zs k (2 * v + bitAt zs pos) (pos + 1)
def kOf (z : Int) : Nat := if z < 128 then (shiftTab.getD (z - 1).toNat 0).toNat else 0
def stepS (zs : List Int) (s : SS) (p : Int) : Bool × SS :=
  if (s.z - 1) * p / 256 + 1 ≤ s.v then
    (true, ⟨shiftsS zs (kOf (s.z - ((s.z - 1) * p / 256 + 1))) (s.v - ((s.z - 1) * p / 256 + 1)) s.pos, (s.z - ((s.z - 1) * p / 256 + 1)) * 2 ^ kOf (s.z - ((s.z - 1) * p / 256 + 1)), s.pos + kOf (s.z - ((s.z - 1) * p / 256 + 1))⟩)
  else (false, ⟨shiftsS zs (kOf ((s.z - 1) * p / 256 + 1)) s.v s.pos, ((s.z - 1) * p / 256 + 1) * 2 ^ kOf ((s.z - 1) * p / 256 + 1), s.pos + kOf ((s.z - 1) * p / 256 + 1)⟩)

def Bytes (zs : List Int) : Prop := ∀ i, 0 ≤ zs.getD i 0 ∧ zs.getD i 0 ≤ 255

/-- What always holds of the package's decoder. -/
def OKP (zs : List Int) (s : DS) : Prop :=
  127 ≤ s.m ∧ s.m ≤ 254 ∧ 0 ≤ s.b ∧ 0 ≤ s.nb ∧ s.nb ≤ 15 ∧ s.r ≤ zs.length ∧ s.b % 2 ^ (16 - s.nb).toNat = 0 ∧
  (s.b + 2 ^ (16 - s.nb).toNat ≤ (s.m + 1) * 256 ∨ (s.nb = 0 ∧ s.b = 0 ∧ s.r = 0 ∧ s.m = 254))

theorem nb_cases (nb : Int) (h0 : 0 ≤ nb) (h1 : nb < 8) : nb = 0 ∨ nb = 1 ∨ nb = 2 ∨ nb = 3 ∨ nb = 4 ∨ nb = 5 ∨ nb = 6 ∨ nb = 7 := by omega
theorem nb_cases2 (nb : Int) (h0 : 8 ≤ nb) (h1 : nb ≤ 15) : nb = 8 ∨ nb = 9 ∨ nb = 10 ∨ nb = 11 ∨ nb = 12 ∨ nb = 13 ∨ nb = 14 ∨ nb = 15 := by omega

theorem sp_bounds (m prob : Int) (hm0 : 0 ≤ m) (hm : m ≤ 254) (h0 : 0 ≤ prob) (h1 : prob ≤ 255) : 1 ≤ m * prob / 256 + 1 ∧ m * prob / 256 + 1 ≤ 254 ∧ (1 ≤ m → m * prob / 256 + 1 ≤ m) := by
  have q0 : 0 ≤ m * prob := Int.mul_nonneg hm0 h0
  have q1 : m * prob ≤ 254 * 255 := Int.mul_le_mul hm h1 h0 (by omega)
  have : m * prob ≤ m * 255 := Int.mul_le_mul_of_nonneg_left (by omega) hm0
  omega

/-- The byte taken stands below the bits there. -/
theorem load_or (b x nb : Int) (hx0 : 0 ≤ x) (hx1 : x ≤ 255) (hb0 : 0 ≤ b) (hb : b < 65536) (h0 : 0 ≤ nb) (h1 : nb < 8) (hd : b % 2 ^ (16 - nb).toNat = 0) :
    bits .or .u32 b (x * 2 ^ (8 - nb).toNat % 4294967296) = b + x * 2 ^ (8 - nb).toNat := by
  obtain ⟨bn, rfl⟩ := Int.eq_ofNat_of_zero_le hb0
  obtain ⟨xn, rfl⟩ := Int.eq_ofNat_of_zero_le hx0
  obtain rfl | rfl | rfl | rfl | rfl | rfl | rfl | rfl := nb_cases nb h0 h1
  all_goals
    simp only [Int.reduceSub, Int.reduceToNat, Int.reducePow] at hd ⊢
    rw [u32_or _ _ (by omega) (by omega) (by omega) (by omega)]
  · rw [nat_join 16 _ _ (by omega) (by omega)]; omega
  · rw [nat_join 15 _ _ (by omega) (by omega)]; omega
  · rw [nat_join 14 _ _ (by omega) (by omega)]; omega
  · rw [nat_join 13 _ _ (by omega) (by omega)]; omega
  · rw [nat_join 12 _ _ (by omega) (by omega)]; omega
  · rw [nat_join 11 _ _ (by omega) (by omega)]; omega
  · rw [nat_join 10 _ _ (by omega) (by omega)]; omega
  · rw [nat_join 9 _ _ (by omega) (by omega)]; omega

/-- What stands behind the byte taken. -/
theorem load_ok (zs : List Int) (s : DS) (h : OKP zs s) (hz : Bytes zs) (h255 : zs.getD 0 0 ≠ 255) (hn : s.nb < 8) :
    0 ≤ s.b ∧ s.b < 65536 ∧ 0 ≤ s.b + zs.getD s.r 0 * 2 ^ (8 - s.nb).toNat ∧ (s.b + zs.getD s.r 0 * 2 ^ (8 - s.nb).toNat) % 2 ^ (16 - (s.nb + 8)).toNat = 0 ∧
    s.b + zs.getD s.r 0 * 2 ^ (8 - s.nb).toNat + 2 ^ (16 - (s.nb + 8)).toNat ≤ (s.m + 1) * 256 := by
  obtain ⟨h1, h2, h3, h4, h5, h6, h7, h8⟩ := h
  obtain ⟨r, m, b, nb, eof⟩ := s
  simp only at *
  have hx := hz r
  have hx' : (nb = 0 ∧ b = 0 ∧ r = 0 ∧ m = 254) → zs.getD r 0 ≠ 255 := by
    rintro ⟨_, _, rfl, _⟩; exact h255
  generalize zs.getD r 0 = x at *
  obtain rfl | rfl | rfl | rfl | rfl | rfl | rfl | rfl := nb_cases nb h4 hn
  all_goals
    simp only [Int.reduceSub, Int.reduceAdd, Int.reduceToNat, Int.reducePow] at h7 h8 ⊢
    omega

theorem emod_mul' (a b c : Int) (hc : 0 < c) : a * c % (b * c) = a % b * c := by
  rw [Int.mul_comm a c, Int.mul_comm b c, Int.mul_emod_mul_of_pos _ _ hc, Int.mul_comm]
theorem pow_eq (s : Int) (h1 : 1 ≤ s) (h2 : s ≤ 7) : (2 : Int) ^ s.toNat = 2 ∨ (2 : Int) ^ s.toNat = 4 ∨ (2 : Int) ^ s.toNat = 8 ∨ (2 : Int) ^ s.toNat = 16 ∨ (2 : Int) ^ s.toNat = 32 ∨ (2 : Int) ^ s.toNat = 64 ∨ (2 : Int) ^ s.toNat = 128 := by
  obtain rfl | rfl | rfl | rfl | rfl | rfl | rfl : s = 1 ∨ s = 2 ∨ s = 3 ∨ s = 4 ∨ s = 5 ∨ s = 6 ∨ s = 7 := by omega
  all_goals simp

/-- Bringing the range up keeps what holds. -/
theorem norm_ok (m b nb : Int) (hm0 : 0 ≤ m) (hm : m ≤ 254) (hb : 0 ≤ b) (hn : 8 ≤ nb) (hn1 : nb ≤ 15) (hd : b % 2 ^ (16 - nb).toNat = 0) (hl : b + 2 ^ (16 - nb).toNat ≤ (m + 1) * 256) :
    127 ≤ (normP m b nb).1 ∧ (normP m b nb).1 ≤ 254 ∧ 0 ≤ (normP m b nb).2.1 ∧ 0 ≤ (normP m b nb).2.2 ∧ (normP m b nb).2.2 ≤ 15 ∧ (normP m b nb).2.1 % 2 ^ (16 - (normP m b nb).2.2).toNat = 0 ∧ (normP m b nb).2.1 + 2 ^ (16 - (normP m b nb).2.2).toNat ≤ ((normP m b nb).1 + 1) * 256 := by
  unfold normP
  by_cases h : m < 127
  · rw [if_pos h]
    obtain ⟨k, rfl⟩ := Int.eq_ofNat_of_zero_le hm0
    obtain ⟨t1, t2, t3, t4⟩ := shiftTab_range k (by omega)
    rw [Int.toNat_natCast]
    generalize shiftTab.getD k 0 = s at *
    have e : (2 : Int) ^ (16 - (nb - s)).toNat = 2 ^ (16 - nb).toNat * 2 ^ s.toNat := by
      rw [← Int.pow_add]; congr 1; omega
    simp only
    rw [e]
    have hp : (0 : Int) ≤ 2 ^ s.toNat := Int.pow_nonneg (by omega)
    refine ⟨by omega, by omega, Int.mul_nonneg hb hp, by omega, by omega, ?_, ?_⟩
    · rw [emod_mul' _ _ _ (Int.pow_pos (by omega)), hd, Int.zero_mul]
    · have := Int.mul_le_mul_of_nonneg_right hl hp
      rw [Int.add_mul] at this
      have e2 : ((k : Int) + 1) * 256 * 2 ^ s.toNat = ((k : Int) + 1) * 2 ^ s.toNat * 256 := by rw [Int.mul_assoc, Int.mul_comm 256, ← Int.mul_assoc]
      omega
  · rw [if_neg h]
    exact ⟨by simp only; omega, hm, hb, by simp only; omega, hn1, hd, hl⟩

theorem goP_ok (zs : List Int) (r : Nat) (m b nb prob : Int) (eof : Bool) (hm0 : 127 ≤ m) (hm : m ≤ 254) (hp0 : 0 ≤ prob) (hp1 : prob ≤ 255) (hb : 0 ≤ b) (hn : 8 ≤ nb) (hn1 : nb ≤ 15) (hr : r ≤ zs.length)
    (hd : b % 2 ^ (16 - nb).toNat = 0) (hl : b + 2 ^ (16 - nb).toNat ≤ (m + 1) * 256) : OKP zs (goP r m b nb prob eof).2 := by
  obtain ⟨s0, s1, s2⟩ := sp_bounds m prob (by omega) hm hp0 hp1
  have hs2 := s2 (by omega)
  unfold goP
  generalize m * prob / 256 + 1 = sp at *
  by_cases h : sp * 256 ≤ b
  · rw [if_pos h]
    obtain ⟨a1, a2, a3, a4, a5, a6, a7⟩ := norm_ok (m - sp) (b - sp * 256) nb (by omega) (by omega) (by omega) hn hn1 (by
      obtain rfl | rfl | rfl | rfl | rfl | rfl | rfl | rfl := nb_cases2 nb hn hn1
      all_goals
        simp only [Int.reduceSub, Int.reduceToNat, Int.reducePow] at hd ⊢
        omega) (by omega)
    exact ⟨a1, a2, a3, a4, a5, hr, a6, .inl a7⟩
  · rw [if_neg h]
    obtain ⟨a1, a2, a3, a4, a5, a6, a7⟩ := norm_ok (sp - 1) b nb (by omega) (by omega) hb hn hn1 hd (by
      obtain rfl | rfl | rfl | rfl | rfl | rfl | rfl | rfl := nb_cases2 nb hn hn1
      all_goals
        simp only [Int.reduceSub, Int.reduceToNat, Int.reducePow] at hd hl ⊢
        omega)
    exact ⟨a1, a2, a3, a4, a5, hr, a6, .inl a7⟩

theorem stepP_ok (zs : List Int) (s : DS) (h : OKP zs s) (hz : Bytes zs) (h255 : zs.getD 0 0 ≠ 255) (prob : Int) (hp0 : 0 ≤ prob) (hp1 : prob ≤ 255) : OKP zs (stepP zs s prob).2 := by
  unfold stepP
  by_cases h1 : s.nb < 8
  · rw [if_pos h1]
    by_cases h2 : zs.length ≤ s.r
    · rw [if_pos h2]; exact h
    · rw [if_neg h2]
      obtain ⟨a1, a2, a3, a4, a5⟩ := load_ok zs s h hz h255 h1
      exact goP_ok zs _ _ _ _ _ _ h.1 h.2.1 hp0 hp1 a3 (by have := h.2.2.2.1; omega) (by omega) (by omega) a4 a5
  · rw [if_neg h1]
    obtain ⟨b1, b2, b3, b4, b5, b6, b7, b8⟩ := h
    exact goP_ok zs _ _ _ _ _ _ b1 b2 hp0 hp1 b3 (by omega) b5 b6 b7 (by rcases b8 with h | h; exact h; omega)

/-- Both stand at the same place of the bytes. -/
def RelB (zs : List Int) (r : Nat) (b nb v : Int) (pos : Nat) : Prop :=
  (pos : Int) = 8 * (r : Int) - nb + 8 ∧ (8 ≤ nb → v = b / 256 ∧ 1 ≤ r ∧ b % 256 = zs.getD (r - 1) 0 * 2 ^ (16 - nb).toNat % 256) ∧ (nb < 8 → v = (b + zs.getD r 0 * 2 ^ (8 - nb).toNat) / 256 ∧ b % 256 = 0)

theorem shift_rel (zs : List Int) (r : Nat) (b nb v : Int) (pos : Nat) (hz : Bytes zs) (h : RelB zs r b nb v pos) (hn0 : 1 ≤ nb) (hn1 : nb ≤ 15) (hb : 0 ≤ b) : RelB zs r (2 * b) (nb - 1) (2 * v + bitAt zs pos) (pos + 1) := by
  obtain ⟨h1, h2, h3⟩ := h
  refine ⟨by omega, fun h8 => ?_, fun h8 => ?_⟩
  · obtain ⟨e1, e2, e3⟩ := h2 (by omega)
    obtain ⟨r', rfl⟩ : ∃ r', r = r' + 1 := ⟨r - 1, by omega⟩
    have p1 : pos / 8 = r' := by omega
    have p2 : pos % 8 = (16 - nb).toNat := by omega
    unfold bitAt
    rw [p1, p2]
    simp only [Nat.add_sub_cancel] at e3 ⊢
    clear h1 h2 h3
    have hx := hz r'
    generalize zs.getD r' 0 = x at *
    obtain rfl | rfl | rfl | rfl | rfl | rfl | rfl | rfl := nb_cases2 nb (by omega) hn1
    · omega
    all_goals
      simp only [Int.reduceSub, Int.reduceToNat, Int.reducePow, Nat.reduceSub] at e3 ⊢
      omega
  · by_cases h8' : nb = 8
    · subst h8'
      obtain ⟨e1, e2, e3⟩ := h2 (by omega)
      have p1 : pos / 8 = r := by omega
      have p2 : pos % 8 = 0 := by omega
      unfold bitAt
      rw [p1, p2]
      have hx := hz r
      generalize zs.getD r 0 = x at *
      generalize zs.getD (r - 1) 0 = x' at *
      simp only [Int.reduceSub, Int.reduceToNat, Int.reducePow, Nat.reduceSub] at e3 ⊢
      omega
    · obtain ⟨e1, e3⟩ := h3 (by omega)
      have p1 : pos / 8 = r := by omega
      have p2 : pos % 8 = (8 - nb).toNat := by omega
      clear h1 h2 h3
      unfold bitAt
      rw [p1, p2]
      have hx := hz r
      generalize zs.getD r 0 = x at *
      obtain rfl | rfl | rfl | rfl | rfl | rfl | rfl : nb = 1 ∨ nb = 2 ∨ nb = 3 ∨ nb = 4 ∨ nb = 5 ∨ nb = 6 ∨ nb = 7 := by omega
      all_goals
        simp only [Int.reduceSub, Int.reduceToNat, Int.reducePow, Nat.reduceSub] at e1 ⊢
        omega

theorem shifts_rel (zs : List Int) (r : Nat) (hz : Bytes zs) (k : Nat) : ∀ (b nb v : Int) (pos : Nat), RelB zs r b nb v pos → (k : Int) ≤ nb → nb ≤ 15 → 0 ≤ b → RelB zs r (b * 2 ^ k) (nb - k) (shiftsS zs k v pos) (pos + k) := by
  induction k with
  | zero => intro b nb v pos h _ _ _; simpa [shiftsS] using h
  | succ k ih =>
    intro b nb v pos h hk hn hb
    have := ih _ _ _ _ (shift_rel zs r b nb v pos hz h (by omega) hn hb) (by omega) (by omega) (by omega)
    have e1 : 2 * b * 2 ^ k = b * 2 ^ (k + 1) := by rw [Int.pow_succ, Int.mul_comm 2 b, Int.mul_assoc, Int.mul_comm 2]
    have e2 : nb - 1 - (k : Int) = nb - ((k + 1 : Nat) : Int) := by omega
    have e3 : pos + 1 + k = pos + (k + 1) := by omega
    rw [e1, e2, e3] at this
    exact this

theorem norm_rel (zs : List Int) (r : Nat) (m b nb v : Int) (pos : Nat) (hz : Bytes zs) (h : RelB zs r b nb v pos) (hm0 : 0 ≤ m) (hm : m ≤ 254) (hn : 8 ≤ nb) (hn1 : nb ≤ 15) (hb : 0 ≤ b) :
    (m + 1) * 2 ^ kOf (m + 1) = (normP m b nb).1 + 1 ∧ RelB zs r (normP m b nb).2.1 (normP m b nb).2.2 (shiftsS zs (kOf (m + 1)) v pos) (pos + kOf (m + 1)) := by
  unfold normP kOf
  by_cases h1 : m < 127
  · rw [if_pos h1, if_pos (by omega)]
    obtain ⟨k, rfl⟩ := Int.eq_ofNat_of_zero_le hm0
    obtain ⟨t1, t2, t3, t4⟩ := shiftTab_range k (by omega)
    rw [Int.toNat_natCast, show ((k : Int) + 1 - 1).toNat = k by omega]
    generalize shiftTab.getD k 0 = s at *
    obtain ⟨sn, rfl⟩ := Int.eq_ofNat_of_zero_le (show 0 ≤ s by omega)
    rw [Int.toNat_natCast] at *
    exact ⟨by simp only; omega, shifts_rel zs r hz sn b nb v pos h (by omega) hn1 hb⟩
  · rw [if_neg h1, if_neg (by omega)]
    exact ⟨by simp, by simpa [shiftsS] using h⟩

def Rel (zs : List Int) (d : DS) (s : SS) : Prop := s.z = d.m + 1 ∧ RelB zs d.r d.b d.nb s.v s.pos

theorem goP_rel (zs : List Int) (r : Nat) (m b nb prob v : Int) (pos : Nat) (eof : Bool) (hz : Bytes zs) (h : RelB zs r b nb v pos) (hm0 : 127 ≤ m) (hm : m ≤ 254) (hp0 : 0 ≤ prob) (hp1 : prob ≤ 255) (hn : 8 ≤ nb) (hn1 : nb ≤ 15) (hb : 0 ≤ b) (hl : b + 2 ^ (16 - nb).toNat ≤ (m + 1) * 256) :
    (goP r m b nb prob eof).1 = (stepS zs ⟨v, m + 1, pos⟩ prob).1 ∧ Rel zs (goP r m b nb prob eof).2 (stepS zs ⟨v, m + 1, pos⟩ prob).2 := by
  obtain ⟨s0, s1, s2⟩ := sp_bounds m prob (by omega) hm hp0 hp1
  have hs2 := s2 (by omega)
  obtain ⟨e1, e2, e3⟩ := h.2.1 hn
  have hpos : (0 : Int) ≤ 2 ^ (16 - nb).toNat := Int.pow_nonneg (by omega)
  unfold goP stepS
  simp only [Int.add_sub_cancel]
  generalize hsp : m * prob / 256 + 1 = sp at *
  have e : m * prob / 256 = sp - 1 := by omega
  by_cases hh : sp * 256 ≤ b
  · rw [if_pos hh, if_pos (by omega)]
    have hr : RelB zs r (b - sp * 256) nb (v - sp) pos := ⟨h.1, fun _ => ⟨by omega, e2, by omega⟩, fun h => absurd hn (by omega)⟩
    obtain ⟨n1, n2⟩ := norm_rel zs r (m - sp) (b - sp * 256) nb (v - sp) pos hz hr (by omega) (by omega) hn hn1 (by omega)
    rw [show m - sp + 1 = m + 1 - sp by omega] at n1 n2
    exact ⟨rfl, n1, n2⟩
  · rw [if_neg hh, if_neg (by omega)]
    obtain ⟨n1, n2⟩ := norm_rel zs r (sp - 1) b nb v pos hz h (by omega) (by omega) hn hn1 hb
    rw [show sp - 1 + 1 = sp by omega] at n1 n2
    rw [e]
    exact ⟨rfl, n1, n2⟩

/-- As long as the package's decoder has bytes, both decide alike. -/
theorem step_rel (zs : List Int) (d : DS) (s : SS) (h : OKP zs d) (hz : Bytes zs) (h255 : zs.getD 0 0 ≠ 255) (hr : Rel zs d s) (hne : ¬ (d.nb < 8 ∧ zs.length ≤ d.r)) (prob : Int) (hp0 : 0 ≤ prob) (hp1 : prob ≤ 255) :
    (stepP zs d prob).1 = (stepS zs s prob).1 ∧ Rel zs (stepP zs d prob).2 (stepS zs s prob).2 := by
  obtain ⟨v, z, pos⟩ := s
  obtain ⟨rfl, hr⟩ := hr
  unfold stepP
  by_cases h1 : d.nb < 8
  · rw [if_pos h1, if_neg (by omega)]
    obtain ⟨a1, a2, a3, a4, a5⟩ := load_ok zs d h hz h255 h1
    have hd := h.2.2.2.2.2.2.1
    have h4 := h.2.2.2.1
    refine goP_rel zs _ _ _ _ _ _ _ _ hz ⟨?_, fun _ => ⟨(hr.2.2 h1).1, by omega, ?_⟩, fun h => absurd h (by omega)⟩ h.1 h.2.1 hp0 hp1 (by omega) (by omega) a3 a5
    · have := hr.1; simp only at this ⊢; omega
    · have := (hr.2.2 h1).2
      rw [Nat.add_sub_cancel]
      have hx := hz d.r
      obtain ⟨r, m, b, nb, eof⟩ := d
      simp only at *
      generalize zs.getD r 0 = x at *
      obtain rfl | rfl | rfl | rfl | rfl | rfl | rfl | rfl := nb_cases nb h4 h1
      all_goals
        simp only [Int.reduceSub, Int.reduceAdd, Int.reduceToNat, Int.reducePow] at hd ⊢
        omega
  · rw [if_neg h1]
    obtain ⟨b1, b2, b3, b4, b5, b6, b7, b8⟩ := h
    exact goP_rel zs _ _ _ _ _ _ _ _ hz hr b1 b2 hp0 hp1 (by omega) b5 b3 (by rcases b8 with h | h; exact h; omega)

/-- What holds of the reference's decoder whatever it reads. -/
def OKS (zs : List Int) (s : SS) : Prop := 0 ≤ s.v ∧ s.v < s.z ∧ 128 ≤ s.z ∧ s.z ≤ 255

theorem bitAt_range (zs : List Int) (i : Nat) : 0 ≤ bitAt zs i ∧ bitAt zs i ≤ 1 := by
  unfold bitAt; generalize zs.getD (i / 8) 0 / 2 ^ (7 - i % 8) = x; omega
theorem shiftsS_range (zs : List Int) (k : Nat) : ∀ (v z : Int) (pos : Nat), 0 ≤ v → v < z → 0 ≤ shiftsS zs k v pos ∧ shiftsS zs k v pos < z * 2 ^ k := by
  induction k with
  | zero => intro v z pos h1 h2; simpa [shiftsS] using ⟨h1, h2⟩
  | succ k ih =>
    intro v z pos h1 h2
    have hb := bitAt_range zs pos
    have := ih (2 * v + bitAt zs pos) (2 * z) (pos + 1) (by omega) (by omega)
    have e : 2 * z * 2 ^ k = z * 2 ^ (k + 1) := by rw [Int.pow_succ, Int.mul_comm 2 z, Int.mul_assoc, Int.mul_comm 2]
    rw [e] at this
    exact this
theorem kOf_range (z : Int) (h1 : 1 ≤ z) (h2 : z ≤ 255) : 128 ≤ z * 2 ^ kOf z ∧ z * 2 ^ kOf z ≤ 255 ∧ kOf z ≤ 7 := by
  unfold kOf
  by_cases h : z < 128
  · rw [if_pos h]
    obtain ⟨k, rfl⟩ : ∃ k : Nat, z = k + 1 := ⟨(z - 1).toNat, by omega⟩
    obtain ⟨t1, t2, t3, t4⟩ := shiftTab_range k (by omega)
    rw [show ((k : Int) + 1 - 1).toNat = k by omega]
    omega
  · rw [if_neg h]; simp; omega
theorem stepS_ok (zs : List Int) (s : SS) (h : OKS zs s) (p : Int) (hp0 : 0 ≤ p) (hp1 : p ≤ 255) : OKS zs (stepS zs s p).2 ∧ (stepS zs s p).2.pos ≤ s.pos + 7 := by
  obtain ⟨h1, h2, h3, h4⟩ := h
  obtain ⟨s0, s1, s2⟩ := sp_bounds (s.z - 1) p (by omega) (by omega) hp0 hp1
  have hs2 := s2 (by omega)
  unfold stepS
  generalize (s.z - 1) * p / 256 + 1 = sp at *
  by_cases hh : sp ≤ s.v
  · rw [if_pos hh]
    obtain ⟨a1, a2, a3⟩ := kOf_range (s.z - sp) (by omega) (by omega)
    obtain ⟨c1, c2⟩ := shiftsS_range zs (kOf (s.z - sp)) (s.v - sp) (s.z - sp) s.pos (by omega) (by omega)
    exact ⟨⟨c1, c2, a1, a2⟩, by simp only; omega⟩
  · rw [if_neg hh]
    obtain ⟨a1, a2, a3⟩ := kOf_range sp (by omega) (by omega)
    obtain ⟨c1, c2⟩ := shiftsS_range zs (kOf sp) s.v sp s.pos (by omega) (by omega)
    exact ⟨⟨c1, c2, a1, a2⟩, by simp only; omega⟩

/-- The states at the begin. -/
def ds0 : DS := ⟨0, 254, 0, 0, false⟩
def ss0 (zs : List Int) : SS := ⟨zs.getD 0 0, 255, 8⟩
theorem ds0_ok (zs : List Int) : OKP zs ds0 := ⟨by decide, by decide, by decide, by decide, by decide, Nat.zero_le _, by decide, .inr ⟨rfl, rfl, rfl, rfl⟩⟩
theorem ss0_ok (zs : List Int) (hz : Bytes zs) (h255 : zs.getD 0 0 ≠ 255) : OKS zs (ss0 zs) := by
  have := hz 0
  exact ⟨this.1, by simp only [ss0]; omega, by simp [ss0], by simp [ss0]⟩
theorem rel0 (zs : List Int) (hz : Bytes zs) : Rel zs ds0 (ss0 zs) := by
  have := hz 0
  refine ⟨rfl, by simp [ss0, ds0], fun h => absurd h (by simp [ds0]), fun _ => ?_⟩
  simp only [ss0, ds0, Int.reduceSub, Int.reduceToNat, Int.reducePow]
  omega
end Go.Proofs.YthmkmemocjnleaaDoor
namespace Go.Proofs.YthmkmemocjnleaaDoor
open Go.RowKit
set_option linter.unusedVariables false

set_option maxRecDepth 100000 in
theorem readBit_eof (g : Nat) (ao : Option Addr) (n c r : Nat) (m b nb prob : Int) (eof : Bool) (w : World) (hp : PT w g ao n c r m b nb eof) (hn : nb < 8) (hr : n ≤ r) (hr2 : r ≤ 9223372036854775807) :
    Calls Tryd.prog 56 #[.pointer (some ⟨g, 0, none⟩), .int .u8 prob] w fun e w' => e = .returned (.bool false) ∧ PT w' g ao n c r m b nb true ∧ w.grownBy w' (some g) := by
  have H := Lib.hid hp
  have c0 := hp.cell 0 rfl
  have c1 := hp.cell 1 rfl
  have c4 := hp.cell 4 rfl
  have c5 := hp.cell 5 rfl
  have z5 := hp.free 5
  clear hp
  go_enter Tryd.func56, Tryd.ntmps56
  go_wp2
  go_quiet (fail)
  go_wp2
  go_ret
  exact ⟨rfl, (H.out.drewN nq).set 5 _, grownBy.trans (grownBy_drewN _ nq _) (grownBy_setCell _ _ _)⟩

set_option maxRecDepth 100000 in
set_option maxHeartbeats 1600000 in
/-- The byte is taken; then the call goes on as from a state that holds it. -/
theorem readBit_load (g : Nat) (ao : Option Addr) (n c r : Nat) (m b nb prob x : Int) (eof : Bool) (w : World) (ht : Tabs w) (hg : 2 ≤ g) (hp : PT w g ao n c r m b nb eof)
    (gb ob : Nat) (hao : ao = some ⟨gb, ob, none⟩) (hx : w.cell? ⟨gb, ob + r, none⟩ = some (.int .u8 x)) (hgb : gb ≠ g) (hx0 : 0 ≤ x) (hx1 : x ≤ 255)
    (hm0 : 0 ≤ m) (hm : m ≤ 254) (hp0 : 0 ≤ prob) (hp1 : prob ≤ 255) (hb0 : 0 ≤ b) (hb : b < 65536) (hn0 : 0 ≤ nb) (hn : nb < 8) (hr : r < n) (hr2 : n ≤ 9223372036854775807)
    (b1 : Int) (hor : bits .or .u32 b (x * 2 ^ (8 - nb).toNat % 4294967296) = b1) (hb10 : 0 ≤ b1) (hb11 : b1 < 65536) (hb12 : b1 < (m + 1) * 256)
    (sp : Int) (hsp : sp = m * prob / 256 + 1) (bit : Bool) (hbit : bit = decide (sp * 256 ≤ b1)) (m1 b2 : Int) (hm1 : m1 = if bit then m - sp else sp - 1) (hb2 : b2 = if bit then b1 - sp * 256 else b1) :
    Calls Tryd.prog 56 #[.pointer (some ⟨g, 0, none⟩), .int .u8 prob] w fun e w' => e = .returned (.bool bit) ∧ PT w' g ao n c (r + 1) (normP m1 b2 (nb + 8)).1 (normP m1 b2 (nb + 8)).2.1 (normP m1 b2 (nb + 8)).2.2 eof ∧ w.grownBy w' (some g) := by
  have H := Lib.hid hp
  have c0 := hp.cell 0 rfl
  have c1 := hp.cell 1 rfl
  have c2 := hp.cell 2 rfl
  have c3 := hp.cell 3 rfl
  have c4 := hp.cell 4 rfl
  have z1 := hp.free 1
  have z2 := hp.free 2
  have z3 := hp.free 3
  have z4 := hp.free 4
  subst hao
  have q0 : 0 ≤ m * prob := Int.mul_nonneg hm0 hp0
  have q1 : m * prob ≤ 254 * 255 := Int.mul_le_mul hm hp1 hp0 (by omega)
  have s0 : 1 ≤ sp := by omega
  have s1 : sp ≤ 254 := by omega
  have s2 : sp ≤ m + 1 := by
    have : m * prob ≤ m * 256 := Int.mul_le_mul_of_nonneg_left (by omega) hm0
    omega
  have HT := Lib.hid ht
  have glt := hp.lt
  have HV := Lib.hid (And.intro hor (And.intro hbit (And.intro hm1 (And.intro hb2 hsp)))); clear hor hbit hm1 hb2 hsp
  clear hp ht
  go_enter Tryd.func56, Tryd.ntmps56
  go_wp2
  go_quiet (fail)
  go_wp2
  go_quiet (fail)
  go_wp2
  go_region
  generalize hw2 : World.setCell _ (⟨g, 3, none⟩ : Addr) _ = w2
  have H2 : Hid (PT w2 g (some ⟨gb, ob, none⟩) n c r m b1 nb eof ∧ w.grownBy w2 (some g) ∧ Tabs w2) := by
    rw [← hw2, HV.out.1]
    exact ⟨(H.out.drewN _).set 3 _, grownBy.trans (grownBy_drewN _ _ _) (grownBy_setCell _ _ _), fun i hi => ⟨by
      rw [World.cell?_setCell_other _ _ _ _ (by intro h; injection h with h; omega)]; exact (HT.out i hi).1, by
      rw [World.cell?_setCell_other _ _ _ _ (by intro h; injection h with h; omega)]; exact (HT.out i hi).2⟩⟩
  clear hw2 c0 c1 c2 c3 c4 z1 z2 z3 z4 H HT hx
  have hp := H2.out.1
  have c1 := hp.cell 1 rfl
  have c2 := hp.cell 2 rfl
  have c3 := hp.cell 3 rfl
  have c4 := hp.cell 4 rfl
  have z1 := hp.free 1
  have z2 := hp.free 2
  have z3 := hp.free 3
  have z4 := hp.free 4
  have esp : m * prob / 256 + 1 = sp := HV.out.2.2.2.2.symm
  clear hp
  by_cases d1 : sp * 256 ≤ b1
  · have v1 : Hid (bit = true ∧ m1 = m - sp ∧ b2 = b1 - sp * 256) := by
      obtain ⟨_, h2, h3, h4, _⟩ := HV.out
      have hb : bit = true := by rw [h2]; exact decide_eq_true d1
      subst hb
      exact ⟨rfl, by simpa using h3, by simpa using h4⟩
    by_cases d2 : m - sp < 127
    · obtain ⟨k, hk⟩ := Int.eq_ofNat_of_zero_le (show 0 ≤ m - sp by omega)
      have hk127 : k < 127 := by omega
      obtain ⟨t1, t2, t3, t4⟩ := shiftTab_range k hk127
      have l0 := (H2.out.2.2 k hk127).1
      have l1 := (H2.out.2.2 k hk127).2
      have en : Hid (normP m1 b2 (nb + 8) = (((k : Int) + 1) * 2 ^ (shiftTab.getD k 0).toNat - 1, (b1 - sp * 256) * 2 ^ (shiftTab.getD k 0).toNat, nb + 8 - shiftTab.getD k 0)) := by
        rw [v1.out.2.1, v1.out.2.2]; unfold normP; rw [if_pos d2, hk]; exact Lib.hid rfl
      obtain ⟨sh, hsh⟩ : ∃ sh, sh = shiftTab.getD k 0 := ⟨_, rfl⟩
      rw [← hsh] at t1 t2 t3 t4 l0 l1 en
      obtain ⟨rr, hrr⟩ : ∃ rr, rr = ((k : Int) + 1) * 2 ^ sh.toNat - 1 := ⟨_, rfl⟩
      rw [← hrr] at l1 en
      have r0 : 127 ≤ rr := by omega
      have r1 : rr ≤ 253 := by omega
      have hb2 : Hid ((b1 - sp * 256) * 2 ^ sh.toNat % 4294967296 = (b1 - sp * 256) * 2 ^ sh.toNat) := Lib.hid (pow_small (b1 - sp * 256) sh t1 t2 (by omega) (by omega))
      have HS := Lib.hid (And.intro hk (And.intro hsh hrr)); clear hsh hrr t3 t4
      go_wp2
      go_ret
      rw [en.out, v1.out.1]
      exact ⟨rfl, PT.bits (((((((H2.out.1.set 1 _).set 4 _).set 2 _).set 3 _).set 2 _).set 3 _).set 4 _) hb2.out, grownBy.trans (grownBy.trans (grownBy.trans (grownBy.trans (grownBy.trans (grownBy.trans (grownBy.trans (H2.out.2.1) (grownBy_setCell _ _ _)) (grownBy_setCell _ _ _)) (grownBy_setCell _ _ _)) (grownBy_setCell _ _ _)) (grownBy_setCell _ _ _)) (grownBy_setCell _ _ _)) (grownBy_setCell _ _ _)⟩
    · have en : Hid (normP m1 b2 (nb + 8) = (m - sp, b1 - sp * 256, nb + 8)) := by
        rw [v1.out.2.1, v1.out.2.2]; unfold normP; rw [if_neg d2]; exact Lib.hid rfl
      go_wp2
      go_ret
      rw [en.out, v1.out.1]
      exact ⟨rfl, ((((H2.out.1.set 1 _).set 4 _).set 2 _).set 3 _), grownBy.trans (grownBy.trans (grownBy.trans (grownBy.trans (H2.out.2.1) (grownBy_setCell _ _ _)) (grownBy_setCell _ _ _)) (grownBy_setCell _ _ _)) (grownBy_setCell _ _ _)⟩
  · have hd : decide (sp * 256 ≤ b1) = false := decide_eq_false d1
    have v1 : Hid (bit = false ∧ m1 = sp - 1 ∧ b2 = b1) := by
      obtain ⟨_, h2, h3, h4, _⟩ := HV.out
      have hb : bit = false := by rw [h2]; exact hd
      subst hb
      exact ⟨rfl, by simpa using h3, by simpa using h4⟩
    by_cases d2 : sp - 1 < 127
    · obtain ⟨k, hk⟩ := Int.eq_ofNat_of_zero_le (show 0 ≤ sp - 1 by omega)
      have hk127 : k < 127 := by omega
      obtain ⟨t1, t2, t3, t4⟩ := shiftTab_range k hk127
      have l0 := (H2.out.2.2 k hk127).1
      have l1 := (H2.out.2.2 k hk127).2
      have en : Hid (normP m1 b2 (nb + 8) = (((k : Int) + 1) * 2 ^ (shiftTab.getD k 0).toNat - 1, b1 * 2 ^ (shiftTab.getD k 0).toNat, nb + 8 - shiftTab.getD k 0)) := by
        rw [v1.out.2.1, v1.out.2.2]; unfold normP; rw [if_pos d2, hk]; exact Lib.hid rfl
      obtain ⟨sh, hsh⟩ : ∃ sh, sh = shiftTab.getD k 0 := ⟨_, rfl⟩
      rw [← hsh] at t1 t2 t3 t4 l0 l1 en
      obtain ⟨rr, hrr⟩ : ∃ rr, rr = ((k : Int) + 1) * 2 ^ sh.toNat - 1 := ⟨_, rfl⟩
      rw [← hrr] at l1 en
      have r0 : 127 ≤ rr := by omega
      have r1 : rr ≤ 253 := by omega
      have hb2 : Hid ((b1) * 2 ^ sh.toNat % 4294967296 = (b1) * 2 ^ sh.toNat) := Lib.hid (pow_small (b1) sh t1 t2 (by omega) (by omega))
      have HS := Lib.hid (And.intro hk (And.intro hsh hrr)); clear hsh hrr t3 t4
      go_wp2
      go_ret
      rw [en.out, v1.out.1]
      exact ⟨(by first | rfl | (show Ending.returned (.bool (decide (sp * 256 ≤ b1))) = _; rw [decide_eq_false (by omega)])), PT.bits ((((((H2.out.1.set 1 _).set 4 _).set 2 _).set 2 _).set 3 _).set 4 _) hb2.out, grownBy.trans (grownBy.trans (grownBy.trans (grownBy.trans (grownBy.trans (grownBy.trans (H2.out.2.1) (grownBy_setCell _ _ _)) (grownBy_setCell _ _ _)) (grownBy_setCell _ _ _)) (grownBy_setCell _ _ _)) (grownBy_setCell _ _ _)) (grownBy_setCell _ _ _)⟩
    · have en : Hid (normP m1 b2 (nb + 8) = (sp - 1, b1, nb + 8)) := by
        rw [v1.out.2.1, v1.out.2.2]; unfold normP; rw [if_neg d2]; exact Lib.hid rfl
      go_wp2
      go_ret
      rw [en.out, v1.out.1]
      exact ⟨(by first | rfl | (show Ending.returned (.bool (decide (sp * 256 ≤ b1))) = _; rw [decide_eq_false (by omega)])), (((H2.out.1.set 1 _).set 4 _).set 2 _), grownBy.trans (grownBy.trans (grownBy.trans (H2.out.2.1) (grownBy_setCell _ _ _)) (grownBy_setCell _ _ _)) (grownBy_setCell _ _ _)⟩
end Go.Proofs.YthmkmemocjnleaaDoor
namespace Go.Proofs.YthmkmemocjnleaaDoor
open Go.RowKit
set_option linter.unusedVariables false

def PTd (w : World) (g : Nat) (ao : Option Addr) (n c : Nat) (d : DS) : Prop := PT w g ao n c d.r d.m d.b d.nb d.eof

/-- What a call of the decoder needs: the tables, the bytes, the decoder's own block, what holds of it. -/
structure Rd (w : World) (g : Nat) (ao : Option Addr) (n c : Nat) (zs : List Int) (d : DS) : Prop where
  tabs : Tabs w
  two : 2 ≤ g
  obj : PTd w g ao n c d
  len : zs.length = n
  row : Arg .u8 w ao n (fun i => zs.getD i 0)
  far : 0 < n → ∀ a, ao = some a → a.block ≠ g
  ok : OKP zs d
  bytes : Bytes zs
  first : zs.getD 0 0 ≠ 255
  max : n ≤ 9223372036854775807

theorem goP_calls (g : Nat) (ao : Option Addr) (n c r : Nat) (m b nb prob : Int) (eof : Bool) (w : World) (ht : Tabs w) (hg : 2 ≤ g) (hp : PT w g ao n c r m b nb eof)
    (hm0 : 127 ≤ m) (hm : m ≤ 254) (hp0 : 0 ≤ prob) (hp1 : prob ≤ 255) (hb0 : 0 ≤ b) (hbm : b < (m + 1) * 256) (hn : 8 ≤ nb) (hn1 : nb ≤ 15) :
    Calls Tryd.prog 56 #[.pointer (some ⟨g, 0, none⟩), .int .u8 prob] w fun e w' => e = .returned (.bool (goP r m b nb prob eof).1) ∧ PTd w' g ao n c (goP r m b nb prob eof).2 ∧ w.grownBy w' (some g) := by
  obtain ⟨s0, s1, s2⟩ := sp_bounds m prob (by omega) hm hp0 hp1
  unfold goP
  obtain ⟨sp, hsp⟩ : ∃ sp, sp = m * prob / 256 + 1 := ⟨_, rfl⟩
  rw [← hsp] at s0 s1 s2 ⊢
  by_cases h : sp * 256 ≤ b
  · rw [if_pos h]
    by_cases h2 : m - sp < 127
    · exact readBit_1r g ao n c r m b nb prob eof w ht hg hp (by omega) hm hp0 hp1 hb0 (by omega) hbm hn hn1 sp hsp h h2
    · exact readBit_1n g ao n c r m b nb prob eof w ht hg hp (by omega) hm hp0 hp1 hb0 (by omega) hbm hn hn1 sp hsp h h2
  · rw [if_neg h]
    by_cases h2 : sp - 1 < 127
    · exact readBit_0r g ao n c r m b nb prob eof w ht hg hp (by omega) hm hp0 hp1 hb0 (by omega) hbm hn hn1 sp hsp (by omega) h2
    · exact readBit_0n g ao n c r m b nb prob eof w ht hg hp (by omega) hm hp0 hp1 hb0 (by omega) hbm hn hn1 sp hsp (by omega) h2

theorem readBit_any (g : Nat) (ao : Option Addr) (n c : Nat) (zs : List Int) (d : DS) (prob : Int) (w : World) (h : Rd w g ao n c zs d) (hp0 : 0 ≤ prob) (hp1 : prob ≤ 255) :
    Calls Tryd.prog 56 #[.pointer (some ⟨g, 0, none⟩), .int .u8 prob] w fun e w' => e = .returned (.bool (stepP zs d prob).1) ∧ PTd w' g ao n c (stepP zs d prob).2 ∧ w.grownBy w' (some g) := by
  have hok := h.ok
  obtain ⟨o1, o2, o3, o4, o5, o6, o7, o8⟩ := hok
  have hl := h.len
  unfold stepP
  by_cases h8 : d.nb < 8
  · rw [if_pos h8]
    by_cases hr : zs.length ≤ d.r
    · rw [if_pos hr]
      exact readBit_eof g ao n c d.r d.m d.b d.nb prob d.eof w h.obj h8 (by omega) (by have := h.max; omega)
    · rw [if_neg hr]
      obtain ⟨a1, a2, a3, a4, a5⟩ := load_ok zs d h.ok h.bytes h.first h8
      have hx := h.bytes d.r
      obtain ⟨gb, ob, hao, hlt, hrow⟩ := h.row (by omega)
      have hcell := hrow d.r (by omega)
      have hor := load_or d.b (zs.getD d.r 0) d.nb hx.1 hx.2 a1 a2 o4 h8 o7
      obtain ⟨b1, hb1⟩ : ∃ b1, b1 = d.b + zs.getD d.r 0 * 2 ^ (8 - d.nb).toNat := ⟨_, rfl⟩
      rw [← hb1] at a3 a4 a5 hor ⊢
      have hpow : (0 : Int) < 2 ^ (16 - (d.nb + 8)).toNat := Int.pow_pos (by omega)
      have := readBit_load g ao n c d.r d.m d.b d.nb prob (zs.getD d.r 0) d.eof w h.tabs h.two h.obj gb ob hao hcell (h.far (by omega) _ hao) hx.1 hx.2 (by omega) o2 hp0 hp1 a1 a2 o4 h8 (by omega) h.max b1 hor a3 (by omega) (by omega) (d.m * prob / 256 + 1) rfl _ rfl _ _ rfl rfl
      unfold goP
      by_cases hbit : (d.m * prob / 256 + 1) * 256 ≤ b1
      · rw [if_pos hbit]
        rw [decide_eq_true hbit] at this
        exact this
      · rw [if_neg hbit]
        rw [decide_eq_false hbit] at this
        exact this
  · rw [if_neg h8]
    have hpow : (0 : Int) < 2 ^ (16 - d.nb).toNat := Int.pow_pos (by omega)
    exact goP_calls g ao n c d.r d.m d.b d.nb prob d.eof w h.tabs h.two h.obj o1 o2 hp0 hp1 o3 (by omega) (by omega) o5

theorem PTd.lt {w : World} {g : Nat} {ao : Option Addr} {n c : Nat} {d : DS} (h : PTd w g ao n c d) : g < w.heap.size := SObj.lt h

/-- The need behind a call. -/
theorem Rd.step {w w' : World} {g : Nat} {ao : Option Addr} {n c : Nat} {zs : List Int} {d d' : DS} (h : Rd w g ao n c zs d) (hg : w.grownBy w' (some g)) (ho : PTd w' g ao n c d') (hok : OKP zs d') : Rd w' g ao n c zs d' where
  tabs := fun i hi => by
    have h0 := h.obj.lt
    have h2 := h.two
    have k : ∀ b, b < 2 → w'.heap[b]? = w.heap[b]? := fun b hb => hg.block b (by omega) (by intro e; injection e with e; omega)
    exact ⟨by rw [World.cell?_of_block (w := w) (k _ (Nat.lt_of_le_of_lt (Nat.le_refl _) (by decide +revert)))]; exact (h.tabs i hi).1, by rw [World.cell?_of_block (w := w) (k _ (Nat.lt_of_le_of_lt (Nat.le_refl _) (by decide +revert)))]; exact (h.tabs i hi).2⟩
  two := h.two
  obj := ho
  len := h.len
  row := fun hn => h.row.grown hg (fun r hr p hp => by injection hr with hr; subst hr; exact h.far hn p hp) hn
  far := h.far
  ok := hok
  bytes := h.bytes
  first := h.first
  max := h.max

/-- .. and what other work does, that leaves the decoder's block alone. -/
theorem Rd.below {w w' : World} {g : Nat} {ao : Option Addr} {n c : Nat} {zs : List Int} {d : DS} (h : Rd w g ao n c zs d) (hb : Below w.heap.size w w') : Rd w' g ao n c zs d where
  tabs := fun i hi => by
    have h0 := h.obj.lt
    have h2 := h.two
    have k : ∀ b, b < 2 → b < w.heap.size := fun b hb => by omega
    exact ⟨by rw [hb.cell (k _ (Nat.lt_of_le_of_lt (Nat.le_refl _) (by decide +revert)))]; exact (h.tabs i hi).1, by rw [hb.cell (k _ (Nat.lt_of_le_of_lt (Nat.le_refl _) (by decide +revert)))]; exact (h.tabs i hi).2⟩
  two := h.two
  obj := SObj.below h.obj hb h.obj.lt
  len := h.len
  row := h.row.below hb
  far := h.far
  ok := h.ok
  bytes := h.bytes
  first := h.first
  max := h.max

/-- .. and growth at another row. -/
theorem Rd.grown {w w' : World} {g : Nat} {ao : Option Addr} {n c : Nat} {zs : List Int} {d : DS} {row : Option Nat} (h : Rd w g ao n c zs d) (hg : w.grownBy w' row) (B : Nat) (hB : 2 ≤ B) (hr : ∀ k, row = some k → B ≤ k ∧ k ≠ g) (ha : 0 < n → ∀ a, ao = some a → a.block < B) : Rd w' g ao n c zs d where
  tabs := fun i hi => by
    have h0 := h.obj.lt
    have h2 := h.two
    have k : ∀ b, b < 2 → w'.heap[b]? = w.heap[b]? := fun b hb => hg.block b (by omega) (by intro e; have := hr b e.symm; omega)
    exact ⟨by rw [World.cell?_of_block (w := w) (k _ (Nat.lt_of_le_of_lt (Nat.le_refl _) (by decide +revert)))]; exact (h.tabs i hi).1, by rw [World.cell?_of_block (w := w) (k _ (Nat.lt_of_le_of_lt (Nat.le_refl _) (by decide +revert)))]; exact (h.tabs i hi).2⟩
  two := h.two
  obj := SObj.grown h.obj hg (fun e => (hr g e.symm).2 rfl)
  len := h.len
  row := fun hn => h.row.grown hg (fun r hr' p hp => by have := hr r hr'; have := ha hn p hp; omega) hn
  far := h.far
  ok := h.ok
  bytes := h.bytes
  first := h.first
  max := h.max

theorem DoorBit_any (g : Nat) (ao : Option Addr) (n c : Nat) (zs : List Int) (d : DS) (prob : Int) (w : World) (h : Rd w g ao n c zs d) (hp0 : 0 ≤ prob) (hp1 : prob ≤ 255) :
    Calls Tryd.prog 33 #[.pointer (some ⟨g, 0, none⟩), .int .u8 prob] w fun e w' => e = .returned (.bool (stepP zs d prob).1) ∧ Rd w' g ao n c zs (stepP zs d prob).2 ∧ w.grownBy w' (some g) := by
  have H := Lib.hid h
  go_enter Tryd.func33, Tryd.ntmps33
  clear h
  go_wp2_with fail
  refine (readBit_any g ao n c zs d prob w H.out hp0 hp1).mono ?_
  rintro _ w' ⟨rfl, h1, h2⟩
  have H2 := Lib.hid (And.intro h1 h2); clear h1 h2
  go_wp2
  go_ret
  exact ⟨rfl, H.out.step H2.out.2 H2.out.1 (stepP_ok zs d H.out.ok H.out.bytes H.out.first prob hp0 hp1), H2.out.2⟩

theorem DoorEnded_any (g : Nat) (ao : Option Addr) (n c : Nat) (d : DS) (w : World) (h : PTd w g ao n c d) :
    Calls Tryd.prog 34 #[.pointer (some ⟨g, 0, none⟩)] w fun e w' => e = .returned (.bool d.eof) ∧ w' = w := by
  have c5 := SObj.cell h 5 (v := .bool d.eof) rfl
  clear h
  go_enter Tryd.func34, Tryd.ntmps34
  go_wp2
  go_ret
  exact ⟨rfl, rfl⟩

/-- impl.bools: a decoder in a new block. -/
theorem bools_new (ao : Option Addr) (n c : Nat) (w : World) :
    Calls Tryd.prog 32 #[.slice ao n c] w fun e w' => e = .returned (.pointer (some ⟨w.heap.size, 0, none⟩)) ∧ PTd w' w.heap.size ao n c ds0 ∧ Below w.heap.size w w' := by
  go_enter Tryd.func32, Tryd.ntmps32
  go_wp2_with (first | (go_at_call 55; go_in))
  go_wp2_with (first | (go_at_call 62; go_in))
  go_end0
  simp only []
  go_wp2
  go_end0
  simp only []
  go_wp2
  go_ret
  exact ⟨rfl, obj_new w 128 [.slice ao n c, .int .i64 0, .int .u32 254, .int .u32 0, .int .u8 0, .bool false], (Below.refl _ _).alloc (Nat.le_refl _) _⟩
end Go.Proofs.YthmkmemocjnleaaDoor
namespace Go.Proofs.YthmkmemocjnleaaDoor
open Go.RowKit
set_option linter.unusedVariables false

theorem infoByte : (Tryd.prog.info? 5).map (fun i => (i.zero, i.size, i.bytes)) = some (some (.int .u8 0), 1, 1) := by kernel_rfl

/-- The writer at block g: the bytes out (in a block of the call's own), the number so far, its size, the bits that are still missing. -/
def BW (w : World) (B g : Nat) (out : List Int) (low size k : Int) : Prop :=
  ∃ v, SObj w g 125 [v, .int .i64 low, .int .i64 size, .int .i64 k] ∧ w.ownsRow B 5 1 v out.length (out.map (Value.int .u8)) ∧ v.ownBlock ≠ some g ∧ B ≤ g

theorem ownsRow_setCell_far {w : World} {base : Nat} {e : TypeId} {size : Nat} {v : Value} {n : Nat} {xs : List Value} (h : w.ownsRow base e size v n xs) (p : Addr) (hp : v.ownBlock ≠ some p.block) (u : Value) : (w.setCell p u).ownsRow base e size v n xs :=
  h.kept (grownBy_setCell w p u) (.inr hp)

theorem BW.setLow {w : World} {B g : Nat} {out : List Int} {low size k : Int} (h : BW w B g out low size k) (x : Int) : BW (w.setCell ⟨g, 1, none⟩ (.int .i64 x)) B g out x size k := by
  obtain ⟨v, h1, h2, h3, h4⟩ := h
  exact ⟨v, h1.set 1 _, ownsRow_setCell_far h2 _ h3 _, h3, h4⟩
theorem BW.setSize {w : World} {B g : Nat} {out : List Int} {low size k : Int} (h : BW w B g out low size k) (x : Int) : BW (w.setCell ⟨g, 2, none⟩ (.int .i64 x)) B g out low x k := by
  obtain ⟨v, h1, h2, h3, h4⟩ := h
  exact ⟨v, h1.set 2 _, ownsRow_setCell_far h2 _ h3 _, h3, h4⟩
theorem BW.setBits {w : World} {B g : Nat} {out : List Int} {low size k : Int} (h : BW w B g out low size k) (x : Int) : BW (w.setCell ⟨g, 3, none⟩ (.int .i64 x)) B g out low size x := by
  obtain ⟨v, h1, h2, h3, h4⟩ := h
  exact ⟨v, h1.set 3 _, ownsRow_setCell_far h2 _ h3 _, h3, h4⟩

theorem bw_push {wr w1 : World} {B g gg cap : Nat} {out : List Int} {v : Value} {lo sz k x x' : Int} {o : Go.Obj} (ho : SObj wr g 125 [v, .int .i64 lo, .int .i64 sz, .int .i64 k]) (hne : v.ownBlock ≠ some g) (hB : B ≤ g) (hx : x' = x)
    (h : w1.ownsRow B 5 1 (.slice (some ⟨gg, 0, none⟩) (out.length + 1) cap) (out.length + 1) (out.map (Value.int .u8) ++ [.int .u8 x']) ∧ (wr.alloc o).drew.grownBy w1 v.ownBlock ∧ (v.ownBlock = some gg ∨ gg = wr.heap.size + 1) ∧ gg < w1.heap.size) :
    BW (w1.setCell ⟨g, 0, none⟩ (.slice (some ⟨gg, 0, none⟩) (out.length + 1) cap)) B g (out ++ [x]) lo sz k := by
  obtain ⟨hown1, hgrow, hat, _⟩ := h
  have hgg : (Value.slice (some ⟨gg, 0, none⟩) (out.length + 1) cap).ownBlock ≠ some g := by
    have := ho.lt
    rcases hat with h | h
    · rw [← h.symm.trans h] at *; simp only [Value.ownBlock]; rw [← h]; exact hne
    · simp [Value.ownBlock]; omega
  refine ⟨_, (SObj.grown ((ho.alloc o).drew) hgrow (fun h => hne h.symm)).set 0 _, ?_, hgg, hB⟩
  have h2 := ownsRow_setCell_far hown1 ⟨g, 0, none⟩ hgg (.slice (some ⟨gg, 0, none⟩) (out.length + 1) cap)
  subst hx
  simpa using h2

set_option maxRecDepth 100000 in
set_option maxHeartbeats 400000 in
theorem shift_plain (B g : Nat) (out : List Int) (low size k : Int) (w : World) (hb : BW w B g out low size k) (h0 : 0 ≤ low) (h1 : low < 2147483648) (hk : k ≠ 1) (hk0 : 0 ≤ k) (hk1 : k ≤ 100) :
    Calls Tryd.prog 54 #[.pointer (some ⟨g, 0, none⟩)] w fun e w' => e = .returned (.tuple #[]) ∧ BW w' B g out (low * 2) size (k - 1) ∧ Below B w w' := by
  have a1 := bit31_none low h0 h1
  have a2 : bits .and .i64 (low * 2) 4294967295 = low * 2 := by rw [mask32]; omega
  have H := Lib.hid hb
  obtain ⟨v, ho, hown, hne, hB⟩ := hb
  have c0 := ho.cell 0 rfl
  have c1 := ho.cell 1 rfl
  have c3 := ho.cell 3 rfl
  have z1 := ho.free 1
  have z3 := ho.free 3
  clear ho hown hne
  have tk : (k - 1 == 0) = false := by simp; omega
  go_enter Tryd.func54, Tryd.ntmps54
  go_wp2
  go_end0
  exact ⟨rfl, (H.out.setLow _).setBits _, ((Below.refl _ _).setCell (by simpa using hB) _).setCell (by simpa using hB) _⟩

set_option maxRecDepth 100000 in
set_option maxHeartbeats 800000 in
theorem shift_out (B g : Nat) (out : List Int) (low size : Int) (w : World) (hb : BW w B g out low size 1) (h0 : 0 ≤ low) (h1 : low < 2147483648) (hl : out.length ≤ 1000) :
    Calls Tryd.prog 54 #[.pointer (some ⟨g, 0, none⟩)] w fun e w' => e = .returned (.tuple #[]) ∧ BW w' B g (out ++ [low * 2 / 16777216]) (low * 2 % 16777216) size 8 ∧ Below B w w' := by
  obtain ⟨i0, hi, hz0, hz1, hz2⟩ := info_parts infoByte
  have a1 := bit31_none low h0 h1
  have a2 : bits .and .i64 (low * 2) 4294967295 = low * 2 := by rw [mask32]; omega
  have a3 : bits .and .i64 (low * 2) 16777215 = low * 2 % 16777216 := mask24 _
  have H := Lib.hid hb
  obtain ⟨v, ho, hown, hne, hB⟩ := hb
  have c0 := ho.cell 0 rfl
  have c1 := ho.cell 1 rfl
  have c3 := ho.cell 3 rfl
  have z0 := ho.free 0
  have z1 := ho.free 1
  have z3 := ho.free 3
  clear ho hown hne
  go_enter Tryd.func54, Tryd.ntmps54
  go_wp2
  generalize hwr : (w.setCell ⟨g, 1, none⟩ (.int .i64 (low * 2))).setCell ⟨g, 3, none⟩ (.int .i64 0) = wr
  have H2 : Hid (BW wr B g out (low * 2) size 0) := by rw [← hwr]; exact (H.out.setLow _).setBits _
  have HB2 : Hid (Below B w wr) := by rw [← hwr]; exact ((Below.refl _ _).setCell (by simpa using hB) _).setCell (by simpa using hB) _
  clear hwr c0 c1 c3 z0 z1 z3 H
  obtain ⟨v, ho, hown, hne, _⟩ := H2.out
  have c0 := ho.cell 0 rfl
  have c1 := ho.cell 1 rfl
  have z0 := ho.free 0
  have z1 := ho.free 1
  have z3 := ho.free 3
  have glt := ho.lt
  have HX := Lib.hid (And.intro ho (And.intro hown hne)); clear ho
  have hBw : B ≤ wr.heap.size := by omega
  have hval : Hid (IntKind.u8.wrap (low * 2 / 16777216) = low * 2 / 16777216) := Lib.hid (by rw [IntKind.wrap_u8']; omega)
  go_region_law (first
    | (refine step_append_lies _ (by rfl) _ _ _ (by rfl) B 5 i0 (.int .u8 0) 1 1 Tryd.underlying22 hi hz0 hz1 hz2 rfl (by omega) v out.length (out.map (Value.int .u8)) (by rfl) ((hown.alloc _).drew) ⟨wr.heap.size, 0, none⟩ 1 1 [.int .u8 (IntKind.u8.wrap (low * 2 / 16777216))] (by rfl) (by rfl) (World.news_of_block (cs := #[.int .u8 (IntKind.u8.wrap (low * 2 / 16777216))]) (t := 5) (fr := (0, 0)) (heap_alloc_new wr _)) (by simp [Value.oneCell']) (by omega) (by unfold maxLen; omega) (by omega) (by simp; omega) (wr.heap.size + 1) (by simp) ?_
       intro gg cap w1 hown1 hgrow hat hlt
       have HG1 := Lib.hid (And.intro hown1 (And.intro hgrow (And.intro hat hlt)))
       have k0 := (SObj.grown ((HX.out.1.alloc _).drew) hgrow (fun h => hne h.symm)).cell 0 rfl
       have kz0 := (SObj.grown ((HX.out.1.alloc _).drew) hgrow (fun h => hne h.symm)).free 0
       clear hown1 hgrow hat hlt))
  all_goals
    have hb2 : BW (w1.setCell ⟨g, 0, none⟩ (.slice (some ⟨gg, 0, none⟩) (out.length + 1) cap)) B g (out ++ [low * 2 / 16777216]) (low * 2) size 0 := bw_push HX.out.1 HX.out.2.2 hB hval.out HG1.out
    have hbel : Below B w (w1.setCell ⟨g, 0, none⟩ (.slice (some ⟨gg, 0, none⟩) (out.length + 1) cap)) :=
      (((HB2.out.alloc hBw _).drew).grown HG1.out.2.1 (by simp; omega) (fun k hk => (HX.out.2.1.lt k hk).1)).setCell (by simpa using hB) _
    generalize w1.setCell ⟨g, 0, none⟩ (.slice (some ⟨gg, 0, none⟩) (out.length + 1) cap) = wz at hb2 hbel ⊢
    have HZ := Lib.hid (And.intro hb2 hbel)
    obtain ⟨vz, hoz, _, _, _⟩ := hb2
    have y1 := hoz.cell 1 rfl
    have y3 := hoz.cell 3 rfl
    have yz1 := hoz.free 1
    have yz3 := hoz.free 3
    clear hoz hbel k0 kz0 HG1 HX hown hne c0 c1 z0 z1 z3 H2 HB2
    go_wp2
    go_end0
    exact ⟨rfl, (HZ.out.1.setLow _).setBits _, (HZ.out.2.setCell (by simpa using hB) _).setCell (by simpa using hB) _⟩
end Go.Proofs.YthmkmemocjnleaaDoor
namespace Go.Proofs.YthmkmemocjnleaaDoor
open Go.RowKit
set_option linter.unusedVariables false

/-- One step of shift, on (bytes out, number, missing bits). -/
def stepW (s : List Int × Int × Int) : List Int × Int × Int :=
  if s.2.2 = 1 then (s.1 ++ [s.2.1 * 2 / 16777216], s.2.1 * 2 % 16777216, 8) else (s.1, s.2.1 * 2, s.2.2 - 1)
def stepsW (s : List Int × Int × Int) : Nat → List Int × Int × Int
  | 0 => s
  | n + 1 => stepW (stepsW s n)

theorem shift_any (B g : Nat) (out : List Int) (low size k : Int) (w : World) (hb : BW w B g out low size k) (h0 : 0 ≤ low) (h1 : low < 2147483648) (hl : out.length ≤ 1000) (hk0 : 0 ≤ k) (hk1 : k ≤ 100) :
    Calls Tryd.prog 54 #[.pointer (some ⟨g, 0, none⟩)] w fun e w' => e = .returned (.tuple #[]) ∧ BW w' B g (stepW (out, low, k)).1 (stepW (out, low, k)).2.1 size (stepW (out, low, k)).2.2 ∧ Below B w w' := by
  by_cases hk : k = 1
  · subst hk
    exact shift_out B g out low size w hb h0 h1 hl
  · have e : stepW (out, low, k) = (out, low * 2, k - 1) := by simp [stepW, hk]
    rw [e]
    exact shift_plain B g out low size k w hb h0 h1 hk hk0 hk1

set_option maxRecDepth 100000 in
theorem flag_one (is : Bool) (B g : Nat) (out : List Int) (low size k sp : Int) (w : World) (hb : BW w B g out low size k) (hk : k ≠ 1) (hk0 : 0 ≤ k) (hk1 : k ≤ 100) (hl : out.length ≤ 1000)
    (hsp : sp = 1 + (size - 1) * 128 / 256) (hs0 : 1 ≤ size) (hs1 : size ≤ 255) (h0 : 0 ≤ low) (h1 : low < 1000000)
    (q1 : (if is then size - sp else sp) < 128) (q2 : 64 ≤ (if is then size - sp else sp)) :
    Calls Tryd.prog 30 #[.pointer (some ⟨g, 0, none⟩), .bool is] w fun e w' => e = .returned (.tuple #[]) ∧
      BW w' B g out ((if is then low + sp else low) * 2) ((if is then size - sp else sp) * 2) (k - 1) ∧ Below B w w' := by
  have H := Lib.hid hb
  obtain ⟨v, ho, hown, hne, hB⟩ := hb
  have c1 := ho.cell 1 rfl
  have c2 := ho.cell 2 rfl
  have z1 := ho.free 1
  have z2 := ho.free 2
  clear ho hown hne
  have HS := Lib.hid hsp
  have hsp0 : 1 ≤ sp := by omega
  have hsp1 : sp ≤ 128 := by omega
  have esp : 1 + (size - 1) * 128 / 256 = sp := hsp.symm
  clear hsp
  cases is with
  | true =>
    simp only [if_true] at q1 q2 ⊢
    go_enter Tryd.func30, Tryd.ntmps30
    go_wp2_with (first | (go_at_call 53; go_in))
    go_loopg [] 1 (fun j wr => (j = 1 ∧ Hid (BW wr B g out (low + sp) (size - sp) k ∧ Below B w wr)) ∨ (j = 0 ∧ Hid (BW wr B g out ((low + sp) * 2) ((size - sp) * 2) (k - 1) ∧ Below B w wr)))
    case atStart => exact .inl ⟨rfl, (H.out.setLow _).setSize _, ((Below.refl _ _).setCell (by simpa using hB) _).setCell (by simpa using hB) _⟩
    case round =>
      rcases hrel with ⟨rfl, hR⟩ | ⟨rfl, hR⟩
      · obtain ⟨v2, ho2, _, _, _⟩ := hR.out.1
        have d2 := ho2.cell 2 rfl
        have y2 := ho2.free 2
        clear ho2
        go_wp2_with fail
        refine (shift_plain B g out (low + sp) ((size - sp) * 2) k _ (hR.out.1.setSize _) (by omega) (by omega) hk hk0 hk1).mono ?_
        rintro e w2 ⟨rfl, hb2, hbel⟩
        have HW := Lib.hid (And.intro hb2 hbel); clear hb2 hbel
        go_wp2
        go_roundg 0
        case measure => omega
        case rel => exact .inr ⟨rfl, HW.out.1, (hR.out.2.setCell (by simpa using hB) _).trans HW.out.2⟩
      · obtain ⟨v2, ho2, _, _, _⟩ := hR.out.1
        have d2 := ho2.cell 2 rfl
        clear ho2
        go_wp2
        go_end0
        simp only []
        go_wp2
        go_end0
        exact ⟨rfl, hR.out.1, hR.out.2⟩
  | false =>
    simp only [Bool.false_eq_true, if_false] at q1 q2 ⊢
    go_enter Tryd.func30, Tryd.ntmps30
    go_wp2_with (first | (go_at_call 53; go_in))
    go_loopg [] 1 (fun j wr => (j = 1 ∧ Hid (BW wr B g out (low) (sp) k ∧ Below B w wr)) ∨ (j = 0 ∧ Hid (BW wr B g out ((low) * 2) ((sp) * 2) (k - 1) ∧ Below B w wr)))
    case atStart => exact .inl ⟨rfl, H.out.setSize _, (Below.refl _ _).setCell (by simpa using hB) _⟩
    case round =>
      rcases hrel with ⟨rfl, hR⟩ | ⟨rfl, hR⟩
      · obtain ⟨v2, ho2, _, _, _⟩ := hR.out.1
        have d2 := ho2.cell 2 rfl
        have y2 := ho2.free 2
        clear ho2
        go_wp2_with fail
        refine (shift_plain B g out (low) ((sp) * 2) k _ (hR.out.1.setSize _) (by omega) (by omega) hk hk0 hk1).mono ?_
        rintro e w2 ⟨rfl, hb2, hbel⟩
        have HW := Lib.hid (And.intro hb2 hbel); clear hb2 hbel
        go_wp2
        go_roundg 0
        case measure => omega
        case rel => exact .inr ⟨rfl, HW.out.1, (hR.out.2.setCell (by simpa using hB) _).trans HW.out.2⟩
      · obtain ⟨v2, ho2, _, _, _⟩ := hR.out.1
        have d2 := ho2.cell 2 rfl
        clear ho2
        go_wp2
        go_end0
        simp only []
        go_wp2
        go_end0
        exact ⟨rfl, hR.out.1, hR.out.2⟩

theorem new_any (w : World) :
    Calls Tryd.prog 29 #[] w fun e w' => e = .returned (.pointer (some ⟨w.heap.size, 0, none⟩)) ∧ BW w' w.heap.size w.heap.size [] 0 255 24 ∧ Below w.heap.size w w' := by
  go_enter Tryd.func29, Tryd.ntmps29
  go_wp2
  go_ret
  exact ⟨rfl, ⟨.slice none 0 0, obj_new w 125 [.slice none 0 0, .int .i64 0, .int .i64 255, .int .i64 24], World.ownsRow_nil _ _ _ _, by simp [Value.ownBlock], Nat.le_refl _⟩, (Below.refl _ _).alloc (Nat.le_refl _) _⟩

set_option maxRecDepth 100000 in
set_option maxHeartbeats 400000 in
theorem done_any (B g : Nat) (s : List Int × Int × Int) (size : Int) (w : World) (hb : BW w B g s.1 s.2.1 size s.2.2)
    (hs : ∀ i, i < 33 → 0 ≤ (stepsW s i).2.1 ∧ (stepsW s i).2.1 < 2147483648 ∧ (stepsW s i).1.length ≤ 1000 ∧ 0 ≤ (stepsW s i).2.2 ∧ (stepsW s i).2.2 ≤ 100) :
    Calls Tryd.prog 31 #[.pointer (some ⟨g, 0, none⟩)] w fun e w' =>
      (∃ a c, e = .returned (.slice a ((stepsW s 32).1.length + 4) c) ∧ Own .u8 B w' a ((stepsW s 32).1.length + 4) (fun i => ((stepsW s 32).1 ++ [0, 0, 0, 0]).getD i 0)) ∧ Below B w w' := by
  obtain ⟨i0, hi, hz0, hz1, hz2⟩ := info_parts infoByte
  have H := Lib.hid hb; clear hb
  have HS := Lib.hid hs; clear hs
  generalize hO : (stepsW s 32).1 = out
  have HO := Lib.hid hO; clear hO
  go_enter Tryd.func31, Tryd.ntmps31
  go_wp2
  go_loopw [3] (fun i wr => ∃ p : Nat, p ≤ 32 ∧ i = .int .i64 p ∧ Hid (BW wr B g (stepsW s p).1 (stepsW s p).2.1 size (stepsW s p).2.2 ∧ Below B w wr)) (fun i _ => 32 - (intOf i).toNat)
  case atStart => exact ⟨0, by omega, rfl, H.out, Below.refl _ _⟩
  case round =>
    obtain ⟨p, hp, rfl, hR⟩ := hrel
    by_cases hlt : p < 32
    · go_wp2_with fail
      obtain ⟨q1, q2, q3, q4, q5⟩ := HS.out p (by omega)
      refine (shift_any B g _ _ size _ _ hR.out.1 q1 q2 q3 q4 q5).mono ?_
      rintro e w2 ⟨rfl, hb2, hbel⟩
      have HW := Lib.hid (And.intro hb2 hbel); clear hb2 hbel q1 q2 q3 q4 q5
      go_wp2
      go_roundw
      case rel => exact ⟨p + 1, by omega, by go_num, HW.out.1, hR.out.2.trans HW.out.2⟩
      case measure => simp [intOf]; omega
    · obtain rfl : p = 32 := by omega
      obtain ⟨v, ho, hown, hne, hB⟩ := hR.out.1
      have c0 := ho.cell 0 rfl
      have glt := ho.lt
      obtain ⟨q1, q2, q3, q4, q5⟩ := HS.out 32 (by omega)
      clear ho q1 q2 q4 q5
      rw [HO.out] at hown q3
      go_wp2_with (at_builtin; refine wpList_append_own _ rfl _ _ 22 rfl B 5 i0 (.int .u8 0) 1 1 Tryd.underlying22 hi hz0 hz1 hz2 rfl (by decide) v out.length (out.map (Value.int .u8)) rfl (hown.alloc _) ⟨wr.heap.size, 0, none⟩ 4 4 [.int .u8 0, .int .u8 0, .int .u8 0, .int .u8 0] rfl rfl (World.news_of_block (cs := #[.int .u8 0, .int .u8 0, .int .u8 0, .int .u8 0]) (t := 5) (fr := (0, 0)) (heap_alloc_new wr _)) (by simp [Value.oneCell']) (by unfold maxLen; omega) (by omega) (by simp; omega) ?_)
      intro v' w1 hown1 hgrow _
      obtain ⟨a, c, rfl, hl, ho⟩ := own_of_ownsRow (k := .u8) (l := out ++ [0, 0, 0, 0]) (by simpa using hown1)
      have HX := Lib.hid (And.intro ho (((hR.out.2.alloc (by omega) (.cells #[.int .u8 0, .int .u8 0, .int .u8 0, .int .u8 0] 5)).grown hgrow (by simp; omega) (fun k hk => (hown.lt k hk).1))))
      clear hown hown1 hgrow ho hl
      go_wp2
      go_ret
      exact ⟨⟨a, c, rfl, HX.out.1⟩, HX.out.2⟩
end Go.Proofs.YthmkmemocjnleaaDoor
namespace Go.Proofs.YthmkmemocjnleaaDoor
open Go.RowKit
set_option linter.unusedVariables false

def cellsB (n : Nat) (F : Nat → Bool) : List Value := (List.range n).map fun i => Value.bool (F i)
theorem cellsB_succ (n : Nat) (F : Nat → Bool) : cellsB (n + 1) F = cellsB n F ++ [.bool (F n)] := by simp [cellsB, List.range_succ]
theorem cellsB_length (n : Nat) (F : Nat → Bool) : (cellsB n F).length = n := by simp [cellsB]
/-- A row of truths in a block of the call's own. -/
def OwnB (B : Nat) (w : World) (a : Option Addr) (n : Nat) (F : Nat → Bool) : Prop :=
  0 < n → ∃ g, a = some ⟨g, 0, none⟩ ∧ B ≤ g ∧ g < w.heap.size ∧ ∀ i, i < n → w.cell? ⟨g, i, none⟩ = some (.bool (F i))
theorem OwnB.below {B : Nat} {w w' : World} {a : Option Addr} {n : Nat} {F : Nat → Bool} (h : OwnB B w a n F) (hb : Below w.heap.size w w') : OwnB B w' a n F := fun hn => by
  obtain ⟨g, h1, h2, h3, h4⟩ := h hn
  exact ⟨g, h1, h2, Nat.lt_of_lt_of_le h3 hb.size, fun i hi => by rw [hb.cell (p := ⟨g, i, none⟩) h3]; exact h4 i hi⟩
theorem ownB_of_cells {w : World} {B : Nat} {e : TypeId} {v : Value} {n : Nat} {F : Nat → Bool} (h : w.ownsRow B e 1 v n (cellsB n F)) :
    ∃ a c, v = .slice a n c ∧ OwnB B w a n F := by
  rcases h.2 with ⟨rfl, h0⟩ | ⟨g, cap, cur, rfl, hb, hg, _⟩
  · subst h0; exact ⟨none, 0, rfl, fun h => absurd h (by omega)⟩
  · refine ⟨_, cap, rfl, fun _ => ⟨g, rfl, hb, (Array.getElem?_eq_some_iff.1 hg).1, fun i hi => ?_⟩⟩
    have := h.cellAt i (by simpa [cellsB] using hi)
    simpa [cellsB, hi] using this

/-- The states of the package's decoder, decision by decision. -/
def stP (zs : List Int) (q : Nat → Int) : Nat → DS
  | 0 => ds0
  | k + 1 => (stepP zs (stP zs q k) (q k)).2
def outP (zs : List Int) (q : Nat → Int) (k : Nat) : Bool := (stepP zs (stP zs q k) (q k)).1

theorem infoBool : (Tryd.prog.info? 4).map (fun i => (i.zero, i.size, i.bytes)) = some (some (.bool false), 1, 1) := by kernel_rfl

/-- What the decoder begins with. -/
theorem rd0 {w w' : World} {ao : Option Addr} {n c : Nat} {zs : List Int} (ht : Tabs w) (h2 : 2 ≤ w.heap.size) (hl : zs.length = n) (hrow : Arg .u8 w ao n (fun i => zs.getD i 0)) (hz : Bytes zs) (h255 : zs.getD 0 0 ≠ 255) (hn : n ≤ 1048576)
    (ho : PTd w' w.heap.size ao n c ds0) (hb : Below w.heap.size w w') : Rd w' w.heap.size ao n c zs ds0 where
  tabs := fun i hi => by
    have k : ∀ b, b < 2 → b < w.heap.size := fun b hb => by omega
    exact ⟨by rw [hb.cell (k _ (Nat.lt_of_le_of_lt (Nat.le_refl _) (by decide +revert)))]; exact (ht i hi).1, by rw [hb.cell (k _ (Nat.lt_of_le_of_lt (Nat.le_refl _) (by decide +revert)))]; exact (ht i hi).2⟩
  two := h2
  obj := ho
  len := hl
  row := hrow.below hb
  far := fun h0 a ha => by
    obtain ⟨g, o, e, hlt, _⟩ := hrow h0
    rw [ha] at e; injection e with e; subst e
    exact Nat.ne_of_lt hlt
  ok := ds0_ok zs
  bytes := hz
  first := h255
  max := by omega

set_option maxRecDepth 100000 in
set_option maxHeartbeats 800000 in
theorem Bools_any (ao : Option Addr) (n c : Nat) (zs : List Int) (pa : Option Addr) (pn pc : Nat) (q : Nat → Int) (w : World) (ht : Tabs w) (h2 : 2 ≤ w.heap.size) (hl : zs.length = n) (hrow : Arg .u8 w ao n (fun i => zs.getD i 0)) (hz : Bytes zs) (h255 : zs.getD 0 0 ≠ 255) (hn : n ≤ 1048576)
    (hp : Arg .i64 w pa pn q) (hq : ∀ i, 0 ≤ q i ∧ q i ≤ 255) (hpn : pn ≤ 4096) :
    Calls Tryd.prog 12 #[.slice ao n c, .slice pa pn pc] w fun e w' => (∃ a c', e = .returned (.tuple #[.slice a pn c', .bool (stP zs q pn).eof]) ∧ OwnB w.heap.size w' a pn (outP zs q)) ∧ Below w.heap.size w w' := by
  obtain ⟨i0, hi, hz0, hz1, hz2⟩ := info_parts infoBool
  have H0 := Lib.hid (And.intro ht (And.intro hl (And.intro hrow (And.intro hz (And.intro h255 (And.intro hp hq)))))); clear ht hl hrow hz h255 hp hq
  go_enter Tryd.func12, Tryd.ntmps12
  go_wp2_with fail
  refine (bools_new ao n c w).mono ?_
  rintro _ w1 ⟨rfl, ho, hb⟩
  have H1 := Lib.hid (And.intro (rd0 H0.out.1 h2 H0.out.2.1 H0.out.2.2.1 H0.out.2.2.2.1 H0.out.2.2.2.2.1 hn ho hb) hb); clear ho hb
  go_wp2
  have hfar : Hid (0 < n → ∀ a, ao = some a → a.block < w.heap.size + 1) := Lib.hid (fun h0 a ha => by
    obtain ⟨g, o, e, hlt, _⟩ := H0.out.2.2.1 h0
    rw [ha] at e; injection e with e; subst e
    exact Nat.lt_succ_of_lt hlt)
  go_loopw [7, 14] (fun v i wr => ∃ p : Nat, p ≤ pn ∧ i = .int .i64 p ∧ wr.ownsRow (w.heap.size + 1) 4 1 v p (cellsB p (outP zs q)) ∧ Hid (Rd wr w.heap.size ao n c zs (stP zs q p) ∧ Below w.heap.size w wr)) (fun _ i _ => pn - (intOf i).toNat)
  case atStart => exact ⟨0, by omega, rfl, World.ownsRow_nil _ _ _ _, H1.out.1, H1.out.2⟩
  case round =>
    obtain ⟨p, hp, rfl, hown, hR⟩ := hrel
    by_cases hlt : p < pn
    · obtain ⟨ga, oa, rfl, hga, ra⟩ := H0.out.2.2.2.2.2.1 (by omega)
      have hc : wr.cell? ⟨ga, oa + p, none⟩ = some (.int .i64 (q p)) := (hR.out.2.cell (p := ⟨ga, oa + p, none⟩) hga).trans (ra p hlt)
      have hq := H0.out.2.2.2.2.2.2 p
      go_wp2_with fail
      refine (DoorBit_any w.heap.size ao n c zs (stP zs q p) (q p) wr hR.out.1 hq.1 hq.2).mono ?_
      rintro _ w2 ⟨rfl, hd, hg⟩
      have hsz : w.heap.size + 1 ≤ w2.heap.size := hd.obj.lt
      have HW := Lib.hid (And.intro hd hg)
      have hown2 : w2.ownsRow (w.heap.size + 1) 4 1 u7 p (cellsB p (outP zs q)) := hown.kept hg (.inr (fun e => by have := hown.lt _ e; omega))
      have hob : Hid (Below w.heap.size w w2) := Lib.hid (hR.out.2.grown hg (Nat.le_of_lt hR.out.1.obj.lt) (fun k hk => by injection hk with hk; omega))
      clear hd hg hown hc
      go_wp2_with (at_builtin; refine wpList_append_own _ rfl _ _ 27 rfl (w.heap.size + 1) 4 i0 (.bool false) 1 1 Tryd.underlying27 hi hz0 hz1 hz2 rfl (by decide) _ _ _ rfl (hown2.alloc _) ⟨w2.heap.size, 0, none⟩ 1 1 [.bool (outP zs q p)] rfl rfl (cell_one_new _ _ _) (by simp [Value.oneCell']) (by unfold maxLen; omega) (by omega) (by simp; omega) ?_)
      intro v' w3 hown3 hgrow _
      have R1 : w3.ownsRow (w.heap.size + 1) 4 1 v' (p + 1) (cellsB (p + 1) (outP zs q)) := by rw [cellsB_succ]; exact hown3
      have R2 : Rd w3 w.heap.size ao n c zs (stP zs q (p + 1)) := (HW.out.1.below ((Below.refl _ _).alloc (Nat.le_refl _) _)).grown hgrow (w.heap.size + 1) (by omega) (fun k hk => by have := (hown2.lt k hk).1; omega) hfar.out
      have R3 : Below w.heap.size w w3 := (hob.out.alloc (by omega) _).grown hgrow (by simp; omega) (fun k hk => by have := (hown2.lt k hk).1; omega)
      clear hown3 hgrow hown2 hob HW
      go_wp2
      go_roundw
      case rel => exact ⟨p + 1, by omega, by go_num, R1, R2, R3⟩
      case measure => simp [intOf]; omega
    · obtain rfl : p = pn := by omega
      go_wp2_with fail
      refine (DoorEnded_any w.heap.size ao n c _ wr hR.out.1.obj).mono ?_
      rintro _ _ ⟨rfl, rfl⟩
      go_wp2
      go_ret2
      obtain ⟨a, c', rfl, ho⟩ := ownB_of_cells hown
      exact ⟨⟨_, _, rfl, fun h0 => by obtain ⟨g, e1, e2, e3⟩ := ho h0; exact ⟨g, e1, by omega, e3⟩⟩, hR.out.2⟩
end Go.Proofs.YthmkmemocjnleaaDoor
namespace Go.Proofs.YthmkmemocjnleaaDoor
open Go.RowKit
set_option linter.unusedVariables false

/-- n bits by probability p, the highest first. -/
def bitsG {σ : Type} (step : σ → Int → Bool × σ) (p : Int) : Nat → Int → σ → Int × σ
  | 0, acc, s => (acc, s)
  | n + 1, acc, s => bitsG step p n (2 * acc + (if (step s p).1 then 1 else 0)) (step s p).2
/-- .. with a sign behind. -/
def signG {σ : Type} (step : σ → Int → Bool × σ) (p : Int) (n : Nat) (s : σ) : Int × σ :=
  (if (step (bitsG step p n 0 s).2 p).1 then -(bitsG step p n 0 s).1 else (bitsG step p n 0 s).1, (step (bitsG step p n 0 s).2 p).2)
/-- .. if a bit ahead tells so. -/
def optG {σ : Type} (step : σ → Int → Bool × σ) (p : Int) (n : Nat) (s : σ) : Int × σ :=
  if (step s p).1 then signG step p n (step s p).2 else (0, (step s p).2)

theorem bitsG_range {σ : Type} (step : σ → Int → Bool × σ) (p : Int) (n : Nat) : ∀ (acc : Int) (s : σ), acc * 2 ^ n ≤ (bitsG step p n acc s).1 ∧ (bitsG step p n acc s).1 < (acc + 1) * 2 ^ n := by
  induction n with
  | zero => intro acc s; simp [bitsG]; omega
  | succ n ih =>
    intro acc s
    have h := ih (2 * acc + (if (step s p).1 then 1 else 0)) (step s p).2
    have hp : (0 : Int) < 2 ^ n := Int.pow_pos (by omega)
    rw [bitsG, Int.pow_succ]
    generalize (bitsG step p n (2 * acc + (if (step s p).1 then 1 else 0)) (step s p).2).1 = r at *
    have e1 : acc * (2 ^ n * 2) = (2 * acc) * 2 ^ n := by rw [Int.mul_comm (2 ^ n) 2, ← Int.mul_assoc, Int.mul_comm acc 2]
    have e2 : (acc + 1) * (2 ^ n * 2) = (2 * acc) * 2 ^ n + 2 * 2 ^ n := by
      rw [Int.mul_comm (2 ^ n) 2, ← Int.mul_assoc, ← Int.add_mul]; congr 1; omega
    rw [e1, e2]
    cases hb : (step s p).1 with
    | true => rw [hb] at h; simp only [if_true, Int.add_mul, Int.one_mul] at h; omega
    | false => rw [hb] at h; simp only [Bool.false_eq_true, if_false, Int.add_mul, Int.one_mul, Int.zero_mul] at h; omega

theorem or_pow (acc : Int) (j : Nat) (h0 : 0 ≤ acc) (hj : j ≤ 24) (h1 : acc * 2 * 2 ^ j + 2 ^ j < 4294967296) : bits .or .u32 (acc * 2 * 2 ^ j) (2 ^ j) = (2 * acc + 1) * 2 ^ j := by
  obtain ⟨an, rfl⟩ := Int.eq_ofNat_of_zero_le h0
  have e1 : ((an : Int) * 2 * 2 ^ j) = ((an * 2 * 2 ^ j : Nat) : Int) := by simp
  have e2 : ((2 : Int) ^ j) = ((2 ^ j : Nat) : Int) := by simp
  have hp : 0 < 2 ^ j := Nat.pow_pos (by omega)
  have h1' : an * 2 * 2 ^ j + 2 ^ j < 4294967296 := by
    have := h1; rw [e1, e2] at this; omega
  rw [e1, e2, u32_or_nat _ _ (by omega) (by omega)]
  have hd : an * 2 * 2 ^ j % 2 ^ (j + 1) = 0 := by
    rw [Nat.mul_assoc, ← Nat.pow_succ']; exact Nat.mul_mod_left _ _
  rw [nat_join (j + 1) _ _ hd (Nat.pow_lt_pow_right (by omega) (by omega))]
  simp only [Int.natCast_add, Int.natCast_mul, Int.natCast_pow]
  rw [Int.add_mul]
  simp [Int.mul_comm]

set_option maxRecDepth 100000 in
set_option maxHeartbeats 800000 in
theorem readUint_any (g : Nat) (ao : Option Addr) (n c : Nat) (zs : List Int) (d : DS) (p : Int) (k : Nat) (w : World) (h : Rd w g ao n c zs d) (hp0 : 0 ≤ p) (hp1 : p ≤ 255) (hk : k ≤ 24) :
    Calls Tryd.prog 58 #[.pointer (some ⟨g, 0, none⟩), .int .u8 p, .int .u8 k] w fun e w' =>
      e = .returned (.int .u32 (bitsG (stepP zs) p k 0 d).1) ∧ Rd w' g ao n c zs (bitsG (stepP zs) p k 0 d).2 ∧ w.grownBy w' (some g) := by
  have H := Lib.hid h; clear h
  obtain ⟨R, hR⟩ : ∃ R, R = bitsG (stepP zs) p k 0 d := ⟨_, rfl⟩
  rw [← hR]
  go_enter Tryd.func58, Tryd.ntmps58
  go_wp2
  have HI : Hid (R = bitsG (stepP zs) p k 0 d) := Lib.hid hR
  clear hR
  go_loopw [2, 7] (fun nv u wr => ∃ (j : Nat) (acc : Int), j ≤ k ∧ nv = .int .u8 j ∧ u = .int .u32 (acc * 2 ^ j) ∧ Hid (0 ≤ acc ∧ (acc + 1) * 2 ^ j ≤ 2 ^ k ∧ ∃ d', R = bitsG (stepP zs) p j acc d' ∧ Rd wr g ao n c zs d' ∧ w.grownBy wr (some g))) (fun nv _ _ => (intOf nv).toNat)
  case atStart => exact ⟨k, 0, Nat.le_refl _, rfl, by simp, by omega, by simp, d, HI.out, H.out, World.grownBy.refl _ _⟩
  case round =>
    obtain ⟨j, acc, hj, rfl, rfl, hR⟩ := hrel
    obtain ⟨hacc, hle, d', hRd, hrd, hgr⟩ := hR.out
    clear hR
    by_cases h0 : j = 0
    · subst h0
      have HE := Lib.hid (And.intro hRd (And.intro hrd hgr)); clear hRd hrd hgr hle
      go_wp2
      go_ret
      have e := HE.out.1
      rw [bitsG] at e
      rw [e]
      exact ⟨by simp, HE.out.2⟩
    · obtain ⟨i, rfl⟩ : ∃ i, j = i + 1 := ⟨j - 1, by omega⟩
      have HE := Lib.hid (And.intro hRd (And.intro hrd (And.intro hgr hle))); clear hRd hrd hgr hle
      go_wp2_with fail
      refine (readBit_any g ao n c zs d' p wr HE.out.2.1 hp0 hp1).mono ?_
      rintro _ w2 ⟨rfl, hob, hg2⟩
      have HN : Hid (Rd w2 g ao n c zs (stepP zs d' p).2 ∧ w.grownBy w2 (some g)) := Lib.hid ⟨HE.out.2.1.step hg2 hob (stepP_ok zs d' HE.out.2.1.ok HE.out.2.1.bytes HE.out.2.1.first p hp0 hp1), grownBy.trans HE.out.2.2.1 hg2⟩
      clear hob hg2
      have hle := HE.out.2.2.2
      have hpi : (0 : Int) < 2 ^ i := Int.pow_pos (by omega)
      have hpk : (2 : Int) ^ k ≤ 16777216 := by
        have := Int.ofNat_le.2 (Nat.pow_le_pow_right (n := 2) (by omega) hk)
        simpa using this
      have ea : acc * 2 ^ (i + 1) = acc * 2 * 2 ^ i := by rw [Int.pow_succ, Int.mul_comm (2 ^ i) 2, ← Int.mul_assoc]
      have eb : (acc + 1) * 2 ^ (i + 1) = acc * 2 * 2 ^ i + 2 * 2 ^ i := by rw [Int.add_mul, ea, Int.one_mul, Int.pow_succ, Int.mul_comm (2 ^ i) 2]
      rw [eb] at hle
      have hor := or_pow acc i hacc (by omega) (by omega)
      have ha0 : 0 ≤ acc * 2 * 2 ^ i := Int.mul_nonneg (by omega) (by omega)
      rw [ea]
      have hb1 : Hid (acc * 2 * 2 ^ i = 2 * acc * 2 ^ i ∧ (2 * acc + 1) * 2 ^ i ≤ 2 ^ k ∧ (2 * acc + 1 + 1) * 2 ^ i ≤ 2 ^ k) := Lib.hid (by
        rw [Int.mul_comm acc 2] at hle ha0 ⊢
        refine ⟨rfl, ?_, ?_⟩
        · rw [Int.add_mul]; omega
        · rw [Int.add_mul, Int.add_mul]; omega)
      cases hbit : (stepP zs d' p).1 with
      | false =>
        have HB := Lib.hid hbit; clear hbit hor eb ea
        go_wp2
        go_roundw
        case rel =>
          refine ⟨i, 2 * acc, by omega, rfl, by rw [hb1.out.1], by omega, hb1.out.2.1, _, ?_, HN.out⟩
          rw [HE.out.1, bitsG, HB.out]; simp
        case measure => simp [intOf]
      | true =>
        have HB := Lib.hid hbit
        have HO := Lib.hid hor
        clear hbit hor eb ea
        go_wp2
        go_roundw
        case rel =>
          refine ⟨i, 2 * acc + 1, by omega, rfl, by rw [HO.out], by omega, hb1.out.2.2, _, ?_, HN.out⟩
          rw [HE.out.1, bitsG, HB.out]; simp
        case measure => simp [intOf]

theorem bits24 (zs : List Int) (p : Int) (k : Nat) (d : DS) (hk : k ≤ 24) : 0 ≤ (bitsG (stepP zs) p k 0 d).1 ∧ (bitsG (stepP zs) p k 0 d).1 ≤ 16777215 := by
  have h := bitsG_range (stepP zs) p k 0 d
  have hpk : (2 : Int) ^ k ≤ 16777216 := by
    have := Int.ofNat_le.2 (Nat.pow_le_pow_right (n := 2) (by omega) hk)
    simpa using this
  simp only [Int.zero_mul, Int.zero_add, Int.one_mul] at h
  omega

set_option maxRecDepth 100000 in
theorem readInt_any (g : Nat) (ao : Option Addr) (n c : Nat) (zs : List Int) (d : DS) (p : Int) (k : Nat) (w : World) (h : Rd w g ao n c zs d) (hp0 : 0 ≤ p) (hp1 : p ≤ 255) (hk : k ≤ 24) :
    Calls Tryd.prog 59 #[.pointer (some ⟨g, 0, none⟩), .int .u8 p, .int .u8 k] w fun e w' =>
      e = .returned (.int .i32 (signG (stepP zs) p k d).1) ∧ Rd w' g ao n c zs (signG (stepP zs) p k d).2 ∧ w.grownBy w' (some g) := by
  obtain ⟨v, d1, hR⟩ : ∃ v d1, bitsG (stepP zs) p k 0 d = (v, d1) := ⟨_, _, rfl⟩
  obtain ⟨b, d2, hS⟩ : ∃ b d2, stepP zs d1 p = (b, d2) := ⟨_, _, rfl⟩
  obtain ⟨v0, v1⟩ := bits24 zs p k d hk
  unfold signG
  rw [hR] at v0 v1 ⊢
  simp only at v0 v1 ⊢
  rw [hS]
  simp only
  have H := Lib.hid (And.intro h (And.intro hR hS)); clear h hR hS
  go_enter Tryd.func59, Tryd.ntmps59
  go_wp2_with fail
  refine (readUint_any g ao n c zs d p k w H.out.1 hp0 hp1 hk).mono ?_
  rintro _ w1 ⟨rfl, h1, g1⟩
  have H1 := Lib.hid (And.intro h1 g1); clear h1 g1
  rw [H.out.2.1] at H1 ⊢
  go_wp2_with fail
  refine (readBit_any g ao n c zs d1 p w1 H1.out.1 hp0 hp1).mono ?_
  rintro _ w2 ⟨rfl, hob, hg2⟩
  have HN : Hid (Rd w2 g ao n c zs (stepP zs d1 p).2 ∧ w.grownBy w2 (some g)) := Lib.hid ⟨H1.out.1.step hg2 hob (stepP_ok zs d1 H1.out.1.ok H1.out.1.bytes H1.out.1.first p hp0 hp1), grownBy.trans H1.out.2 hg2⟩
  clear hob hg2
  rw [H.out.2.2] at HN ⊢
  cases b with
  | true =>
    go_wp2
    go_ret
    exact ⟨by simp, HN.out⟩
  | false =>
    go_wp2
    go_ret
    exact ⟨by simp, HN.out⟩

set_option maxRecDepth 100000 in
theorem readOpt_any (g : Nat) (ao : Option Addr) (n c : Nat) (zs : List Int) (d : DS) (p : Int) (k : Nat) (w : World) (h : Rd w g ao n c zs d) (hp0 : 0 ≤ p) (hp1 : p ≤ 255) (hk : k ≤ 24) :
    Calls Tryd.prog 60 #[.pointer (some ⟨g, 0, none⟩), .int .u8 p, .int .u8 k] w fun e w' =>
      e = .returned (.int .i32 (optG (stepP zs) p k d).1) ∧ Rd w' g ao n c zs (optG (stepP zs) p k d).2 ∧ w.grownBy w' (some g) := by
  obtain ⟨b, d2, hS⟩ : ∃ b d2, stepP zs d p = (b, d2) := ⟨_, _, rfl⟩
  unfold optG
  rw [hS]
  simp only
  have H := Lib.hid (And.intro h hS); clear h hS
  cases b with
  | false =>
    simp only [Bool.false_eq_true, if_false]
    go_enter Tryd.func60, Tryd.ntmps60
    go_wp2_with fail
    refine (readBit_any g ao n c zs d p w H.out.1 hp0 hp1).mono ?_
    rintro _ w2 ⟨rfl, hob, hg2⟩
    have HN : Hid (Rd w2 g ao n c zs (stepP zs d p).2 ∧ w.grownBy w2 (some g)) := Lib.hid ⟨H.out.1.step hg2 hob (stepP_ok zs d H.out.1.ok H.out.1.bytes H.out.1.first p hp0 hp1), hg2⟩
    clear hob hg2
    rw [H.out.2] at HN ⊢
    go_wp2
    go_ret
    exact ⟨rfl, HN.out⟩
  | true =>
    simp only [if_true]
    go_enter Tryd.func60, Tryd.ntmps60
    go_wp2_with fail
    refine (readBit_any g ao n c zs d p w H.out.1 hp0 hp1).mono ?_
    rintro _ w2 ⟨rfl, hob, hg2⟩
    have HN : Hid (Rd w2 g ao n c zs (stepP zs d p).2 ∧ w.grownBy w2 (some g)) := Lib.hid ⟨H.out.1.step hg2 hob (stepP_ok zs d H.out.1.ok H.out.1.bytes H.out.1.first p hp0 hp1), hg2⟩
    clear hob hg2
    rw [H.out.2] at HN ⊢
    go_wp2_with fail
    refine (readInt_any g ao n c zs d2 p k w2 HN.out.1 hp0 hp1 hk).mono ?_
    rintro _ w3 ⟨rfl, h3, g3⟩
    have H3 : Hid (Rd w3 g ao n c zs (signG (stepP zs) p k d2).2 ∧ w.grownBy w3 (some g)) := Lib.hid ⟨h3, grownBy.trans HN.out.2 g3⟩
    clear h3 g3
    go_wp2
    go_ret
    exact ⟨rfl, H3.out⟩
end Go.Proofs.YthmkmemocjnleaaDoor
