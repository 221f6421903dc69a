/- Words for rows of integers in memory, and how they stand behind stores, new blocks and calls: plain lemmas, no walk. -/
import Derived.Test.YtdmefbpfpmkdcaaDoorBase
import Derived.Deep.Draws
namespace Go.Proofs.YtdmefbpfpmkdcaaDoor
open Go.RowKit

/-- The n cells of block g from place o on are the integers f 0, f 1, .. of kind k. -/
def Row (k : IntKind) (w : World) (g o n : Nat) (f : Nat → Int) : Prop := ∀ i, i < n → w.cell? ⟨g, o + i, none⟩ = some (.int k (f i))
/-- .. and may be written. -/
def Wr (w : World) (g o n : Nat) : Prop := ∀ i, i < n → w.frozen? ⟨g, o + i, none⟩ = false
/-- What a slice with address a and length n holds. -/
def Arg (k : IntKind) (w : World) (a : Option Addr) (n : Nat) (f : Nat → Int) : Prop := 0 < n → ∃ g o, a = some ⟨g, o, none⟩ ∧ g < w.heap.size ∧ Row k w g o n f
/-- The same of a slice in a block of the call's own (from B on), which may be written. -/
def Own (k : IntKind) (B : Nat) (w : World) (a : Option Addr) (n : Nat) (f : Nat → Int) : Prop :=
  0 < n → ∃ g, a = some ⟨g, 0, none⟩ ∧ B ≤ g ∧ g < w.heap.size ∧ Row k w g 0 n f ∧ Wr w g 0 n
def upd (f : Nat → Int) (i : Nat) (v : Int) : Nat → Int := fun j => if j = i then v else f j

theorem upd_same (f : Nat → Int) (i : Nat) (v : Int) : upd f i v i = v := by simp [upd]
theorem upd_other (f : Nat → Int) (i j : Nat) (v : Int) (h : j ≠ i) : upd f i v j = f j := by simp [upd, h]

theorem Own.arg {k : IntKind} {B : Nat} {w : World} {a : Option Addr} {n : Nat} {f : Nat → Int} (h : Own k B w a n f) : Arg k w a n f := fun hn => by
  obtain ⟨g, h1, _, h2, h3, _⟩ := h hn
  exact ⟨g, 0, h1, h2, h3⟩
theorem Row.below {k : IntKind} {w w' : World} {g o n B : Nat} {f : Nat → Int} (h : Row k w g o n f) (hb : Below B w w') (hg : g < B) : Row k w' g o n f := fun i hi => by
  rw [hb.cell (p := ⟨g, o + i, none⟩) hg]; exact h i hi
theorem Wr.below {w w' : World} {g o n B : Nat} (h : Wr w g o n) (hb : Below B w w') (hg : g < B) : Wr w' g o n := fun i hi => by
  rw [hb.frozen (p := ⟨g, o + i, none⟩) hg]; exact h i hi
theorem Arg.below {k : IntKind} {w w' : World} {a : Option Addr} {n : Nat} {f : Nat → Int} (h : Arg k w a n f) (hb : Below w.heap.size w w') : Arg k w' a n f := fun hn => by
  obtain ⟨g, o, h1, h2, h3⟩ := h hn
  exact ⟨g, o, h1, Nat.lt_of_lt_of_le h2 hb.size, h3.below hb h2⟩
theorem Own.below {k : IntKind} {B : Nat} {w w' : World} {a : Option Addr} {n : Nat} {f : Nat → Int} (h : Own k B w a n f) (hb : Below w.heap.size w w') : Own k B w' a n f := fun hn => by
  obtain ⟨g, h1, h2, h3, h4, h5⟩ := h hn
  exact ⟨g, h1, h2, Nat.lt_of_lt_of_le h3 hb.size, h4.below hb h3, h5.below hb h3⟩
theorem Own.mono {k : IntKind} {B B' : Nat} {w : World} {a : Option Addr} {n : Nat} {f : Nat → Int} (h : Own k B w a n f) (hb : B' ≤ B) : Own k B' w a n f := fun hn => by
  obtain ⟨g, h1, h2, h3⟩ := h hn
  exact ⟨g, h1, Nat.le_trans hb h2, h3⟩
theorem Row.congr {k : IntKind} {w : World} {g o n : Nat} {f f' : Nat → Int} (h : Row k w g o n f) (he : ∀ i, i < n → f i = f' i) : Row k w g o n f' := fun i hi => by rw [← he i hi]; exact h i hi
theorem Arg.congr {k : IntKind} {w : World} {a : Option Addr} {n : Nat} {f f' : Nat → Int} (h : Arg k w a n f) (he : ∀ i, i < n → f i = f' i) : Arg k w a n f' := fun hn => by
  obtain ⟨g, o, h1, h2, h3⟩ := h hn
  exact ⟨g, o, h1, h2, h3.congr he⟩
theorem Own.congr {k : IntKind} {B : Nat} {w : World} {a : Option Addr} {n : Nat} {f f' : Nat → Int} (h : Own k B w a n f) (he : ∀ i, i < n → f i = f' i) : Own k B w a n f' := fun hn => by
  obtain ⟨g, h1, h2, h3, h4, h5⟩ := h hn
  exact ⟨g, h1, h2, h3, h4.congr he, h5⟩

theorem Row.drew {k : IntKind} {w : World} {g o n : Nat} {f : Nat → Int} (h : Row k w g o n f) (d : Nat) : Row k (w.drewN d) g o n f := h
theorem Wr.drew {w : World} {g o n : Nat} (h : Wr w g o n) (d : Nat) : Wr (w.drewN d) g o n := h
theorem Row.set {k : IntKind} {w : World} {g o n : Nat} {f : Nat → Int} (h : Row k w g o n f) (i : Nat) (hi : i < n) (v : Int) : Row k (w.setCell ⟨g, o + i, none⟩ (.int k v)) g o n (upd f i v) := fun j hj => by
  by_cases e : j = i
  · subst e; rw [World.cell?_setCell_same _ _ _ (h j hj), upd_same]
  · rw [World.cell?_setCell_other _ _ _ _ (by intro h; injection h with _ h2 _; omega), upd_other _ _ _ _ e]; exact h j hj
theorem Wr.set {w : World} {g o n : Nat} (h : Wr w g o n) (p : Addr) (v : Value) : Wr (w.setCell p v) g o n := fun j hj => by rw [World.frozen?_setCell]; exact h j hj
theorem Row.far {k : IntKind} {w : World} {g o n : Nat} {f : Nat → Int} (h : Row k w g o n f) (p : Addr) (hp : p.block ≠ g) (v : Value) : Row k (w.setCell p v) g o n f := fun j hj => by
  rw [World.cell?_setCell_other _ _ _ _ (by intro h; rw [h] at hp; exact hp rfl)]; exact h j hj
theorem size_setCell (w : World) (p : Addr) (v : Value) : (w.setCell p v).heap.size = w.heap.size := by simp [World.setCell]

/-- From 'grownBy': a row of another block. -/
theorem Row.grown {k : IntKind} {w w' : World} {g o n : Nat} {f : Nat → Int} {row : Option Nat} (h : Row k w g o n f) (hg : w.grownBy w' row) (hlt : g < w.heap.size) (hne : some g ≠ row) : Row k w' g o n f := fun i hi => by
  rw [World.cell?_of_block (w := w) (hg.block g hlt hne)]; exact h i hi
theorem Arg.grown {k : IntKind} {w w' : World} {a : Option Addr} {n : Nat} {f : Nat → Int} {row : Option Nat} (h : Arg k w a n f) (hg : w.grownBy w' row) (hne : ∀ r, row = some r → ∀ p, a = some p → p.block ≠ r) : Arg k w' a n f := fun hn => by
  obtain ⟨g, o, rfl, h2, h3⟩ := h hn
  refine ⟨g, o, rfl, Nat.lt_of_lt_of_le h2 hg.size, h3.grown hg h2 ?_⟩
  intro e
  exact hne g e.symm _ rfl rfl
theorem below_of_grown {w w' : World} {row : Option Nat} (hg : w.grownBy w' row) {B : Nat} (hB : B ≤ w.heap.size) (hr : ∀ r, row = some r → B ≤ r) : Below B w w' := (Below.refl B w).grown hg hB hr
theorem grown_of_below {w w' : World} (h : Below w.heap.size w w') (row : Option Nat) : w.grownBy w' row := ⟨h.os, h.tape, h.output, h.size, fun k hk _ => h.block k hk⟩
theorem grownBy.trans {a b c : World} {row : Option Nat} (h : a.grownBy b row) (h' : b.grownBy c row) : a.grownBy c row :=
  ⟨h'.os.trans h.os, h'.tape.trans h.tape, h'.output.trans h.output, Nat.le_trans h.size h'.size, fun k hk hne => (h'.block k (Nat.lt_of_lt_of_le hk h.size) hne).trans (h.block k hk hne)⟩
theorem grownBy_setCell (w : World) (p : Addr) (v : Value) : w.grownBy (w.setCell p v) (some p.block) :=
  ⟨rfl, rfl, rfl, by simp [World.setCell], fun k _ hne => Below.heap_setCell _ _ _ _ (fun e => hne (by rw [e]))⟩
theorem grownBy_drewN (w : World) (d : Nat) (row : Option Nat) : w.grownBy (w.drewN d) row := ⟨rfl, rfl, rfl, Nat.le_refl _, fun _ _ _ => rfl⟩

/-- From the law on append to the words here. -/
theorem own_of_ownsRow {k : IntKind} {w : World} {B : Nat} {e : TypeId} {v : Value} {n : Nat} {l : List Int} (h : w.ownsRow B e 1 v n (l.map (Value.int k))) :
    ∃ a c, v = .slice a n c ∧ n = l.length ∧ Own k B w a n (fun i => l.getD i 0) := by
  have hl : n = l.length := by have := h.1; simp at this; omega
  rcases h.2 with ⟨rfl, h0⟩ | ⟨g, cap, cur, rfl, hb, hg, _⟩
  · subst h0; exact ⟨none, 0, rfl, hl, fun h => absurd h (by omega)⟩
  · refine ⟨_, cap, rfl, hl, fun _ => ⟨g, rfl, hb, (Array.getElem?_eq_some_iff.1 hg).1, fun i hi => ?_, fun i hi => ?_⟩⟩
    · rw [Nat.zero_add, h.cellAt i (by omega)]
      simp [List.getD, show i < l.length by omega]
    · exact h.frozenAt _

theorem IsRow.arg {k : IntKind} {w : World} {a : Option Addr} {len cap : Nat} {zs : List Int} (h : IsRow k w a len cap zs) :
    Arg k w a len (fun i => zs.getD i 0) ∧ len ≤ cap ∧ cap ≤ maxLen ∧ (a = none → len = 0) ∧ ∀ i, (Lit.int k (zs.getD i 0)).wf = true := by
  have h00 : (Lit.int k 0).wf = true := by cases k <;> decide
  rcases h with ⟨rfl, rfl, rfl, rfl⟩ | ⟨x, rfl, hl, hm, hz, hcell, hwf⟩
  · exact ⟨fun h => absurd h (by omega), Nat.le_refl _, Nat.zero_le _, fun _ => rfl, fun i => by simpa using h00⟩
  · refine ⟨fun hn => ?_, hl, hm, fun h => (by cases h), fun i => ?_⟩
    · obtain ⟨b, off, spot⟩ := x
      have hc := hcell 0 (by omega)
      have hspot : spot = none := by simpa [Addr.add] using World.cell?_spot hc
      subst hspot
      refine ⟨b, off, rfl, World.block_lt_of_cell? w _ hc, fun i hi => ?_⟩
      have := hcell i (by omega)
      rwa [Addr.add_lit] at this
    · by_cases hi : i < zs.length
      · have e : zs.getD i 0 = zs[i] := by simp [List.getD, hi]
        rw [e]; exact hwf _ (List.getElem_mem hi)
      · have e : zs.getD i 0 = 0 := by simp [List.getD, show ¬ i < zs.length from hi]
        rw [e]; exact h00

/-- The cells of a slice, as a list: what the laws on append ask for. -/
def cellsOf (k : IntKind) (n : Nat) (f : Nat → Int) : List Value := (List.range n).map fun i => Value.int k (f i)
theorem cellsOf_length (k : IntKind) (n : Nat) (f : Nat → Int) : (cellsOf k n f).length = n * 1 := by simp [cellsOf]
theorem cellsOf_one (k : IntKind) (n : Nat) (f : Nat → Int) : ∀ u ∈ cellsOf k n f, u.oneCell' = true := by
  intro u hu
  obtain ⟨_, _, rfl⟩ := List.mem_map.1 hu
  rfl
theorem Arg.news {k : IntKind} {w : World} {ad : Addr} {n : Nat} {f : Nat → Int} (h : Arg k w (some ad) n f) : ∀ j u, (cellsOf k n f)[j]? = some u → w.cell? (ad.add j) = some u := by
  intro j u hj
  have hjn : j < n := by have := (List.getElem?_eq_some_iff.1 hj).1; simpa [cellsOf] using this
  obtain ⟨g, o, e, _, hr⟩ := h (by omega)
  obtain rfl := Option.some.inj e
  have hu : u = .int k (f j) := by simp [cellsOf, hjn] at hj; exact hj.symm
  rw [Addr.add_lit, hu]
  exact hr j hjn
theorem Arg.alloc {k : IntKind} {w : World} {a : Option Addr} {n : Nat} {f : Nat → Int} (h : Arg k w a n f) (ob : Obj) : Arg k (w.alloc ob) a n f := h.below ((Below.refl _ _).alloc (Nat.le_refl _) ob)
theorem Arg.drewN {k : IntKind} {w : World} {a : Option Addr} {n : Nat} {f : Nat → Int} (h : Arg k w a n f) (d : Nat) : Arg k (w.drewN d) a n f := h
/-- A row that was built by append, read as an Own. -/
theorem own_of_cells {k : IntKind} {w : World} {B : Nat} {e : TypeId} {v : Value} {n : Nat} {f : Nat → Int} (h : w.ownsRow B e 1 v n (cellsOf k n f)) :
    ∃ a c, v = .slice a n c ∧ n ≤ c ∧ Own k B w a n f := by
  have e1 : cellsOf k n f = ((List.range n).map f).map (Value.int k) := by simp [cellsOf]
  have h0 := h
  rw [e1] at h
  obtain ⟨a, c, rfl, _, ho⟩ := own_of_ownsRow h
  refine ⟨a, c, rfl, ?_, ho.congr (fun i hi => by simp [List.getD, hi])⟩
  rcases h0.2 with ⟨h1, h2⟩ | ⟨_, _, _, h1, _, _, h2, _⟩
  · simp at h1; omega
  · simp at h1; omega
theorem cellsOf_succ (k : IntKind) (n : Nat) (f : Nat → Int) : cellsOf k (n + 1) f = cellsOf k n f ++ [.int k (f n)] := by simp [cellsOf, List.range_succ]
end Go.Proofs.YtdmefbpfpmkdcaaDoor
