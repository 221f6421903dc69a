/- What a call may change: only blocks of which S holds (and new ones). How rows and structs stand behind it. -/
import Derived.Test.YtdmefbpfpmkdcaaDoorObj
namespace Go.Proofs.YtdmefbpfpmkdcaaDoor
open Go.RowKit

structure Only (S : Nat → Prop) (w w' : World) : Prop where
  os : w'.os = w.os
  tape : w'.tape = w.tape
  output : w'.output = w.output
  size : w.heap.size ≤ w'.heap.size
  block : ∀ k, k < w.heap.size → ¬ S k → w'.heap[k]? = w.heap[k]?

theorem Only.refl (S : Nat → Prop) (w : World) : Only S w w := ⟨rfl, rfl, rfl, Nat.le_refl _, fun _ _ _ => rfl⟩
theorem Only.trans {S S' : Nat → Prop} {a b c : World} (h : Only S a b) (k : Only S' b c) (hs : ∀ k, k < a.heap.size → ¬ S k → ¬ S' k) : Only S a c :=
  ⟨k.os.trans h.os, k.tape.trans h.tape, k.output.trans h.output, Nat.le_trans h.size k.size, fun i hi hn => (k.block i (Nat.lt_of_lt_of_le hi h.size) (hs i hi hn)).trans (h.block i hi hn)⟩
theorem Only.tr {S : Nat → Prop} {a b c : World} (h : Only S a b) (k : Only S b c) : Only S a c := h.trans k fun _ _ h => h
theorem Only.mono {S S' : Nat → Prop} {a b : World} (h : Only S a b) (hs : ∀ k, S k → S' k) : Only S' a b := ⟨h.os, h.tape, h.output, h.size, fun k hk hn => h.block k hk (fun hs' => hn (hs k hs'))⟩
theorem Only.of_grown {S : Nat → Prop} {w w' : World} {row : Option Nat} (h : w.grownBy w' row) (hs : ∀ k, row = some k → S k) : Only S w w' :=
  ⟨h.os, h.tape, h.output, h.size, fun k hk hn => h.block k hk (fun e => hn (hs k e.symm))⟩
theorem Only.of_below {S : Nat → Prop} {w w' : World} (h : Below w.heap.size w w') : Only S w w' := ⟨h.os, h.tape, h.output, h.size, fun k hk _ => h.block k hk⟩
theorem Only.setCell {S : Nat → Prop} (w : World) (p : Addr) (v : Value) (hs : S p.block) : Only S w (w.setCell p v) := Only.of_grown (grownBy_setCell w p v) (fun k hk => by injection hk with hk; subst hk; exact hs)
theorem Only.alloc (S : Nat → Prop) (w : World) (o : Go.Obj) : Only S w (w.alloc o) := Only.of_grown (World.grownBy_alloc w o none) (fun k hk => by cases hk)
theorem Only.drewN (S : Nat → Prop) (w : World) (d : Nat) : Only S w (w.drewN d) := ⟨rfl, rfl, rfl, Nat.le_refl _, fun _ _ _ => rfl⟩
theorem Only.dr {S : Nat → Prop} {w w' : World} (h : Only S w w') : Only S w w'.drew := ⟨h.os, h.tape, h.output, h.size, h.block⟩
theorem Only.dN {S : Nat → Prop} {w w' : World} (h : Only S w w') (d : Nat) : Only S w (w'.drewN d) := ⟨h.os, h.tape, h.output, h.size, h.block⟩
theorem Only.below {S : Nat → Prop} {w w' : World} (h : Only S w w') {B : Nat} (hB : B ≤ w.heap.size) (hs : ∀ k, S k → B ≤ k) : Below B w w' :=
  ⟨h.os, h.tape, h.output, h.size, fun k hk => h.block k (Nat.lt_of_lt_of_le hk hB) (fun e => by have := hs k e; omega)⟩
theorem SObj.only {S : Nat → Prop} {w w' : World} {g : Nat} {T : TypeId} {vs : List Value} (h : SObj w g T vs) (ho : Only S w w') (hn : ¬ S g) : SObj w' g T vs := by
  unfold SObj; rw [ho.block g h.lt hn]; exact h
theorem Row.only {S : Nat → Prop} {k : IntKind} {w w' : World} {g o n : Nat} {f : Nat → Int} (h : Row k w g o n f) (ho : Only S w w') (hlt : g < w.heap.size) (hn : ¬ S g) : Row k w' g o n f := fun i hi => by
  rw [World.cell?_of_block (w := w) (ho.block g hlt hn)]; exact h i hi
theorem Arg.only {S : Nat → Prop} {k : IntKind} {w w' : World} {a : Option Addr} {n : Nat} {f : Nat → Int} (h : Arg k w a n f) (ho : Only S w w') (hn : 0 < n → ∀ p, a = some p → ¬ S p.block) : Arg k w' a n f := fun h0 => by
  obtain ⟨g, o, rfl, h2, h3⟩ := h h0
  exact ⟨g, o, rfl, Nat.lt_of_lt_of_le h2 ho.size, h3.only ho h2 (hn h0 _ rfl)⟩
theorem Own.only {S : Nat → Prop} {k : IntKind} {B : Nat} {w w' : World} {a : Option Addr} {n : Nat} {f : Nat → Int} (h : Own k B w a n f) (ho : Only S w w') (hn : 0 < n → ∀ p, a = some p → ¬ S p.block) : Own k B w' a n f := fun h0 => by
  obtain ⟨g, rfl, h1, h2, h3, h4⟩ := h h0
  refine ⟨g, rfl, h1, Nat.lt_of_lt_of_le h2 ho.size, h3.only ho h2 (hn h0 _ rfl), fun i hi => ?_⟩
  rw [World.frozen?_of_block (w := w) (ho.block g h2 (hn h0 _ rfl))]; exact h4 i hi
theorem ownsRow_only {S : Nat → Prop} {w w' : World} {B : Nat} {e : TypeId} {size : Nat} {v : Value} {n : Nat} {xs : List Value} (h : w.ownsRow B e size v n xs) (ho : Only S w w') (hn : ∀ k, v.ownBlock = some k → ¬ S k) : w'.ownsRow B e size v n xs := by
  refine ⟨h.1, ?_⟩
  rcases h.2 with h0 | ⟨g, cap, cur, rfl, hb, hgg, rest⟩
  · exact .inl h0
  · refine .inr ⟨g, cap, cur, rfl, hb, ?_, rest⟩
    rw [ho.block g (Array.getElem?_eq_some_iff.1 hgg).1 (hn g rfl)]
    exact hgg
/-- Block k holds cells of type e. -/
def OfTy (w : World) (e : TypeId) (k : Nat) : Prop := ∃ c fr, w.heap[k]? = some (.cells c e fr)
theorem ownsRow_ty {w : World} {B : Nat} {e : TypeId} {size : Nat} {v : Value} {n : Nat} {xs : List Value} (h : w.ownsRow B e size v n xs) {k : Nat} (hk : v.ownBlock = some k) : OfTy w e k ∧ B ≤ k ∧ k < w.heap.size := by
  rcases h.2 with ⟨rfl, _⟩ | ⟨g, cap, cur, rfl, hb, hgg, _⟩
  · cases hk
  · injection hk with hk; subst hk
    exact ⟨⟨cur, _, hgg⟩, hb, (Array.getElem?_eq_some_iff.1 hgg).1⟩
theorem SObj.ty {w : World} {g : Nat} {T : TypeId} {vs : List Value} (h : SObj w g T vs) : OfTy w T g := ⟨_, _, h⟩
theorem OfTy.inj {w : World} {e e' : TypeId} {k : Nat} (h : OfTy w e k) (h' : OfTy w e' k) : e = e' := by
  obtain ⟨c, fr, h1⟩ := h
  obtain ⟨c', fr', h2⟩ := h'
  rw [h1] at h2
  injection h2 with h2
  injection h2
theorem OfTy.keep {S : Nat → Prop} {w w' : World} {e : TypeId} {k : Nat} (h : OfTy w' e k) (ho : Only S w w') (hk : k < w.heap.size) (hn : ¬ S k) : OfTy w e k := by
  obtain ⟨c, fr, h1⟩ := h
  exact ⟨c, fr, by rw [← ho.block k hk hn]; exact h1⟩
/-- Only block g, and blocks from B on that hold cells of type e. -/
def Of (w : World) (B : Nat) (e : TypeId) (g : Nat) (k : Nat) : Prop := k = g ∨ B ≤ k ∧ OfTy w e k
theorem Only.trOf {w w1 w2 : World} {B : Nat} {e : TypeId} {g : Nat} (h : Only (Of w B e g) w w1) (k : Only (Of w1 B e g) w1 w2) : Only (Of w B e g) w w2 :=
  h.trans k fun i hi hn hs => hn (by
    rcases hs with hs | ⟨h1, h2⟩
    · exact .inl hs
    · exact .inr ⟨h1, h2.keep h hi hn⟩)
end Go.Proofs.YtdmefbpfpmkdcaaDoor
