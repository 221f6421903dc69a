/- The law's walker: what holds within chunks that are gone through, and how it stands. (Printed by wip/gen_trg.py.) -/
import Derived.Test.YthipghkhdlnfiaaDoorTrE
namespace Go.Proofs.YthipghkhdlnfiaaDoor
open Go.RowKit
set_option linter.unusedVariables false

/-- Wanted bytes that lie from block N on. -/
def New (N : Nat) (dn : List Value) : Prop := ∀ p n cc, Value.slice (some p) n cc ∈ dn → 0 < n → N ≤ p.block
theorem New.nil (N : Nat) : New N [] := fun _ _ _ h => by cases h
theorem New.app {N : Nat} {a b : List Value} (h : New N a) (k : New N b) : New N (a ++ b) := fun p n cc hm h0 => by
  rcases List.mem_append.1 hm with h1 | h1
  · exact h p n cc h1 h0
  · exact k p n cc h1 h0
theorem New.mono {N M : Nat} {a : List Value} (h : New N a) (hm : M ≤ N) : New M a := fun p n cc h1 h0 => Nat.le_trans hm (h p n cc h1 h0)
theorem DS.lt {w : World} {cks : List Ck} {ds : List Value} (h : DS w cks ds) {p : Addr} {n cc : Nat} (hm : Value.slice (some p) n cc ∈ ds) (h0 : 0 < n) : p.block < w.heap.size := by
  obtain ⟨i, hi⟩ := List.getElem?_of_mem hm
  have hil : i < cks.length := by rw [← h.1]; exact (List.getElem?_eq_some_iff.1 hi).1
  obtain ⟨a, cc', h1, _, h3⟩ := h.2 i cks[i] (List.getElem?_eq_getElem hil)
  rw [hi] at h1
  injection h1 with h1
  injection h1 with e1 e2 e3
  obtain ⟨c, fr, hc⟩ := h3 (by omega) p e1.symm
  exact (Array.getElem?_eq_some_iff.1 hc).1
/-- What chunks tells that are gone through. -/
def TP (c : WC) (n : Nat) (w : World) (ps : List (Int × Int)) (cks : List Ck) (ks : List Nat) (ds : List Value) (e : Ending) (w' : World) : Prop :=
  ∃ (v : Value) (t : Tr) (sv wv kv : Value) (dn : List Value), e = .returned v ∧ w'.ownsRow w.heap.size 5 1 v t.bytes.length (u8s t.bytes) ∧ (t.bytes = [] → v = .slice none 0 0) ∧ TOk t n ∧ WK c w' sv wv kv (ps ++ t.steps) (cks ++ t.want) (ks ++ t.kinds) (ds ++ dn) ∧ New w.heap.size dn ∧ Only (WR c w) w w'
/-- What holds within the call: the walker, the row that is written, what was wanted. -/
structure IN (c : WC) (w : World) (B : Nat) (ds : List Value) (ov : Value) (ln : Nat) (l : List Int) (w' : World) (sv wv kv : Value) (ps : List (Int × Int)) (cks : List Ck) (ks : List Nat) (dn : List Value) : Prop where
  wk : WK c w' sv wv kv ps cks ks (ds ++ dn)
  on : Only (WR c w) w w'
  row : w'.ownsRow B 5 1 ov ln (u8s l)
  nw : New B dn
  ap : ApartW (ds ++ dn) ov
  bs : B = w.heap.size
  bw : c.B ≤ w.heap.size
theorem row_wr {c : WC} {w w' : World} {sv wv kv : Value} {ps : List (Int × Int)} {cks : List Ck} {ks : List Nat} {ds : List Value} (h : WK c w sv wv kv ps cks ks ds) {B n : Nat} {v : Value} {xs : List Value} (hr : w.ownsRow B 5 1 v n xs) (ho : Only (WR c w) w w') : w'.ownsRow B 5 1 v n xs :=
  ownsRow_only hr ho (fun k hk e => by
    have ht := (ownsRow_ty hr hk).1
    rcases e with e | e | ⟨_, e | e | e⟩
    · rw [e] at ht; exact absurd (ht.inj h.wq.1.ty) (by decide)
    · rw [e] at ht; exact absurd (ht.inj h.gcT) (by decide)
    · exact absurd (ht.inj e) (by decide)
    · exact absurd (ht.inj e) (by decide)
    · exact absurd (ht.inj e) (by decide))
theorem IN.go {c : WC} {w : World} {B : Nat} {ds : List Value} {ov : Value} {ln : Nat} {l : List Int} {w1 w2 : World} {sv wv kv sv2 wv2 kv2 : Value} {ps ps2 : List (Int × Int)} {cks cks2 : List Ck} {ks ks2 : List Nat} {dn dn2 : List Value} (h : IN c w B ds ov ln l w1 sv wv kv ps cks ks dn) (hw : WK c w2 sv2 wv2 kv2 ps2 cks2 ks2 (ds ++ dn2)) (ho : Only (WR c w1) w1 w2) (hn : New B dn2) (ha : ApartW (ds ++ dn2) ov) : IN c w B ds ov ln l w2 sv2 wv2 kv2 ps2 cks2 ks2 dn2 :=
  ⟨hw, wr_trans h.on ho, row_wr h.wk h.row ho, hn, ha, h.bs, h.bw⟩
theorem IN.ch {c : WC} {w : World} {B : Nat} {ds : List Value} {ov : Value} {ln : Nat} {l : List Int} {w1 w2 : World} {sv wv kv : Value} {ps : List (Int × Int)} {cks : List Ck} {ks : List Nat} {dn : List Value} (h : IN c w B ds ov ln l w1 sv wv kv ps cks ks dn) (hc : CH w2 c.gc c.ba c.bn c.bc c.f) (ho : Only (fun k => k = c.gc) w1 w2) : IN c w B ds ov ln l w2 sv wv kv ps cks ks dn :=
  h.go (h.wk.ch hc ho) (ho.mono (fun k e => .inr (.inl e))) h.nw h.ap
theorem IN.nop {c : WC} {w : World} {B : Nat} {ds : List Value} {ov : Value} {ln : Nat} {l : List Int} {w1 w2 : World} {sv wv kv : Value} {ps : List (Int × Int)} {cks : List Ck} {ks : List Nat} {dn : List Value} (h : IN c w B ds ov ln l w1 sv wv kv ps cks ks dn) (ho : Only (fun _ => False) w1 w2) : IN c w B ds ov ln l w2 sv wv kv ps cks ks dn :=
  h.go (h.wk.nop ho) (ho.mono (fun k e => e.elim)) h.nw h.ap
theorem IN.step {c : WC} {w : World} {B : Nat} {ds : List Value} {ov : Value} {ln : Nat} {l : List Int} {w1 w2 : World} {sv wv kv sv2 kv2 : Value} {ps ps2 : List (Int × Int)} {cks : List Ck} {ks ks2 : List Nat} {dn : List Value} (h : IN c w B ds ov ln l w1 sv wv kv ps cks ks dn) (hw : WK c w2 sv2 wv kv2 ps2 cks ks2 (ds ++ dn)) (ho : Only (WS c w1) w1 w2) : IN c w B ds ov ln l w2 sv2 wv kv2 ps2 cks ks2 dn :=
  h.go hw (ho.mono (fun k e => e.wr)) h.nw h.ap
/-- Behind an append to what is written. -/
theorem IN.out {c : WC} {w : World} {B : Nat} {ds : List Value} {ov : Value} {ln : Nat} {l : List Int} {w1 w2 : World} {sv wv kv : Value} {ps : List (Int × Int)} {cks : List Ck} {ks : List Nat} {dn : List Value} (h : IN c w B ds ov ln l w1 sv wv kv ps cks ks dn) {g cap ln2 : Nat} {l2 : List Int} (hown : w2.ownsRow B 5 1 (.slice (some ⟨g, 0, none⟩) ln2 cap) ln2 (u8s l2)) (hg : w1.grownBy w2 ov.ownBlock) (hat : ov.ownBlock = some g ∨ g = w1.heap.size) : IN c w B ds (.slice (some ⟨g, 0, none⟩) ln2 cap) ln2 l2 w2 sv wv kv ps cks ks dn := by
  have ho : Only (fun k => ov.ownBlock = some k) w1 w2 := Only.of_grown hg (fun k hk => hk)
  have hb : c.B ≤ B := by rw [h.bs]; exact h.bw
  refine ⟨h.wk.row h.row hb h.ap ho, h.on.trans ho (fun k hk _ e => ?_), hown, h.nw, fun p n cc hm h0 e => ?_, h.bs, h.bw⟩
  · have := (ownsRow_ty h.row e).2.1
    have := h.bs
    omega
  · have e : g = p.block := by
      have : (Value.slice (some ⟨g, 0, none⟩) ln2 cap).ownBlock = some g := rfl
      rw [this] at e; injection e
    rcases hat with h1 | h1
    · exact h.ap p n cc hm h0 (by rw [h1, e])
    · have := h.wk.da.lt hm h0
      omega

theorem in5_mk {c : WC} {w : World} {B : Nat} {ds : List Value} {ov : Value} {ln nx n : Nat} {l l5 : List Int} {wc w5 : World} {sv wv kv v5 : Value} {ps : List (Int × Int)} {cks : List Ck} {ks : List Nat} {dn : List Value} {na nb : Nat} {t5 : Tr} (hb : IN c w B ds ov ln l wc sv wv kv ps cks ks dn) (hs : SObj wc nx 26 [.int .u8 na, .int .u8 120, .int .u8 121, .int .u8 nb])
    (ho5 : w5.ownsRow wc.drew.heap.size 5 1 v5 l5.length (u8s l5)) (hn5 : l5 = [] → v5 = .slice none 0 0) (ht5 : TOk t5 n) (hc5 : CH w5 c.gc c.ba c.bn c.bc c.f) (hb5 : Only (fun k => k = c.gc) wc.drew w5) (hl5 : l5 = t5.bytes) (hn : n ≤ 400000) :
    IN c w B ds ov ln l w5 sv wv kv ps cks ks dn ∧ SObj w5 nx 26 [.int .u8 na, .int .u8 120, .int .u8 121, .int .u8 nb] ∧ l5 = t5.bytes ∧ w5.ownsRow wc.drew.heap.size 5 1 v5 l5.length (u8s l5) ∧ (l5 = [] → v5 = .slice none 0 0) ∧ TOk t5 n ∧ l5.length ≤ 400000 ∧ l5.length ≤ 1000000 := by
  have hod : Only (fun k => k = c.gc) wc w5 := (Only.drewN _ wc 1).tr hb5
  have hle := ht5.le
  refine ⟨hb.ch hc5 hod, hs.only hod (fun e => ?_), hl5, ho5, hn5, ht5, by rw [hl5]; omega, by rw [hl5]; omega⟩
  have e : nx = c.gc := e
  have h1 := hs.ty
  rw [e] at h1
  exact absurd (hb.wk.gcT.inj h1) (by decide)
theorem src_mk {w : World} {l : List Int} (p : Addr) (cc : Nat) (h : ∀ j u, (u8s l)[j]? = some u → w.cell? (p.add j) = some u) : Src w (some p) cc l := .inr ⟨p, rfl, h⟩
theorem ty_only {S : Nat → Prop} {w w' : World} {T : TypeId} {k : Nat} (h : OfTy w T k) (ho : Only S w w') (hn : ¬ S k) : OfTy w' T k := by
  obtain ⟨c, fr, hc⟩ := h
  exact ⟨c, fr, by rw [ho.block k (Array.getElem?_eq_some_iff.1 hc).1 hn]; exact hc⟩
theorem cells_on {S : Nat → Prop} {w w' : World} {p : Addr} {vs : List Value} (h : ∀ j u, vs[j]? = some u → w.cell? (p.add j) = some u) (ho : Only S w w') (hn : ¬ S p.block) : ∀ j u, vs[j]? = some u → w'.cell? (p.add j) = some u := fun j u hu => by
  have hb : (p.add j).block = p.block := by unfold Addr.add; split <;> rfl
  have h1 := h j u hu
  rw [World.cell?_of_block (w := w) (ho.block _ (World.block_lt_of_cell? w _ h1) (by rw [hb]; exact hn))]
  exact h1
theorem grown_drew {w w' : World} {r : Option Nat} (h : w.drew.grownBy w' r) : w.grownBy w' r := ⟨h.os, h.tape, h.output, h.size, h.block⟩
theorem ws_ck {c : WC} {w : World} {sv wv kv : Value} {ps : List (Int × Int)} {cks : List Ck} {ks : List Nat} {ds : List Value} (h : WK c w sv wv kv ps cks ks ds) {g : Nat} {vs : List Value} (hs : SObj w g 43 vs) : ¬ WS c w g := fun e => by
  have ht := hs.ty
  rcases e with e | ⟨_, e | e⟩
  · rw [e] at ht; exact absurd (ht.inj h.wq.1.ty) (by decide)
  · exact absurd (ht.inj e) (by decide)
  · exact absurd (ht.inj e) (by decide)
theorem ws_not {c : WC} {w : World} {sv wv kv : Value} {ps : List (Int × Int)} {cks : List Ck} {ks : List Nat} {ds : List Value} (h : WK c w sv wv kv ps cks ks ds) {k : Nat} (ht : OfTy w 26 k ∨ OfTy w 5 k) : ¬ WS c w k := fun e => by
  rcases ht with ht | ht
  · rcases e with e | ⟨_, e | e⟩
    · rw [e] at ht; exact absurd (ht.inj h.wq.1.ty) (by decide)
    · exact absurd (ht.inj e) (by decide)
    · exact absurd (ht.inj e) (by decide)
  · rcases e with e | ⟨_, e | e⟩
    · rw [e] at ht; exact absurd (ht.inj h.wq.1.ty) (by decide)
    · exact absurd (ht.inj e) (by decide)
    · exact absurd (ht.inj e) (by decide)
/-- Bytes in a row of their own, from block N on, as they are read. -/
structure BX (N : Nat) (w : World) (a : Option Addr) (cc : Nat) (l : List Int) : Prop where
  src : Src w a cc l
  arg : Arg .u8 w a l.length (fun j => l.getD j 0)
  ty : 0 < l.length → ∀ p, a = some p → OfTy w 5 p.block ∧ N ≤ p.block
  le : l.length ≤ cc ∧ cc ≤ 9223372036854775807
theorem row_cap {w : World} {N n cc : Nat} {a : Option Addr} {xs : List Value} (h : w.ownsRow N 5 1 (.slice a n cc) n xs) : n ≤ cc ∧ cc ≤ 9223372036854775807 := by
  rcases h.2 with ⟨h1, h2⟩ | ⟨g, cap, cur, h1, _, _, h3, h4, _⟩
  · injection h1 with _ _ h1; omega
  · injection h1 with _ _ h1; unfold maxLen at h4; omega
theorem bytes_box {w : World} {N : Nat} {v : Value} {l : List Int} {AGO : Go.Obj} (h : w.ownsRow N 5 1 v l.length (u8s l)) : ∃ a cc, v = .slice a l.length cc ∧ BX N (w.alloc AGO) a cc l := by
  obtain ⟨a, cc, hv, _, hs⟩ := src_own h
  obtain ⟨a', cc', hv', _, ha⟩ := arg_own h
  rw [hv] at hv'
  injection hv' with e1 e2 e3
  subst e1 e3
  refine ⟨a, cc, hv, hs.below ((Below.refl _ _).alloc (Nat.le_refl _) _), ha.below ((Below.refl _ _).alloc (Nat.le_refl _) _), fun h0 p hp => ?_, row_cap (by rw [← hv]; exact h)⟩
  have ht := ownsRow_ty h (k := p.block) (by rw [hv, hp]; rfl)
  exact ⟨ty_only ht.1 (Only.alloc (fun _ => False) w AGO) (fun h => h), ht.2.1⟩
theorem BX.only {N : Nat} {w w' : World} {a : Option Addr} {cc : Nat} {l : List Int} (h : BX N w a cc l) {S : Nat → Prop} (ho : Only S w w') (hn : 0 < l.length → ∀ p, a = some p → ¬ S p.block) : BX N w' a cc l := by
  refine ⟨?_, h.arg.only ho hn, fun h0 p hp => ?_, h.le⟩
  · rcases h.src with h1 | ⟨ad, h1, h2⟩
    · exact .inl h1
    · refine .inr ⟨ad, h1, fun j u hu => ?_⟩
      have hl : 0 < l.length := by have := (List.getElem?_eq_some_iff.1 hu).1; rw [u8s_length] at this; omega
      exact cells_on h2 ho (hn hl ad h1) j u hu
  · exact ⟨ty_only (h.ty h0 p hp).1 ho (hn h0 p hp), (h.ty h0 p hp).2⟩
theorem bx_gc {c : WC} {w : World} {sv wv kv : Value} {ps : List (Int × Int)} {cks : List Ck} {ks : List Nat} {ds : List Value} (h : WK c w sv wv kv ps cks ks ds) {N : Nat} {a : Option Addr} {cc : Nat} {l : List Int} (hb : BX N w a cc l) : 0 < l.length → ∀ p, a = some p → ¬ p.block = c.gc := fun h0 p hp e => by
  have ht := (hb.ty h0 p hp).1
  rw [e] at ht; exact absurd (ht.inj h.gcT) (by decide)
theorem nx_gc {c : WC} {w : World} {sv wv kv : Value} {ps : List (Int × Int)} {cks : List Ck} {ks : List Nat} {ds : List Value} (h : WK c w sv wv kv ps cks ks ds) {g : Nat} {vs : List Value} (hs : SObj w g 26 vs) : ¬ g = c.gc := fun e => by
  have ht := hs.ty
  rw [e] at ht; exact absurd (ht.inj h.gcT) (by decide)
theorem leaf_far {c : WC} {w : World} {B : Nat} {ds : List Value} {ov : Value} {ln ln2 nx ge capE bn2 : Nat} {l bl : List Int} {wa wc wd we : World} {sv wv kv : Value} {ps : List (Int × Int)} {cks : List Ck} {ks : List Nat} {dn vs : List Value} {a : Option Addr} {cc : Nat} (hb : IN c w B ds ov ln l wc sv wv kv ps cks ks dn) (hs : SObj wc nx 26 vs) (hx : BX wa.heap.size wc a cc bl) (hra : wa.ownsRow B 5 1 ov ln (u8s l)) (ho : Only (fun _ => False) wc wd) (hr : wd.ownsRow B 5 1 ov ln (u8s l)) (hg : wd.grownBy we ov.ownBlock) (hat : ov.ownBlock = some ge ∨ ge = wd.heap.size) (hap : ApartW (ds ++ dn) (.slice (some ⟨ge, 0, none⟩) ln2 capE)) (hbn : bn2 = bl.length) :
    SObj we nx 26 vs ∧ BX wa.heap.size we a cc bl ∧ ApartW (ds ++ (dn ++ [.slice a bn2 cc])) (.slice (some ⟨ge, 0, none⟩) ln2 capE) := by
  have hog : Only (fun k => ov.ownBlock = some k) wd we := Only.of_grown hg (fun k hk => hk)
  have hs1 := hs.only ho (fun h => h)
  have hx1 := hx.only ho (fun _ _ _ h => h)
  have hne : 0 < bl.length → ∀ p, a = some p → ¬ ov.ownBlock = some p.block := fun h0 p hp e => by
    have h1 := (ownsRow_ty hra e).2.2
    have h2 := (hx.ty h0 p hp).2
    omega
  refine ⟨hs1.only hog (fun e => absurd (hs1.ty.inj (ownsRow_ty hr e).1) (by decide)), hx1.only hog hne, fun p n cc' hm h0 e => ?_⟩
  rw [← List.append_assoc] at hm
  rcases List.mem_append.1 hm with h1 | h1
  · exact hap p n cc' h1 h0 e
  · simp at h1
    obtain ⟨h1, h2, h3⟩ := h1
    have e2 : ge = p.block := by
      have : (Value.slice (some ⟨ge, 0, none⟩) ln2 capE).ownBlock = some ge := rfl
      rw [this] at e; injection e
    have hl : 0 < bl.length := by omega
    rcases hat with h4 | h4
    · exact hne hl p h1.symm (by rw [h4, e2])
    · obtain ⟨c', fr, hc⟩ := (hx.ty hl p h1.symm).1
      have h5 := (Array.getElem?_eq_some_iff.1 hc).1
      have h6 := ho.size
      omega
theorem len_leaf (na nb : Nat) (bl : List Int) (n : Nat) (hn : n = bl.length) (h : n ≤ 11) : (chunkB [(na : Int), 120, 121, (nb : Int)] bl).length ≤ 20 ∧ 8 ≤ (chunkB [(na : Int), 120, 121, (nb : Int)] bl).length := by
  have h1 := chunkB_len (id := [(na : Int), 120, 121, (nb : Int)]) rfl bl
  omega
theorem in6_mk {c : WC} {w : World} {B : Nat} {ds : List Value} {ov : Value} {ln nx n : Nat} {l l5 : List Int} {wc w5 : World} {sv wv kv sv8 wv8 kv8 v5 : Value} {ps ps8 : List (Int × Int)} {cks cks8 : List Ck} {ks ks8 : List Nat} {dn dn8 : List Value} {na nb : Nat} {t5 : Tr} (hb : IN c w B ds ov ln l wc sv wv kv ps cks ks dn) (hs : SObj wc nx 26 [.int .u8 na, .int .u8 120, .int .u8 121, .int .u8 nb])
    (ho5 : w5.ownsRow wc.drew.heap.size 5 1 v5 l5.length (u8s l5)) (hn5 : l5 = [] → v5 = .slice none 0 0) (ht5 : TOk t5 n) (hk5 : WK c w5 sv8 wv8 kv8 ps8 cks8 ks8 ((ds ++ dn) ++ dn8)) (hw5 : New wc.drew.heap.size dn8) (hb5 : Only (WR c wc.drew) wc.drew w5) (hl5 : l5 = t5.bytes) (hn : n ≤ 400000) :
    IN c w B ds ov ln l w5 sv8 wv8 kv8 ps8 cks8 ks8 (dn ++ dn8) ∧ SObj w5 nx 26 [.int .u8 na, .int .u8 120, .int .u8 121, .int .u8 nb] ∧ l5 = t5.bytes ∧ w5.ownsRow wc.drew.heap.size 5 1 v5 l5.length (u8s l5) ∧ (l5 = [] → v5 = .slice none 0 0) ∧ TOk t5 n ∧ l5.length ≤ 400000 ∧ l5.length ≤ 1000000 := by
  have hod : Only (WR c wc) wc w5 := (Only.drewN _ wc 1).tr hb5
  have hle := ht5.le
  have hsz : B ≤ wc.heap.size := by have h1 := hb.on.size; have h2 := hb.bs; omega
  refine ⟨hb.go (by rw [← List.append_assoc]; exact hk5) hod (hb.nw.app (hw5.mono hsz)) (fun p n cc hm h0 e => ?_), hs.only hod (fun e => ?_), hl5, ho5, hn5, ht5, by rw [hl5]; omega, by rw [hl5]; omega⟩
  · rw [← List.append_assoc] at hm
    rcases List.mem_append.1 hm with h1 | h1
    · exact hb.ap p n cc h1 h0 e
    · have h2 := hw5 p n cc h1 h0
      have h3 := (ownsRow_ty hb.row e).2.2
      have h4 : wc.drew.heap.size = wc.heap.size := rfl
      omega
  · have ht := hs.ty
    rcases e with e | e | ⟨_, e | e | e⟩
    · rw [e] at ht; exact absurd (ht.inj hb.wk.wq.1.ty) (by decide)
    · rw [e] at ht; exact absurd (ht.inj hb.wk.gcT) (by decide)
    · exact absurd (ht.inj e) (by decide)
    · exact absurd (ht.inj e) (by decide)
    · exact absurd (ht.inj e) (by decide)
theorem u8s_app_own {w : World} {B n : Nat} {v : Value} {l ckl : List Int} (h : w.ownsRow B 5 1 v n (u8s l ++ u8s ckl)) : w.ownsRow B 5 1 v n (u8s (l ++ ckl)) := by
  have e : u8s (l ++ ckl) = u8s l ++ u8s ckl := by unfold u8s; rw [List.map_append]
  rw [e]; exact h
theorem len_list (na nb : Nat) (l5 : List Int) (n : Nat) (hn : n = l5.length) (h : n ≤ 400000) : (chunkB listId ([(na : Int), 120, 121, (nb : Int)] ++ l5)).length ≤ 400013 ∧ 8 ≤ (chunkB listId ([(na : Int), 120, 121, (nb : Int)] ++ l5)).length := by
  have h1 := chunkB_len (id := listId) rfl ([(na : Int), 120, 121, (nb : Int)] ++ l5)
  rw [List.length_append, ← hn] at h1
  simp only [List.length_cons, List.length_nil] at h1
  omega
theorem ckCell_one (k : Ck) (a : Option Addr) (n cc : Nat) : ∀ u ∈ ckCell k (.slice a n cc), u.oneCell' = true := by
  intro u hu
  simp only [ckCell, List.mem_cons, List.not_mem_nil, or_false] at hu
  rcases hu with rfl | rfl | rfl | rfl | rfl | rfl | rfl <;> rfl
theorem wk_cells {c : WC} {w w' : World} {sv wv kv : Value} {ps : List (Int × Int)} {cks : List Ck} {ks : List Nat} {ds : List Value} (h : WK c w sv wv kv ps cks ks ds) {o : Go.Obj} (hg : (w.alloc o).grownBy w' wv.ownBlock) : w'.cell? ⟨c.gw, 2, none⟩ = some wv ∧ w'.frozen? ⟨c.gw, 2, none⟩ = false := by
  have ho1 : Only (fun k => wv.ownBlock = some k) w w' := (Only.alloc _ w o).tr (Only.of_grown hg (fun k hk => hk))
  have hgwv : wv.ownBlock ≠ some c.gw := fun e => absurd (h.wq.1.ty.inj (ownsRow_ty h.wa e).1) (by decide)
  have hobj : SObj w' c.gw 51 [.pointer (some ⟨c.gc, 0, none⟩), sv, wv, kv] := h.wq.1.only ho1 hgwv
  exact ⟨hobj.cell 2 rfl, hobj.free 2⟩

theorem WK.xobj {c : WC} {w w' : World} {sv wv kv : Value} {ps : List (Int × Int)} {cks : List Ck} {ks : List Nat} {ds : List Value} (h : WK c w sv wv kv ps cks ks ds) {g : Nat} (hg : OfTy w 43 g) (hne : wv.ownBlock ≠ some g) (hB : c.B ≤ g) (ho : Only (fun k => k = g) w w') : WK c w' sv wv kv ps cks ks ds := by
  have far : ∀ (T : TypeId) (j : Nat), OfTy w T j → T ≠ 43 → ¬ j = g := fun T j ht hT e => by rw [e] at ht; exact hT (ht.inj hg)
  refine ⟨⟨h.wq.1.only ho (far _ _ h.wq.1.ty (by decide)), h.wq.2.only ho (far _ _ h.gcT (by decide)) (fun h0 p hp e => ?_)⟩, ownsRow_only h.st ho (fun j hj => far _ _ (ownsRow_ty h.st hj).1 (by decide)), ownsRow_only h.wa ho (fun j hj e => hne (by rw [hj, e])), ownsRow_only h.ki ho (fun j hj => far _ _ (ownsRow_ty h.ki hj).1 (by decide)), h.da.only ho (fun p _ _ _ _ ht => far _ _ ht (by decide)), Nat.le_trans h.bs ho.size, h.ar, h.gB⟩
  have := h.ar h0 p hp
  have e : p.block = g := e
  omega
theorem bx_take {N : Nat} {w : World} {a : Option Addr} {cc : Nat} {l : List Int} (h : BX N w a cc l) {n : Nat} (hn : n ≤ l.length) : (l.take n).length = n ∧ Arg .u8 w a n (fun j => (l.take n).getD j 0) ∧ (0 < n → ∀ p, a = some p → OfTy w 5 p.block ∧ N ≤ p.block) := by
  refine ⟨by rw [List.length_take]; omega, fun h0 => ?_, fun h0 p hp => h.ty (by omega) p hp⟩
  obtain ⟨g, o, e1, e2, e3⟩ := h.arg (by omega)
  refine ⟨g, o, e1, e2, fun j hj => ?_⟩
  rw [e3 j (by omega)]
  simp [List.getD, hj]
theorem leaf_push {c : WC} {w : World} {B : Nat} {ds : List Value} {ov : Value} {ln : Nat} {l : List Int} {wh w4 : World} {sv kv v4 : Value} {xa : Option Addr} {xn xc : Nat} {ps : List (Int × Int)} {cks : List Ck} {ks : List Nat} {dn : List Value} {N : Nat} {bba : Option Addr} {bbc : Nat} {bl : List Int} {o : Go.Obj} (h : IN c w B ds ov ln l wh sv (.slice xa xn xc) kv ps cks ks dn) (hx : BX N wh bba bbc bl) (hN : B ≤ N) (n fin : Nat) (hn : n ≤ bl.length) (x0 x1 x2 x3 : Int) (hap : ApartW (ds ++ (dn ++ [.slice bba bl.length bbc])) ov)
    (hown : w4.ownsRow c.B 43 7 v4 (xn + 1) (ckCells cks (ds ++ dn) ++ [.int .u8 x0, .int .u8 x1, .int .u8 x2, .int .u8 x3, .int .i64 (bl.length : Nat), .slice bba n bbc, .int .i64 (fin : Nat)])) (hg : (wh.alloc o).grownBy w4 (Value.slice xa xn xc).ownBlock) (hxn : xn = cks.length) :
    IN c w B ds ov ln l (w4.setCell ⟨c.gw, 2, none⟩ v4) sv v4 kv ps (cks ++ [⟨[x0, x1, x2, x3], bl.length, bl.take n, fin⟩]) ks (dn ++ [.slice bba n bbc]) := by
  obtain ⟨b1, b2, b3⟩ := bx_take hx hn
  have hp := h.wk.push o ⟨[x0, x1, x2, x3], bl.length, bl.take n, fin⟩ bba bbc (by show Arg .u8 wh bba (bl.take n).length _; rw [b1]; exact b2) (by intro h0 p hp; have h0 : 0 < (bl.take n).length := h0; rw [b1] at h0; exact (b3 h0 p hp).1) (v' := v4) (w' := w4) (by
    rw [← hxn]
    show w4.ownsRow c.B 43 7 v4 (xn + 1) (ckCells cks (ds ++ dn) ++ [.int .u8 x0, .int .u8 x1, .int .u8 x2, .int .u8 x3, .int .i64 (bl.length : Nat), .slice bba (bl.take n).length bbc, .int .i64 (fin : Nat)])
    rw [b1]; exact hown) hg
  have hp1 := hp.1
  have e : Value.slice bba (bl.take n).length bbc = .slice bba n bbc := by rw [b1]
  rw [List.append_assoc] at hp1
  have hp1 : WK c (w4.setCell ⟨c.gw, 2, none⟩ v4) sv v4 kv ps (cks ++ [⟨[x0, x1, x2, x3], bl.length, bl.take n, fin⟩]) ks (ds ++ (dn ++ [.slice bba (bl.take n).length bbc])) := hp1
  rw [e] at hp1
  refine h.go hp1 hp.2 (h.nw.app (fun p m cc hm h0 => ?_)) (fun p m cc hm h0 => ?_)
  · simp at hm
    obtain ⟨h1, h2, h3⟩ := hm
    exact Nat.le_trans hN (b3 (by omega) p h1.symm).2
  · rw [← List.append_assoc] at hm
    rcases List.mem_append.1 hm with h1 | h1
    · exact h.ap p m cc h1 h0
    · simp at h1
      obtain ⟨h1, h2, h3⟩ := h1
      refine hap p bl.length bbc ?_ (by omega)
      rw [← h1]
      simp

end Go.Proofs.YthipghkhdlnfiaaDoor
