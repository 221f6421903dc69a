/- How what memory holds goes over a step: the plain part of each step. -/
import Derived.Test.YthipghkhdlnfiaaDoorRfI
namespace Go.Proofs.YthipghkhdlnfiaaDoor
open Go.RowKit
set_option linter.unusedVariables false

theorem OfTy.only {R : Nat → Prop} {w w' : World} {e : TypeId} {k : Nat} (h : OfTy w e k) (ho : Only R w w') (hn : ¬ R k) : OfTy w' e k := by
  obtain ⟨c, fr, h1⟩ := h
  exact ⟨c, fr, by rw [ho.block k (Array.getElem?_eq_some_iff.1 h1).1 hn]; exact h1⟩
theorem OfTy.lt {w : World} {e : TypeId} {k : Nat} (h : OfTy w e k) : k < w.heap.size := by
  obtain ⟨c, fr, h1⟩ := h
  exact (Array.getElem?_eq_some_iff.1 h1).1

section
variable {c : Cx} {w w' : World} {s : St} {Ls : List Lv} {z : Nat} {ev : Value} {r : RS} {cr : Value} {buf : List Value} {dv av ov kv : Value} {ds : List Value}

/-- The chunk at hand as one more reader around. -/
theorem RM.stk (h : RM c w s Ls z ev r cr buf dv av ov kv ds) (hd : s.dat = true) : ∃ q, dv = .iface 87 (.pointer (some ⟨q, 0, none⟩)) ∧ cr = .pointer (some ⟨q, 0, none⟩) ∧ r = s.now ∧ Stk w c.B c.bp (⟨z, q, s.now.tot, s.now.chk, s.now.pad⟩ :: Ls) := by
  obtain ⟨h1, h2, q, q1, q2, q3, q4⟩ := h.dat1 hd
  obtain ⟨f1, f2, f3, f4, f5⟩ := h.fine h1
  refine ⟨q, q3, q2, f2, ⟨buf, h.b8, ?_⟩, q4, by rw [← f2]; exact f3, by rw [← f2]; exact f4, h.bz, q1, h.zl, h.st⟩
  have := h.zo
  rw [f1, f2, q2] at this
  exact this
/-- The blocks that Next writes are of two types. -/
theorem RM.tyNext (h : RM c w s Ls z ev r cr buf dv av ov kv ds) : TyIn w (fun k => k = z ∨ RW c.bp Ls k) [89, 63] := fun k hk => by
  rcases hk with hk | hk | ⟨Q, hQ, hk⟩
  · exact ⟨89, by simp, by rw [hk]; exact h.zo.ty⟩
  · obtain ⟨_, _, _, o, _⟩ := h.pc
    exact ⟨63, by simp, by rw [hk]; exact o.ty⟩
  · exact ⟨89, by simp, by rw [hk]; exact (h.st.ge Q hQ).2.2.1⟩
theorem RM.geNext (h : RM c w s Ls z ev r cr buf dv av ov kv ds) : ∀ k, (k = z ∨ RW c.bp Ls k) → c.B ≤ k := fun k hk => by
  rcases hk with hk | hk
  · rw [hk]; exact h.bz
  · exact RW.ge h.st h.bb hk
/-- What stands when the readers and the giver of pieces have changed, and then the variable of the part at hand. -/
structure RK (c : Cx) (w : World) (s : St) (Ls : List Lv) (av ov kv : Value) (ds : List Value) : Prop where
  env : c.env w
  ar : w.ownsRow (c.zb + 1) 69 2 av Ls.length (arCells Ls)
  ou : w.ownsRow c.B 43 7 ov s.out.length (ckCells s.out ds)
  da : Datas w c.B s.out ds
  ki : w.ownsRow c.B 3 1 kv s.kinds.length (s.kinds.map fun k => Value.int .i64 (k : Nat))
theorem RM.rk (h : RM c w s Ls z ev r cr buf dv av ov kv ds) : RK c w s Ls av ov kv ds := ⟨h.env, h.ar, h.ou, h.da, h.ki⟩
theorem RK.only (h : RK c w s Ls av ov kv ds) {R : Nat → Prop} {es : List TypeId} (ho : Only R w w') (hB : ∀ k, R k → c.B ≤ k) (ht : ∀ k, R k → k = c.zb ∨ ∃ e, e ∈ es ∧ OfTy w e k) (hz : OfTy w 69 c.zb)
    (hn : ∀ e ∈ [69, 43, 5, 3], e ∉ es) : RK c w' s Ls av ov kv ds := by
  have hx : ∀ (k : Nat) (e : TypeId), R k → OfTy w e k → e ∈ [69, 43, 5, 3] → k = c.zb := fun k e hr he hm => by
    rcases ht k hr with h | ⟨e', he', h2⟩
    · exact h
    · exact absurd (by rw [he.inj h2]; exact he') (hn e hm)
  refine ⟨h.env.only ho hB, ownsRow_only h.ar ho (fun k hk hr => ?_), ownsRow_only h.ou ho (fun k hk hr => ?_), h.da.only ho (fun k hr hk d _ _ => ?_), ownsRow_only h.ki ho (fun k hk hr => ?_)⟩
  · have := (ownsRow_ty h.ar hk); have := hx k _ hr this.1 (by simp); omega
  · have t := (ownsRow_ty h.ou hk).1
    have := hx k _ hr t (by simp)
    rw [this] at t; exact absurd (t.inj hz) (by decide)
  · have := hx k _ hr hk (by simp)
    rw [this] at hk; exact absurd (hk.inj hz) (by decide)
  · have t := (ownsRow_ty h.ki hk).1
    have := hx k _ hr t (by simp)
    rw [this] at t; exact absurd (t.inj hz) (by decide)

/-- Behind a Next and a store into the variable of the part at hand. -/
theorem RM.rk_next (h : RM c w s Ls z ev r cr buf dv av ov kv ds) {w1 w2 : World} (p3 : Only (fun k => k = z ∨ RW c.bp Ls k) w w1) (ho : Only (fun j => j = c.zb) w1 w2) : RK c w2 s Ls av ov kv ds ∧ z ≠ c.zb ∧ c.bp ≠ c.zb ∧ (∀ Q ∈ Ls, Q.z ≠ c.zb ∧ Q.c ≠ c.zb) ∧ OfTy w1 69 c.zb ∧ RK c w1 s Ls av ov kv ds := by
  have tz : OfTy w 69 c.zb := h.nv.ty
  have nz : ∀ j, (j = z ∨ RW c.bp Ls j) → j ≠ c.zb := fun j hj e => by
    obtain ⟨e', he', h2⟩ := h.tyNext j hj
    rw [e] at h2
    rw [h2.inj tz] at he'
    exact absurd he' (by decide)
  have rk1 : RK c w1 s Ls av ov kv ds := h.rk.only p3 h.geNext (fun j hj => .inr (h.tyNext j hj)) tz (by decide)
  have tz1 : OfTy w1 69 c.zb := tz.only p3 (fun hr => nz _ hr rfl)
  refine ⟨rk1.only (es := []) ho (fun j hj => by rw [hj]; exact h.zB) (fun j hj => .inl hj) tz1 (by simp), nz z (.inl rfl), nz c.bp (.inr (.inl rfl)), fun Q hQ => ⟨nz Q.z (.inr (.inr ⟨Q, hQ, rfl⟩)), fun e => ?_⟩, tz1, rk1⟩
  have t := (h.st.ge Q hQ).2.2.2
  rw [e] at t; exact absurd (t.inj tz) (by decide)
theorem arCells_dec (n : Nat) (Ls : List Lv) : arCells (Ls.map (dec n)) = arCells Ls := by
  unfold arCells
  rw [← List.map_reverse, List.flatMap_map]; rfl
theorem zl_dec {n : Nat} {Ls : List Lv} {z : Nat} (h : ∀ Q ∈ Ls, Q.z ≠ z) : ∀ Q ∈ Ls.map (dec n), Q.z ≠ z := fun Q hQ => by
  obtain ⟨Q', hQ', rfl⟩ := List.mem_map.1 hQ
  exact h Q' hQ'
theorem nzb_dec {n : Nat} {Ls : List Lv} {z : Nat} (h : ∀ Q ∈ Ls, Q.z ≠ z ∧ Q.c ≠ z) : ∀ Q ∈ Ls.map (dec n), Q.z ≠ z ∧ Q.c ≠ z := fun Q hQ => by
  obtain ⟨Q', hQ', rfl⟩ := List.mem_map.1 hQ
  exact h Q' hQ'
/-- Behind a Next that told an error (the reader had none), when no chunk is at hand any more. -/
theorem RM.next_bad (h : RM c w s Ls z ev r cr buf dv av ov kv ds) (hb : s.bad = 0) {w1 w2 : World} {k n : Nat} (hm : nextM s.rest s.av s.now.tot s.now.chk s.now.pad = .bad k n)
    (p1 : c.pcs w1 (s.rest.drop n)) (p2 : Stk w1 c.B c.bp (Ls.map (dec n))) (p3 : Only (fun k => k = z ∨ RW c.bp Ls k) w w1) {er : Addr} {r' : RS} {cr' : Value} {buf' : List Value} (b8 : buf'.length = 8)
    (hk : k = 1 ∧ er = c.E ∨ k = 2 ∧ er ≠ c.E ∧ ∃ g t, Snt c.B w1 g er t ∧ t ≠ sE) (hzo : SObj w1 z 89 (zC (lvV c.bp Ls) (errV er) r'.tot r'.chk cr' buf' r'.pad))
    (ho : Only (fun j => j = c.zb) w1 w2) (hz : SObj w2 c.zb 69 [.pointer (some ⟨z, 0, none⟩), .nilIface]) :
    RM c w2 (opNext s).1 (Ls.map (dec n)) z (errV er) r' cr' buf' .nilIface av ov kv ds ∧ (opNext s).2 = k := by
  have e1 : (opNext s) = ({ s with rest := s.rest.drop n, bad := k, dat := false, outer := s.outer.map (RS.dec n) }, k) := by
    unfold opNext
    rw [if_neg (by simp [hb]), hm]
  obtain ⟨rk2, nzz, nbp, ncl, tz1, rk1⟩ := h.rk_next p3 ho
  have kk : k = 1 ∨ k = 2 := by rcases hk with ⟨h, _⟩ | ⟨h, _⟩; exact .inl h; exact .inr h
  refine ⟨?_, by rw [e1]⟩
  rw [e1]
  refine ⟨rk2.env, h.bb, h.by_.drop n, by simp; have := h.r40; omega, p1.only ho (fun j hj => by rw [hj]; exact h.zB) nbp, p2.only ho (nzb_dec ncl), ?_, ?_, b8, h.bz, zl_dec h.zl, hz, h.zB, ?_, ?_, (fun _ => rfl), (fun hd => by cases hd), ?_, rk2.ou, rk2.da, rk2.ki, h.ln, fun k hk => by have := h.dl k hk; show k.data.length + (s.rest.drop n).length ≤ _; rw [List.length_drop]; omega⟩
  · rw [rs_dec, h.sr]
  · rw [lvV_dec]; exact hzo.only ho nzz
  · intro hk0; have hk0 : k = 0 := hk0; omega
  · intro _
    rcases hk with ⟨k1, k2⟩ | ⟨k1, k2, g, t, k3, k4⟩
    · rw [k2]; exact ⟨_, _, _, rfl, rk2.env.2.e, .inl ⟨k1, rfl⟩⟩
    · exact ⟨er, g, t, rfl, k3.only rk1.env.1.lt ho (fun j hj => by rw [hj]; exact h.zB), .inr ⟨k1, k4⟩⟩
  · rw [List.length_map, arCells_dec]; exact rk2.ar
/-- Behind a Next that told a chunk, when it is at hand and among the chunks. -/
theorem RM.next_ok (h : RM c w s Ls z ev r cr buf dv av ov kv ds) (hb : s.bad = 0) {w1 w2 w3 : World} {n t len : Nat} (hm : nextM s.rest s.av s.now.tot s.now.chk s.now.pad = .ok n t len)
    (p1 : c.pcs w1 (s.rest.drop n)) (p2 : Stk w1 c.B c.bp (Ls.map (dec n))) (p3 : Only (fun k => k = z ∨ RW c.bp Ls k) w w1) {q : Nat} {buf' : List Value} (b8 : buf'.length = 8) (hq : w.heap.size ≤ q)
    (hzo : SObj w1 z 89 (zC (lvV c.bp Ls) .nilIface t len (.pointer (some ⟨q, 0, none⟩)) buf' (decide (len % 2 = 1)))) (hqo : SObj w1 q 95 [.pointer (some ⟨z, 0, none⟩)]) (hl : len ≤ t) (ht : t < 4294967296)
    (ho : Only (fun j => j = c.zb) w1 w2) (hz : SObj w2 c.zb 69 [.pointer (some ⟨z, 0, none⟩), .iface 87 (.pointer (some ⟨q, 0, none⟩))])
    (ho3 : Only (fun j => ov.ownBlock = some j) w2 w3) {ov' : Value}
    (hou : w3.ownsRow c.B 43 7 ov' (s.out.length + 1) (ckCells s.out ds ++ ckCell ⟨[(s.rest.drop (n - 8)).getD 0 0, (s.rest.drop (n - 8)).getD 1 0, (s.rest.drop (n - 8)).getD 2 0, (s.rest.drop (n - 8)).getD 3 0], len, [], 2⟩ (.slice none 0 0))) :
    RM c w3 (opNext s).1 (Ls.map (dec n)) z .nilIface ⟨t, len, decide (len % 2 = 1)⟩ (.pointer (some ⟨q, 0, none⟩)) buf' (.iface 87 (.pointer (some ⟨q, 0, none⟩))) av ov' kv (ds ++ [.slice none 0 0]) ∧ (opNext s).2 = 0 := by
  have e1 : (opNext s) = ({ s with rest := s.rest.drop n, now := ⟨t, len, decide (len % 2 = 1)⟩, dat := true, outer := s.outer.map (RS.dec n), out := s.out ++ [⟨[(s.rest.drop (n - 8)).getD 0 0, (s.rest.drop (n - 8)).getD 1 0, (s.rest.drop (n - 8)).getD 2 0, (s.rest.drop (n - 8)).getD 3 0], len, [], 2⟩] }, 0) := by
    unfold opNext
    rw [if_neg (by simp [hb]), hm]
  obtain ⟨rk2, nzz, nbp, ncl, tz1, rk1⟩ := h.rk_next p3 ho
  have hB1 : c.B ≤ w.heap.size := h.env.1.lt
  have t3 : TyIn w2 (fun j => ov.ownBlock = some j) [43] := TyIn.own rk2.ou
  have hB3 : ∀ j, ov.ownBlock = some j → c.B ≤ j := fun j hj => (ownsRow_ty rk2.ou hj).2.1
  have p1' := p1.only ho (fun j hj => by rw [hj]; exact h.zB) nbp
  have p2' := p2.only ho (nzb_dec ncl)
  have hzo2 := hzo.only ho nzz
  have nqz : q ≠ c.zb := fun e => by
    rw [e] at hqo; exact absurd (hqo.ty.inj tz1) (by decide)
  have hqo2 := hqo.only ho nqz
  refine ⟨?_, by rw [e1]⟩
  rw [e1]
  have hqo3 : SObj w3 q 95 [.pointer (some ⟨z, 0, none⟩)] := t3.sobj ho3 hqo2 (by decide)
  refine ⟨rk2.env.only ho3 hB3, h.bb, h.by_.drop n, by simp; have := h.r40; omega, ?_, ?_, ?_, ?_, b8, h.bz, zl_dec h.zl, t3.sobj ho3 hz (by decide), h.zB, ?_, ?_, (fun hd => by cases hd), ?_, ?_, ?_, ?_, t3.row ho3 rk2.ki (by decide), ?_, ?_⟩
  · refine p1'.only ho3 hB3 (fun hr => ?_)
    obtain ⟨_, _, _, o, _⟩ := p1'
    obtain ⟨e, he, h2⟩ := t3 _ hr
    rw [h2.inj o.ty] at he
    exact absurd he (by decide)
  · refine p2'.only ho3 (fun Q hQ => ⟨fun hr => ?_, fun hr => ?_⟩)
    · obtain ⟨e, he, h2⟩ := t3 _ hr
      rw [h2.inj (p2'.ge Q hQ).2.2.1] at he
      exact absurd he (by decide)
    · obtain ⟨e, he, h2⟩ := t3 _ hr
      rw [h2.inj (p2'.ge Q hQ).2.2.2] at he
      exact absurd he (by decide)
  · rw [rs_dec, h.sr]
  · rw [lvV_dec]; exact t3.sobj ho3 hzo2 (by decide)
  · intro _
    exact ⟨rfl, rfl, hl, ht, fun _ => ⟨q, by omega, rfl, hqo3⟩⟩
  · intro hb2; exact absurd hb hb2
  · intro _
    exact ⟨hb, by simp, q, by omega, rfl, rfl, hqo3⟩
  · rw [List.length_map, arCells_dec]; exact t3.row ho3 rk2.ar (by decide)
  · have hd := rk2.da.len
    show w3.ownsRow c.B _ 7 ov' (s.out ++ [_]).length (ckCells (s.out ++ [_]) (ds ++ [_]))
    rw [ckCells_snoc _ _ _ _ hd, List.length_append]
    exact hou
  · have := (rk2.da.far t3 (by decide) ho3)
    exact this.snoc _ (Nat.le_trans hB1 (Nat.le_trans p3.size (Nat.le_trans ho.size ho3.size))) rfl
  · intro k hk
    rcases List.mem_append.1 hk with hk | hk
    · exact h.ln k hk
    · rw [List.mem_singleton.1 hk]; show len < 4294967296; omega
  · intro k hk
    show k.data.length + (s.rest.drop n).length ≤ _
    rw [List.length_drop]
    rcases List.mem_append.1 hk with hk | hk
    · have := h.dl k hk; omega
    · rw [List.mem_singleton.1 hk]; have := h.r40; show 0 + _ ≤ _; omega
/-- Behind a Next of a reader that had an error. -/
theorem RM.next_had (h : RM c w s Ls z ev r cr buf dv av ov kv ds) (hb : s.bad ≠ 0) {w2 : World} (ho : Only (fun j => j = c.zb) w w2) (hz : SObj w2 c.zb 69 [.pointer (some ⟨z, 0, none⟩), .nilIface]) :
    RM c w2 (opNext s).1 Ls z ev r cr buf .nilIface av ov kv ds ∧ (opNext s).2 = s.bad := by
  have e1 : (opNext s) = ({ s with dat := false }, s.bad) := by
    unfold opNext
    rw [if_pos hb]
  obtain ⟨rk2, nzz, nbp, ncl, tz1, rk1⟩ := h.rk_next (Only.refl _ w) ho
  refine ⟨?_, by rw [e1]⟩
  rw [e1]
  exact ⟨rk2.env, h.bb, h.by_, h.r40, h.pc.only ho (fun j hj => by rw [hj]; exact h.zB) nbp, h.st.only ho ncl, h.sr, h.zo.only ho nzz, h.b8, h.bz, h.zl, hz, h.zB, (fun h0 => absurd h0 hb),
    (fun _ => by
      obtain ⟨er, g, t, h1, h2, h3⟩ := h.err hb
      exact ⟨er, g, t, h1, h2.only h.env.1.lt ho (fun j hj => by rw [hj]; exact h.zB), h3⟩), (fun _ => rfl), (fun hd => by cases hd), rk2.ar, rk2.ou, rk2.da, rk2.ki, h.ln, h.dl⟩
end
end Go.Proofs.YthipghkhdlnfiaaDoor
