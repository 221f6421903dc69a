/- What memory holds between two steps to a file of chunks. -/
import Derived.Test.YthipghkhdlnfiaaDoorRfM
import Derived.Test.YthipghkhdlnfiaaDoorRfR
import Derived.Test.YthipghkhdlnfiaaDoorRfK
namespace Go.Proofs.YthipghkhdlnfiaaDoor
open Go.RowKit
set_option linter.unusedVariables false

/-- R holds only of blocks whose cells are of one of these types. -/
def TyIn (w : World) (R : Nat → Prop) (es : List TypeId) : Prop := ∀ k, R k → ∃ e, e ∈ es ∧ OfTy w e k
theorem TyIn.sobj {w w' : World} {R : Nat → Prop} {es : List TypeId} {g : Nat} {T : TypeId} {vs : List Value} (h : TyIn w R es) (ho : Only R w w') (hg : SObj w g T vs) (hn : T ∉ es) : SObj w' g T vs :=
  hg.only ho (fun hr => by obtain ⟨e, he, ht⟩ := h g hr; exact hn (by rw [← ht.inj hg.ty]; exact he))
theorem TyIn.row {w w' : World} {R : Nat → Prop} {es : List TypeId} {B : Nat} {e : TypeId} {size : Nat} {v : Value} {n : Nat} {xs : List Value} (h : TyIn w R es) (ho : Only R w w') (hr : w.ownsRow B e size v n xs) (hn : e ∉ es) : w'.ownsRow B e size v n xs :=
  ownsRow_only hr ho (fun k hk hR => by obtain ⟨e', he, ht⟩ := h k hR; exact hn (by rw [(ownsRow_ty hr hk).1.inj ht]; exact he))
theorem TyIn.none (w : World) : TyIn w (fun _ => False) [] := fun _ h => h.elim
theorem TyIn.one {w : World} {g : Nat} {T : TypeId} {vs : List Value} (h : SObj w g T vs) : TyIn w (fun k => k = g) [T] := fun k hk => ⟨T, by simp, by rw [hk]; exact h.ty⟩
theorem TyIn.own {w : World} {B : Nat} {e : TypeId} {size : Nat} {v : Value} {n : Nat} {xs : List Value} (h : w.ownsRow B e size v n xs) : TyIn w (fun k => v.ownBlock = some k) [e] := fun k hk => ⟨e, by simp, (ownsRow_ty h hk).1⟩

/-- What is given throughout: the block from which on all is the call's own, the giver of pieces, the cuts, the sentinels, the variable of the part at hand. -/
structure Cx where
  B : Nat
  bp : Nat
  ca : Option Addr
  cn : Nat
  cc : Nat
  N : Nat
  cz : Nat → Int
  E : Addr
  U : Addr
  M : Addr
  S : Addr
  L : Addr
  P : Addr
  H : Addr
  zb : Nat
def Cx.env (c : Cx) (w : World) : Prop := Env c.B w c.ca c.cn c.cc c.N c.cz c.E c.U c.M c.S c.L c.P c.H
def Cx.pcs (c : Cx) (w : World) (rest : List Int) : Prop := Pcs c.B w c.bp c.ca c.cn c.cc c.N rest

def arCells (Ls : List Lv) : List Value := Ls.reverse.flatMap fun L => [.pointer (some ⟨L.z, 0, none⟩), .iface 87 (.pointer (some ⟨L.c, 0, none⟩))]
def ckCell (k : Ck) (d : Value) : List Value := [.int .u8 (k.id.getD 0 0), .int .u8 (k.id.getD 1 0), .int .u8 (k.id.getD 2 0), .int .u8 (k.id.getD 3 0), .int .i64 k.len, d, .int .i64 k.fin]
def ckCells : List Ck → List Value → List Value
  | k :: ks, d :: ds => ckCell k d ++ ckCells ks ds
  | _, _ => []
/-- What was read of the chunks, each in a row of its own, the later ones in later blocks. -/
def Datas (w : World) : Nat → List Ck → List Value → Prop
  | _, [], [] => True
  | lo, k :: ks, d :: ds => w.ownsRow lo 5 1 d k.data.length (u8s k.data) ∧ ∃ hi, lo ≤ hi ∧ hi ≤ w.heap.size ∧ (∀ g, d.ownBlock = some g → g < hi) ∧ Datas w hi ks ds
  | _, _, _ => False
theorem ckCells_length : ∀ (ks : List Ck) (ds : List Value), ks.length = ds.length → (ckCells ks ds).length = ks.length * 7
  | [], [], _ => rfl
  | k :: ks, d :: ds, h => by
    show (ckCell k d ++ ckCells ks ds).length = _
    rw [List.length_append, ckCells_length ks ds (by simpa using h)]
    simp [ckCell]; omega
theorem ckCells_snoc : ∀ (ks : List Ck) (ds : List Value) (k : Ck) (d : Value), ks.length = ds.length → ckCells (ks ++ [k]) (ds ++ [d]) = ckCells ks ds ++ ckCell k d
  | [], [], k, d, _ => by show ckCell k d ++ [] = [] ++ ckCell k d; simp
  | a :: ks, b :: ds, k, d, h => by
    show ckCell a b ++ ckCells (ks ++ [k]) (ds ++ [d]) = (ckCell a b ++ ckCells ks ds) ++ ckCell k d
    rw [ckCells_snoc ks ds k d (by simpa using h), List.append_assoc]
theorem Datas.len {w : World} : ∀ {lo : Nat} {ks : List Ck} {ds : List Value}, Datas w lo ks ds → ks.length = ds.length
  | _, [], [], _ => rfl
  | _, k :: ks, d :: ds, h => by obtain ⟨_, _, _, _, _, h2⟩ := h; simp [h2.len]
  | _, [], _ :: _, h => h.elim
  | _, _ :: _, [], h => h.elim
theorem Datas.only {w w' : World} {R : Nat → Prop} (ho : Only R w w') : ∀ {lo : Nat} {ks : List Ck} {ds : List Value}, Datas w lo ks ds → (∀ k, R k → OfTy w 5 k → ∀ d ∈ ds, d.ownBlock ≠ some k) → Datas w' lo ks ds
  | _, [], [], _, _ => trivial
  | lo, k :: ks, d :: ds, h, hn => by
    obtain ⟨h1, hi, h2, h3, h4, h5⟩ := h
    refine ⟨ownsRow_only h1 ho (fun g hg hR => hn g hR (ownsRow_ty h1 hg).1 d (by simp) hg), hi, h2, Nat.le_trans h3 ho.size, h4, h5.only ho (fun g hR ht d' hd' => hn g hR ht d' (by simp [hd']))⟩
  | _, [], _ :: _, h, _ => h.elim
  | _, _ :: _, [], h, _ => h.elim
theorem Datas.far {w w' : World} {R : Nat → Prop} {es : List TypeId} (ht : TyIn w R es) (hn : 5 ∉ es) (ho : Only R w w') {lo : Nat} {ks : List Ck} {ds : List Value} (h : Datas w lo ks ds) : Datas w' lo ks ds :=
  h.only ho (fun k hR hk d _ _ => by obtain ⟨e, he, h2⟩ := ht k hR; exact hn (by rw [hk.inj h2]; exact he))
/-- One more chunk, of which nothing is read yet. -/
theorem Datas.snoc {w : World} : ∀ {lo : Nat} {ks : List Ck} {ds : List Value} (k : Ck), lo ≤ w.heap.size → k.data = [] → Datas w lo ks ds → Datas w lo (ks ++ [k]) (ds ++ [.slice none 0 0])
  | lo, [], [], k, hlo, hk, _ => by
    refine ⟨?_, lo, Nat.le_refl _, hlo, (fun g hg => by cases hg), trivial⟩
    rw [hk]; exact World.ownsRow_nil _ _ _ _
  | lo, a :: ks, b :: ds, k, hlo, hk, h => by
    obtain ⟨h1, hi, h2, h3, h4, h5⟩ := h
    exact ⟨h1, hi, h2, h3, h4, h5.snoc k h3 hk⟩
  | _, [], _ :: _, _, _, _, h => h.elim
  | _, _ :: _, [], _, _, _, h => h.elim
/-- The last chunk, parted from the others. -/
theorem Datas.last {w : World} : ∀ {lo : Nat} {ks : List Ck} {ds : List Value} {k : Ck}, Datas w lo (ks ++ [k]) ds → ∃ ds' d bd, ds = ds' ++ [d] ∧ lo ≤ bd ∧ (bd ≤ w.heap.size ∨ bd = lo) ∧ w.ownsRow bd 5 1 d k.data.length (u8s k.data) ∧ ks.length = ds'.length ∧
    ∀ (w' : World) (R : Nat → Prop) (d' : Value) (k' : Ck), Only R w w' → (∀ j, R j → OfTy w 5 j → bd ≤ j) → w'.ownsRow bd 5 1 d' k'.data.length (u8s k'.data) → Datas w' lo (ks ++ [k']) (ds' ++ [d'])
  | lo, [], [d], k, h => by
    obtain ⟨h1, hi, h2, h3, h4, h5⟩ := h
    refine ⟨[], d, lo, rfl, Nat.le_refl _, .inr rfl, h1, rfl, fun w' R d' k' ho hR hr => ?_⟩
    refine ⟨hr, w'.heap.size, ?_, Nat.le_refl _, fun g hg => (ownsRow_ty hr hg).2.2, trivial⟩
    exact Nat.le_trans h2 (Nat.le_trans h3 ho.size)
  | lo, [], [], k, h => h.elim
  | lo, [], _ :: _ :: _, k, h => by obtain ⟨_, _, _, _, _, h5⟩ := h; exact h5.elim
  | lo, a :: ks, b :: ds, k, h => by
    obtain ⟨h1, hi, h2, h3, h4, h5⟩ := h
    obtain ⟨ds', d, bd, e1, e2, e3, e4, e5, e6⟩ := h5.last
    refine ⟨b :: ds', d, bd, by rw [e1]; rfl, Nat.le_trans h2 e2, .inl (by rcases e3 with e | e; exact e; omega), e4, by simp [e5], fun w' R d' k' ho hR hr => ?_⟩
    refine ⟨ownsRow_only h1 ho (fun g hg hr2 => ?_), hi, h2, Nat.le_trans h3 ho.size, h4, e6 w' R d' k' ho hR hr⟩
    have := hR g hr2 (ownsRow_ty h1 hg).1
    have := h4 g hg
    omega
  | lo, _ :: _, [], k, h => h.elim

/-- What memory holds between two steps. -/
structure RM (c : Cx) (w : World) (s : St) (Ls : List Lv) (z : Nat) (ev : Value) (r : RS) (cr : Value) (buf : List Value) (dv av ov kv : Value) (ds : List Value) : Prop where
  env : c.env w
  bb : c.B ≤ c.bp
  by_ : By s.rest
  r40 : s.rest.length ≤ 1099511627776
  pc : c.pcs w s.rest
  st : Stk w c.B c.bp Ls
  sr : Ls.map Lv.rs = s.outer
  zo : SObj w z 89 (zC (lvV c.bp Ls) ev r.tot r.chk cr buf r.pad)
  b8 : buf.length = 8
  bz : c.B ≤ z
  zl : ∀ Q ∈ Ls, Q.z ≠ z
  nv : SObj w c.zb 69 [.pointer (some ⟨z, 0, none⟩), dv]
  zB : c.B ≤ c.zb
  fine : s.bad = 0 → ev = .nilIface ∧ r = s.now ∧ r.chk ≤ r.tot ∧ r.tot < 4294967296 ∧ (0 < r.chk → ∃ q, c.B ≤ q ∧ cr = .pointer (some ⟨q, 0, none⟩) ∧ SObj w q 95 [.pointer (some ⟨z, 0, none⟩)])
  err : s.bad ≠ 0 → ∃ er gg t, ev = errV er ∧ Snt c.B w gg er t ∧ (s.bad = 1 ∧ er = c.E ∨ s.bad = 2 ∧ t ≠ sE)
  dat0 : s.dat = false → dv = .nilIface
  dat1 : s.dat = true → s.bad = 0 ∧ s.out ≠ [] ∧ ∃ q, c.B ≤ q ∧ cr = .pointer (some ⟨q, 0, none⟩) ∧ dv = .iface 87 (.pointer (some ⟨q, 0, none⟩)) ∧ SObj w q 95 [.pointer (some ⟨z, 0, none⟩)]
  ar : w.ownsRow (c.zb + 1) 69 2 av Ls.length (arCells Ls)
  ou : w.ownsRow c.B 43 7 ov s.out.length (ckCells s.out ds)
  da : Datas w c.B s.out ds
  ki : w.ownsRow c.B 3 1 kv s.kinds.length (s.kinds.map fun k => Value.int .i64 (k : Nat))
  ln : ∀ k ∈ s.out, k.len < 4294967296
  dl : ∀ k ∈ s.out, k.data.length + s.rest.length ≤ 1099511627776

/-- What blocks of other types change does not matter. -/
theorem RM.keep {c : Cx} {w w' : World} {s : St} {Ls : List Lv} {z : Nat} {ev : Value} {r : RS} {cr : Value} {buf : List Value} {dv av ov kv : Value} {ds : List Value} (h : RM c w s Ls z ev r cr buf dv av ov kv ds) {R : Nat → Prop} {es : List TypeId} (ho : Only R w w') (hB : ∀ k, R k → c.B ≤ k) (ht : TyIn w R es)
    (hn : ∀ e ∈ [63, 89, 95, 69, 43, 5, 3], e ∉ es) : RM c w' s Ls z ev r cr buf dv av ov kv ds where
  env := h.env.only ho hB
  bb := h.bb
  by_ := h.by_
  r40 := h.r40
  pc := h.pc.only ho hB (fun hr => by obtain ⟨e, he, h2⟩ := ht _ hr; obtain ⟨_, _, _, o, _⟩ := h.pc; exact hn 63 (by simp) (by rw [← h2.inj o.ty]; exact he))
  st := h.st.only ho (fun Q hQ => ⟨fun hr => by obtain ⟨e, he, h2⟩ := ht _ hr; exact hn 89 (by simp) (by rw [(h.st.ge Q hQ).2.2.1.inj h2]; exact he), fun hr => by obtain ⟨e, he, h2⟩ := ht _ hr; exact hn 95 (by simp) (by rw [(h.st.ge Q hQ).2.2.2.inj h2]; exact he)⟩)
  sr := h.sr
  zo := ht.sobj ho h.zo (hn _ (by simp))
  b8 := h.b8
  bz := h.bz
  zl := h.zl
  nv := ht.sobj ho h.nv (hn _ (by simp))
  zB := h.zB
  fine := fun hb => by
    obtain ⟨h1, h2, h3, h4, h5⟩ := h.fine hb
    exact ⟨h1, h2, h3, h4, fun h0 => by obtain ⟨q, q1, q2, q3⟩ := h5 h0; exact ⟨q, q1, q2, ht.sobj ho q3 (hn _ (by simp))⟩⟩
  err := fun hb => by
    obtain ⟨er, gg, t, h1, h2, h3⟩ := h.err hb
    exact ⟨er, gg, t, h1, h2.only h.env.1.lt ho hB, h3⟩
  dat0 := h.dat0
  dat1 := fun hd => by
    obtain ⟨h1, h2, q, q1, q2, q3, q4⟩ := h.dat1 hd
    exact ⟨h1, h2, q, q1, q2, q3, ht.sobj ho q4 (hn _ (by simp))⟩
  ar := ht.row ho h.ar (hn _ (by simp))
  ou := ht.row ho h.ou (hn _ (by simp))
  da := h.da.far ht (hn _ (by simp)) ho
  ki := ht.row ho h.ki (hn _ (by simp))
  ln := h.ln
  dl := h.dl
end Go.Proofs.YthipghkhdlnfiaaDoor
