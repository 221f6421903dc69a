/- How what memory holds goes over a step: reading, going into a list and back, the list of kinds. -/
import Derived.Test.YthipghkhdlnfiaaDoorRfJ
namespace Go.Proofs.YthipghkhdlnfiaaDoor
open Go.RowKit
set_option linter.unusedVariables false

theorem own_shrink {w : World} {B : Nat} {e : TypeId} {size : Nat} {a : Option Addr} {n c m : Nat} {xs ys : List Value} (h : w.ownsRow B e size (.slice a n c) n (xs ++ ys)) (hx : xs.length = m * size) (hm : m ≤ n) (ha : a ≠ none) : w.ownsRow B e size (.slice a m c) m xs := by
  refine ⟨hx, ?_⟩
  rcases h.2 with ⟨h1, _⟩ | ⟨g, cap, cur, h1, h2, h3, h4, h5, h6, h7⟩
  · injection h1 with h1 _ _; exact absurd h1 ha
  · injection h1 with e1 e2 e3
    subst e1 e3
    refine .inr ⟨g, _, cur, rfl, h2, h3, by omega, h5, h6, ?_⟩
    have : m * size ≤ n * size := Nat.mul_le_mul_right _ hm
    have h8 : cur.toList.take (m * size) = (cur.toList.take (n * size)).take (m * size) := by rw [List.take_take, Nat.min_eq_left this]
    rw [h8, h7, List.take_append_of_le_length (by omega), List.take_of_length_le (by omega)]
/-- A row of a call's own that is not empty, as a block. -/
theorem own_block {w : World} {B : Nat} {e : TypeId} {size : Nat} {v : Value} {n : Nat} {xs : List Value} (h : w.ownsRow B e size v n xs) (hn : 0 < n) : ∃ g cap cur, v = .slice (some ⟨g, 0, none⟩) n cap ∧ B ≤ g ∧ SObj w g e cur ∧ n ≤ cap ∧ cap ≤ maxLen ∧ cur.length = cap * size ∧ cur.take (n * size) = xs := by
  rcases h.2 with ⟨_, h0⟩ | ⟨g, cap, cur, h1, h2, h3, h4, h5, h6, h7⟩
  · omega
  · exact ⟨g, cap, cur.toList, h1, h2, by simpa [SObj] using h3, h4, h5, by simpa using h6, h7⟩
theorem own_of_block {w : World} {B : Nat} {e : TypeId} {size : Nat} {g n cap : Nat} {cur xs : List Value} (hB : B ≤ g) (hg : SObj w g e cur) (h1 : n ≤ cap) (h2 : cap ≤ maxLen) (h3 : cur.length = cap * size) (h4 : cur.take (n * size) = xs) (h5 : xs.length = n * size) : w.ownsRow B e size (.slice (some ⟨g, 0, none⟩) n cap) n xs :=
  ⟨h5, .inr ⟨g, cap, cur.toArray, rfl, hB, hg, h1, h2, by simpa using h3, by simpa using h4⟩⟩
theorem ck_set (A : List Value) (k k' : Ck) (d d' : Value) (hi : k'.id = k.id) (hl : k'.len = k.len) : ((A ++ ckCell k d).set (A.length + 5) d').set (A.length + 6) (.int .i64 k'.fin) = A ++ ckCell k' d' := by
  rw [List.set_append_right (A.length + 5) d' (by omega), List.set_append_right (A.length + 6) _ (by omega)]
  rw [show A.length + 5 - A.length = 5 by omega, show A.length + 6 - A.length = 6 by omega]
  unfold ckCell
  rw [hi, hl]
  rfl
theorem RS.dec_zero (r : RS) : r.dec 0 = r := rfl
theorem St.take_zero (s : St) : s.take 0 = s := by
  unfold St.take
  have : s.outer.map (RS.dec 0) = s.outer := by
    rw [show RS.dec 0 = id from rfl, List.map_id]
  rw [this]; rfl

section
variable {c : Cx} {w w' : World} {s : St} {Ls : List Lv} {z : Nat} {ev : Value} {r : RS} {cr : Value} {buf : List Value} {dv av ov kv : Value} {ds : List Value}

theorem RM.avNow (h : RM c w s Ls z ev r cr buf dv av ov kv ds) (q : Nat) : Go.Proofs.YthipghkhdlnfiaaDoor.av (⟨z, q, s.now.tot, s.now.chk, s.now.pad⟩ :: Ls) s.rest.length = s.avNow := by
  show min s.now.chk (Go.Proofs.YthipghkhdlnfiaaDoor.av Ls s.rest.length) = min s.now.chk (avR s.outer s.rest.length)
  rw [av_rs, h.sr]
/-- The list of kinds grows. -/
theorem RM.kind (h : RM c w s Ls z ev r cr buf dv av ov kv ds) {k : Nat} {kv' : Value} (ho : Only (fun j => kv.ownBlock = some j) w w') (hk : w'.ownsRow c.B 3 1 kv' (s.kinds.length + 1) ((s.kinds.map fun k => Value.int .i64 (k : Nat)) ++ [.int .i64 k])) : RM c w' (s.kind k) Ls z ev r cr buf dv av ov kv' ds := by
  have ht : TyIn w (fun j => kv.ownBlock = some j) [3] := TyIn.own h.ki
  have hB : ∀ j, kv.ownBlock = some j → c.B ≤ j := fun j hj => (ownsRow_ty h.ki hj).2.1
  refine ⟨h.env.only ho hB, h.bb, h.by_, h.r40, ?_, ?_, h.sr, ht.sobj ho h.zo (by decide), h.b8, h.bz, h.zl, ht.sobj ho h.nv (by decide), h.zB, ?_, ?_, h.dat0, ?_, ht.row ho h.ar (by decide), ht.row ho h.ou (by decide), h.da.far ht (by decide) ho, ?_, h.ln, h.dl⟩
  · refine h.pc.only ho hB (fun hr => ?_)
    obtain ⟨_, _, _, o, _⟩ := h.pc
    obtain ⟨e, he, h2⟩ := ht _ hr
    rw [h2.inj o.ty] at he
    exact absurd he (by decide)
  · refine h.st.only ho (fun Q hQ => ⟨fun hr => ?_, fun hr => ?_⟩)
    · obtain ⟨e, he, h2⟩ := ht _ hr
      rw [h2.inj (h.st.ge Q hQ).2.2.1] at he
      exact absurd he (by decide)
    · obtain ⟨e, he, h2⟩ := ht _ hr
      rw [h2.inj (h.st.ge Q hQ).2.2.2] at he
      exact absurd he (by decide)
  · intro hb
    obtain ⟨h1, h2, h3, h4, h5⟩ := h.fine hb
    exact ⟨h1, h2, h3, h4, fun h0 => by obtain ⟨q, q1, q2, q3⟩ := h5 h0; exact ⟨q, q1, q2, ht.sobj ho q3 (by decide)⟩⟩
  · intro hb
    obtain ⟨er, gg, t, h1, h2, h3⟩ := h.err hb
    exact ⟨er, gg, t, h1, h2.only h.env.1.lt ho hB, h3⟩
  · intro hd
    obtain ⟨h1, h2, q, q1, q2, q3, q4⟩ := h.dat1 hd
    exact ⟨h1, h2, q, q1, q2, q3, ht.sobj ho q4 (by decide)⟩
  · show w'.ownsRow c.B _ 1 kv' (s.kinds ++ [k]).length ((s.kinds ++ [k]).map _)
    rw [List.length_append, List.map_append]
    exact hk
/-- Some bytes are taken out of the chunk at hand. -/
theorem RM.took (h : RM c w s Ls z ev r cr buf dv av ov kv ds) (hd : s.dat = true) {q K : Nat} (hq : dv = .iface 87 (.pointer (some ⟨q, 0, none⟩))) {w1 : World} (p1 : c.pcs w1 (s.rest.drop K))
    (p2 : Stk w1 c.B c.bp ((⟨z, q, s.now.tot, s.now.chk, s.now.pad⟩ :: Ls).map (dec K))) (p3 : Only (RW c.bp (⟨z, q, s.now.tot, s.now.chk, s.now.pad⟩ :: Ls)) w w1) :
    ∃ buf', RM c w1 (s.take K) (Ls.map (dec K)) z .nilIface (s.now.dec K) cr buf' dv av ov kv ds := by
  obtain ⟨h1, h2, q', q1, q2, q3, q4⟩ := h.dat1 hd
  obtain rfl : q' = q := by rw [hq] at q3; injection q3 with _ q3; injection q3 with q3; injection q3 with q3; injection q3 with q3; exact q3.symm
  have p3' : Only (fun k => k = z ∨ RW c.bp Ls k) w w1 := p3.mono (fun k hk => by
    rcases hk with hk | ⟨Q, hQ, hk⟩
    · exact .inr (.inl hk)
    · rcases List.mem_cons.1 hQ with rfl | hQ
      · exact .inl hk
      · exact .inr (.inr ⟨Q, hQ, hk⟩))
  obtain ⟨rk, nzz, nbp, ncl, tz1, _⟩ := h.rk_next p3' (Only.refl _ w1)
  obtain ⟨⟨buf', hb, hz⟩, hc, hct, htt, _, _, hzl, hst⟩ := p2
  refine ⟨buf', rk.env, h.bb, h.by_.drop K, ?_, p1, hst, ?_, ?_, hb, h.bz, zl_dec h.zl, ?_, h.zB, ?_, (fun hb2 => absurd h1 hb2), (fun hd2 => by rw [show (s.take K).dat = s.dat from rfl, hd] at hd2; cases hd2), ?_, ?_, rk.ou, rk.da, rk.ki, h.ln, ?_⟩
  · show (s.rest.drop K).length ≤ _
    rw [List.length_drop]; have := h.r40; omega
  · rw [rs_dec, h.sr]; rfl
  · rw [q2]
    exact hz
  · exact h.nv.only p3' (fun hr => by
      rcases hr with hr | hr | ⟨Q, hQ, hr⟩
      · exact nzz hr.symm
      · exact nbp hr.symm
      · exact (ncl Q hQ).1 hr.symm)
  · intro _
    exact ⟨rfl, rfl, hct, htt, fun _ => ⟨q', q1, q2, hc⟩⟩
  · intro _
    exact ⟨h1, h2, q', q1, q2, q3, hc⟩
  · rw [List.length_map, arCells_dec]; exact rk.ar
  · intro k hk
    have := h.dl k hk
    show k.data.length + (s.rest.drop K).length ≤ _
    rw [List.length_drop]; omega
/-- The last chunk in memory, and what becomes of the list when it is read. -/
theorem RM.lastCk (h : RM c w s Ls z ev r cr buf dv av ov kv ds) (hd : s.dat = true) : ∃ pre k0 ds' d bd g cap cur, s.out = pre ++ [k0] ∧ ds = ds' ++ [d] ∧ ov = .slice (some ⟨g, 0, none⟩) (pre.length + 1) cap ∧ c.B ≤ g ∧ SObj w g 43 cur ∧ cur[7 * pre.length + 5]? = some d ∧ cur[7 * pre.length + 6]? = some (.int .i64 k0.fin) ∧ cur[7 * pre.length + 4]? = some (.int .i64 k0.len) ∧
    c.B ≤ bd ∧ bd ≤ w.heap.size ∧ w.ownsRow bd 5 1 d k0.data.length (u8s k0.data) ∧ k0.data.length ≤ 1099511627776 ∧ pre.length + 1 ≤ cap ∧ cap ≤ maxLen ∧
    ∀ (w' : World) (R : Nat → Prop) (d' : Value) (k' : Ck), Only R w w' → (∀ j, R j → OfTy w 5 j → bd ≤ j) → w'.ownsRow bd 5 1 d' k'.data.length (u8s k'.data) → SObj w' g 43 ((cur.set (7 * pre.length + 5) d').set (7 * pre.length + 6) (.int .i64 k'.fin)) → k'.id = k0.id → k'.len = k0.len →
      Datas w' c.B (pre ++ [k']) (ds' ++ [d']) ∧ w'.ownsRow c.B 43 7 ov (pre ++ [k']).length (ckCells (pre ++ [k']) (ds' ++ [d'])) := by
  obtain ⟨_, hne, _⟩ := h.dat1 hd
  obtain ⟨pre, k0, hout⟩ : ∃ pre k0, s.out = pre ++ [k0] := ⟨s.out.dropLast, s.out.getLast hne, (List.dropLast_concat_getLast hne).symm⟩
  have hda := h.da
  have hou := h.ou
  have hdl := h.dl
  rw [hout] at hda hou hdl
  obtain ⟨ds', d, bd, e1, e2, e3, e4, e5, e6⟩ := hda.last
  rw [e1, ckCells_snoc _ _ _ _ e5] at hou
  obtain ⟨g, cap, cur, hv, hg, ho, h1, h2, h3, h4⟩ := own_block hou (by simp)
  have hA : (ckCells pre ds').length = 7 * pre.length := by rw [ckCells_length _ _ e5]; omega
  have hlen : (pre ++ [k0]).length = pre.length + 1 := by simp
  rw [hlen] at hv h1 h4
  have hat : ∀ i, i < 7 → cur[7 * pre.length + i]? = (ckCell k0 d)[i]? := fun i hi => by
    have : (cur.take ((pre.length + 1) * 7))[7 * pre.length + i]? = cur[7 * pre.length + i]? := by rw [List.getElem?_take, if_pos (by omega)]
    rw [← this, h4, List.getElem?_append_right (by omega), hA]
    congr 1; omega
  have hk0 : k0 ∈ pre ++ [k0] := by simp
  refine ⟨pre, k0, ds', d, bd, g, cap, cur, hout, e1, hv, hg, ho, hat 5 (by omega), hat 6 (by omega), hat 4 (by omega), e2, ?_, e4, by have := hdl k0 hk0; omega, h1, h2, fun w' R d' k' hon hR hr ho' hi hl => ⟨e6 w' R d' k' hon hR hr, ?_⟩⟩
  · have := h.env.1.lt
    rcases e3 with e3 | e3
    · exact e3
    · have : c.B ≤ w.heap.size := h.env.1.lt
      omega
  · rw [ckCells_snoc _ _ _ _ e5, hv]
    have hl2 : (pre ++ [k']).length = pre.length + 1 := by simp
    rw [hl2]
    refine own_of_block hg ho' h1 h2 (by simp; omega) ?_ (by rw [List.length_append, hA]; simp [ckCell]; omega)
    rw [List.take_set, List.take_set, h4, ← hA]
    exact ck_set _ k0 k' d d' hi hl
/-- Behind reading some bytes of the chunk at hand. -/
theorem RM.read (h : RM c w s Ls z ev r cr buf dv av ov kv ds) (hd : s.dat = true) {N : Nat} {n : Int} (hn : ¬ n ≤ 0) {q : Nat} (hq : dv = .iface 87 (.pointer (some ⟨q, 0, none⟩))) {pre : List Ck} {k0 : Ck} {ds' : List Value} {d : Value} {bd g cap : Nat} {cur : List Value}
    (hout : s.out = pre ++ [k0]) (hov : ov = .slice (some ⟨g, 0, none⟩) (pre.length + 1) cap) (hg : c.B ≤ g) (ho : SObj w g 43 cur) (hbd : c.B ≤ bd) (hbw : bd ≤ w.heap.size) (hown : w.ownsRow bd 5 1 d k0.data.length (u8s k0.data))
    (haft : ∀ (w' : World) (R : Nat → Prop) (d' : Value) (k' : Ck), Only R w w' → (∀ j, R j → OfTy w 5 j → bd ≤ j) → w'.ownsRow bd 5 1 d' k'.data.length (u8s k'.data) → SObj w' g 43 ((cur.set (7 * pre.length + 5) d').set (7 * pre.length + 6) (.int .i64 k'.fin)) → k'.id = k0.id → k'.len = k0.len →
      Datas w' c.B (pre ++ [k']) (ds' ++ [d']) ∧ w'.ownsRow c.B 43 7 ov (pre ++ [k']).length (ckCells (pre ++ [k']) (ds' ++ [d'])))
    {e : Ending} {w1 : World} (hp : PRP c.B bd w c.bp c.ca c.cn c.cc c.N ⟨z, q, s.now.tot, s.now.chk, s.now.pad⟩ Ls s.rest g (7 * pre.length) cur d k0.data k0.fin (min n.toNat (N + 1)) e w1) :
    e = .returned (.tuple #[]) ∧ (∃ R, Only R w w1 ∧ (∀ k, R k → c.B ≤ k) ∧ TyIn w R [43, 89, 63, 5]) ∧ ∃ K r' buf' ds2, RM c w1 (opRead N n s) (Ls.map (dec K)) z .nilIface r' cr buf' dv av ov kv ds2 := by
  obtain ⟨d', he, p1, p2, p3, p4, p5⟩ := hp
  suffices hh : (∃ R, Only R w w1 ∧ (∀ k, R k → c.B ≤ k) ∧ TyIn w R [43, 89, 63, 5]) ∧ ∃ K r' buf' ds2, RM c w1 (opRead N n s) (Ls.map (dec K)) z .nilIface r' cr buf' dv av ov kv ds2 from ⟨he, hh⟩
  rw [h.avNow q] at p1 p2 p3 p4
  obtain ⟨h1, h2, q', q1, q2, q3, q4⟩ := h.dat1 hd
  obtain rfl : q' = q := by rw [hq] at q3; injection q3 with _ q3; injection q3 with q3; injection q3 with q3; injection q3 with q3; exact q3.symm
  have eM : opRead N n s = { s.take (min (min n.toNat (N + 1)) s.avNow) with out := pre ++ [k0.read (min n.toNat (N + 1)) s.avNow s.rest] } := by
    unfold opRead
    rw [if_neg hn, hout, readLast_snoc]
  have hKr : s.avNow ≤ s.rest.length := by
    rw [← h.avNow q']; exact av_le _ _
  generalize hm : min n.toNat (N + 1) = m at *
  have hR : ∀ k, (k = g ∨ RW c.bp (⟨z, q', s.now.tot, s.now.chk, s.now.pad⟩ :: Ls) k ∨ d.ownBlock = some k) → k = g ∨ (k = z ∨ RW c.bp Ls k) ∨ d.ownBlock = some k := fun k hk => by
    rcases hk with hk | (hk | ⟨Q, hQ, hk⟩) | hk
    · exact .inl hk
    · exact .inr (.inl (.inr (.inl hk)))
    · rcases List.mem_cons.1 hQ with rfl | hQ
      · exact .inr (.inl (.inl hk))
      · exact .inr (.inl (.inr (.inr ⟨Q, hQ, hk⟩)))
    · exact .inr (.inr hk)
  have hT : TyIn w (fun k => k = g ∨ RW c.bp (⟨z, q', s.now.tot, s.now.chk, s.now.pad⟩ :: Ls) k ∨ d.ownBlock = some k) [43, 89, 63, 5] := fun k hk => by
    rcases hR k hk with hk | hk | hk
    · exact ⟨43, by simp, by rw [hk]; exact ho.ty⟩
    · obtain ⟨e, he, h3⟩ := h.tyNext k hk
      refine ⟨e, ?_, h3⟩
      simp at he ⊢
      rcases he with he | he
      · exact .inr (.inl he)
      · exact .inr (.inr (.inl he))
    · exact ⟨5, by simp, (ownsRow_ty hown hk).1⟩
  have hB : ∀ k, (k = g ∨ RW c.bp (⟨z, q', s.now.tot, s.now.chk, s.now.pad⟩ :: Ls) k ∨ d.ownBlock = some k) → c.B ≤ k := fun k hk => by
    rcases hR k hk with hk | hk | hk
    · omega
    · exact h.geNext k hk
    · have := (ownsRow_ty hown hk).2.1; omega
  have hU : ∀ j, (j = g ∨ RW c.bp (⟨z, q', s.now.tot, s.now.chk, s.now.pad⟩ :: Ls) j ∨ d.ownBlock = some j) → OfTy w 5 j → bd ≤ j := fun k hk ht => by
    rcases hR k hk with hk | hk | hk
    · rw [hk] at ht; exact absurd (ht.inj ho.ty) (by decide)
    · obtain ⟨e, he, h3⟩ := h.tyNext k hk
      rw [← ht.inj h3] at he
      exact absurd he (by decide)
    · exact (ownsRow_ty hown hk).2.1
  have hlen : (k0.data ++ s.rest.take (min m s.avNow)).length = k0.data.length + min m s.avNow := by
    rw [List.length_append, List.length_take]; omega
  have hA := haft w1 _ d' (k0.read m s.avNow s.rest) p5 hU (by
    show w1.ownsRow bd _ 1 d' (k0.data ++ s.rest.take (min m s.avNow)).length _
    rw [hlen]; exact p3) (by
    show SObj w1 g _ ((cur.set _ d').set _ (.int .i64 ((if s.avNow < m then 0 else k0.fin : Nat) : Int)))
    have e : (((if s.avNow < m then 0 else k0.fin : Nat) : Nat) : Int) = if s.avNow < m then 0 else (k0.fin : Int) := by split <;> rfl
    rw [e]; exact p4) rfl rfl
  obtain ⟨⟨buf', hb, hz⟩, hc, hct, htt, _, _, hzl, hst⟩ := p2
  rw [eM]
  refine ⟨⟨_, p5, hB, hT⟩, ?_⟩
  refine ⟨min m s.avNow, s.now.dec (min m s.avNow), buf', ds' ++ [d'], h.env.only p5 hB, h.bb, h.by_.drop _, ?_, p1, hst, ?_, ?_, hb, h.bz, zl_dec h.zl, hT.sobj p5 h.nv (by decide), h.zB, ?_, (fun hb2 => absurd h1 hb2), (fun hd2 => by rw [show (s.take _).dat = s.dat from rfl, hd] at hd2; cases hd2), ?_, ?_, hA.2, hA.1, hT.row p5 h.ki (by decide), ?_, ?_⟩
  · show (s.rest.drop _).length ≤ _
    rw [List.length_drop]; have := h.r40; omega
  · rw [rs_dec, h.sr]; rfl
  · rw [q2]; exact hz
  · intro _
    exact ⟨rfl, rfl, hct, htt, fun _ => ⟨q', q1, q2, hc⟩⟩
  · intro _
    exact ⟨h1, by simp, q', q1, q2, q3, hc⟩
  · rw [List.length_map, arCells_dec]; exact hT.row p5 h.ar (by decide)
  · intro k hk
    rcases List.mem_append.1 hk with hk | hk
    · exact h.ln k (by rw [hout]; simp [hk])
    · rw [List.mem_singleton.1 hk]; exact h.ln k0 (by rw [hout]; simp)
  · intro k hk
    show k.data.length + (s.rest.drop _).length ≤ _
    rw [List.length_drop]
    rcases List.mem_append.1 hk with hk | hk
    · have := h.dl k (by rw [hout]; simp [hk]); omega
    · rw [List.mem_singleton.1 hk]
      have := h.dl k0 (by rw [hout]; simp)
      show (k0.data ++ s.rest.take (min m s.avNow)).length + _ ≤ _
      rw [hlen]; omega
theorem arCells_length (Ls : List Lv) : (arCells Ls).length = Ls.length * 2 := by
  unfold arCells
  rw [List.length_flatMap]
  simp only [List.length_cons, List.length_nil]
  rw [List.map_reverse, List.sum_reverse]
  induction Ls with
  | nil => rfl
  | cons L Ls ih => rw [List.map_cons, List.sum_cons, ih, List.length_cons]; omega
theorem rw_cons {bp z q tot chk : Nat} {pad : Bool} {Ls : List Lv} {w w1 : World} (p3 : Only (RW bp (⟨z, q, tot, chk, pad⟩ :: Ls)) w w1) : Only (fun k => k = z ∨ RW bp Ls k) w w1 := p3.mono (fun k hk => by
  rcases hk with hk | ⟨Q, hQ, hk⟩
  · exact .inr (.inl hk)
  · rcases List.mem_cons.1 hQ with rfl | hQ
    · exact .inl hk
    · exact .inr (.inr ⟨Q, hQ, hk⟩))
/-- Behind going into a list. -/
theorem RM.into (h : RM c w s Ls z ev r cr buf dv av ov kv ds) (hd : s.dat = true) {q : Nat} (hq : dv = .iface 87 (.pointer (some ⟨q, 0, none⟩))) (h4 : ¬ lastLen s.out < 4) (hA : ¬ s.avNow < 4) {w1 w2 w3 : World} (p1 : c.pcs w1 (s.rest.drop 4))
    (p2 : Stk w1 c.B c.bp ((⟨z, q, s.now.tot, s.now.chk, s.now.pad⟩ :: Ls).map (dec 4))) (p3 : Only (RW c.bp (⟨z, q, s.now.tot, s.now.chk, s.now.pad⟩ :: Ls)) w w1) {z' : Nat} {buf' : List Value} (b8 : buf'.length = 8) (hz' : w.heap.size ≤ z')
    (hzo : SObj w1 z' 89 (zC (lvV c.bp (⟨z, q, s.now.tot, s.now.chk, s.now.pad⟩ :: Ls)) .nilIface (lastLen s.out - 4) 0 (.pointer none) buf' false)) (hl : lastLen s.out < 4294967296)
    (ho2 : Only (fun j => av.ownBlock = some j) w1 w2) {av' : Value} (har : w2.ownsRow (c.zb + 1) 69 2 av' (Ls.length + 1) (arCells Ls ++ [.pointer (some ⟨z, 0, none⟩), dv]))
    (ho3 : Only (fun j => j = c.zb) w2 w3) (hnv : SObj w3 c.zb 69 [.pointer (some ⟨z', 0, none⟩), .nilIface]) :
    RM c w3 (opInto s).1 ((⟨z, q, s.now.tot, s.now.chk, s.now.pad⟩ :: Ls).map (dec 4)) z' .nilIface ⟨lastLen s.out - 4, 0, false⟩ (.pointer none) buf' .nilIface av' ov kv ds ∧ (opInto s).2 = 0 := by
  have e1 : opInto s = ({ s with rest := s.rest.drop 4, now := ⟨lastLen s.out - 4, 0, false⟩, dat := false, outer := s.now.dec 4 :: s.outer.map (RS.dec 4) }, 0) := by
    unfold opInto
    rw [if_neg h4, if_neg hA]
  obtain ⟨h1, h2, q', q1, q2, q3, q4⟩ := h.dat1 hd
  have p3' : Only (fun k => k = z ∨ RW c.bp Ls k) w w1 := p3.mono (fun k hk => by
    rcases hk with hk | ⟨Q, hQ, hk⟩
    · exact .inr (.inl hk)
    · rcases List.mem_cons.1 hQ with rfl | hQ
      · exact .inl hk
      · exact .inr (.inr ⟨Q, hQ, hk⟩))
  obtain ⟨rk1, nzz, nbp, ncl, tz1, _⟩ := h.rk_next p3' (Only.refl _ w1)
  have ta : TyIn w1 (fun j => av.ownBlock = some j) [69] := TyIn.own rk1.ar
  have hBa : ∀ j, av.ownBlock = some j → c.B ≤ j := fun j hj => by have := (ownsRow_ty rk1.ar hj).2.1; have := h.zB; omega
  have nza : ∀ j, av.ownBlock = some j → j ≠ c.zb := fun j hj => by have := (ownsRow_ty rk1.ar hj).2.1; omega
  have tz2 : OfTy w2 69 c.zb := tz1.only ho2 (fun hr => nza _ hr rfl)
  have tb : TyIn w2 (fun j => j = c.zb) [69] := fun k hk => ⟨69, by simp, by rw [hk]; exact tz2⟩
  have hBb : ∀ j, j = c.zb → c.B ≤ j := fun j hj => by rw [hj]; exact h.zB
  have hw1 : w.heap.size ≤ w1.heap.size := p3.size
  have pc2 : c.pcs w2 (s.rest.drop 4) := p1.only ho2 hBa (fun hr => by
    obtain ⟨_, _, _, o, _⟩ := p1
    obtain ⟨e, he, hh⟩ := ta _ hr
    rw [hh.inj o.ty] at he
    exact absurd he (by decide))
  have st2 : Stk w2 c.B c.bp ((⟨z, q, s.now.tot, s.now.chk, s.now.pad⟩ :: Ls).map (dec 4)) := p2.only ho2 (fun Q hQ => ⟨fun hr => by
    obtain ⟨e, he, hh⟩ := ta _ hr
    rw [hh.inj (p2.ge Q hQ).2.2.1] at he
    exact absurd he (by decide), fun hr => by
    obtain ⟨e, he, hh⟩ := ta _ hr
    rw [hh.inj (p2.ge Q hQ).2.2.2] at he
    exact absurd he (by decide)⟩)
  have hall : ∀ Q ∈ (⟨z, q, s.now.tot, s.now.chk, s.now.pad⟩ :: Ls : List Lv), Q.z ≠ c.zb ∧ Q.c ≠ c.zb := fun Q hQ => by
    rcases List.mem_cons.1 hQ with rfl | hQ
    · refine ⟨nzz, fun e => ?_⟩
      have e : q = c.zb := e
      have t := (p2.ge _ (List.mem_map.2 ⟨_, List.mem_cons_self, rfl⟩)).2.2.2
      have t : OfTy w1 95 q := t
      rw [e] at t; exact absurd (t.inj tz1) (by decide)
    · exact ncl Q hQ
  have hzlt : ∀ Q ∈ (⟨z, q, s.now.tot, s.now.chk, s.now.pad⟩ :: Ls : List Lv), Q.z ≠ z' := fun Q hQ => by
    rcases List.mem_cons.1 hQ with rfl | hQ
    · have := h.zo.lt; show z ≠ z'; omega
    · have := (h.st.ge Q hQ).2.2.1.lt; omega
  refine ⟨?_, by rw [e1]⟩
  rw [e1]
  have env2 := rk1.env.only ho2 hBa
  refine ⟨env2.only ho3 hBb, h.bb, h.by_.drop 4, ?_, ?_, ?_, ?_, ?_, b8, ?_, ?_, hnv, h.zB, ?_, (fun hb2 => absurd h1 hb2), (fun _ => rfl), (fun hd2 => by cases hd2), ?_, ?_, ?_, ?_, h.ln, ?_⟩
  · show (s.rest.drop 4).length ≤ _
    rw [List.length_drop]; have := h.r40; omega
  · exact pc2.only ho3 hBb (fun hr => nbp hr)
  · refine st2.only ho3 (fun Q hQ => ?_)
    obtain ⟨Q', hQ', rfl⟩ := List.mem_map.1 hQ
    exact hall Q' hQ'
  · rw [rs_dec, List.map_cons, List.map_cons, h.sr]; rfl
  · rw [lvV_dec]
    refine SObj.only (w := w2) (ta.sobj ho2 hzo (by decide)) ho3 (fun e => ?_)
    have t := hzo.ty
    rw [e] at t; exact absurd (t.inj tz1) (by decide)
  · have := h.env.1.lt; omega
  · exact zl_dec hzlt
  · intro _
    exact ⟨rfl, rfl, Nat.zero_le _, by show lastLen s.out - 4 < _; omega, fun h0 => absurd h0 (Nat.lt_irrefl 0)⟩
  · have e2 : arCells ((⟨z, q, s.now.tot, s.now.chk, s.now.pad⟩ :: Ls).map (dec 4)) = arCells Ls ++ [.pointer (some ⟨z, 0, none⟩), dv] := by
      rw [arCells_dec, hq]
      unfold arCells
      rw [List.reverse_cons, List.flatMap_append]
      rfl
    rw [e2, List.length_map]
    exact ownsRow_only har ho3 (fun k hk hr => by have := (ownsRow_ty har hk).2.1; omega)
  · exact tb.row ho3 (ta.row ho2 rk1.ou (by decide)) (by decide)
  · exact (rk1.da.far ta (by decide) ho2).far tb (by decide) ho3
  · exact tb.row ho3 (ta.row ho2 rk1.ki (by decide)) (by decide)
  · intro k hk
    have := h.dl k hk
    show k.data.length + (s.rest.drop 4).length ≤ _
    rw [List.length_drop]; omega
/-- Behind going back to what is around. -/
theorem RM.back {L : Lv} (h : RM c w s (L :: Ls) z ev r cr buf dv av ov kv ds) {g cap : Nat} (hav : av = .slice (some ⟨g, 0, none⟩) (Ls.length + 1) cap) {w2 : World} (ho : Only (fun j => j = c.zb) w w2) (hnv : SObj w2 c.zb 69 [.pointer (some ⟨L.z, 0, none⟩), .nilIface]) :
    ∃ buf', RM c w2 (opBack s).1 Ls L.z .nilIface L.rs (.pointer (some ⟨L.c, 0, none⟩)) buf' .nilIface (.slice (some ⟨g, 0, none⟩) Ls.length cap) ov kv ds ∧ (opBack s).2 = 0 := by
  obtain ⟨⟨buf', hb, hz⟩, hc, hct, htt, hBz, hBc, hzl, hst⟩ := h.st
  have hsr : s.outer = L.rs :: Ls.map Lv.rs := h.sr.symm
  have e1 : opBack s = ({ s with now := L.rs, bad := 0, dat := false, outer := Ls.map Lv.rs }, 0) := by
    unfold opBack
    rw [hsr]
  obtain ⟨rk2, nzz, nbp, ncl, tz1, _⟩ := h.rk_next (Only.refl _ w) ho
  have nL := ncl L (by simp)
  have hBb : ∀ j, j = c.zb → c.B ≤ j := fun j hj => by rw [hj]; exact h.zB
  refine ⟨buf', ?_, by rw [e1]⟩
  rw [e1]
  refine ⟨rk2.env, h.bb, h.by_, h.r40, h.pc.only ho hBb nbp, hst.only ho (fun Q hQ => ncl Q (by simp [hQ])), rfl, hz.only ho nL.1, hb, hBz, hzl, hnv, h.zB, ?_, (fun hb2 => absurd rfl hb2), (fun _ => rfl), (fun hd2 => by cases hd2), ?_, rk2.ou, rk2.da, rk2.ki, h.ln, h.dl⟩
  · intro _
    exact ⟨rfl, rfl, hct, htt, fun _ => ⟨L.c, hBc, rfl, hc.only ho nL.2⟩⟩
  · have har := rk2.ar
    rw [hav] at har
    have e2 : arCells (L :: Ls) = arCells Ls ++ [.pointer (some ⟨L.z, 0, none⟩), .iface 87 (.pointer (some ⟨L.c, 0, none⟩))] := by
      unfold arCells
      rw [List.reverse_cons, List.flatMap_append]
      rfl
    rw [e2] at har
    exact own_shrink har (arCells_length Ls) (by simp) (by simp)
end
end Go.Proofs.YthipghkhdlnfiaaDoor
