/- To read some bytes of the chunk at hand: impl's part.read. -/
import Derived.Test.YthipghkhdlnfiaaDoorRfE
import Derived.Deep.RegionLaw
namespace Go.Proofs.YthipghkhdlnfiaaDoor
open Go.RowKit
set_option linter.unusedVariables false

/-- append to a row of the call's own, as one step of a region that draws. -/
theorem step_append_own {P : Program} {ops : Array Oper} {o : Oper} {a : Act} {w : World} {K : Act → World → Prop} {Q : Exit → Act → World → Prop} {C : Prop}
    (hg : o.guard = none) (s x : Operand) (t : TypeId) (hop : o.op = Op.call { callee := Callee.builtin Builtin.append, args := #[s, x], argTypes := #[t, t] })
    (base : Nat) (e : TypeId) (i : TypeInfo) (z : Value) (size bytes : Nat) (h1 : P.underlying t = some (.slice e)) (h2 : P.info? e = some i) (h3 : i.zero = some z) (h4 : i.size = size) (h5 : i.bytes = bytes) (h6 : z.cells.size = size) (h7 : 0 < size)
    (v : Value) (n : Nat) (xs : List Value) (hs : a.eval s = v) (hown : w.ownsRow base e size v n xs)
    (ad : Addr) (m c : Nat) (news : List Value) (hx : a.eval x = .slice (some ad) m c) (hn : news.length = m * size) (hc : ∀ j u, news[j]? = some u → w.cell? (ad.add j) = some u) (h1c : ∀ u ∈ news, u.oneCell' = true)
    (b1 : n + m ≤ maxLen) (b2 : (n + m) * bytes ≤ 140737488355328) (hbase : base ≤ w.heap.size)
    (hK : ∀ v' w', w'.ownsRow base e size v' (n + m) (xs ++ news) → w.grownBy w' v.ownBlock → K (a.put o.dst v') w') :
    if Region.wanted o (yielded ops a.tmps) = true then Oper.wp P o a w K Q else C := by
  have hw : Region.wanted o (yielded ops a.tmps) = true := by simp [Region.wanted, hg]
  rw [if_pos hw]
  obtain ⟨v', w', hrun, r1, r2, _⟩ := run_append_own (P := P) w base t o.type e i z size bytes h1 h2 h3 h4 h5 h6 h7 v n xs hown ad m c news hn hc h1c b1 b2 hbase
  unfold Oper.wp
  simp [execOp, hop, resolve, invoke, builtin, hs, hx, hrun, Result.andThen]
  exact hK v' w' r1 r2
theorem row_shape {w : World} {base : Nat} {e : TypeId} {size : Nat} {v : Value} {n : Nat} {xs : List Value} (h : w.ownsRow base e size v n xs) : ∃ a c, v = .slice a n c := by
  rcases h.2 with ⟨h, h0⟩ | ⟨g, cap, cur, h, _⟩
  · exact ⟨none, 0, by rw [h, h0]⟩
  · exact ⟨_, _, h⟩

theorem made_row {w1 w2 : World} {m : Nat} {xs : List Value} (hown : w2.ownsRow w1.heap.size 5 1 (.slice (some ⟨w1.heap.size, 0, none⟩) m m) m xs) (hgr : w1.grownBy w2 none) : Hid (∃ cur0, SObj w2 w1.heap.size 5 cur0 ∧ cur0.length = m ∧ Only (fun _ => False) w1 w2) := Lib.hid (by
  obtain ⟨cur0, h0, h1, _, _⟩ := row_obj hown
  exact ⟨cur0, h0, h1, Only.of_grown hgr (fun k hk => by cases hk)⟩)
theorem set_self {α : Type} (l : List α) (i : Nat) (v : α) (h : l[i]? = some v) : l.set i v = l := by
  refine List.ext_getElem? (fun j => ?_)
  by_cases e : i = j
  · subst e
    rw [List.getElem?_set_self (List.getElem?_eq_some_iff.1 h).1, h]
  · rw [List.getElem?_set_ne e]
/-- What read leaves. -/
def PRP (B Bd : Nat) (w : World) (bp : Nat) (ca : Option Addr) (cn cc N : Nat) (L : Lv) (Ls : List Lv) (rest : List Int) (cg co : Nat) (cur : List Value) (dv : Value) (data : List Int) (fin : Int) (m : Nat) (e : Ending) (w' : World) : Prop :=
  ∃ dv', e = .returned (.tuple #[]) ∧ Pcs B w' bp ca cn cc N (rest.drop (min m (av (L :: Ls) rest.length))) ∧ Stk w' B bp ((L :: Ls).map (dec (min m (av (L :: Ls) rest.length)))) ∧
    w'.ownsRow Bd 5 1 dv' (data.length + min m (av (L :: Ls) rest.length)) (u8s (data ++ rest.take (min m (av (L :: Ls) rest.length)))) ∧
    SObj w' cg 43 ((cur.set (co + 5) dv').set (co + 6) (.int .i64 (if av (L :: Ls) rest.length < m then 0 else fin))) ∧
    Only (fun j => j = cg ∨ RW bp (L :: Ls) j ∨ dv.ownBlock = some j) w w'

set_option maxRecDepth 100000 in
set_option maxHeartbeats 4000000 in
theorem partRead_none (n : Int) (most : Nat) (zv xv : Value) (ad : Addr) (hn : n ≤ 0) (w : World) :
    Calls Tryd.prog 23 #[.agg #[zv, xv], .pointer (some ad), .int .i64 n, .int .i64 most] w fun e w' => e = .returned (.tuple #[]) ∧ Below w.heap.size w w' := by
  go_enter Tryd.func23, Tryd.ntmps23
  go_wp2
  (try simp only [Exit.inBlock, Exit.then])
  refine bodyPost_ret (results_none rfl _ _ _) rfl ?_
  exact ⟨rfl, (Below.refl _ _).alloc (Nat.le_refl _) _⟩

set_option maxRecDepth 100000 in
set_option maxHeartbeats 4000000 in
theorem partRead_any (B Bd bp : Nat) (ca : Option Addr) (cn cc N : Nat) (cz : Nat → Int) (E U M S Lo P H : Addr) (hBp : B ≤ bp) (L : Lv) (Ls : List Lv) (rest : List Int) (w : World)
    (he : Env B w ca cn cc N cz E U M S Lo P H) (hp : Pcs B w bp ca cn cc N rest) (hs : Stk w B bp (L :: Ls)) (cg co : Nat) (cur : List Value) (dv : Value) (data : List Int) (fin : Int)
    (hrow : SObj w cg 43 cur) (hd : cur[co + 5]? = some dv) (hf : cur[co + 6]? = some (.int .i64 fin)) (hown : w.ownsRow Bd 5 1 dv data.length (u8s data)) (hBB : B ≤ Bd) (hBd : Bd ≤ w.heap.size) (hcg : B ≤ cg)
    (zv : Value) (n most m : Nat) (h1 : 1 ≤ m) (hmin : m = min n most) (hm : m ≤ 1099511627776) (hnn : n ≤ 9223372036854775807) (hmm : most ≤ 9223372036854775807) (hdl : data.length ≤ 1099511627776) :
    Calls Tryd.prog 23 #[.agg #[zv, .iface 87 (.pointer (some ⟨L.c, 0, none⟩))], .pointer (some ⟨cg, co, none⟩), .int .i64 n, .int .i64 most] w (PRP B Bd w bp ca cn cc N L Ls rest cg co cur dv data fin m) := by
  obtain ⟨q, hq⟩ : ∃ q, q = L.c := ⟨_, rfl⟩
  rw [← hq]
  have HTY : Hid (cg ≠ bp ∧ (∀ Q ∈ L :: Ls, cg ≠ Q.z ∧ cg ≠ Q.c) ∧ ∀ g, dv.ownBlock = some g → g ≠ cg ∧ g ≠ bp ∧ ∀ Q ∈ L :: Ls, g ≠ Q.z ∧ g ≠ Q.c) := Lib.hid (by
    obtain ⟨_, _, _, o, _⟩ := hp
    refine ⟨fun e => ?_, fun Q hQ => ?_, fun g hg => ?_⟩
    · subst e; exact absurd (o.ty.inj hrow.ty) (by decide)
    · obtain ⟨_, _, t1, t2⟩ := hs.ge Q hQ
      exact ⟨fun e => by rw [← e] at t1; exact absurd (t1.inj hrow.ty) (by decide), fun e => by rw [← e] at t2; exact absurd (t2.inj hrow.ty) (by decide)⟩
    · have tg := (ownsRow_ty hown hg).1
      refine ⟨fun e => by rw [e] at tg; exact absurd (tg.inj hrow.ty) (by decide), fun e => by rw [e] at tg; exact absurd (tg.inj o.ty) (by decide), fun Q hQ => ?_⟩
      obtain ⟨_, _, t1, t2⟩ := hs.ge Q hQ
      exact ⟨fun e => by rw [← e] at t1; exact absurd (t1.inj tg) (by decide), fun e => by rw [← e] at t2; exact absurd (t2.inj tg) (by decide)⟩)
  have HX := Lib.hid (And.intro he (And.intro hp (And.intro hs (And.intro hq (And.intro hrow (And.intro hd (And.intro hf hown)))))))
  clear he hp hs hq hrow hd hf hown
  obtain ⟨i0, hi, hz0, hz1, hz2⟩ := info_parts (show (Tryd.prog.info? 5).map (fun i => (i.zero, i.size, i.bytes)) = some (some (.int .u8 0), 1, 1) by kernel_rfl)
  have HI := Lib.hid (And.intro hi (And.intro hz0 (And.intro hz1 hz2))); clear hi hz0 hz1 hz2
  have n1 : ¬ (n : Int) ≤ 0 := by omega
  have n2 : decide ((n : Int) ≤ 0) = false := decide_eq_false n1
  have n3 : ¬ n = 0 := by omega
  have m0 : (0 : Int) ≤ (m : Int) := by omega
  have m1 : m ≤ 140737488351232 := by omega
  have HM : Hid (m = min n most) := Lib.hid hmin
  clear hmin
  go_enter Tryd.func23, Tryd.ntmps23
  go_upto_region 2 with fail
  have H1 : Hid (Only (fun _ => False) w (w.alloc (.cells #[zv, .iface 87 (.pointer (some ⟨q, 0, none⟩))] 69)) ∧ SObj (w.alloc (.cells #[zv, .iface 87 (.pointer (some ⟨q, 0, none⟩))] 69)) w.heap.size 69 [zv, .iface 87 (.pointer (some ⟨q, 0, none⟩))]) := Lib.hid ⟨Only.alloc _ _ _, obj_new w _ [zv, .iface 87 (.pointer (some ⟨q, 0, none⟩))]⟩
  obtain ⟨x, hx⟩ : ∃ x, x = w.heap.size := ⟨_, rfl⟩
  rw [← hx] at H1 ⊢
  have HXX : Hid (x = w.heap.size) := Lib.hid hx
  clear hx
  generalize World.alloc _ _ = w1 at H1 ⊢
  have kx : w1.cell? ⟨x, 1, none⟩ = some (.iface 87 (.pointer (some ⟨q, 0, none⟩))) := H1.out.2.cell 1 rfl
  go_cut [8] from 13 to 16 (fun s8 wx => s8 = .slice (some ⟨w1.heap.size, 0, none⟩) m m ∧ Hid (∃ cur0, SObj wx w1.heap.size 5 cur0 ∧ cur0.length = m ∧ Only (fun _ => False) w1 wx))
  case first =>
    obtain ⟨hi, hz0, hz1, hz2⟩ := HI.out
    rcases Nat.lt_or_ge most n with hle | hle
    · obtain rfl : m = most := by have := HM.out; omega
      go_wp2_with (first | (refine wpList_make_full w1 rfl (.tmp 15) (.tmp 15) 22 rfl w1.heap.size 5 i0 (.int .u8 0) 1 Tryd.underlying22 hi hz0 hz1 .i64 .i64 m m m rfl rfl rfl rfl (by rw [hz2]; omega) (by unfold maxLen; omega) (Nat.le_refl _) ?_; intro w2 hown2 hgr2))
      go_meet
      exact ⟨rfl, made_row hown2 hgr2⟩
    · obtain rfl : m = n := by have := HM.out; omega
      go_wp2_with (first | (refine wpList_make_full w1 rfl (.tmp 15) (.tmp 15) 22 rfl w1.heap.size 5 i0 (.int .u8 0) 1 Tryd.underlying22 hi hz0 hz1 .i64 .i64 m m m rfl rfl rfl rfl (by rw [hz2]; omega) (by unfold maxLen; omega) (Nat.le_refl _) ?_; intro w2 hown2 hgr2))
      go_meet
      exact ⟨rfl, made_row hown2 hgr2⟩
  case rest =>
    obtain ⟨rfl, HC⟩ := hcut
    obtain ⟨cur0, hcur0⟩ := HC.out
    have HC0 := Lib.hid hcur0; clear hcur0 HC
    obtain ⟨pb, hpb⟩ : ∃ x, x = w1.heap.size := ⟨_, rfl⟩
    rw [← hpb] at HC0 ⊢
    have HPB : Hid (pb = w1.heap.size ∧ w.heap.size ≤ pb) := Lib.hid ⟨hpb, by rw [hpb]; exact H1.out.1.size⟩
    clear hpb kx
    have kx2 : wc.cell? ⟨x, 1, none⟩ = some (.iface 87 (.pointer (some ⟨q, 0, none⟩))) := (H1.out.2.only HC0.out.2.2 (fun h => h)).cell 1 rfl
    have HW : Hid (Only (fun _ => False) w wc) := Lib.hid (H1.out.1.tr HC0.out.2.2)
    have HRF : Hid (Calls Tryd.prog 30 #[.iface 87 (.pointer (some ⟨q, 0, none⟩)), .slice (some ⟨pb, 0, none⟩) m m] wc (RF B wc bp ca cn cc N (L :: Ls) rest pb 0 5 cur0 m E U)) := Lib.hid (by
      obtain ⟨e1, e2, e3, e4, e5, e6, e7, e8⟩ := HX.out
      have he2 := e1.only HW.out (fun _ h => h.elim)
      have hB := e1.1.lt
      have hap : Apart pb bp (L :: Ls) := by
        have hpb := HPB.out.2
        refine ⟨?_, fun M hM => ?_⟩
        · obtain ⟨_, _, _, o, _⟩ := e2
          have := SObj.lt o; omega
        · obtain ⟨_, _, ⟨c1, f1, g1⟩, ⟨c2, f2, g2⟩⟩ := e3.ge M hM
          have h1 := (Array.getElem?_eq_some_iff.1 g1).1
          have h2 := (Array.getElem?_eq_some_iff.1 g2).1
          omega
      have := readFull_any B bp ca cn cc N cz E U pb 0 5 m (by have := HPB.out.2; omega) hBp m1 (L :: Ls) rest cur0 m wc he2.1 he2.2.u (e2.only HW.out (fun _ h => h.elim) (fun h => h)) (e3.only HW.out (fun _ _ => ⟨fun h => h, fun h => h⟩)) HC0.out.1 hap h1 (by rw [HC0.out.2.1]; omega) (Nat.le_refl _)
      rw [show lvV bp (L :: Ls) = .iface 87 (.pointer (some ⟨q, 0, none⟩)) by rw [e4]; rfl] at this
      exact this)
    obtain ⟨A, hA⟩ : ∃ A, A = av (L :: Ls) rest.length := ⟨_, rfl⟩
    have HA : Hid (A = av (L :: Ls) rest.length ∧ A ≤ rest.length) := Lib.hid ⟨hA, by rw [hA]; exact av_le _ _⟩
    clear hA
    go_wp2_with fail
    refine HRF.out.mono ?_
    rintro _ w3 ⟨K, hK, rfl, hP3, hS3, hZ3, hO3⟩
    rw [← HA.out.1] at hK
    have ik0 : (0 : Int) ≤ (K : Int) := by omega
    have ik1 : (K : Int) ≤ (m : Int) := by omega
    have ik2 : K ≤ m := by omega
    obtain ⟨ev, hev⟩ : ∃ v, v = rfE E U m K := ⟨_, rfl⟩
    rw [← hev]
    have HEV : Hid (K = min m A ∧ ev = rfE E U m K) := Lib.hid ⟨hK, hev⟩
    clear hev hK kx2 HRF
    have HO3 : Hid (Only (RW bp (L :: Ls)) w w3) := Lib.hid ((HW.out.mono (fun _ h => h.elim)).trans hO3 (fun k hk hn h => by
      rcases h with h | h
      · have := HPB.out.2; omega
      · exact hn h))
    have H3 : Hid (Pcs B w3 bp ca cn cc N (rest.drop K) ∧ Stk w3 B bp ((L :: Ls).map (dec K)) ∧ SObj w3 pb 5 (splice cur0 0 (u8s (rest.take K))) ∧ SObj w3 cg 43 cur ∧ w3.ownsRow Bd 5 1 dv data.length (u8s data) ∧ Env B w3 ca cn cc N cz E U M S Lo P H) := Lib.hid (by
      obtain ⟨e1, e2, e3, e4, e5, e6, e7, e8⟩ := HX.out
      obtain ⟨t1, t2, t3⟩ := HTY.out
      refine ⟨hP3, hS3, hZ3, e5.only HO3.out (fun h => ?_), ownsRow_only e8 HO3.out (fun k hk h => ?_), e1.only HO3.out (fun k hk => RW.ge e3 hBp hk)⟩
      · rcases h with h | ⟨Q, hQ, h⟩
        · exact t1 h
        · exact (t2 Q hQ).1 h
      · rcases h with h | ⟨Q, hQ, h⟩
        · exact (t3 k hk).2.1 h
        · exact ((t3 k hk).2.2 Q hQ).1 h)
    clear hP3 hS3 hZ3 hO3
    go_upto_region 4 with fail
    have HN : Hid ((u8s (rest.take K)).length = K * 1 ∧ ∀ j u, (u8s (rest.take K))[j]? = some u → w3.drew.cell? ((⟨pb, 0, none⟩ : Addr).add j) = some u) := Lib.hid (by
      have hl : (u8s (rest.take K)).length = K := by rw [u8s_length, List.length_take]; have := HA.out.2; have := HEV.out.1; omega
      refine ⟨by omega, fun j u hu => ?_⟩
      rw [Addr.add_lit, Nat.zero_add]
      refine H3.out.2.2.1.cell j ?_
      unfold splice
      rw [List.take_zero, List.nil_append, List.getElem?_append_left (by rw [hl]; have := (List.getElem?_eq_some_iff.1 hu).1; omega)]
      exact hu)
    have kd : w3.cell? ⟨cg, co + 5, none⟩ = some dv := H3.out.2.2.2.1.cell (co + 5) HX.out.2.2.2.2.2.1
    have kf : w3.frozen? ⟨cg, co + 5, none⟩ = false := H3.out.2.2.2.1.free (co + 5)
    have HK2 : Hid (∀ w', w3.drew.grownBy w' dv.ownBlock → SObj w' cg 43 cur) := Lib.hid (fun w' hg => SObj.only (w := w3.drew) H3.out.2.2.2.1 (Only.of_grown (S := fun k => dv.ownBlock = some k) hg (fun k hk => hk)) (fun h => (HTY.out.2.2 cg h).1 rfl))
    obtain ⟨hi, hz0, hz1, hz2⟩ := HI.out
    have hbdw : Hid (Bd ≤ w3.drew.heap.size) := Lib.hid (Nat.le_trans hBd HO3.out.size)
    have hmx : Hid (data.length + K ≤ maxLen) := Lib.hid (by unfold maxLen; omega)
    have hmy : Hid ((data.length + K) * 1 ≤ 140737488355328) := Lib.hid (by omega)
    have HBB := Lib.hid hBB
    clear n1 n2 n3 hdl hmm hnn hm m1 hBd hBB
    go_region_law (refine step_append_own rfl (.tmp 28) (.tmp 31) 22 rfl Bd 5 i0 (.int .u8 0) 1 1 Tryd.underlying22 hi hz0 hz1 hz2 rfl (by decide) dv data.length (u8s data) (by simp [Act.eval]) H3.out.2.2.2.2.1 ⟨pb, 0, none⟩ K m (u8s (rest.take K)) (by simp [Act.eval]) HN.out.1 HN.out.2 (u8s_one _) hmx.out hmy.out hbdw.out ?_; intro v' w4 hown4 hgr4; obtain ⟨a4, c4, hv4⟩ := row_shape hown4; subst hv4; have kd4 : w4.cell? ⟨cg, co + 5, none⟩ = some dv := (HK2.out w4 hgr4).cell (co + 5) HX.out.2.2.2.2.2.1; have kf4 : w4.frozen? ⟨cg, co + 5, none⟩ = false := (HK2.out w4 hgr4).free (co + 5); have H4 := Lib.hid (And.intro hown4 hgr4); clear hown4 hgr4)
    all_goals
      have H5 : Hid (SObj (w4.setCell ⟨cg, co + 5, none⟩ (.slice a4 (data.length + K) c4)) cg 43 (cur.set (co + 5) (.slice a4 (data.length + K) c4)) ∧ Only (fun j => j = cg ∨ dv.ownBlock = some j) w3 (w4.setCell ⟨cg, co + 5, none⟩ (.slice a4 (data.length + K) c4)) ∧ (w4.setCell ⟨cg, co + 5, none⟩ (.slice a4 (data.length + K) c4)).ownsRow Bd 5 1 (.slice a4 (data.length + K) c4) (data.length + K) (u8s (data ++ rest.take K)) ∧ ∀ j, (Value.slice a4 (data.length + K) c4).ownBlock = some j → j ≠ cg) := Lib.hid (by
        have hc := HK2.out w4 H4.out.2
        have hne : ∀ j, (Value.slice a4 (data.length + K) c4).ownBlock = some j → j ≠ cg := fun j hj e => by
          have t := (ownsRow_ty H4.out.1 hj).1
          rw [e] at t
          exact absurd (t.inj hc.ty) (by decide)
        refine ⟨hc.set (co + 5) _, Only.tr (b := w3.drew) (Only.drewN _ w3 1) ((Only.of_grown H4.out.2 (fun k hk => .inr hk)).tr (Only.setCell _ _ _ (.inl rfl))), ?_, hne⟩
        have h0 := H4.out.1
        unfold u8s at h0 ⊢
        rw [List.map_append]
        exact ownsRow_only h0 (Only.setCell (S := fun k => k = cg) w4 _ _ rfl) hne)
      obtain ⟨dv', hdv'⟩ : ∃ v, v = Value.slice a4 (data.length + K) c4 := ⟨_, rfl⟩
      rw [← hdv'] at H5 ⊢
      generalize World.setCell _ _ _ = w5 at H5 ⊢
      clear H4 kd4 kf4 hdv' kd kf
      have HE5 : Hid (Env B w5 ca cn cc N cz E U M S Lo P H) := Lib.hid (H3.out.2.2.2.2.2.only H5.out.2.1 (fun k hk => by
        rcases hk with hk | hk
        · omega
        · have := (ownsRow_ty HX.out.2.2.2.2.2.2.2 hk).2.1; have := HBB.out; omega))
      have HF : Hid (cur[co + 6]? = some (.int .i64 fin)) := Lib.hid HX.out.2.2.2.2.2.2.1
      have HFIN : Hid (∀ w6, SObj w6 cg 43 ((cur.set (co + 5) dv').set (co + 6) (.int .i64 (if A < m then 0 else fin))) → Only (fun j => j = cg) w5 w6 → PRP B Bd w bp ca cn cc N L Ls rest cg co cur dv data fin m (.returned (.tuple #[])) w6) := Lib.hid (fun w6 h6 ho => by
        obtain ⟨e1, e2, e3, e4, e5, e6, e7, e8⟩ := HX.out
        obtain ⟨t1, t2, t3⟩ := HTY.out
        have eK := HEV.out.1
        have ho2 : Only (fun j => j = cg ∨ dv.ownBlock = some j) w3 w6 := H5.out.2.1.tr (ho.mono (fun k hk => .inl hk))
        refine ⟨dv', rfl, ?_, ?_, ?_, ?_, ?_⟩
        · rw [← HA.out.1, ← eK]
          refine H3.out.1.only ho2 (fun k hk => ?_) (fun h => ?_)
          · rcases hk with hk | hk
            · omega
            · have := (ownsRow_ty e8 hk).2.1; have := HBB.out; omega
          · rcases h with h | h
            · exact t1 h.symm
            · exact (t3 _ h).2.1 rfl
        · rw [← HA.out.1, ← eK]
          refine H3.out.2.1.only ho2 (fun Q hQ => ?_)
          obtain ⟨Q', hQ', rfl⟩ := List.mem_map.1 hQ
          refine ⟨fun h => ?_, fun h => ?_⟩
          · rcases h with h | h
            · exact (t2 Q' hQ').1 h.symm
            · exact ((t3 _ h).2.2 Q' hQ').1 rfl
          · rcases h with h | h
            · exact (t2 Q' hQ').2 h.symm
            · exact ((t3 _ h).2.2 Q' hQ').2 rfl
        · rw [← HA.out.1, ← eK]
          exact ownsRow_only H5.out.2.2.1 ho (fun k hk => H5.out.2.2.2 k hk)
        · rw [← HA.out.1]; exact h6
        · exact (HO3.out.mono (fun k hk => .inr (.inl hk))).tr (ho2.mono (fun k hk => by
            rcases hk with hk | hk
            · exact .inl hk
            · exact .inr (.inr hk))))
      by_cases hKm : K = m
      · have hev : ev = .nilIface := by rw [HEV.out.2]; unfold rfE; rw [if_pos hKm]
        subst hev
        have HAm : Hid (¬ A < m) := Lib.hid (by have := HEV.out.1; omega)
        clear hKm
        go_wp2
        (try simp only [Exit.inBlock, Exit.then])
        refine bodyPost_ret (results_none rfl _ _ _) rfl ?_
        refine HFIN.out w5 ?_ (Only.refl _ _)
        rw [if_neg HAm.out]
        rw [show (cur.set (co + 5) dv').set (co + 6) (.int .i64 fin) = cur.set (co + 5) dv' from set_self _ _ _ (by rw [List.getElem?_set_ne (by omega)]; exact HF.out)]
        exact H5.out.1
      · have HAm : Hid (A < m) := Lib.hid (by have := HEV.out.1; omega)
        have kE := HE5.out.2.e.var
        have kU := HE5.out.2.u.var
        have k6 : w5.cell? ⟨cg, co + 6, none⟩ = some (.int .i64 fin) := H5.out.1.cell (co + 6) (by rw [List.getElem?_set_ne (by omega)]; exact HF.out)
        have f6 : w5.frozen? ⟨cg, co + 6, none⟩ = false := H5.out.1.free (co + 6)
        by_cases hK0 : K = 0
        · have hev : ev = .iface 115 (.pointer (some E)) := by rw [HEV.out.2]; unfold rfE; rw [if_neg hKm, if_pos hK0]
          subst hev
          have q1 := eql_err E w5
          clear hKm hK0
          go_wp2
          (try simp only [Exit.inBlock, Exit.then])
          refine bodyPost_ret (results_none rfl _ _ _) rfl ?_
          refine HFIN.out _ ?_ (Only.setCell (S := fun j => j = cg) _ _ _ rfl)
          rw [if_pos HAm.out]
          exact H5.out.1.set (co + 6) _
        · have hev : ev = .iface 115 (.pointer (some U)) := by rw [HEV.out.2]; unfold rfE; rw [if_neg hKm, if_neg hK0]
          subst hev
          have q1 := eql_err U w5
          have q2 := HE5.out.2.u.eql HE5.out.2.e (by decide)
          clear hKm hK0
          go_wp2
          (try simp only [Exit.inBlock, Exit.then])
          refine bodyPost_ret (results_none rfl _ _ _) rfl ?_
          refine HFIN.out _ ?_ (Only.setCell (S := fun j => j = cg) _ _ _ rfl)
          rw [if_pos HAm.out]
          exact H5.out.1.set (co + 6) _
end Go.Proofs.YthipghkhdlnfiaaDoor
