/- The giver of pieces: one Read of it. -/
import Derived.Test.YthipghkhdlnfiaaDoorOnly
import Derived.Test.YthipghkhdlnfiaaDoorQuietTail
import Derived.Laws.CopyOwn
import Derived.WalkLawsBesides
import Derived.BigQuiet
import Derived.Deep.QuietTactic
import Derived.Deep.Draws
import Derived.Outline
import Derived.Deep.DeepCutAuto
import Derived.Deep.CutRange
import Derived.Deep.CutBlock
import Derived.RegionTactic
namespace Go.Proofs.YthipghkhdlnfiaaDoor
open Go.RowKit
set_option linter.unusedVariables false

theorem splice_splice {α : Type} (L A B : List α) (o : Nat) (h : o + A.length ≤ L.length) : splice (splice L o A) (o + A.length) B = splice L o (A ++ B) := by
  unfold splice
  have e1 : (L.take o ++ (A ++ L.drop (o + A.length))).take (o + A.length) = L.take o ++ A := by
    rw [← List.append_assoc, List.take_append_of_le_length (by simp; omega), List.take_of_length_le (by simp; omega)]
  have e2 : (L.take o ++ (A ++ L.drop (o + A.length))).drop (o + A.length + B.length) = L.drop (o + (A ++ B).length) := by
    rw [← List.append_assoc, List.drop_append, List.drop_of_length_le (by simp; omega), List.nil_append, List.drop_drop]
    congr 1
    simp; omega
  rw [e1, e2, List.append_assoc, List.append_assoc]
theorem splice_nil {α : Type} (L : List α) (o : Nat) : splice L o [] = L := by simp [splice]
def u8s (l : List Int) : List Value := l.map (Value.int .u8)
theorem u8s_one (l : List Int) : ∀ v ∈ u8s l, v.oneCell' = true := by
  intro v hv
  obtain ⟨x, _, rfl⟩ := List.mem_map.1 hv
  rfl
theorem u8s_length (l : List Int) : (u8s l).length = l.length := by simp [u8s]

/-- The law on copy, with what it changes: block g alone. -/
theorem wpList_copy_only {P : Program} {w : World} {ops : Array Oper} {rest : List Oper} {o : Oper} {a : Act} {Q : Exit → Act → World → Prop} (hgd : o.guard = none) (d s : Operand) (dT sT : TypeId)
    (ho : o.op = .call { callee := .builtin .copy, args := #[d, s], argTypes := #[dT, sT] }) (elem : TypeId) (hu : P.underlying dT = some (.slice elem)) (hsz : (P.info? elem).map (·.size) = some 1)
    (g off dLen dCap : Nat) (ad : Addr) (sLen sCap : Nat) (hd : a.eval d = .slice (some ⟨g, off, none⟩) dLen dCap) (hs : a.eval s = .slice (some ad) sLen sCap)
    (cur : List Value) (t : TypeId) (hg : SObj w g t cur) (cs : List Value) (hn : cs.length = Nat.min sLen dLen)
    (hsrc : ∀ j v, cs[j]? = some v → w.cell? (ad.add j) = some v) (hfit : off + cs.length ≤ cur.length) (h1 : ∀ v ∈ cs, v.oneCell' = true)
    (h : ∀ w', Hid (SObj w' g t (splice cur off cs) ∧ Only (fun k => k = g) w w') → wpList P ops Q rest (a.put o.dst (goInt cs.length)) w') :
    wpList P ops Q (o :: rest) a w := by
  refine wpList_copy_own hgd d s dT sT ho elem hu hsz g off dLen dCap ad sLen sCap hd hs cur.toArray t hg cs hn hsrc (by simpa using hfit) h1 ?_
  refine h _ (Lib.hid ⟨?_, ⟨rfl, rfl, rfl, by simp [World.setRow], fun k hk hn => setRow_other w g k _ hn⟩⟩)
  show _ = _
  simpa [splice] using setRow_heap w g _ _ t _ hg

/-- The giver of pieces at block bp: the bytes that are left, in a block below B; the cuts, too. -/
def Pcs (B : Nat) (w : World) (bp : Nat) (ca : Option Addr) (cn cc : Nat) (N : Nat) (rest : List Int) : Prop :=
  ∃ a c, ∃ t : Int, SObj w bp 63 [.slice a rest.length c, .slice ca cn cc, .int .i64 t] ∧ Arg .u8 w a rest.length (fun i => rest.getD i 0) ∧ (0 < rest.length → ∀ p, a = some p → p.block < B) ∧ rest.length ≤ c ∧ c ≤ 9223372036854775807 ∧ 0 ≤ t ∧ t + rest.length ≤ N
/-- What does not change: the cuts, the bounds, the sentinel. -/
structure Gvn (B : Nat) (w : World) (ca : Option Addr) (cn cc N : Nat) (cz : Nat → Int) (E : Addr) : Prop where
  cuts : Arg .i64 w ca cn cz
  cb : 0 < cn → ∀ p, ca = some p → p.block < B
  wf : ∀ i, -9223372036854775808 ≤ cz i ∧ cz i ≤ 9223372036854775807
  cm : cn ≤ 140737488351232
  nm : N ≤ 1099511627776
  eof : w.cell? ⟨0, 0, none⟩ = some (.iface 115 (.pointer (some E)))
  gb : 0 < B
  lt : B ≤ w.heap.size
theorem Gvn.only {B : Nat} {w w' : World} {ca : Option Addr} {cn cc N : Nat} {cz : Nat → Int} {E : Addr} {S : Nat → Prop} (h : Gvn B w ca cn cc N cz E) (ho : Only S w w') (hs : ∀ k, S k → B ≤ k) : Gvn B w' ca cn cc N cz E where
  cuts := h.cuts.only ho (fun h0 p hp hk => by have := h.cb h0 p hp; have := hs _ hk; omega)
  cb := h.cb
  wf := h.wf
  cm := h.cm
  nm := h.nm
  eof := by
    rw [World.cell?_of_block (w := w) (ho.block 0 (Nat.lt_of_lt_of_le h.gb h.lt) (fun hk => by have := hs _ hk; have := h.gb; omega))]
    exact h.eof
  gb := h.gb
  lt := Nat.le_trans h.lt ho.size
/-- What a Read tells, and leaves. -/
def RdP (B : Nat) (w : World) (bp : Nat) (ca : Option Addr) (cn cc N : Nat) (rest : List Int) (pb po : Nat) (T : TypeId) (cur : List Value) (m : Nat) (E : Addr) (e : Ending) (w' : World) : Prop :=
  ∃ k eof, e = .returned (.tuple #[.int .i64 (k : Nat), if eof then .iface 115 (.pointer (some E)) else .nilIface]) ∧ k ≤ m ∧ k ≤ rest.length ∧ (rest.length = 0 → eof = true) ∧ (0 < rest.length → 1 ≤ k) ∧ (eof = true → rest.length - k = 0) ∧
    Pcs B w' bp ca cn cc N (rest.drop k) ∧ SObj w' pb T (splice cur po (u8s (rest.take k))) ∧ Only (fun k => k = pb ∨ k = bp) w w'
set_option maxRecDepth 100000 in
set_option maxHeartbeats 4000000 in
theorem pieces_any (B : Nat) (w : World) (bp : Nat) (ca : Option Addr) (cn cc N : Nat) (cz : Nat → Int) (E : Addr) (rest : List Int) (pb po : Nat) (T : TypeId) (cur : List Value) (m pc : Nat)
    (hg : Gvn B w ca cn cc N cz E) (hp : Pcs B w bp ca cn cc N rest) (hb : SObj w pb T cur) (hB : B ≤ pb) (hBp : B ≤ bp) (hne : pb ≠ bp) (h1 : 1 ≤ m) (hm : po + m ≤ cur.length) (hc : m ≤ pc) (hpc : pc ≤ 140737488351232) :
    Calls Tryd.prog 51 #[.pointer (some ⟨bp, 0, none⟩), .slice (some ⟨pb, po, none⟩) m pc] w (RdP B w bp ca cn cc N rest pb po T cur m E) := by
  obtain ⟨a, c, t, ho, har, hab, hrc, hcm, ht0, htN⟩ := hp
  have nm := hg.nm
  have cm := hg.cm
  have k0 := ho.cell 0 rfl
  have k1 := ho.cell 1 rfl
  have k2 := ho.cell 2 rfl
  have z0 := ho.free 0
  have z2 := ho.free 2
  have H := Lib.hid (And.intro hg (And.intro ho (And.intro har (And.intro hab (And.intro hb (And.intro hB (And.intro hBp hne))))))); clear hg ho har hab hb hB hBp hne
  by_cases hr0 : rest.length = 0
  · have ke := H.out.1.eof
    have H0 := Lib.hid hr0
    rw [hr0] at k0
    go_enter Tryd.func51, Tryd.ntmps51
    go_wp2
    go_quiet (fail)
    go_wp2
    go_ret2
    have H1 : Hid (RdP B w bp ca cn cc N rest pb po T cur m E (.returned (.tuple #[.int .i64 0, .iface 115 (.pointer (some E))])) (w.drewN nq)) := Lib.hid (by
      have hrn : rest = [] := List.eq_nil_of_length_eq_zero H0.out
      subst hrn
      refine ⟨0, true, rfl, by omega, by omega, fun _ => rfl, fun h => absurd h (by simp), fun _ => by simp, ⟨a, c, t, ?_⟩, ?_, Only.drewN _ _ _⟩
      · exact ⟨H.out.2.1.drewN nq, fun h => absurd h (by simp), fun h => absurd h (by simp), by simp, hcm, ht0, htN⟩
      · have := H.out.2.2.2.2.1.drewN nq
        simpa [u8s, splice_nil] using this)
    exact H1.out
  · have hr1 : 0 < rest.length := by omega
    have hre : ((rest.length : Int) == 0) = false := by rw [beq_eq_false_iff_ne]; omega
    obtain ⟨ga, oa, haa, hga, hrow⟩ := H.out.2.2.1 hr1
    subst haa
    go_enter Tryd.func51, Tryd.ntmps51
    go_upto_if 22 with fail
    go_cut [7] from 22 to 45 (fun s7 wx => ∃ cut t' : Int, s7 = .int .i64 cut ∧ -9223372036854775808 ≤ cut ∧ cut ≤ 9223372036854775807 ∧ 0 ≤ t' ∧ 0 ≤ N ∧ t' ≤ 1099511627777 ∧ t' + rest.length ≤ N + 1 ∧ Hid (SObj wx bp 63 [.slice (some ⟨ga, oa, none⟩) rest.length c, .slice ca cn cc, .int .i64 t'] ∧ Only (fun k => k = bp) w wx))
    case first =>
      by_cases hcn : cn = 0
      · obtain rfl := hcn
        go_wp2
        go_meet
        exact ⟨0, t, rfl, by omega, by omega, ht0, by omega, by omega, by omega, H.out.2.1, Only.refl _ _⟩
      · have hcn1 : 0 < cn := by omega
        obtain ⟨gc, oc, hca, hgc, hcr⟩ := H.out.1.cuts hcn1
        subst hca
        have hmod : t % (cn : Int) = ((t.toNat % cn : Nat) : Int) := by
          obtain ⟨q, rfl⟩ := Int.eq_ofNat_of_zero_le ht0
          simp
        have hlt : t.toNat % cn < cn := Nat.mod_lt _ hcn1
        obtain ⟨j, hj⟩ : ∃ j, j = t.toNat % cn := ⟨_, rfl⟩
        rw [← hj] at hmod hlt
        have kc := hcr j hlt
        have wf := H.out.1.wf j
        have hmod2 : t.tmod (cn : Int) = (j : Int) := by rw [Int.tmod_eq_emod_of_nonneg ht0]; exact hmod
        clear hj hcr hcn
        obtain ⟨wf0, wf1⟩ := wf
        go_wp2
        go_quiet (fail)
        go_wp2
        go_meet
        refine ⟨cz j, t + 1, rfl, wf0, wf1, by omega, by omega, by omega, by omega, ?_, ?_⟩
        · exact (H.out.2.1.drewN nq).set 2 _
        · exact (Only.drewN _ w nq).tr (Only.setCell _ _ _ rfl)
    case rest =>
      obtain ⟨cut, t', rfl, cl, ch, t0, N0, t1, tN, HC⟩ := hcut
      clear k0 k1 k2 z0 z2
      go_upto_block 0 with fail
      go_cut [6] from 46 to 63 (fun s6 wx => ∃ n : Nat, s6 = .int .i64 n ∧ 1 ≤ n ∧ n ≤ m ∧ wx = wc)
      case first =>
        by_cases p1 : 0 < cut
        · obtain ⟨q, rfl⟩ := Int.eq_ofNat_of_zero_le (show 0 ≤ cut by omega)
          have pd : decide ((0 : Int) < (q : Int)) = true := decide_eq_true p1
          go_wp2
          all_goals
            go_meet
            first | exact ⟨q, rfl, by omega, by omega, rfl⟩ | exact ⟨m, rfl, by omega, by omega, rfl⟩
        · have pd : decide ((0 : Int) < cut) = false := decide_eq_false p1
          by_cases p2 : cut < 0
          · by_cases p3 : cut = -9223372036854775808
            · subst p3
              have pw : wrap64 9223372036854775808 = -9223372036854775808 := by unfold wrap64; decide
              go_wp2
              all_goals
                go_meet
                exact ⟨m, rfl, by omega, by omega, rfl⟩
            · obtain ⟨q, hq⟩ := Int.eq_ofNat_of_zero_le (show 0 ≤ -cut by omega)
              obtain rfl : cut = -(q : Int) := by omega
              have pe : decide (-(q : Int) < 0) = true := decide_eq_true p2
              have pf : decide ((0 : Int) < (q : Int)) = true := decide_eq_true (by omega)
              clear hq
              go_wp2
              all_goals
                go_meet
                first | exact ⟨q, rfl, by omega, by omega, rfl⟩ | exact ⟨m, rfl, by omega, by omega, rfl⟩
          · obtain rfl : cut = 0 := by omega
            go_wp2
            all_goals
              go_meet
              exact ⟨m, rfl, by omega, by omega, rfl⟩
      case rest =>
        obtain ⟨n, rfl, n1, nm', rfl⟩ := hcut
        obtain ⟨kk, hkk⟩ : ∃ kk, kk = min rest.length n := ⟨_, rfl⟩
        have hk1 : 1 ≤ kk := by omega
        have hk2 : kk ≤ rest.length := by omega
        have hk3 : kk ≤ n := by omega
        have hlen : (u8s (rest.take kk)).length = kk := by rw [u8s_length, List.length_take]; omega
        have kb := HC.out.1.cell 0 rfl
        have HK := Lib.hid (And.intro hkk hlen); clear hkk hlen
        have HP : Hid (SObj wc pb T cur ∧ ∀ j v, (u8s (rest.take kk))[j]? = some v → wc.cell? ((⟨ga, oa, none⟩ : Addr).add j) = some v) := Lib.hid (by
          obtain ⟨e1, e2, e3, e4, e5, e6, e7, e8⟩ := H.out
          refine ⟨e5.only HC.out.2 e8, fun j v hv => ?_⟩
          have hj : j < kk := by have := (List.getElem?_eq_some_iff.1 hv).1; rw [HK.out.2] at this; exact this
          have hlt := e4 hr1 _ rfl
          simp only at hlt
          rw [Addr.add_lit, World.cell?_of_block (w := w) (HC.out.2.block ga hga (by omega)), hrow j (by omega)]
          rw [← hv]
          simp only [u8s, List.getElem?_map, List.getElem?_take, if_pos hj, List.getD, List.getElem?_eq_getElem (show j < rest.length by omega), Option.map_some, Option.getD_some])
        go_wp2_with fail
        refine wp_region_quiet_tail 7 (by kernel_rfl) (by kernel_rfl) ?_
        simp only [List.take_succ_cons, List.take_zero, List.drop_succ_cons, List.drop_zero]
        repeat (go_big_quiet_step (fail))
        refine wpQuiet_nil ?_
        intro wq hwq
        obtain ⟨nq, rfl⟩ := hwq
        generalize hwd : wc.drewN nq = wd
        have HW : Hid (SObj wd bp 63 [.slice (some ⟨ga, oa, none⟩) rest.length c, .slice ca cn cc, .int .i64 t'] ∧ SObj wd pb T cur ∧ (∀ j v, (u8s (rest.take kk))[j]? = some v → wd.cell? ((⟨ga, oa, none⟩ : Addr).add j) = some v) ∧ Only (fun k => k = bp) w wd) := Lib.hid (by
          rw [← hwd]
          exact ⟨HC.out.1.drewN nq, HP.out.1.drewN nq, HP.out.2, HC.out.2.dN nq⟩)
        clear hwd HC HP kb
        have e6 : po + (u8s (rest.take kk)).length ≤ cur.length := by rw [HK.out.2]; omega
        have E6 := Lib.hid e6; clear e6
        have HZ : Hid (∀ w3, SObj w3 pb T (splice cur po (u8s (rest.take kk))) ∧ Only (fun k => k = pb) wd w3 → SObj w3 bp 63 [.slice (some ⟨ga, oa, none⟩) rest.length c, .slice ca cn cc, .int .i64 t']) := Lib.hid (fun w3 h3 => HW.out.1.only h3.2 (fun e => H.out.2.2.2.2.2.2.2 e.symm))
        have HFIN : Hid (∀ w3 (a' : Option Addr) (c' : Nat) (q : Nat) (eof : Bool), SObj w3 pb T (splice cur po (u8s (rest.take kk))) ∧ Only (fun k => k = pb) wd w3 → (kk < rest.length → a' = some ⟨ga, oa + kk, none⟩) → rest.length - kk ≤ c' → c' ≤ 9223372036854775807 → (eof = true → rest.length - kk = 0) →
            RdP B w bp ca cn cc N rest pb po T cur m E (.returned (.tuple #[.int .i64 (kk : Nat), if eof then .iface 115 (.pointer (some E)) else .nilIface])) ((w3.setCell ⟨bp, 0, none⟩ (.slice a' (rest.length - kk) c')).drewN q)) := Lib.hid (fun w3 a' c' q eof h3 ha' hc1 hc2 he => by
          obtain ⟨e1, e2, e3, e4, e5, e6, e7, e8⟩ := H.out
          have hl : (rest.drop kk).length = rest.length - kk := by simp
          have hgB := e4 hr1 _ rfl
          simp only at hgB
          have hon : Only (fun k => k = pb ∨ k = bp) w w3 := (HW.out.2.2.2.mono (fun k hk => Or.inr hk)).tr (h3.2.mono (fun k hk => Or.inl hk))
          have hon2 : Only (fun k => k = pb ∨ k = bp) w ((w3.setCell ⟨bp, 0, none⟩ (.slice a' (rest.length - kk) c')).drewN q) := (hon.tr (Only.setCell _ _ _ (Or.inr rfl))).dN q
          refine ⟨kk, eof, rfl, by omega, hk2, fun h => by omega, fun _ => hk1, he, ⟨a', c', t', ?_, ?_, ?_, by omega, hc2, t0, by omega⟩, ?_, hon2⟩
          · rw [hl]; exact ((HZ.out w3 h3).set 0 _).drewN q
          · intro h0
            rw [hl] at h0
            refine ⟨ga, oa + kk, ha' (by omega), Nat.lt_of_lt_of_le hga hon2.size, ?_⟩
            intro i hi
            rw [hl] at hi
            rw [World.cell?_of_block (w := w) (hon2.block ga hga (by intro h; rcases h with h | h <;> omega)), show oa + kk + i = oa + (kk + i) by omega, hrow (kk + i) (by omega)]
            simp [List.getD, List.getElem?_drop]
          · intro h0 p hp
            rw [hl] at h0
            rw [ha' (by omega)] at hp
            injection hp with hp
            rw [← hp]; exact hgB
          · exact (h3.1.far ⟨bp, 0, none⟩ e8 _).drewN q)
        have ke := (H.out.1.only (HW.out.2.2.2.mono (S' := fun k => B ≤ k) (fun k hk => by rw [hk]; exact H.out.2.2.2.2.2.2.1)) (fun k hk => hk)).eof
        have KE : Hid (∀ w3, SObj w3 pb T (splice cur po (u8s (rest.take kk))) ∧ Only (fun k => k = pb) wd w3 → w3.cell? ⟨0, 0, none⟩ = some (.iface 115 (.pointer (some E)))) := Lib.hid (fun w3 h3 => by
          have gE := ((H.out.1.only (HW.out.2.2.2.mono (S' := fun k => B ≤ k) (fun k hk => by rw [hk]; exact H.out.2.2.2.2.2.2.1)) (fun k hk => hk)).only (h3.2.mono (S' := fun k => B ≤ k) (fun k hk => by rw [hk]; exact H.out.2.2.2.2.2.1)) (fun k hk => hk))
          exact gE.eof)
        clear ke
        have HNB : Hid (0 ≠ bp) := Lib.hid (by have := H.out.1.gb; have := H.out.2.2.2.2.2.2.1; omega)
        by_cases hcap : kk = c
        · have hrk : rest.length - kk = 0 := by omega
          obtain rfl : kk = c := by omega
          have HRK := Lib.hid hrk
          have hen : ((rest.length - kk : Nat) : Int) = 0 := by omega
          clear hcap
          by_cases hcut : cut < 0
          · have hcd : decide (cut < 0) = true := decide_eq_true hcut
            have n0 := HNB.out
            have n0' := HNB.out.symm
            go_wp2_with (first | (refine wpList_copy_only rfl (.tmp 66) (.tmp 70) 22 22 rfl 5 Tryd.underlying22 (by kernel_rfl) pb po n pc ⟨ga, oa, none⟩ rest.length _ rfl rfl cur T HW.out.2.1 (u8s (rest.take kk)) (by rw [HK.out.2]; exact HK.out.1) HW.out.2.2.1 E6.out (u8s_one _) ?_; intro w3 H3; rw [HK.out.2]; have q0 := (HZ.out w3 H3.out).cell 0 rfl; have y0 := (HZ.out w3 H3.out).free 0; have ke3 := KE.out w3 H3.out))
            go_quiet (fail)
            go_wp2
            go_ret2
            have hf := HFIN.out w3 (some ⟨ga, oa, none⟩) 0 nq true H3.out (fun h => absurd h (by have := HRK.out; omega)) (by rw [HRK.out]; omega) (by omega) (fun _ => HRK.out)
            rw [HRK.out] at hf
            exact hf
          · have hcd : decide (cut < 0) = false := decide_eq_false hcut
            go_wp2_with (first | (refine wpList_copy_only rfl (.tmp 66) (.tmp 70) 22 22 rfl 5 Tryd.underlying22 (by kernel_rfl) pb po n pc ⟨ga, oa, none⟩ rest.length _ rfl rfl cur T HW.out.2.1 (u8s (rest.take kk)) (by rw [HK.out.2]; exact HK.out.1) HW.out.2.2.1 E6.out (u8s_one _) ?_; intro w3 H3; rw [HK.out.2]; have q0 := (HZ.out w3 H3.out).cell 0 rfl; have y0 := (HZ.out w3 H3.out).free 0; have ke3 := KE.out w3 H3.out))
            go_ret2
            have hf := HFIN.out w3 (some ⟨ga, oa, none⟩) 0 0 false H3.out (fun h => absurd h (by have := HRK.out; omega)) (by rw [HRK.out]; omega) (by omega) (fun h => by cases h)
            rw [HRK.out] at hf
            exact hf
        · have hcl : kk < c := by omega
          have hcne : ¬ c = kk := by omega
          have hcl2 : decide (kk < c) = true := decide_eq_true hcl
          by_cases hcut : cut < 0
          · have hcd : decide (cut < 0) = true := decide_eq_true hcut
            by_cases hend : rest.length - kk = 0
            · have hen : ((rest.length - kk : Nat) : Int) = 0 := by omega
              have HEN := Lib.hid hend
              have n0 := HNB.out
              have n0' := HNB.out.symm
              go_wp2_with (first | (refine wpList_copy_only rfl (.tmp 66) (.tmp 70) 22 22 rfl 5 Tryd.underlying22 (by kernel_rfl) pb po n pc ⟨ga, oa, none⟩ rest.length _ rfl rfl cur T HW.out.2.1 (u8s (rest.take kk)) (by rw [HK.out.2]; exact HK.out.1) HW.out.2.2.1 E6.out (u8s_one _) ?_; intro w3 H3; rw [HK.out.2]; have q0 := (HZ.out w3 H3.out).cell 0 rfl; have y0 := (HZ.out w3 H3.out).free 0; have ke3 := KE.out w3 H3.out))
              go_quiet (fail)
              go_wp2
              go_ret2
              have e0 : kk = rest.length := by omega
              have hf := HFIN.out w3 (some ⟨ga, oa + kk, none⟩) (c - kk) nq true H3.out (fun h => absurd h (by omega)) (by omega) (by omega) (fun _ => HEN.out)
              rw [HEN.out] at hf
              exact hf
            · have hen : (((rest.length - kk : Nat) : Int) == 0) = false := by rw [beq_eq_false_iff_ne]; omega
              go_wp2_with (first | (refine wpList_copy_only rfl (.tmp 66) (.tmp 70) 22 22 rfl 5 Tryd.underlying22 (by kernel_rfl) pb po n pc ⟨ga, oa, none⟩ rest.length _ rfl rfl cur T HW.out.2.1 (u8s (rest.take kk)) (by rw [HK.out.2]; exact HK.out.1) HW.out.2.2.1 E6.out (u8s_one _) ?_; intro w3 H3; rw [HK.out.2]; have q0 := (HZ.out w3 H3.out).cell 0 rfl; have y0 := (HZ.out w3 H3.out).free 0; have ke3 := KE.out w3 H3.out))
              go_ret2
              exact HFIN.out w3 _ _ 0 false H3.out (fun _ => rfl) (by omega) (by omega) (fun h => by cases h)
          · have hcd : decide (cut < 0) = false := decide_eq_false hcut
            go_wp2_with (first | (refine wpList_copy_only rfl (.tmp 66) (.tmp 70) 22 22 rfl 5 Tryd.underlying22 (by kernel_rfl) pb po n pc ⟨ga, oa, none⟩ rest.length _ rfl rfl cur T HW.out.2.1 (u8s (rest.take kk)) (by rw [HK.out.2]; exact HK.out.1) HW.out.2.2.1 E6.out (u8s_one _) ?_; intro w3 H3; rw [HK.out.2]; have q0 := (HZ.out w3 H3.out).cell 0 rfl; have y0 := (HZ.out w3 H3.out).free 0; have ke3 := KE.out w3 H3.out))
            go_ret2
            exact HFIN.out w3 _ _ 0 false H3.out (fun _ => rfl) (by omega) (by omega) (fun h => by cases h)
end Go.Proofs.YthipghkhdlnfiaaDoor
