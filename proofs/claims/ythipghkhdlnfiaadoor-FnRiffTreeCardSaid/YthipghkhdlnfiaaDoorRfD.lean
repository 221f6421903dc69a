/- io.ReadFull; io.Copy into nothing. -/
import Derived.Test.YthipghkhdlnfiaaDoorRfC
import Derived.OwnWalk
import Derived.Stop.Asserts
import Derived.Deep.RegionHeld3
namespace Go.Proofs.YthipghkhdlnfiaaDoor
open Go.RowKit
set_option linter.unusedVariables false

set_option maxRecDepth 100000 in
set_option maxHeartbeats 4000000 in
theorem readFull_any (B bp : Nat) (ca : Option Addr) (cn cc N : Nat) (cz : Nat → Int) (E U : Addr) (pb po : Nat) (T : TypeId) (pc : Nat) (hB : B ≤ pb) (hBp : B ≤ bp) (hpc : pc ≤ 140737488351232)
    (Ls : List Lv) (rest : List Int) (cur : List Value) (m : Nat) (w : World) (hg : Gvn B w ca cn cc N cz E) (hu : Snt B w 1 U sU) (hp : Pcs B w bp ca cn cc N rest) (hs : Stk w B bp Ls) (hb : SObj w pb T cur) (ha : Apart pb bp Ls) (h1 : 1 ≤ m) (hm : po + m ≤ cur.length) (hc : m ≤ pc) :
    Calls Tryd.prog 30 #[lvV bp Ls, .slice (some ⟨pb, po, none⟩) m pc] w (RF B w bp ca cn cc N Ls rest pb po T cur m E U) := by
  have HC := Lib.hid (readAtLeast_any B bp ca cn cc N cz E U pb po T pc hB hBp hpc Ls rest cur m w hg hu hp hs hb ha h1 hm hc)
  clear hg hu hp hs hb ha
  obtain ⟨V, hV⟩ : ∃ V, V = lvV bp Ls := ⟨_, rfl⟩
  rw [← hV] at HC ⊢
  clear hV
  go_enter Tryd.func30, Tryd.ntmps30
  go_wp2_with fail
  refine HC.out.mono ?_
  rintro _ w2 ⟨K, hK, rfl, h2⟩
  obtain ⟨ev, hev⟩ : ∃ v, v = rfE E U m K := ⟨_, rfl⟩
  rw [← hev]
  have H2 := Lib.hid (And.intro hK (And.intro hev h2)); clear hK hev h2 HC
  go_wp2
  go_ret2
  exact ⟨K, H2.out.1, by rw [← H2.out.2.1]; rfl, H2.out.2.2⟩

theorem write_any (a : Option Addr) (n c : Nat) (w : World) : Calls Tryd.prog 53 #[.agg #[], .slice a n c] w fun e w' => e = .returned (.tuple #[.int .i64 n, .nilIface]) ∧ Below w.heap.size w w' := by
  go_enter Tryd.func53, Tryd.ntmps53
  go_wp2
  go_ret2
  exact ⟨rfl, (Below.refl _ _).alloc (Nat.le_refl _) _⟩
theorem ta_writerTo (x : Addr) (w : World) : (Instr.typeAssert (.iface 87 (.pointer (some x))) 67 104 true).run Tryd.prog w = .ok (.tuple #[.nilIface, .bool false]) w := run_typeAssert_lacksB Tryd.underlying104 (by kernel_rfl) (by kernel_rfl) _ _ w
theorem ta_readerFrom (w : World) : (Instr.typeAssert (.iface 93 (.agg #[])) 100 108 true).run Tryd.prog w = .ok (.tuple #[.nilIface, .bool false]) w := run_typeAssert_lacksB Tryd.underlying108 (by kernel_rfl) (by kernel_rfl) _ _ w
theorem nil_nil (w : World) : (binOp .eql 22 (.slice none 0 0) (.slice none 0 0)).run Tryd.prog w = .ok (.bool true) w := by kernel_rfl
theorem ta_limited (x : Addr) (w : World) : (Instr.typeAssert (.iface 87 (.pointer (some x))) 67 111 true).run Tryd.prog w = .ok (.tuple #[.pointer none, .bool false]) w := by kernel_rfl
theorem meth_write (w : World) : (method 234 93 (.agg #[]) "Write").run Tryd.prog w = .ok (53, .agg #[]) w := by kernel_rfl
theorem nil_write (w : World) : (nilAhead 234 93 (.agg #[]) "Write").run Tryd.prog w = .ok (some false) w := by kernel_rfl

theorem below_undrew {w w3 : World} (h : Below w.drew.heap.size w.drew w3) : Below w.heap.size w w3 := ⟨h.os, h.tape, h.output, h.size, h.block⟩
theorem row_obj {w : World} {B g n c : Nat} {e : TypeId} {xs : List Value} (h : w.ownsRow B e 1 (.slice (some ⟨g, 0, none⟩) n c) n xs) : ∃ cur, SObj w g e cur ∧ cur.length = c ∧ cur.take n = xs ∧ B ≤ g := by
  obtain ⟨h1, h2⟩ := h
  rcases h2 with ⟨h2, _⟩ | ⟨g', cap, cur, h2, hb, hg, hn, hc, hs, ht⟩
  · cases h2
  · injection h2 with e1 e2 e3
    injection e1 with e1
    injection e1 with e1
    subst e1 e3
    exact ⟨cur.toList, by simpa [SObj] using hg, by simpa using hs, by simpa using ht, hb⟩
/-- What a copy to the end of a chunk tells, and leaves. -/
def CpP (B : Nat) (w : World) (bp : Nat) (ca : Option Addr) (cn cc N : Nat) (Ls : List Lv) (rest : List Int) (e : Ending) (w' : World) : Prop :=
  e = .returned (.tuple #[.int .i64 (av Ls rest.length : Nat), .nilIface]) ∧ Pcs B w' bp ca cn cc N (rest.drop (av Ls rest.length)) ∧ Stk w' B bp (Ls.map (dec (av Ls rest.length))) ∧ Only (RW bp Ls) w w'

set_option maxRecDepth 100000 in
set_option maxHeartbeats 4000000 in
theorem copyBuffer_any (B bp : Nat) (ca : Option Addr) (cn cc N : Nat) (cz : Nat → Int) (E : Addr) (hBp : B ≤ bp)
    (L : Lv) (Ls : List Lv) (rest : List Int) (w : World) (hg : Gvn B w ca cn cc N cz E) (hp : Pcs B w bp ca cn cc N rest) (hs : Stk w B bp (L :: Ls)) (hr : rest.length ≤ 1099511627776) :
    Calls Tryd.prog 35 #[.iface 93 (.agg #[]), .iface 87 (.pointer (some ⟨L.c, 0, none⟩)), .slice none 0 0] w (CpP B w bp ca cn cc N (L :: Ls) rest) := by
  obtain ⟨q, hq⟩ : ∃ q, q = L.c := ⟨_, rfl⟩
  rw [← hq]
  have H := Lib.hid (And.intro hg (And.intro hp (And.intro hs hq))); clear hg hp hs hq
  have t1 := ta_writerTo ⟨q, 0, none⟩
  have t2 := ta_readerFrom
  have t3 := ta_limited ⟨q, 0, none⟩
  have t4 := nil_nil
  go_enter Tryd.func35, Tryd.ntmps35
  go_upto_region 14 with fail
  clear t1 t2 t3 t4
  obtain ⟨sz, hsz⟩ : ∃ sz : Nat, sz = 32768 := ⟨_, rfl⟩
  rw [show (32768 : Int) = (sz : Int) by omega]
  have sz0 : 1 ≤ sz := by omega
  have sz1 : sz ≤ 140737488351232 := by omega
  have sz2 : (0 : Int) ≤ (sz : Int) := by omega
  clear hsz
  obtain ⟨i0, hi, hz0, hz1, hz2⟩ := info_parts (show (Tryd.prog.info? 5).map (fun i => (i.zero, i.size, i.bytes)) = some (some (.int .u8 0), 1, 1) by kernel_rfl)
  go_wp2_with (first | (refine wpList_make_full w rfl (.tmp 66) (.tmp 66) 22 rfl w.heap.size 5 i0 (.int .u8 0) 1 Tryd.underlying22 hi hz0 hz1 .i64 .i64 sz sz sz rfl rfl rfl rfl (by rw [hz2]; omega) (by unfold maxLen; omega) (Nat.le_refl _) ?_; intro w1 hown hgr))
  obtain ⟨pb, hpb⟩ : ∃ x, x = w.heap.size := ⟨_, rfl⟩
  rw [← hpb] at hown ⊢
  obtain ⟨cur0, ho0, hl0, _, _⟩ := row_obj hown
  have hB := H.out.1.lt
  have H1 : Hid (Only (fun _ => False) w w1 ∧ SObj w1 pb 5 cur0 ∧ cur0.length = sz ∧ B ≤ pb ∧ pb = w.heap.size) := Lib.hid ⟨Only.of_grown hgr (fun k hk => by cases hk), ho0, hl0, by omega, hpb⟩
  clear hown hgr ho0 hl0 hpb hi hz0 hz1 hz2
  obtain ⟨A, hA⟩ : ∃ A, A = av (L :: Ls) rest.length := ⟨_, rfl⟩
  have hAr : A ≤ rest.length := by rw [hA]; exact av_le _ _
  have HA := Lib.hid hA; clear hA
  have HAP : Hid (Apart pb bp (L :: Ls)) := Lib.hid (by
    have e := H1.out.2.2.2.2
    refine ⟨?_, fun M hM => ?_⟩
    · obtain ⟨_, _, _, o, _⟩ := H.out.2.1
      have := SObj.lt o; omega
    · have g := H.out.2.2.1.ge M hM
      obtain ⟨c1, f1, g1⟩ := g.2.2.1
      obtain ⟨c2, f2, g2⟩ := g.2.2.2
      have h1 := (Array.getElem?_eq_some_iff.1 g1).1
      have h2 := (Array.getElem?_eq_some_iff.1 g2).1
      omega)
  have HI : Hid (∀ (j : Nat) (wr : World) (cur : List Value), j ≤ A → Only (fun i => i = pb ∨ RW bp (L :: Ls) i) w wr → Pcs B wr bp ca cn cc N (rest.drop j) → Stk wr B bp ((L :: Ls).map (dec j)) → SObj wr pb 5 cur → cur.length = sz → Calls Tryd.prog 52 #[.pointer (some ⟨q, 0, none⟩), .slice (some ⟨pb, 0, none⟩) sz sz] wr (RdQ B wr bp ca cn cc N ((L :: Ls).map (dec j)) (rest.drop j) pb 0 5 cur sz E)) := Lib.hid (fun j wr cur hj ho h2 h3 h4 h5 => by
    have hge : ∀ k, (k = pb ∨ RW bp (L :: Ls) k) → B ≤ k := fun k hk => by
      rcases hk with hk | hk
      · have := H1.out.2.2.2.1; omega
      · exact RW.ge H.out.2.2.1 hBp hk
    have := read_any B bp ca cn cc N cz E pb 0 5 sz H1.out.2.2.2.1 hBp sz1 ((L :: Ls).map (dec j)) (rest.drop j) cur sz wr (H.out.1.only ho hge) h2 h3 h4 ⟨HAP.out.1, fun M hM => by
      obtain ⟨M', hM', rfl⟩ := List.mem_map.1 hM
      exact HAP.out.2 M' hM'⟩ sz0 (by omega) (Nat.le_refl _)
    rw [H.out.2.2.2]
    exact this)
  have m1 := meth_chunk ⟨q, 0, none⟩
  have m2 := meth_write
  have m3 := nil_write
  go_loopg [6, 7] (A + 1) (fun g s6 s7 wr => ∃ j : Nat, j ≤ A ∧ A - j + 1 ≤ g ∧ s6 = .int .i64 j ∧ s7 = .nilIface ∧ Hid (Only (fun i => i = pb ∨ RW bp (L :: Ls) i) w wr ∧ Pcs B wr bp ca cn cc N (rest.drop j) ∧ Stk wr B bp ((L :: Ls).map (dec j)) ∧ ∃ cur, SObj wr pb 5 cur ∧ cur.length = sz))
  case atStart =>
    refine ⟨0, by omega, by omega, rfl, rfl, H1.out.1.mono (fun k hk => hk.elim), ?_, ?_, cur0, H1.out.2.1, H1.out.2.2.1⟩
    · obtain ⟨a, c, t, o, p1, p2, p3⟩ := H.out.2.1
      exact ⟨a, c, t, o.only H1.out.1 (fun h => h), p1.only H1.out.1 (fun _ _ _ h => h), p2, p3⟩
    · rw [dec_zero]; exact H.out.2.2.1.only H1.out.1 (fun _ _ => ⟨fun h => h, fun h => h⟩)
  case round =>
    obtain ⟨j, hjA, hgk, rfl, rfl, hR⟩ := hrel
    obtain ⟨cur, hcur⟩ := hR.out.2.2.2
    have HC := Lib.hid (HI.out j wr cur hjA hR.out.1 hR.out.2.1 hR.out.2.2.1 hcur.1 hcur.2)
    have HCU := Lib.hid hcur; clear hcur
    go_wp2_with fail
    refine HC.out.mono ?_
    rintro _ w2 ⟨k, eof, rfl, hq⟩
    obtain ⟨ev, hev⟩ : ∃ v, v = (if eof then .iface 115 (.pointer (some E)) else Value.nilIface) := ⟨_, rfl⟩
    rw [← hev]
    have HEV := Lib.hid hev; clear hev
    have HR := Lib.hid hq; clear hq
    have ea : Hid (av ((L :: Ls).map (dec j)) (rest.drop j).length = A - j) := Lib.hid (by rw [List.length_drop, av_dec, HA.out])
    have hk1 : k ≤ sz := HR.out.1
    have hk2 : k ≤ A - j := by rw [← ea.out]; exact HR.out.2.1
    have ik0 : (0 : Int) ≤ (k : Int) := by omega
    have ik1 : (k : Int) ≤ (sz : Int) := by omega
    have ik2 : (j : Int) + (k : Int) ≤ 1099511627776 := by omega
    have ik3 : (0 : Int) ≤ (j : Int) := by omega
    have HN : Hid (Only (fun i => i = pb ∨ RW bp (L :: Ls) i) w w2 ∧ Pcs B w2 bp ca cn cc N (rest.drop (j + k)) ∧ Stk w2 B bp ((L :: Ls).map (dec (j + k))) ∧ ∃ cur, SObj w2 pb 5 cur ∧ cur.length = sz) := Lib.hid (by
      obtain ⟨r1, r2, r3, r4, r5, r6, r7, r8, r9⟩ := HR.out
      have hl : (u8s ((rest.drop j).take k)).length ≤ k := by rw [u8s_length, List.length_take]; omega
      refine ⟨hR.out.1.tr (r9.mono (fun i hi => ?_)), by rw [← List.drop_drop]; exact r6, by rw [← dec_dec]; exact r7, _, r8, ?_⟩
      · rcases hi with hi | hi
        · exact .inl hi
        · exact .inr ((RW_dec bp j (L :: Ls) i).1 hi)
      · rw [length_splice _ _ _ (by have := HCU.out.2; omega)]; exact HCU.out.2)
    have HX : Hid (∀ w3, Below w2.heap.size w2 w3 → Only (fun i => i = pb ∨ RW bp (L :: Ls) i) w w3 ∧ Pcs B w3 bp ca cn cc N (rest.drop (j + k)) ∧ Stk w3 B bp ((L :: Ls).map (dec (j + k))) ∧ ∃ cur, SObj w3 pb 5 cur ∧ cur.length = sz) := Lib.hid (fun w3 hb => by
      obtain ⟨n1, ⟨a, c, t, o, p1, p2, p3⟩, n3, cur', n4, n5⟩ := HN.out
      have ho : Only (fun _ => False) w2 w3 := Only.of_below hb
      exact ⟨n1.tr (ho.mono (fun _ h => h.elim)), ⟨a, c, t, o.only ho (fun h => h), p1.only ho (fun _ _ _ h => h), p2, p3⟩, n3.only ho (fun _ _ => ⟨fun h => h, fun h => h⟩), cur', n4.only ho (fun h => h), n5⟩)
    have HFIN : Hid (∀ w3, j + k = A → Below w2.heap.size w2 w3 → CpP B w bp ca cn cc N (L :: Ls) rest (.returned (.tuple #[.int .i64 ((j + k : Nat) : Int), .nilIface])) w3) := Lib.hid (fun w3 e hb => by
      obtain ⟨n1, n2, n3, _⟩ := HX.out w3 hb
      rw [e] at n2 n3 ⊢
      rw [HA.out] at n2 n3 ⊢
      refine ⟨rfl, n2, n3, ⟨n1.os, n1.tape, n1.output, n1.size, fun i hi hn => n1.block i hi (fun h => ?_)⟩⟩
      rcases h with h | h
      · have := H1.out.2.2.2.2; omega
      · exact hn h)
    have ke2 : Hid (∀ w3, Below w2.heap.size w2 w3 → w3.cell? ⟨0, 0, none⟩ = some (.iface 115 (.pointer (some E)))) := Lib.hid (fun w3 hb => by
      exact (H.out.1.only (HX.out w3 hb).1 (fun i hi => by
        rcases hi with hi | hi
        · have := H1.out.2.2.2.1; omega
        · exact RW.ge H.out.2.2.1 hBp hi)).eof)
    have HG := Lib.hid hgk; clear hgk
    have ejk : Hid (((j + k : Nat) : Int) = (j : Int) + k) := Lib.hid (by omega)
    by_cases hk0 : k = 0
    · have he : eof = true := by
        cases eof with
        | true => rfl
        | false =>
          have := HR.out.2.2.2.1
          rw [ea.out] at this
          by_cases h0 : A - j = 0
          · have := HR.out.2.2.1
            rw [ea.out] at this
            exact this h0
          · exact absurd (this (by omega)) (by omega)
      subst he
      have hev : ev = .iface 115 (.pointer (some E)) := HEV.out
      subst hev
      have e5 := HR.out.2.2.2.2.1 rfl
      rw [ea.out] at e5
      have hjk : j + k = A := by omega
      have HJ := Lib.hid (And.intro hk0 hjk)
      have nk : ¬ 0 < k := by omega
      have nn := neq_err E
      have kE := ke2.out w2 (Below.refl _ _)
      clear hjk e5 hk0
      go_wp2
      go_ret2
      have := HFIN.out w2 HJ.out.2 (Below.refl _ _)
      rw [HJ.out.1, Nat.add_zero] at this
      exact this
    · have pk : 0 < k := by omega
      have nn0 := neq_err E
      have nn1 := neq_left 115 (.pointer (some E))
      cases eof with
      | true =>
        have hev : ev = .iface 115 (.pointer (some E)) := HEV.out
        subst hev
        have e5 := HR.out.2.2.2.2.1 rfl
        rw [ea.out] at e5
        have HJ : Hid (j + k = A) := Lib.hid (by omega)
        clear e5
        go_upto_region 17 with fail
        go_region_held3 (fun w' => True) (first | trivial) (first | (go_at_call 53; refine (write_any _ _ _ _).mono ?_; rintro _ w3 ⟨rfl, hb⟩; have HW3 := Lib.hid (below_undrew hb); clear hb))
        all_goals
          have kE := ke2.out w3 HW3.out
          go_wp2
          go_ret2
          have := HFIN.out w3 HJ.out HW3.out
          rw [ejk.out] at this
          exact this
      | false =>
        have hev : ev = .nilIface := HEV.out
        subst hev
        go_upto_region 17 with fail
        go_region_held3 (fun w' => True) (first | trivial) (first | (go_at_call 53; refine (write_any _ _ _ _).mono ?_; rintro _ w3 ⟨rfl, hb⟩; have HW3 := Lib.hid (below_undrew hb); clear hb))
        all_goals
          go_wp2
          go_roundg (gk - 1)
          case measure => have := HG.out; omega
          case rel => exact ⟨j + k, by omega, by have := HG.out; omega, by rw [ejk.out], rfl, HX.out w3 HW3.out⟩
end Go.Proofs.YthipghkhdlnfiaaDoor
