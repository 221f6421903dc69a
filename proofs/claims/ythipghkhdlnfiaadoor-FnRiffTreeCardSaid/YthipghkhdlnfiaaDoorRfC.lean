/- io.ReadFull over any of the readers. -/
import Derived.Test.YthipghkhdlnfiaaDoorRfB
import Derived.Deep.LoopGhost
namespace Go.Proofs.YthipghkhdlnfiaaDoor
open Go.RowKit
set_option linter.unusedVariables false

def sE : List UInt8 := [69, 79, 70]
def sU : List UInt8 := [117, 110, 101, 120, 112, 101, 99, 116, 101, 100, 32, 69, 79, 70]
def sM : List UInt8 := [114, 105, 102, 102, 58, 32, 109, 105, 115, 115, 105, 110, 103, 32, 82, 73, 70, 70, 32, 99, 104, 117, 110, 107, 32, 104, 101, 97, 100, 101, 114]
def sS : List UInt8 := [114, 105, 102, 102, 58, 32, 115, 104, 111, 114, 116, 32, 99, 104, 117, 110, 107, 32, 100, 97, 116, 97]
def sL : List UInt8 := [114, 105, 102, 102, 58, 32, 108, 105, 115, 116, 32, 115, 117, 98, 99, 104, 117, 110, 107, 32, 116, 111, 111, 32, 108, 111, 110, 103]
def sP : List UInt8 := [114, 105, 102, 102, 58, 32, 109, 105, 115, 115, 105, 110, 103, 32, 112, 97, 100, 100, 105, 110, 103, 32, 98, 121, 116, 101]
def sH : List UInt8 := [114, 105, 102, 102, 58, 32, 115, 104, 111, 114, 116, 32, 99, 104, 117, 110, 107, 32, 104, 101, 97, 100, 101, 114]
/-- A package-level variable g that holds an error of its own, whose text is s. -/
structure Snt (B : Nat) (w : World) (g : Nat) (a : Addr) (s : List UInt8) : Prop where
  var : w.cell? ⟨g, 0, none⟩ = some (.iface 115 (.pointer (some a)))
  str : ∃ x : ByteArray, w.cell? a = some (.string x) ∧ x.data.toList = s
  blk : ∃ cs t, w.heap[a.block]? = some (.cells cs t (0, 0))
  gb : g < B
  ab : a.block < B
theorem Snt.only {B : Nat} {w w' : World} {g : Nat} {a : Addr} {s : List UInt8} {S : Nat → Prop} (h : Snt B w g a s) (hB : B ≤ w.heap.size) (ho : Only S w w') (hs : ∀ k, S k → B ≤ k) : Snt B w' g a s where
  var := by
    rw [World.cell?_of_block (w := w) (ho.block g (Nat.lt_of_lt_of_le h.gb hB) (fun hk => by have := hs _ hk; have := h.gb; omega))]; exact h.var
  str := by
    rw [World.cell?_of_block (w := w) (ho.block a.block (Nat.lt_of_lt_of_le h.ab hB) (fun hk => by have := hs _ hk; have := h.ab; omega))]; exact h.str
  blk := by
    rw [ho.block a.block (Nat.lt_of_lt_of_le h.ab hB) (fun hk => by have := hs _ hk; have := h.ab; omega)]; exact h.blk
  gb := h.gb
  ab := h.ab
theorem Snt.ne {B : Nat} {w : World} {g g' : Nat} {a a' : Addr} {s s' : List UInt8} (h : Snt B w g a s) (h' : Snt B w g' a' s') (hs : s ≠ s') : a ≠ a' := fun e => by
  obtain ⟨x, h1, h2⟩ := h.str
  obtain ⟨y, h3, h4⟩ := h'.str
  rw [e, h3] at h1
  injection h1 with h1
  injection h1 with h1
  exact hs (by rw [← h2, ← h4, h1])
theorem Snt.other {B : Nat} {w : World} {g g' : Nat} {a a' : Addr} {s s' : List UInt8} (h : Snt B w g a s) (h' : Snt B w g' a' s') (hs : s ≠ s') (d : Nat) : (Op.equalIn (d + 2) 58 (.iface 115 (.pointer (some a))) (.iface 115 (.pointer (some a')))).run Tryd.prog w = .ok false w := by
  obtain ⟨j, hj, hz⟩ := info_some (T := 131) (n := 1) (by kernel_rfl)
  obtain ⟨i, hi, hc⟩ := info_comp (T := 115) (by kernel_rfl)
  obtain ⟨_, _, h1⟩ := h.blk
  obtain ⟨_, _, h2⟩ := h'.blk
  exact run_equalIn_iface_ptr_other w d Tryd.underlying58 Tryd.underlying115 hi hc hj (by omega) (h.ne h' hs) h1 h2
theorem Snt.eql {B : Nat} {w : World} {g g' : Nat} {a a' : Addr} {s s' : List UInt8} (h : Snt B w g a s) (h' : Snt B w g' a' s') (hs : s ≠ s') : (binOp .eql 58 (.iface 115 (.pointer (some a))) (.iface 115 (.pointer (some a')))).run Tryd.prog w = .ok (.bool false) w := eql_of (h.other h' hs)
theorem Snt.neq {B : Nat} {w : World} {g g' : Nat} {a a' : Addr} {s s' : List UInt8} (h : Snt B w g a s) (h' : Snt B w g' a' s') (hs : s ≠ s') : (binOp .neq 58 (.iface 115 (.pointer (some a))) (.iface 115 (.pointer (some a')))).run Tryd.prog w = .ok (.bool true) w := neq_of (h.other h' hs)

/-- The error that ReadFull tells, by how many of m bytes came. -/
def rfE (E U : Addr) (m K : Nat) : Value := if K = m then .nilIface else if K = 0 then .iface 115 (.pointer (some E)) else .iface 115 (.pointer (some U))
def RF (B : Nat) (w : World) (bp : Nat) (ca : Option Addr) (cn cc N : Nat) (Ls : List Lv) (rest : List Int) (pb po : Nat) (T : TypeId) (cur : List Value) (m : Nat) (E U : Addr) (e : Ending) (w' : World) : Prop :=
  ∃ K, K = min m (av Ls rest.length) ∧ e = .returned (.tuple #[.int .i64 (K : Nat), rfE E U m K]) ∧
    Pcs B w' bp ca cn cc N (rest.drop K) ∧ Stk w' B bp (Ls.map (dec K)) ∧ SObj w' pb T (splice cur po (u8s (rest.take K))) ∧ Only (fun j => j = pb ∨ RW bp Ls j) w w'
theorem RW.ge {w : World} {B bp : Nat} {Ls : List Lv} (h : Stk w B bp Ls) (hBp : B ≤ bp) {j : Nat} (hj : RW bp Ls j) : B ≤ j := by
  rcases hj with hj | ⟨M, hM, hj⟩
  · omega
  · rw [hj]; exact (h.ge M hM).1
theorem RW_dec (bp k : Nat) (Ls : List Lv) (j : Nat) : RW bp (Ls.map (dec k)) j ↔ RW bp Ls j := by
  unfold RW
  constructor
  · rintro (h | ⟨L, hL, h⟩)
    · exact .inl h
    · obtain ⟨M, hM, rfl⟩ := List.mem_map.1 hL
      exact .inr ⟨M, hM, h⟩
  · rintro (h | ⟨M, hM, h⟩)
    · exact .inl h
    · exact .inr ⟨dec k M, List.mem_map.2 ⟨M, hM, rfl⟩, h⟩
theorem nil_pieces (x : Addr) (w : World) : (nilAhead 234 61 (.pointer (some x)) "Read").run Tryd.prog w = .ok (some false) w := by kernel_rfl
theorem nil_chunk (x : Addr) (w : World) : (nilAhead 234 87 (.pointer (some x)) "Read").run Tryd.prog w = .ok (some false) w := by kernel_rfl
theorem lv_shape (bp : Nat) (Ls : List Lv) : ∃ TT q F, lvV bp Ls = .iface TT (.pointer (some ⟨q, 0, none⟩)) ∧ rdP bp Ls = .pointer (some ⟨q, 0, none⟩) ∧ rdF Ls = F ∧ (F = 51 ∨ F = 52) ∧
    (∀ w, (method 234 TT (.pointer (some ⟨q, 0, none⟩)) "Read").run Tryd.prog w = .ok (F, .pointer (some ⟨q, 0, none⟩)) w) ∧ ∀ w, (nilAhead 234 TT (.pointer (some ⟨q, 0, none⟩)) "Read").run Tryd.prog w = .ok (some false) w := by
  cases Ls with
  | nil => exact ⟨_, _, _, rfl, rfl, rfl, .inl rfl, meth_pieces _, nil_pieces _⟩
  | cons M Ms => exact ⟨_, _, _, rfl, rfl, rfl, .inr rfl, meth_chunk _, nil_chunk _⟩

set_option maxRecDepth 100000 in
set_option maxHeartbeats 4000000 in
theorem readAtLeast_any (B bp : Nat) (ca : Option Addr) (cn cc N : Nat) (cz : Nat → Int) (E U : Addr) (pb po : Nat) (T : TypeId) (pc : Nat) (hB : B ≤ pb) (hBp : B ≤ bp) (hpc : pc ≤ 140737488351232)
    (Ls : List Lv) (rest : List Int) (cur : List Value) (m : Nat) (w : World) (hg : Gvn B w ca cn cc N cz E) (hu : Snt B w 1 U sU) (hp : Pcs B w bp ca cn cc N rest) (hs : Stk w B bp Ls) (hb : SObj w pb T cur) (ha : Apart pb bp Ls) (h1 : 1 ≤ m) (hm : po + m ≤ cur.length) (hc : m ≤ pc) :
    Calls Tryd.prog 34 #[lvV bp Ls, .slice (some ⟨pb, po, none⟩) m pc, .int .i64 m] w (RF B w bp ca cn cc N Ls rest pb po T cur m E U) := by
  obtain ⟨TT, q, F, hv, hq, hF, hFF, hmeth, hnil⟩ := lv_shape bp Ls
  have hmb : m ≤ 140737488351232 := by omega
  have HI : Hid (∀ (j : Nat) (wr : World), j < m → j ≤ av Ls rest.length → Only (fun j => j = pb ∨ RW bp Ls j) w wr → Pcs B wr bp ca cn cc N (rest.drop j) → Stk wr B bp (Ls.map (dec j)) → SObj wr pb T (splice cur po (u8s (rest.take j))) → Calls Tryd.prog F #[.pointer (some ⟨q, 0, none⟩), .slice (some ⟨pb, po + j, none⟩) (m - j) (pc - j)] wr (RdQ B wr bp ca cn cc N (Ls.map (dec j)) (rest.drop j) pb (po + j) T (splice cur po (u8s (rest.take j))) (m - j) E)) := Lib.hid (fun j wr hj hja ho h2 h3 h4 => by
    have hge : ∀ k, (k = pb ∨ RW bp Ls k) → B ≤ k := fun k hk => by
      rcases hk with hk | hk
      · omega
      · exact RW.ge hs hBp hk
    have hl := av_le Ls rest.length
    have el : (u8s (rest.take j)).length = j := by rw [u8s_length, List.length_take]; omega
    have := read_any B bp ca cn cc N cz E pb (po + j) T (pc - j) hB hBp (by omega) (Ls.map (dec j)) (rest.drop j) (splice cur po (u8s (rest.take j))) (m - j) wr (hg.only ho hge) h2 h3 h4 ⟨ha.1, fun M hM => by
      obtain ⟨M', hM', rfl⟩ := List.mem_map.1 hM
      exact ha.2 M' hM'⟩ (by omega) (by rw [length_splice _ _ _ (by rw [el]; omega)]; omega) (by omega)
    rw [← hF, ← hq]
    cases Ls with
    | nil => exact this
    | cons M Ms => exact this)
  have HGE : Hid (∀ k, (k = pb ∨ RW bp Ls k) → B ≤ k) := Lib.hid (fun k hk => by
      rcases hk with hk | hk
      · omega
      · exact RW.ge hs hBp hk)
  rw [hv]
  have H := Lib.hid (And.intro hg (And.intro hu (And.intro hp (And.intro hs (And.intro hb ha)))))
  clear hg hu hp hs hb ha hv hq hF
  rcases hFF with rfl | rfl
  all_goals
    go_enter Tryd.func34, Tryd.ntmps34
    go_wp2
    have in0 : (0 : Int) ≤ (m : Int) := by omega
    go_loopg [6, 7] (2 * m + 1) (fun g s6 s7 wr => ∃ (j : Nat) (eof : Bool), j ≤ m ∧ j ≤ av Ls rest.length ∧ (eof = true → av Ls rest.length - j = 0) ∧ 2 * (m - j) + (if eof then 0 else 1) ≤ g ∧ s6 = .int .i64 j ∧ s7 = (if eof then .iface 115 (.pointer (some E)) else .nilIface) ∧ Hid (Only (fun j => j = pb ∨ RW bp Ls j) w wr ∧ Pcs B wr bp ca cn cc N (rest.drop j) ∧ Stk wr B bp (Ls.map (dec j)) ∧ SObj wr pb T (splice cur po (u8s (rest.take j)))))
    case atStart =>
      refine ⟨0, false, by omega, by omega, (fun h => by cases h), by simp, rfl, rfl, Only.refl _ _, H.out.2.2.1, ?_, ?_⟩
      · rw [dec_zero]; exact H.out.2.2.2.1
      · simpa [u8s, splice_nil] using H.out.2.2.2.2.1
    case round =>
      obtain ⟨j, eof, hjm, hja, hje, hgk, rfl, rfl, hR⟩ := hrel
      by_cases hlt : j < m
      · cases eof with
        | true =>
          have HL := Lib.hid (And.intro hja (And.intro hje hgk)); clear hja hje hgk
          have gw := H.out.1.only hR.out.1 HGE.out
          have uw := H.out.2.1.only H.out.1.lt hR.out.1 HGE.out
          have kE := gw.eof
          have kU := uw.var
          have HU := Lib.hid (And.intro gw uw); clear gw uw
          have ne := eql_err E
          have ij4 : decide ((j : Int) < (m : Int)) = true := decide_eq_true (by omega)
          have ij5 : decide ((m : Int) ≤ (j : Int)) = false := decide_eq_false (by omega)
          by_cases hj0 : j = 0
          · have HJ := Lib.hid hj0
            have hj1 : decide (0 < j) = false := decide_eq_false (by omega)
            have hj2 : ¬ 0 < j := by omega
            clear hj0
            go_wp2
            go_ret2
            refine ⟨j, by have := HL.out.2.1 (by trivial); have := HL.out.1; omega, ?_, hR.out.2.1, hR.out.2.2.1, hR.out.2.2.2, hR.out.1⟩
            unfold rfE
            rw [if_neg (by omega), if_pos HJ.out]
            rfl
          · have hj1 : decide (0 < j) = true := decide_eq_true (by omega)
            have hj2 : 0 < j := by omega
            have HJ := Lib.hid hj0
            clear hj0
            go_wp2
            go_ret2
            refine ⟨j, by have := HL.out.2.1 (by trivial); have := HL.out.1; omega, ?_, hR.out.2.1, hR.out.2.2.1, hR.out.2.2.2, hR.out.1⟩
            unfold rfE
            rw [if_neg (by omega), if_neg HJ.out]
            rfl
        | false =>
          have ij0 : (0 : Int) ≤ (j : Int) := by omega
          have ij1 : (j : Int) ≤ (m : Int) := by omega
          have ij2 : decide (j < pc) = true := decide_eq_true (by omega)
          have ij3 : ¬ pc = j := by omega
          have ij4 : decide ((j : Int) < (m : Int)) = true := decide_eq_true (by omega)
          have HL := Lib.hid (And.intro hja (And.intro hje hgk)); clear hja hje hgk
          have HC := Lib.hid (HI.out j wr.drew hlt HL.out.1 hR.out.1.dr hR.out.2.1 (hR.out.2.2.1.only (Only.drewN (fun _ => False) wr 1) (fun _ _ => ⟨fun h => h, fun h => h⟩)) hR.out.2.2.2)
          go_wp2_with fail
          go_region_held3 (fun w' => True) (first | trivial) (first | (refine HC.out.mono ?_; rintro _ w2 ⟨k, eof, rfl, hq⟩; obtain ⟨ev, hev⟩ : ∃ v, v = (if eof then .iface 115 (.pointer (some E)) else Value.nilIface) := ⟨_, rfl⟩; rw [← hev]; have HEV := Lib.hid hev; clear hev; have HR := Lib.hid hq; clear hq))
          all_goals
            obtain ⟨hk1, hk2, hk3, hk4, hk5, hk6⟩ := HR.out
            have HR2 := Lib.hid (And.intro hk3 (And.intro hk4 (And.intro hk5 hk6))); clear hk3 hk4 hk5 hk6 hk2
            have ik : (j : Int) + (k : Int) ≤ (m : Int) := by omega
            have ik0 : (0 : Int) ≤ (k : Int) := by omega
            go_wp2
            go_roundg (gk - 1)
            case measure => have := HL.out.2.2; simp at this; omega
            case rel =>
              obtain ⟨l1, l2, l3⟩ := HL.out
              obtain ⟨r1, r2, r3, r4⟩ := HR2.out
              have hk2 := HR.out.2.1
              have ea : av (Ls.map (dec j)) (rest.drop j).length = av Ls rest.length - j := by rw [List.length_drop, av_dec]
              rw [ea] at r1 r2 r3 hk2
              have hl := av_le Ls rest.length
              have el : (u8s (rest.take j)).length = j := by rw [u8s_length, List.length_take]; omega
              refine ⟨j + k, eof, by omega, by omega, fun h => by have := r3 h; omega, ?_, by go_num, HEV.out, ?_, ?_, ?_, ?_⟩
              · simp at l3
                cases eof with
                | true => simp; omega
                | false =>
                  simp
                  have : 0 < av Ls rest.length - j := by
                    refine Nat.pos_of_ne_zero (fun h => ?_)
                    have := r1 h
                    cases this
                  have := r2 this
                  omega
              · refine hR.out.1.tr (Only.tr (Only.drewN _ wr 1) (r4.2.2.2.mono (fun i hi => ?_)))
                rcases hi with hi | hi
                · exact .inl hi
                · exact .inr ((RW_dec bp j Ls i).1 hi)
              · rw [← List.drop_drop]; exact r4.1
              · have := r4.2.1; rwa [dec_dec] at this
              · have := r4.2.2.1
                rw [show po + j = po + (u8s (rest.take j)).length by rw [el], splice_splice _ _ _ _ (by rw [el]; omega)] at this
                rw [List.take_add]
                unfold u8s at this ⊢
                rw [List.map_append]
                exact this
      · obtain rfl : j = m := by omega
        have HL := Lib.hid (And.intro hja (And.intro hje hgk)); clear hja hje hgk
        have ij4 : decide ((j : Int) < (j : Int)) = false := decide_eq_false (by omega)
        cases eof <;>
        · go_wp2
          go_ret2
          refine ⟨j, by have := HL.out.1; omega, ?_, hR.out.2.1, hR.out.2.2.1, hR.out.2.2.2, hR.out.1⟩
          unfold rfE
          rw [if_pos rfl]
          rfl
end Go.Proofs.YthipghkhdlnfiaaDoor
