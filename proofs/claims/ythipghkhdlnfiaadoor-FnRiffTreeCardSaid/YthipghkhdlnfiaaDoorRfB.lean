/- Reading through chunks within chunks: any Read. -/
import Derived.Test.YthipghkhdlnfiaaDoorRfA
import Derived.Deep.RegionHeld3
import Derived.LaidEqlPtr
namespace Go.Proofs.YthipghkhdlnfiaaDoor
open Go.RowKit
set_option linter.unusedVariables false

theorem info_some {T : TypeId} {n : Nat} (h : (Tryd.prog.info? T).map (·.size) = some n) : ∃ j, Tryd.prog.info? T = some j ∧ j.size = n := by
  cases e : Tryd.prog.info? T with
  | none => rw [e] at h; cases h
  | some j => rw [e] at h; exact ⟨j, rfl, by simpa using h⟩
theorem info_comp {T : TypeId} (h : (Tryd.prog.info? T).map (·.comparable) = some true) : ∃ j, Tryd.prog.info? T = some j ∧ j.comparable = true := by
  cases e : Tryd.prog.info? T with
  | none => rw [e] at h; cases h
  | some j => rw [e] at h; exact ⟨j, rfl, by simpa using h⟩
/-- How pointers and errors are compared. -/
theorem neq_chunk (a : Addr) (w : World) : (binOp .neq 87 (.pointer (some a)) (.pointer (some a))).run Tryd.prog w = .ok (.bool false) w := by
  obtain ⟨j, hj, _⟩ := info_some (T := 95) (n := 1) (by kernel_rfl)
  have h : ∀ d : Nat, (Op.equalIn (d + 1) 87 (.pointer (some a)) (.pointer (some a))).run Tryd.prog w = .ok true w := fun d => by
    simp [Op.equalIn, run_underlying Tryd.underlying87, sizeOf, typeInfo, hj, run_sameAddr_same]
  simp only [binOp]
  simp [Op.equal, Op.maxDepth, h 9999]
theorem err_same (a : Addr) (w : World) (d : Nat) : (Op.equalIn (d + 2) 58 (.iface 115 (.pointer (some a))) (.iface 115 (.pointer (some a)))).run Tryd.prog w = .ok true w := by
  obtain ⟨j, hj, _⟩ := info_some (T := 131) (n := 1) (by kernel_rfl)
  obtain ⟨i, hi, hc⟩ := info_comp (T := 115) (by kernel_rfl)
  exact run_equalIn_iface_ptr_same w d a Tryd.underlying58 Tryd.underlying115 hi hc hj
theorem err_other {a b : Addr} {va vb : List Value} {w : World} (ha : SObj w a.block 131 va) (hb : SObj w b.block 131 vb) (hne : a ≠ b) (d : Nat) : (Op.equalIn (d + 2) 58 (.iface 115 (.pointer (some a))) (.iface 115 (.pointer (some b)))).run Tryd.prog w = .ok false w := by
  obtain ⟨j, hj, hs⟩ := info_some (T := 131) (n := 1) (by kernel_rfl)
  obtain ⟨i, hi, hc⟩ := info_comp (T := 115) (by kernel_rfl)
  exact run_equalIn_iface_ptr_other w d Tryd.underlying58 Tryd.underlying115 hi hc hj (by omega) hne ha hb
theorem eql_of {T T' : TypeId} {x y : Value} {w : World} {b : Bool} (h : ∀ d, (Op.equalIn (d + 2) 58 (.iface T x) (.iface T' y)).run Tryd.prog w = .ok b w) : (binOp .eql 58 (.iface T x) (.iface T' y)).run Tryd.prog w = .ok (.bool b) w := by
  simp only [binOp]
  simp [Op.equal, Op.maxDepth, h 9998]
theorem neq_of {T T' : TypeId} {x y : Value} {w : World} {b : Bool} (h : ∀ d, (Op.equalIn (d + 2) 58 (.iface T x) (.iface T' y)).run Tryd.prog w = .ok b w) : (binOp .neq 58 (.iface T x) (.iface T' y)).run Tryd.prog w = .ok (.bool (!b)) w := by
  simp only [binOp]
  simp [Op.equal, Op.maxDepth, h 9998]
theorem eql_err (a : Addr) (w : World) : (binOp .eql 58 (.iface 115 (.pointer (some a))) (.iface 115 (.pointer (some a)))).run Tryd.prog w = .ok (.bool true) w := eql_of (err_same a w)
theorem neq_err (a : Addr) (w : World) : (binOp .neq 58 (.iface 115 (.pointer (some a))) (.iface 115 (.pointer (some a)))).run Tryd.prog w = .ok (.bool false) w := neq_of (err_same a w)
theorem eql_left (T : TypeId) (v : Value) (w : World) : (binOp .eql 58 .nilIface (.iface T v)).run Tryd.prog w = .ok (.bool false) w := run_eql_iface_nil_left w T v Tryd.underlying58
theorem neq_left (T : TypeId) (v : Value) (w : World) : (binOp .neq 58 .nilIface (.iface T v)).run Tryd.prog w = .ok (.bool true) w := by
  have h : ∀ d : Nat, (Op.equalIn (d + 1) 58 .nilIface (.iface T v)).run Tryd.prog w = .ok false w := fun d => by simp [Op.equalIn, run_underlying Tryd.underlying58]
  simp only [binOp]
  simp [Op.equal, Op.maxDepth, h 9999]
/-- A reader of chunks (block z) and its chunk at hand (block c): what is told of both. -/
structure Lv where
  z : Nat
  c : Nat
  tot : Nat
  chk : Nat
  pad : Bool
def lvV (bp : Nat) : List Lv → Value
  | [] => .iface 61 (.pointer (some ⟨bp, 0, none⟩))
  | L :: _ => .iface 87 (.pointer (some ⟨L.c, 0, none⟩))
def zC (v err : Value) (tot chk : Nat) (cr : Value) (buf : List Value) (pad : Bool) : List Value := [v, err, .int .u32 tot, .int .u32 chk, cr] ++ buf ++ [.bool pad]
def Stk (w : World) (B bp : Nat) : List Lv → Prop
  | [] => True
  | L :: Ls => (∃ buf : List Value, buf.length = 8 ∧ SObj w L.z 89 (zC (lvV bp Ls) .nilIface L.tot L.chk (.pointer (some ⟨L.c, 0, none⟩)) buf L.pad)) ∧ SObj w L.c 95 [.pointer (some ⟨L.z, 0, none⟩)] ∧ L.chk ≤ L.tot ∧ L.tot < 4294967296 ∧ B ≤ L.z ∧ B ≤ L.c ∧ (∀ M ∈ Ls, M.z ≠ L.z) ∧ Stk w B bp Ls
def av : List Lv → Nat → Nat
  | [], n => n
  | L :: Ls, n => min L.chk (av Ls n)
def dec (k : Nat) (L : Lv) : Lv := { L with tot := L.tot - k, chk := L.chk - k }
theorem av_le : ∀ (Ls : List Lv) (n : Nat), av Ls n ≤ n
  | [], n => Nat.le_refl _
  | L :: Ls, n => Nat.le_trans (Nat.min_le_right _ _) (av_le Ls n)
theorem av_dec (k : Nat) : ∀ (Ls : List Lv) (n : Nat), av (Ls.map (dec k)) (n - k) = av Ls n - k
  | [], n => rfl
  | L :: Ls, n => by
    show min (L.chk - k) (av (Ls.map (dec k)) (n - k)) = min L.chk (av Ls n) - k
    rw [av_dec k Ls n]; omega
theorem dec_dec (a b : Nat) (Ls : List Lv) : (Ls.map (dec a)).map (dec b) = Ls.map (dec (a + b)) := by
  rw [List.map_map]
  refine List.map_congr_left (fun L _ => ?_)
  simp only [Function.comp, dec, Nat.sub_sub]
theorem dec_zero (Ls : List Lv) : Ls.map (dec 0) = Ls := by
  have : dec 0 = id := by funext L; rfl
  rw [this, List.map_id]
theorem lvV_dec (bp k : Nat) : ∀ Ls : List Lv, lvV bp (Ls.map (dec k)) = lvV bp Ls
  | [] => rfl
  | _ :: _ => rfl
theorem Stk.only {S : Nat → Prop} {w w' : World} {B bp : Nat} : ∀ {Ls : List Lv}, Stk w B bp Ls → Only S w w' → (∀ L ∈ Ls, ¬ S L.z ∧ ¬ S L.c) → Stk w' B bp Ls
  | [], _, _, _ => trivial
  | L :: Ls, h, ho, hn => by
    obtain ⟨⟨buf, hb, h1⟩, h2, h3, h4, h5, h6, h7, h8⟩ := h
    have e := hn L (by simp)
    exact ⟨⟨buf, hb, h1.only ho e.1⟩, h2.only ho e.2, h3, h4, h5, h6, h7, h8.only ho (fun M hM => hn M (by simp [hM]))⟩
theorem Stk.ge {w : World} {B bp : Nat} : ∀ {Ls : List Lv}, Stk w B bp Ls → ∀ L ∈ Ls, B ≤ L.z ∧ B ≤ L.c ∧ OfTy w 89 L.z ∧ OfTy w 95 L.c
  | [], _, L, hL => by cases hL
  | L :: Ls, h, M, hM => by
    obtain ⟨⟨buf, hb, h1⟩, h2, h3, h4, h5, h6, h7, h8⟩ := h
    rcases List.mem_cons.1 hM with rfl | hM
    · exact ⟨h5, h6, h1.ty, h2.ty⟩
    · exact h8.ge M hM
/-- The blocks that a Read writes: those of the readers below, of the giver of pieces. -/
def RW (bp : Nat) (Ls : List Lv) (k : Nat) : Prop := k = bp ∨ ∃ L ∈ Ls, k = L.z
/-- A Read's target lies in no block of the readers. -/
def Apart (pb bp : Nat) (Ls : List Lv) : Prop := pb ≠ bp ∧ ∀ L ∈ Ls, pb ≠ L.z ∧ pb ≠ L.c
def RdQ (B : Nat) (w : World) (bp : Nat) (ca : Option Addr) (cn cc N : Nat) (Ls : List Lv) (rest : List Int) (pb po : Nat) (T : TypeId) (cur : List Value) (m : Nat) (E : Addr) (e : Ending) (w' : World) : Prop :=
  ∃ k eof, e = .returned (.tuple #[.int .i64 (k : Nat), if eof then .iface 115 (.pointer (some E)) else .nilIface]) ∧ k ≤ m ∧ k ≤ av Ls rest.length ∧ (av Ls rest.length = 0 → eof = true) ∧ (0 < av Ls rest.length → 1 ≤ k) ∧ (eof = true → av Ls rest.length - k = 0) ∧
    Pcs B w' bp ca cn cc N (rest.drop k) ∧ Stk w' B bp (Ls.map (dec k)) ∧ SObj w' pb T (splice cur po (u8s (rest.take k))) ∧ Only (fun j => j = pb ∨ RW bp Ls j) w w'
def rdF : List Lv → Nat
  | [] => 51
  | _ :: _ => 52
def rdP (bp : Nat) : List Lv → Value
  | [] => .pointer (some ⟨bp, 0, none⟩)
  | L :: _ => .pointer (some ⟨L.c, 0, none⟩)

theorem meth_pieces (x : Addr) (w : World) : (method 234 61 (.pointer (some x)) "Read").run Tryd.prog w = .ok (51, .pointer (some x)) w := by kernel_rfl
theorem meth_chunk (x : Addr) (w : World) : (method 234 87 (.pointer (some x)) "Read").run Tryd.prog w = .ok (52, .pointer (some x)) w := by kernel_rfl

set_option maxRecDepth 100000 in
set_option maxHeartbeats 4000000 in
theorem read_any (B bp : Nat) (ca : Option Addr) (cn cc N : Nat) (cz : Nat → Int) (E : Addr) (pb po : Nat) (T : TypeId) (pc : Nat) (hB : B ≤ pb) (hBp : B ≤ bp) (hpc : pc ≤ 140737488351232) :
    ∀ (Ls : List Lv) (rest : List Int) (cur : List Value) (m : Nat) (w : World), Gvn B w ca cn cc N cz E → Pcs B w bp ca cn cc N rest → Stk w B bp Ls → SObj w pb T cur → Apart pb bp Ls → 1 ≤ m → po + m ≤ cur.length → m ≤ pc →
    Calls Tryd.prog (rdF Ls) #[rdP bp Ls, .slice (some ⟨pb, po, none⟩) m pc] w (RdQ B w bp ca cn cc N Ls rest pb po T cur m E) := by
  intro Ls
  induction Ls with
  | nil =>
    intro rest cur m w hg hp hs hb ha h1 hm hc
    refine (pieces_any B w bp ca cn cc N cz E rest pb po T cur m pc hg hp hb hB hBp ha.1 h1 hm hc hpc).mono ?_
    rintro e w' ⟨k, eof, he, h1, h2, h3, h4, h5, h6, h7, h8⟩
    exact ⟨k, eof, he, h1, h2, h3, h4, h5, h6, trivial, h7, h8.mono (fun j hj => by rcases hj with hj | hj; exact .inl hj; exact .inr (.inl hj))⟩
  | cons L Ls ih =>
    intro rest cur m w hg hp hs hb ha h1 hm hc
    obtain ⟨⟨buf, hbuf, hz⟩, hcr, hct, htot, hBz, hBc, hnz, hst⟩ := hs
    have c0 : w.cell? ⟨L.c, 0, none⟩ = some (.pointer (some ⟨L.z, 0, none⟩)) := hcr.cell 0 rfl
    have k0 : w.cell? ⟨L.z, 0, none⟩ = some (lvV bp Ls) := hz.cell 0 rfl
    have k1 : w.cell? ⟨L.z, 1, none⟩ = some .nilIface := hz.cell 1 rfl
    have k2 : w.cell? ⟨L.z, 2, none⟩ = some (.int .u32 L.tot) := hz.cell 2 rfl
    have k3 : w.cell? ⟨L.z, 3, none⟩ = some (.int .u32 L.chk) := hz.cell 3 rfl
    have k4 : w.cell? ⟨L.z, 4, none⟩ = some (.pointer (some ⟨L.c, 0, none⟩)) := hz.cell 4 rfl
    have H := Lib.hid (And.intro hg (And.intro hp (And.intro hb (And.intro ha (And.intro hst (And.intro hz (And.intro hcr hnz)))))))
    clear hg hp hb ha hst hz hcr hnz
    obtain ⟨tot, htt⟩ : ∃ t, t = L.tot := ⟨_, rfl⟩
    obtain ⟨chk, hcc⟩ : ∃ t, t = L.chk := ⟨_, rfl⟩
    obtain ⟨zb, hzb⟩ : ∃ t, t = L.z := ⟨_, rfl⟩
    obtain ⟨cb, hcb⟩ : ∃ t, t = L.c := ⟨_, rfl⟩
    rw [← htt] at k2 hct htot
    rw [← hcc] at k3 hct
    rw [← hzb] at c0 k0 k1 k2 k3 k4 hBz
    rw [← hcb] at c0 k4 hBc
    have HE := Lib.hid (And.intro htt (And.intro hcc (And.intro hzb (And.intro hcb hbuf))))
    show Calls Tryd.prog 52 #[.pointer (some ⟨L.c, 0, none⟩), .slice (some ⟨pb, po, none⟩) m pc] w _
    rw [← hcb]
    clear htt hcc hzb hcb hbuf
    have kn := neq_chunk ⟨cb, 0, none⟩
    by_cases hc0 : chk = 0
    · have ke := H.out.1.eof
      have HC0 := Lib.hid hc0
      rw [hc0] at k3
      clear hc0
      go_enter Tryd.func52, Tryd.ntmps52
      go_wp2
      go_quiet (fail)
      go_wp2
      go_ret2
      have H1 : Hid (RdQ B w bp ca cn cc N (L :: Ls) rest pb po T cur m E (.returned (.tuple #[.int .i64 0, .iface 115 (.pointer (some E))])) (w.drewN nq)) := Lib.hid (by
        obtain ⟨e1, e2, e3, e4, e5, e6, e7, e8⟩ := H.out
        have ez : av (L :: Ls) rest.length = 0 := by
          show min L.chk _ = 0
          rw [← HE.out.2.1, HC0.out]; omega
        refine ⟨0, true, rfl, by omega, by omega, fun _ => rfl, fun h => by omega, fun _ => by omega, ?_, ?_, ?_, Only.drewN _ _ _⟩
        · obtain ⟨a, c, t, q⟩ := e2
          exact ⟨a, c, t, q⟩
        · rw [dec_zero]
          exact Stk.only (Ls := L :: Ls) ⟨⟨buf, HE.out.2.2.2.2, e6⟩, e7, by rw [← HE.out.1, ← HE.out.2.1]; exact hct, by rw [← HE.out.1]; exact htot, by rw [← HE.out.2.2.1]; exact hBz, by rw [← HE.out.2.2.2.1]; exact hBc, e8, e5⟩ (Only.drewN (fun _ => False) w nq) (fun _ _ => ⟨fun h => h, fun h => h⟩)
        · have := e3.drewN nq
          simpa [u8s, splice_nil] using this)
      exact H1.out
    · obtain ⟨n, hn⟩ : ∃ n, n = min chk m := ⟨_, rfl⟩
      have hn1 : 1 ≤ n := by omega
      have hnm : n ≤ m := by omega
      have hnc : n ≤ chk := by omega
      have HN := Lib.hid hn; clear hn
      have hcd : ((chk : Int) == 0) = false := by rw [beq_eq_false_iff_ne]; omega
      have hmb : m ≤ 140737488351232 := by omega
      go_enter Tryd.func52, Tryd.ntmps52
      go_upto_if 52 with fail
      go_cut [7] from 49 to 54 (fun s7 wx => s7 = .int .i64 n ∧ wx = w)
      case first =>
        by_cases hcm : m < chk
        · have : n = m := by have := HN.out; omega
          subst this
          go_wp2
          go_meet
          exact ⟨rfl, rfl⟩
        · have hcm' : decide (m < chk) = false := decide_eq_false hcm
          have : n = chk := by have := HN.out; omega
          subst this
          go_wp2
          go_meet
          exact ⟨rfl, rfl⟩
      case rest =>
        obtain ⟨rfl, rfl⟩ := hcut
        obtain ⟨TT, q, hv, hq, hmeth⟩ : ∃ TT q, lvV bp Ls = .iface TT (.pointer (some ⟨q, 0, none⟩)) ∧ rdP bp Ls = .pointer (some ⟨q, 0, none⟩) ∧ ∀ w, (method 234 TT (.pointer (some ⟨q, 0, none⟩)) "Read").run Tryd.prog w = .ok (rdF Ls, .pointer (some ⟨q, 0, none⟩)) w := by
          cases Ls with
          | nil => exact ⟨_, _, rfl, rfl, meth_pieces _⟩
          | cons M Ms => exact ⟨_, _, rfl, rfl, meth_chunk _⟩
        obtain ⟨F, hF⟩ : ∃ F, F = rdF Ls := ⟨_, rfl⟩
        rw [← hF] at hmeth
        rw [hv] at k0
        have HI : Hid (Calls Tryd.prog F #[.pointer (some ⟨q, 0, none⟩), .slice (some ⟨pb, po, none⟩) n pc] wc.drew (RdQ B wc.drew bp ca cn cc N Ls rest pb po T cur n E)) := Lib.hid (by
          obtain ⟨e1, e2, e3, e4, e5, e6, e7, e8⟩ := H.out
          have ho : Only (fun _ => False) wc wc.drew := Only.drewN _ _ _
          have := ih rest cur n wc.drew (e1.only ho (fun _ h => absurd h (by simp))) e2 (e5.only ho (fun _ _ => ⟨fun h => h, fun h => h⟩)) e3 ⟨e4.1, fun M hM => e4.2 M (by simp [hM])⟩ hn1 (by omega) (by omega)
          rw [hq, ← hF] at this
          exact this)
        have HNZ : Hid (RW bp Ls zb ∨ zb = pb → False) := Lib.hid (fun h => by
          obtain ⟨e1, e2, e3, e4, e5, e6, e7, e8⟩ := H.out
          rw [HE.out.2.2.1] at h
          rcases h with h | h
          · rcases h with h | ⟨M, hM, h⟩
            · obtain ⟨_, _, _, e9, _⟩ := e2
              rw [h] at e6
              exact absurd (e9.ty.inj e6.ty) (by decide)
            · exact e8 M hM h.symm
          · exact (e4.2 L (by simp)).1 h.symm)
        have HZF : Hid (∀ w2, Only (fun j => j = pb ∨ RW bp Ls j) wc.drew w2 → SObj w2 zb 89 (zC (.iface TT (.pointer (some ⟨q, 0, none⟩))) .nilIface tot chk (.pointer (some ⟨cb, 0, none⟩)) buf L.pad)) := Lib.hid (fun w2 ho => by
          have e6 := H.out.2.2.2.2.2.1
          rw [hv, ← HE.out.1, ← HE.out.2.1, ← HE.out.2.2.1, ← HE.out.2.2.2.1] at e6
          exact SObj.only (w := wc.drew) e6 ho (fun h => HNZ.out (by rcases h with h | h; exact .inr h; exact .inl h)))
        have hFF : F = 51 ∨ F = 52 := by
          rw [hF]
          cases Ls with
          | nil => exact .inl rfl
          | cons M Ms => exact .inr rfl
        have HV := Lib.hid hv
        clear ih hq hF hv
        rcases hFF with rfl | rfl
        all_goals
          go_wp2_with fail
          have in0 : (0 : Int) ≤ (n : Int) := by omega
          have in1 : (n : Int) ≤ (m : Int) := by omega
          have in2 : (n : Int) ≤ (pc : Int) := by omega
          go_region_held3 (fun w' => w'.cell? ⟨zb, 0, none⟩ = some (.iface TT (.pointer (some ⟨q, 0, none⟩)))) (first | exact k0 | exact q0) (first | (refine HI.out.mono ?_; rintro _ w2 ⟨k, eof, rfl, hR⟩; obtain ⟨ev, hev⟩ : ∃ v, v = (if eof then .iface 115 (.pointer (some E)) else Value.nilIface) := ⟨_, rfl⟩; rw [← hev]; have HEV := Lib.hid hev; clear hev; have HR := Lib.hid hR; clear hR; have HZ : Hid (SObj w2 zb 89 (zC (.iface TT (.pointer (some ⟨q, 0, none⟩))) .nilIface tot chk (.pointer (some ⟨cb, 0, none⟩)) buf L.pad)) := HZF.out w2 HR.out.2.2.2.2.2.2.2.2; have q0 := HZ.out.cell 0 rfl))
          have hkn : k ≤ n := HR.out.1
          have hkt : (k : Int) ≤ (tot : Int) := by omega
          have hkc : (k : Int) ≤ (chk : Int) := by omega
          have ht32 : (tot : Int) < 4294967296 := by omega
          have hk0 : (0 : Int) ≤ (k : Int) := by omega
          have ke2 : w2.cell? ⟨0, 0, none⟩ = some (.iface 115 (.pointer (some E))) := (H.out.1.only (S := fun j => B ≤ j) (w' := w2) (Only.mono (S' := fun j => B ≤ j) (Only.tr (S := fun j => j = pb ∨ RW bp Ls j) (Only.drewN _ wc 1) HR.out.2.2.2.2.2.2.2.2) (fun j hj => by
            rcases hj with hj | hj
            · omega
            · rcases hj with hj | ⟨M, hM, hj⟩
              · omega
              · rw [hj]; exact (H.out.2.2.2.2.1.ge M hM).1)) (fun j hj => hj)).eof
          have j1 := HZ.out.cell 1 rfl
          have j2 := HZ.out.cell 2 rfl
          have j3 := HZ.out.cell 3 rfl
          have y1 := HZ.out.free 1
          have y2 := HZ.out.free 2
          have y3 := HZ.out.free 3
          have HFIN : Hid (∀ W', SObj W' zb 89 (zC (.iface TT (.pointer (some ⟨q, 0, none⟩))) .nilIface (tot - k) (chk - k) (.pointer (some ⟨cb, 0, none⟩)) buf L.pad) → Only (fun j => j = zb) w2 W' → RdQ B wc bp ca cn cc N (L :: Ls) rest pb po T cur m E (.returned (.tuple #[.int .i64 (k : Nat), if eof then .iface 115 (.pointer (some E)) else .nilIface])) W') := Lib.hid (fun W' hz ho => by
            obtain ⟨r1, r2, r3, r4, r5, r6, r7, r8, r9⟩ := HR.out
            obtain ⟨g1, g2, g3, g4, g5, g6, g7, g8⟩ := H.out
            obtain ⟨f1, f2, f3, f4, f5⟩ := HE.out
            have ea : av (L :: Ls) rest.length = min chk (av Ls rest.length) := by rw [f2]; rfl
            have hN := HN.out
            have ne : ∀ M ∈ Ls, M.z ≠ zb ∧ M.c ≠ zb := fun M hM => ⟨by rw [f3]; exact g8 M hM, fun e => by
              have t1 := (g5.ge M hM).2.2.2
              rw [e, f3] at t1
              exact absurd (t1.inj g6.ty) (by decide)⟩
            refine ⟨k, eof, rfl, by omega, by omega, fun h => r3 (by omega), fun h => r4 (by omega), fun h => by have := r5 h; omega, ?_, ?_, r8.only ho (fun e => HNZ.out (.inr e.symm)), ?_⟩
            · obtain ⟨a, c, t, p1, p2, p3, p4⟩ := r6
              refine ⟨a, c, t, p1.only ho (fun e => HNZ.out (.inl (.inl e.symm))), p2.only ho (fun h0 p hp e => by have := p3 h0 p hp; omega), p3, p4⟩
            · show (∃ buf : List Value, buf.length = 8 ∧ _) ∧ _
              refine ⟨⟨buf, f5, ?_⟩, ?_, ?_, ?_, ?_, ?_, ?_, ?_⟩
              · rw [lvV_dec, HV.out]
                show SObj W' L.z _ (zC _ _ (L.tot - k) (L.chk - k) (.pointer (some ⟨L.c, 0, none⟩)) buf L.pad)
                rw [← f1, ← f2, ← f3, ← f4]
                exact hz
              · have ncz : L.c ≠ zb := fun e => by
                  have t1 := g7.ty
                  rw [e, f3] at t1
                  exact absurd (t1.inj g6.ty) (by decide)
                have n2 : ¬ (L.c = pb ∨ RW bp Ls L.c) := fun h => by
                  rcases h with h | h | ⟨M, hM, h⟩
                  · exact (g4.2 L (by simp)).2 h.symm
                  · obtain ⟨_, _, _, p1, _⟩ := g2
                    have t1 := g7.ty
                    rw [h] at t1
                    exact absurd (t1.inj p1.ty) (by decide)
                  · have t1 := g7.ty
                    rw [h] at t1
                    exact absurd (t1.inj (g5.ge M hM).2.2.1) (by decide)
                exact (SObj.only (w := wc.drew) g7 r9 n2).only ho ncz
              · show L.chk - k ≤ L.tot - k; omega
              · show L.tot - k < _; omega
              · show B ≤ L.z; omega
              · show B ≤ L.c; omega
              · intro M hM
                obtain ⟨M', hM', rfl⟩ := List.mem_map.1 hM
                exact g8 M' hM'
              · refine r7.only ho (fun M hM => ?_)
                obtain ⟨M', hM', rfl⟩ := List.mem_map.1 hM
                exact ne M' hM'
            · refine Only.tr (S := fun j => j = pb ∨ RW bp (L :: Ls) j) (Only.tr (Only.drewN _ wc 1) (r9.mono (fun j hj => ?_))) (ho.mono (fun j hj => ?_))
              · rcases hj with hj | hj | ⟨M, hM, hj⟩
                · exact .inl hj
                · exact .inr (.inl hj)
                · exact .inr (.inr ⟨M, by simp [hM], hj⟩)
              · exact .inr (.inr ⟨L, by simp, by rw [hj, f3]⟩))
          have esub1 : ((tot - k : Nat) : Int) = (tot : Int) - k := by omega
          have esub2 : ((chk - k : Nat) : Int) = (chk : Int) - k := by omega
          have HSB := Lib.hid (And.intro esub1 esub2); clear esub1 esub2
          cases eof with
          | true =>
            have hev : ev = .iface 115 (.pointer (some E)) := HEV.out
            subst hev
            have nn := neq_err E
            go_wp2
            go_ret2
            refine HFIN.out _ ?_ ?_
            · rw [zC, HSB.out.1, HSB.out.2]
              exact (HZ.out.set 2 _).set 3 _
            · exact (Only.setCell (S := fun j => j = zb) _ _ _ rfl).tr (Only.setCell _ _ _ rfl)
          | false =>
            have hev : ev = .nilIface := HEV.out
            subst hev
            have nn := neq_left 115 (.pointer (some E))
            go_wp2
            go_ret2
            refine HFIN.out _ ?_ ?_
            · rw [zC, HSB.out.1, HSB.out.2]
              exact ((HZ.out.set 2 _).set 3 _).set 1 _
            · exact ((Only.setCell (S := fun j => j = zb) _ _ _ rfl).tr (Only.setCell _ _ _ rfl)).tr (Only.setCell _ _ _ rfl)
end Go.Proofs.YthipghkhdlnfiaaDoor
