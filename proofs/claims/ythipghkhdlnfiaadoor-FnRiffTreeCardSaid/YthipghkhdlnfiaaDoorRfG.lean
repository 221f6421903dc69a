/- Going to the next chunk: what is said of a reader of chunks meanwhile. -/
import Derived.Test.YthipghkhdlnfiaaDoorRfF
namespace Go.Proofs.YthipghkhdlnfiaaDoor
open Go.RowKit
set_option linter.unusedVariables false

theorem copy_any (B bp : Nat) (ca : Option Addr) (cn cc N : Nat) (cz : Nat → Int) (E : Addr) (hBp : B ≤ bp)
    (L : Lv) (Ls : List Lv) (rest : List Int) (w : World) (hg : Gvn B w ca cn cc N cz E) (hp : Pcs B w bp ca cn cc N rest) (hs : Stk w B bp (L :: Ls)) (hr : rest.length ≤ 1099511627776) :
    Calls Tryd.prog 32 #[.iface 93 (.agg #[]), .iface 87 (.pointer (some ⟨L.c, 0, none⟩))] w (CpP B w bp ca cn cc N (L :: Ls) rest) := by
  have HC := Lib.hid (copyBuffer_any B bp ca cn cc N cz E hBp L Ls rest w hg hp hs hr)
  clear hg hp hs hr
  obtain ⟨q, hq⟩ : ∃ q, q = L.c := ⟨_, rfl⟩
  rw [← hq] at HC ⊢
  clear hq
  go_enter Tryd.func32, Tryd.ntmps32
  go_wp2_with fail
  refine HC.out.mono ?_
  rintro _ w2 ⟨rfl, h2⟩
  have H2 := Lib.hid h2; clear h2
  go_wp2
  go_ret2
  exact ⟨rfl, H2.out⟩

/-- The outcome of Next: an error (1: the end; 2: another) behind so many bytes, or a chunk behind so many, with what is told then. -/
inductive NO where
  | bad (k c : Nat)
  | ok (c tot len : Nat)
def nextT (rest : List Int) (a t c : Nat) : NO :=
  if t = 0 then .bad 1 c else if t < 8 then .bad 2 c else if a - c < 8 then .bad 2 (c + (a - c)) else if t - 8 < le32 (rest.drop c) 4 then .bad 2 (c + 8) else .ok (c + 8) (t - 8) (le32 (rest.drop c) 4)
def nextM (rest : List Int) (a tot chk : Nat) (pad : Bool) : NO :=
  if min chk a < chk then .bad 2 (min chk a) else
  if pad then (if tot - chk = 0 then .bad 2 chk else if a - chk = 0 then .bad 2 chk else nextT rest a (tot - chk - 1) (chk + 1)) else nextT rest a (tot - chk) chk
def NO.cns : NO → Nat
  | .bad _ c => c
  | .ok c _ _ => c

/-- What holds meanwhile. -/
structure NSt (B : Nat) (w : World) (z g bp : Nat) (ca : Option Addr) (cn cc N : Nat) (cz : Nat → Int) (E U M S L P H : Addr) (Ls : List Lv) (rest : List Int) (v err : Value) (tot chk : Nat) (cr : Value) (buf : List Value) (pad : Bool) (c : Nat) (wr : World) : Prop where
  zo : SObj wr z 89 (zC v err tot chk cr buf pad)
  b8 : buf.length = 8
  go : ∃ y0 y1 y2 y3 : Value, SObj wr g 55 [y0, y1, y2, y3]
  pc : Pcs B wr bp ca cn cc N (rest.drop c)
  st : Stk wr B bp (Ls.map (dec c))
  en : Env B wr ca cn cc N cz E U M S L P H
  on : Only (fun k => k = z ∨ RW bp Ls k) w wr
/-- What does not change meanwhile. -/
structure NSk (B : Nat) (z g bp : Nat) (Ls : List Lv) : Prop where
  gz : g ≠ z
  gb : g ≠ bp
  zb : z ≠ bp
  bz : B ≤ z
  bg : B ≤ g
  bb : B ≤ bp
  al : ∀ M ∈ Ls, M.z ≠ z ∧ M.c ≠ z ∧ M.z ≠ g ∧ M.c ≠ g
theorem NSt.step {B : Nat} {w : World} {z g bp : Nat} {ca : Option Addr} {cn cc N : Nat} {cz : Nat → Int} {E U M S L P H : Addr} {Ls : List Lv} {rest : List Int} {v err : Value} {tot chk : Nat} {cr : Value} {buf : List Value} {pad : Bool} {c : Nat} {wr wr' : World}
    (h : NSt B w z g bp ca cn cc N cz E U M S L P H Ls rest v err tot chk cr buf pad c wr) (k : NSk B z g bp Ls) (ho : Only (fun j => j = z) wr wr') {err' : Value} {tot' chk' : Nat} {cr' : Value} {buf' : List Value} {pad' : Bool} (hz : SObj wr' z 89 (zC v err' tot' chk' cr' buf' pad')) (hb : buf'.length = 8) :
    NSt B w z g bp ca cn cc N cz E U M S L P H Ls rest v err' tot' chk' cr' buf' pad' c wr' where
  zo := hz
  b8 := hb
  go := by obtain ⟨y0, y1, y2, y3, o⟩ := h.go; exact ⟨y0, y1, y2, y3, o.only ho k.gz⟩
  pc := h.pc.only ho (fun j hj => by rw [hj]; exact k.bz) (fun e => k.zb e.symm)
  st := h.st.only ho (fun Q hQ => by
    obtain ⟨Q', hQ', rfl⟩ := List.mem_map.1 hQ
    exact ⟨(k.al Q' hQ').1, (k.al Q' hQ').2.1⟩)
  en := h.en.only ho (fun j hj => by rw [hj]; exact k.bz)
  on := h.on.tr (ho.mono (fun j hj => .inl hj))
theorem NSt.err {B : Nat} {w : World} {z g bp : Nat} {ca : Option Addr} {cn cc N : Nat} {cz : Nat → Int} {E U M S L P H : Addr} {Ls : List Lv} {rest : List Int} {v err : Value} {tot chk : Nat} {cr : Value} {buf : List Value} {pad : Bool} {c : Nat} {wr : World}
    (h : NSt B w z g bp ca cn cc N cz E U M S L P H Ls rest v err tot chk cr buf pad c wr) (k : NSk B z g bp Ls) (e : Value) : NSt B w z g bp ca cn cc N cz E U M S L P H Ls rest v e tot chk cr buf pad c (wr.setCell ⟨z, 1, none⟩ e) :=
  h.step k (Only.setCell _ _ _ rfl) (h.zo.set 1 e) h.b8
theorem NSt.tot {B : Nat} {w : World} {z g bp : Nat} {ca : Option Addr} {cn cc N : Nat} {cz : Nat → Int} {E U M S L P H : Addr} {Ls : List Lv} {rest : List Int} {v err : Value} {tot chk : Nat} {cr : Value} {buf : List Value} {pad : Bool} {c : Nat} {wr : World}
    (h : NSt B w z g bp ca cn cc N cz E U M S L P H Ls rest v err tot chk cr buf pad c wr) (k : NSk B z g bp Ls) (t : Nat) : NSt B w z g bp ca cn cc N cz E U M S L P H Ls rest v err t chk cr buf pad c (wr.setCell ⟨z, 2, none⟩ (.int .u32 t)) :=
  h.step k (Only.setCell _ _ _ rfl) (h.zo.set 2 _) h.b8
theorem NSt.chk {B : Nat} {w : World} {z g bp : Nat} {ca : Option Addr} {cn cc N : Nat} {cz : Nat → Int} {E U M S L P H : Addr} {Ls : List Lv} {rest : List Int} {v err : Value} {tot chk : Nat} {cr : Value} {buf : List Value} {pad : Bool} {c : Nat} {wr : World}
    (h : NSt B w z g bp ca cn cc N cz E U M S L P H Ls rest v err tot chk cr buf pad c wr) (k : NSk B z g bp Ls) (t : Nat) : NSt B w z g bp ca cn cc N cz E U M S L P H Ls rest v err tot t cr buf pad c (wr.setCell ⟨z, 3, none⟩ (.int .u32 t)) :=
  h.step k (Only.setCell _ _ _ rfl) (h.zo.set 3 _) h.b8
theorem NSt.cr {B : Nat} {w : World} {z g bp : Nat} {ca : Option Addr} {cn cc N : Nat} {cz : Nat → Int} {E U M S L P H : Addr} {Ls : List Lv} {rest : List Int} {v err : Value} {tot chk : Nat} {cr : Value} {buf : List Value} {pad : Bool} {c : Nat} {wr : World}
    (h : NSt B w z g bp ca cn cc N cz E U M S L P H Ls rest v err tot chk cr buf pad c wr) (k : NSk B z g bp Ls) (x : Value) : NSt B w z g bp ca cn cc N cz E U M S L P H Ls rest v err tot chk x buf pad c (wr.setCell ⟨z, 4, none⟩ x) :=
  h.step k (Only.setCell _ _ _ rfl) (h.zo.set 4 x) h.b8
theorem zC_pad (v err : Value) (tot chk : Nat) (cr : Value) (buf : List Value) (pad p : Bool) (hb : buf.length = 8) : (zC v err tot chk cr buf pad).set 13 (.bool p) = zC v err tot chk cr buf p := by
  match buf, hb with
  | [_, _, _, _, _, _, _, _], _ => rfl
theorem zC_at13 (v err : Value) (tot chk : Nat) (cr : Value) (buf : List Value) (pad : Bool) (hb : buf.length = 8) : (zC v err tot chk cr buf pad)[13]? = some (.bool pad) := by
  match buf, hb with
  | [_, _, _, _, _, _, _, _], _ => rfl
theorem NSt.pad {B : Nat} {w : World} {z g bp : Nat} {ca : Option Addr} {cn cc N : Nat} {cz : Nat → Int} {E U M S L P H : Addr} {Ls : List Lv} {rest : List Int} {v err : Value} {tot chk : Nat} {cr : Value} {buf : List Value} {pad : Bool} {c : Nat} {wr : World}
    (h : NSt B w z g bp ca cn cc N cz E U M S L P H Ls rest v err tot chk cr buf pad c wr) (k : NSk B z g bp Ls) (p : Bool) : NSt B w z g bp ca cn cc N cz E U M S L P H Ls rest v err tot chk cr buf p c (wr.setCell ⟨z, 13, none⟩ (.bool p)) :=
  h.step k (Only.setCell _ _ _ rfl) (by have := h.zo.set 13 (.bool p); rwa [zC_pad _ _ _ _ _ _ _ _ h.b8] at this) h.b8
theorem NSt.gset {B : Nat} {w : World} {z g bp : Nat} {ca : Option Addr} {cn cc N : Nat} {cz : Nat → Int} {E U M S L P H : Addr} {Ls : List Lv} {rest : List Int} {v err : Value} {tot chk : Nat} {cr : Value} {buf : List Value} {pad : Bool} {c : Nat} {wr wr' : World} {y0 y1 y2 y3 : Value}
    (h : NSt B w z g bp ca cn cc N cz E U M S L P H Ls rest v err tot chk cr buf pad c wr) (k : NSk B z g bp Ls) (hg : g = w.heap.size) (ho : Only (fun j => j = g) wr wr') (hz : SObj wr' g 55 [y0, y1, y2, y3]) :
    NSt B w z g bp ca cn cc N cz E U M S L P H Ls rest v err tot chk cr buf pad c wr' where
  zo := h.zo.only ho (fun e => k.gz e.symm)
  b8 := h.b8
  go := ⟨y0, y1, y2, y3, hz⟩
  pc := h.pc.only ho (fun j hj => by rw [hj]; exact k.bg) (fun e => k.gb e.symm)
  st := h.st.only ho (fun Q hQ => by
    obtain ⟨Q', hQ', rfl⟩ := List.mem_map.1 hQ
    exact ⟨(k.al Q' hQ').2.2.1, (k.al Q' hQ').2.2.2⟩)
  en := h.en.only ho (fun j hj => by rw [hj]; exact k.bg)
  on := h.on.trans ho (fun j hj hn e => by omega)
theorem NSt.other {B : Nat} {w : World} {z g bp : Nat} {ca : Option Addr} {cn cc N : Nat} {cz : Nat → Int} {E U M S L P H : Addr} {Ls : List Lv} {rest : List Int} {v err : Value} {tot chk : Nat} {cr : Value} {buf : List Value} {pad : Bool} {c : Nat} {wr wr' : World} {R : Nat → Prop}
    (h : NSt B w z g bp ca cn cc N cz E U M S L P H Ls rest v err tot chk cr buf pad c wr) (ho : Only R wr wr') (hr : ∀ j, R j → w.heap.size ≤ j ∧ j ≠ g ∧ wr.heap.size ≤ j) : NSt B w z g bp ca cn cc N cz E U M S L P H Ls rest v err tot chk cr buf pad c wr' where
  zo := h.zo.only ho (fun e => by have := (hr _ e).2.2; have := h.zo.lt; omega)
  b8 := h.b8
  go := by obtain ⟨y0, y1, y2, y3, o⟩ := h.go; exact ⟨y0, y1, y2, y3, o.only ho (fun e => (hr _ e).2.1 rfl)⟩
  pc := h.pc.only ho (fun j hj => by have := (hr j hj).2.2; have := h.en.1.lt; omega) (fun e => by obtain ⟨_, _, _, o, _⟩ := h.pc; have := SObj.lt o; have := (hr _ e).2.2; omega)
  st := h.st.only ho (fun Q hQ => by
    obtain ⟨_, _, ⟨c1, f1, g1⟩, ⟨c2, f2, g2⟩⟩ := h.st.ge Q hQ
    have h1 := (Array.getElem?_eq_some_iff.1 g1).1
    have h2 := (Array.getElem?_eq_some_iff.1 g2).1
    exact ⟨fun e => by have := (hr _ e).2.2; omega, fun e => by have := (hr _ e).2.2; omega⟩)
  en := h.en.only ho (fun j hj => by have := (hr j hj).2.2; have := h.en.1.lt; omega)
  on := h.on.trans ho (fun j hj hn e => by have := (hr j e).1; omega)
theorem NSt.drew {B : Nat} {w : World} {z g bp : Nat} {ca : Option Addr} {cn cc N : Nat} {cz : Nat → Int} {E U M S L P H : Addr} {Ls : List Lv} {rest : List Int} {v err : Value} {tot chk : Nat} {cr : Value} {buf : List Value} {pad : Bool} {c : Nat} {wr : World}
    (h : NSt B w z g bp ca cn cc N cz E U M S L P H Ls rest v err tot chk cr buf pad c wr) (n : Nat) : NSt B w z g bp ca cn cc N cz E U M S L P H Ls rest v err tot chk cr buf pad c (wr.drewN n) :=
  h.other (Only.drewN (fun _ => False) wr n) (fun _ h => h.elim)

/-- To read so many bytes into the reader's own buffer. -/
theorem NSt.readFull {B : Nat} {w : World} {z g bp : Nat} {ca : Option Addr} {cn cc N : Nat} {cz : Nat → Int} {E U M S L P H : Addr} {Ls : List Lv} {rest : List Int} {v err : Value} {tot chk : Nat} {cr : Value} {buf : List Value} {pad : Bool} {c : Nat} {wr : World}
    (h : NSt B w z g bp ca cn cc N cz E U M S L P H Ls rest v err tot chk cr buf pad c wr) (k : NSk B z g bp Ls) (hv : lvV bp Ls = v) (m : Nat) (h1 : 1 ≤ m) (h8 : m ≤ 8) :
    Calls Tryd.prog 30 #[v, .slice (some ⟨z, 5, none⟩) m 8] wr fun e w' => ∃ K, K = min m (av Ls rest.length - c) ∧ e = .returned (.tuple #[.int .i64 (K : Nat), rfE E U m K]) ∧ NSt B w z g bp ca cn cc N cz E U M S L P H Ls rest v err tot chk cr (splice buf 0 (u8s ((rest.drop c).take K))) pad (c + K) w' := by
  have hap : Apart z bp (Ls.map (dec c)) := ⟨k.zb, fun Q hQ => by
    obtain ⟨Q', hQ', rfl⟩ := List.mem_map.1 hQ
    exact ⟨fun e => (k.al Q' hQ').1 e.symm, fun e => (k.al Q' hQ').2.1 e.symm⟩⟩
  have hl : (zC v err tot chk cr buf pad).length = 14 := by unfold zC; simp [h.b8]
  have hR := readFull_any B bp ca cn cc N cz E U z 5 89 8 k.bz k.bb (by omega) (Ls.map (dec c)) (rest.drop c) (zC v err tot chk cr buf pad) m wr h.en.1 h.en.2.u h.pc h.st h.zo hap h1 (by omega) h8
  rw [lvV_dec, hv] at hR
  refine hR.mono ?_
  rintro e w' ⟨K, hK, he, p1, p2, p3, p4⟩
  have hK' : K = min m (av Ls rest.length - c) := by rw [hK, List.length_drop, av_dec]
  have hc : ∀ (A : List Int), A.length ≤ 8 → splice (zC v err tot chk cr buf pad) 5 (u8s A) = zC v err tot chk cr (splice buf 0 (u8s A)) pad := fun A hA => zC_splice v err tot chk cr buf pad 0 (u8s A) h.b8 (by simpa [u8s] using hA)
  have hlen : ((rest.drop c).take K).length ≤ 8 := by simp; omega
  refine ⟨K, hK', he, ?_⟩
  have hge : ∀ j, (j = z ∨ RW bp (Ls.map (dec c)) j) → (j = z ∨ RW bp Ls j) := fun j hj => by
    rcases hj with hj | hj | ⟨Q, hQ, hj⟩
    · exact .inl hj
    · exact .inr (.inl hj)
    · obtain ⟨Q', hQ', rfl⟩ := List.mem_map.1 hQ
      exact .inr (.inr ⟨Q', hQ', hj⟩)
  have hB2 : ∀ j, (j = z ∨ RW bp (Ls.map (dec c)) j) → B ≤ j := fun j hj => by
    rcases hj with hj | hj
    · rw [hj]; exact k.bz
    · exact RW.ge h.st k.bb hj
  refine ⟨?_, ?_, ?_, ?_, ?_, h.en.only p4 hB2, h.on.tr (p4.mono hge)⟩
  · rw [hc _ hlen] at p3; exact p3
  · have hb := h.b8
    have hu : (u8s ((rest.drop c).take K)).length ≤ 8 := by simpa [u8s] using hlen
    unfold splice
    simp only [List.length_append, List.length_take, List.length_drop]
    omega
  · obtain ⟨y0, y1, y2, y3, o⟩ := h.go
    refine ⟨y0, y1, y2, y3, o.only p4 (fun e => ?_)⟩
    rcases hge _ e with e | e | ⟨Q, hQ, e⟩
    · exact k.gz e
    · exact k.gb e
    · exact (k.al Q hQ).2.2.1 e.symm
  · rw [List.drop_drop] at p1; exact p1
  · rw [dec_dec] at p2; exact p2

theorem NSt.rd0 {B : Nat} {w : World} {z g bp : Nat} {ca : Option Addr} {cn cc N : Nat} {cz : Nat → Int} {E U M S L P H : Addr} {Ls : List Lv} {rest : List Int} {v err : Value} {tot chk : Nat} {cr : Value} {buf : List Value} {pad : Bool} {c : Nat} {wr : World}
    (h : NSt B w z g bp ca cn cc N cz E U M S L P H Ls rest v err tot chk cr buf pad c wr) (k : NSk B z g bp Ls) (hv : lvV bp Ls = v) (m : Nat) (h1 : 1 ≤ m) (h8 : m ≤ 8) (hd : av Ls rest.length - c = 0) :
    Calls Tryd.prog 30 #[v, .slice (some ⟨z, 5, none⟩) m 8] wr fun e w' => e = .returned (.tuple #[.int .i64 0, (.iface 115 (.pointer (some E)))]) ∧ ∃ b, NSt B w z g bp ca cn cc N cz E U M S L P H Ls rest v err tot chk cr b pad c w' := by
  refine (h.readFull k hv m h1 h8).mono ?_
  rintro _ w' ⟨K, hK, rfl, hN⟩
  have h0 : K = 0 := by omega
  subst h0
  refine ⟨?_, _, hN⟩
  unfold rfE
  rw [if_neg (by omega), if_pos rfl]
  rfl
theorem NSt.rdU {B : Nat} {w : World} {z g bp : Nat} {ca : Option Addr} {cn cc N : Nat} {cz : Nat → Int} {E U M S L P H : Addr} {Ls : List Lv} {rest : List Int} {v err : Value} {tot chk : Nat} {cr : Value} {buf : List Value} {pad : Bool} {c : Nat} {wr : World}
    (h : NSt B w z g bp ca cn cc N cz E U M S L P H Ls rest v err tot chk cr buf pad c wr) (k : NSk B z g bp Ls) (hv : lvV bp Ls = v) (m : Nat) (h1 : 1 ≤ m) (h8 : m ≤ 8) (hd : av Ls rest.length - c ≠ 0) (hm : av Ls rest.length - c < m) :
    Calls Tryd.prog 30 #[v, .slice (some ⟨z, 5, none⟩) m 8] wr fun e w' => e = .returned (.tuple #[.int .i64 (av Ls rest.length - c : Nat), (.iface 115 (.pointer (some U)))]) ∧ ∃ b, NSt B w z g bp ca cn cc N cz E U M S L P H Ls rest v err tot chk cr b pad (c + (av Ls rest.length - c)) w' := by
  refine (h.readFull k hv m h1 h8).mono ?_
  rintro _ w' ⟨K, hK, rfl, hN⟩
  have h0 : K = av Ls rest.length - c := by omega
  subst h0
  refine ⟨?_, _, hN⟩
  unfold rfE
  rw [if_neg (by omega), if_neg (by omega)]
theorem NSt.rdN {B : Nat} {w : World} {z g bp : Nat} {ca : Option Addr} {cn cc N : Nat} {cz : Nat → Int} {E U M S L P H : Addr} {Ls : List Lv} {rest : List Int} {v err : Value} {tot chk : Nat} {cr : Value} {buf : List Value} {pad : Bool} {c : Nat} {wr : World}
    (h : NSt B w z g bp ca cn cc N cz E U M S L P H Ls rest v err tot chk cr buf pad c wr) (k : NSk B z g bp Ls) (hv : lvV bp Ls = v) (m : Nat) (h1 : 1 ≤ m) (h8 : m ≤ 8) (hm : m ≤ av Ls rest.length - c) :
    Calls Tryd.prog 30 #[v, .slice (some ⟨z, 5, none⟩) m 8] wr fun e w' => e = .returned (.tuple #[.int .i64 m, .nilIface]) ∧ NSt B w z g bp ca cn cc N cz E U M S L P H Ls rest v err tot chk cr (splice buf 0 (u8s ((rest.drop c).take m))) pad (c + m) w' := by
  refine (h.readFull k hv m h1 h8).mono ?_
  rintro _ w' ⟨K, hK, rfl, hN⟩
  have h0 : K = m := by omega
  subst h0
  refine ⟨?_, hN⟩
  unfold rfE
  rw [if_pos rfl]

theorem splice8 (buf : List Value) (rs : List Int) (hb : buf.length = 8) (hl : 8 ≤ rs.length) : splice buf 0 (u8s (rs.take 8)) = [.int .u8 (rs.getD 0 0), .int .u8 (rs.getD 1 0), .int .u8 (rs.getD 2 0), .int .u8 (rs.getD 3 0), .int .u8 (rs.getD 4 0), .int .u8 (rs.getD 5 0), .int .u8 (rs.getD 6 0), .int .u8 (rs.getD 7 0)] := by
  have hu : (u8s (rs.take 8)).length = 8 := by simp [u8s]; omega
  have e : splice buf 0 (u8s (rs.take 8)) = u8s (rs.take 8) := by
    unfold splice
    rw [hu, List.take_zero, List.drop_eq_nil_of_le (by omega), List.nil_append, List.append_nil]
  rw [e]
  match rs, hl with
  | a :: b :: c :: d :: e :: f :: h :: i :: r, _ => rfl

/-- What Next tells, and leaves. -/
def NxP (B : Nat) (w : World) (z bp : Nat) (ca : Option Addr) (cn cc N : Nat) (E : Addr) (Ls : List Lv) (rest : List Int) (o : NO) (e : Ending) (w' : World) : Prop :=
  Pcs B w' bp ca cn cc N (rest.drop o.cns) ∧ Stk w' B bp (Ls.map (dec o.cns)) ∧ Only (fun k => k = z ∨ RW bp Ls k) w w' ∧
  match o with
  | .bad k _ => ∃ er tot chk cr buf pad, buf.length = 8 ∧ (k = 1 ∧ er = E ∨ k = 2 ∧ er ≠ E ∧ ∃ g s, Snt B w' g er s ∧ s ≠ sE) ∧ e = .returned (.tuple #[zero4, .int .u32 0, .nilIface, errV er]) ∧ SObj w' z 89 (zC (lvV bp Ls) (errV er) tot chk cr buf pad)
  | .ok c t len => ∃ cr buf, buf.length = 8 ∧ e = .returned (.tuple #[four4 (rest.drop (c - 8)) 0, .int .u32 len, .iface 87 (.pointer (some ⟨cr, 0, none⟩)), .nilIface]) ∧ w.heap.size ≤ cr ∧
      SObj w' z 89 (zC (lvV bp Ls) .nilIface t len (.pointer (some ⟨cr, 0, none⟩)) buf (decide (len % 2 = 1))) ∧ SObj w' cr 95 [.pointer (some ⟨z, 0, none⟩)] ∧ len ≤ t ∧ t < 4294967296
end Go.Proofs.YthipghkhdlnfiaaDoor
