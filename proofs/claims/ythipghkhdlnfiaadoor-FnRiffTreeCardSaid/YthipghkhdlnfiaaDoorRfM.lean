/- What steps to a file of chunks tell, in plain Lean: no program, no memory, no cuts. -/
import Derived.Test.YthipghkhdlnfiaaDoorRfG
namespace Go.Proofs.YthipghkhdlnfiaaDoor
open Go.RowKit
set_option linter.unusedVariables false

/-- A reader of chunks: what is left of its whole, of its chunk; whether a filling byte is due. -/
structure RS where
  tot : Nat
  chk : Nat
  pad : Bool
def RS.dec (k : Nat) (r : RS) : RS := ⟨r.tot - k, r.chk - k, r.pad⟩
def avR : List RS → Nat → Nat
  | [], n => n
  | r :: rs, n => min r.chk (avR rs n)
/-- A chunk: its name's four bytes, its told length, what was read, how reading ended. -/
structure Ck where
  id : List Int
  len : Nat
  data : List Int
  fin : Nat
def Lv.rs (L : Lv) : RS := ⟨L.tot, L.chk, L.pad⟩
theorem av_rs : ∀ (Ls : List Lv) (n : Nat), av Ls n = avR (Ls.map Lv.rs) n
  | [], _ => rfl
  | L :: Ls, n => by show min L.chk (av Ls n) = min L.chk (avR (Ls.map Lv.rs) n); rw [av_rs Ls n]
theorem rs_dec (k : Nat) (Ls : List Lv) : (Ls.map (dec k)).map Lv.rs = (Ls.map Lv.rs).map (RS.dec k) := by
  rw [List.map_map, List.map_map]; rfl
/-- What is at hand: the bytes that are left; the reader at hand; its error (0: none); whether a chunk is at hand; the readers around; the chunks so far; what the steps told. -/
structure St where
  rest : List Int
  now : RS
  bad : Nat
  dat : Bool
  outer : List RS
  out : List Ck
  kinds : List Nat
def St.kind (s : St) (k : Nat) : St := { s with kinds := s.kinds ++ [k] }
/-- k bytes are taken out of the chunk at hand. -/
def St.take (s : St) (k : Nat) : St := { s with rest := s.rest.drop k, now := s.now.dec k, outer := s.outer.map (RS.dec k) }
def St.av (s : St) : Nat := avR s.outer s.rest.length
def St.avNow (s : St) : Nat := min s.now.chk s.av
/-- The next chunk; with what is told. -/
def opNext (s : St) : St × Nat :=
  if s.bad ≠ 0 then ({ s with dat := false }, s.bad)
  else match nextM s.rest s.av s.now.tot s.now.chk s.now.pad with
    | .bad k c => ({ s with rest := s.rest.drop c, bad := k, dat := false, outer := s.outer.map (RS.dec c) }, k)
    | .ok c t len => ({ s with rest := s.rest.drop c, now := ⟨t, len, decide (len % 2 = 1)⟩, dat := true, outer := s.outer.map (RS.dec c), out := s.out ++ [⟨[(s.rest.drop (c - 8)).getD 0 0, (s.rest.drop (c - 8)).getD 1 0, (s.rest.drop (c - 8)).getD 2 0, (s.rest.drop (c - 8)).getD 3 0], len, [], 2⟩] }, 0)
/-- What reading m bytes (1 at least) does to the last chunk. -/
def Ck.read (c : Ck) (m a : Nat) (rest : List Int) : Ck := { c with data := c.data ++ rest.take (min m a), fin := if a < m then 0 else c.fin }
def readLast (m a : Nat) (rest : List Int) : List Ck → List Ck
  | [] => []
  | [c] => [c.read m a rest]
  | c :: d :: cs => c :: readLast m a rest (d :: cs)
theorem readLast_snoc (m a : Nat) (rest : List Int) : ∀ (l : List Ck) (c : Ck), readLast m a rest (l ++ [c]) = l ++ [c.read m a rest]
  | [], c => rfl
  | [d], c => rfl
  | d :: e :: l, c => by
    show d :: readLast m a rest (e :: (l ++ [c])) = _
    have := readLast_snoc m a rest (e :: l) c
    rw [show e :: (l ++ [c]) = (e :: l) ++ [c] from rfl, this]
    rfl
def opRead (N : Nat) (n : Int) (s : St) : St :=
  if n ≤ 0 then s
  else { s.take (min (min n.toNat (N + 1)) s.avNow) with out := readLast (min n.toNat (N + 1)) s.avNow s.rest s.out }
def lastLen (l : List Ck) : Nat := match l.getLast? with | some c => c.len | none => 0
theorem lastLen_snoc (l : List Ck) (c : Ck) : lastLen (l ++ [c]) = c.len := by simp [lastLen]
def opInto (s : St) : St × Nat :=
  if lastLen s.out < 4 then (s, 2)
  else if s.avNow < 4 then (s.take s.avNow, 2)
  else ({ s with rest := s.rest.drop 4, now := ⟨lastLen s.out - 4, 0, false⟩, dat := false, outer := s.now.dec 4 :: s.outer.map (RS.dec 4) }, 0)
def opBack (s : St) : St × Nat := match s.outer with
  | [] => (s, 3)
  | r :: rs => ({ s with now := r, bad := 0, dat := false, outer := rs }, 0)
def opM (N : Nat) (s : St) (p : Int × Int) : St × Nat :=
  if p.1 = 0 then opNext s
  else if p.1 = 1 ∧ s.dat = true then (opRead N p.2 s, 0)
  else if p.1 = 2 ∧ s.dat = true then opInto s
  else if p.1 = 3 then opBack s
  else (s, 3)
def stepM (N : Nat) (s : St) (p : Int × Int) : St := (opM N s p).1.kind (opM N s p).2
def runM (N : Nat) (s : St) (l : List (Int × Int)) : St := l.foldl (stepM N) s
def start (b : List Int) : St := ⟨b.drop 12, ⟨le32 b 4 - 4, 0, false⟩, 0, false, [], [], [0]⟩
/-- What steps to bytes tell: the chunks, and what each step told. -/
def riffM (b : List Int) (steps : List (Int × Int)) : List Ck × List Nat :=
  if okHead b then ((runM b.length (start b) steps).out, (runM b.length (start b) steps).kinds) else ([], [2])
end Go.Proofs.YthipghkhdlnfiaaDoor
