/- The package's decoder of bits: read, while there are bits. -/
import Derived.Test.YtdmefbpfpmkdcaaDoorRead
import Derived.Deep.LoopGhost
namespace Go.Proofs.YtdmefbpfpmkdcaaDoor
open Go.RowKit
set_option linter.unusedVariables false

/-- The bytes that stand in a slice are those of S. -/
def Strm (f : Nat → Int) (S n : Nat) : Prop := ∀ j, j < n → f j = (byteOf S j : Int)
/-- What stands around a reader of bits (its block gd, its bytes.Reader gr) over n bytes of S. -/
structure Around (w : World) (gd gr : Nat) (a : Option Addr) (n c : Nat) (f : Nat → Int) (S : Nat) : Prop where
  row : Arg .u8 w a n f
  far : 0 < n → ∀ x, a = some x → x.block ≠ gd ∧ x.block ≠ gr
  strm : Strm f S n
  max : n ≤ 140737488351232
/-- The decoder: b bits are at hand behind the p bits that are read; i bytes are fetched. -/
def DB (w : World) (gd gr : Nat) (a : Option Addr) (n c : Nat) (S p b i : Nat) : Prop :=
  SObj w gd 96 [.iface 59 (.pointer (some ⟨gr, 0, none⟩)), .int .u32 (hand S p b), .int .u32 b] ∧ BR w gr a n c i
/-- A reader of bits, of which p are read. -/
def Rdr (w : World) (gd gr : Nat) (a : Option Addr) (n c : Nat) (f : Nat → Int) (S p : Nat) : Prop :=
  Around w gd gr a n c f S ∧ ∃ b i, DB w gd gr a n c S p b i ∧ p + b = 8 * i ∧ i ≤ n ∧ b ≤ 31

def Two (gd gr k : Nat) : Prop := k = gd ∨ k = gr
theorem Around.only {w w' : World} {gd gr : Nat} {a : Option Addr} {n c : Nat} {f : Nat → Int} {S : Nat} (h : Around w gd gr a n c f S) (ho : Only (Two gd gr) w w') : Around w' gd gr a n c f S :=
  ⟨h.row.only ho (fun h0 x hx hs => by have := h.far h0 x hx; rcases hs with e | e; exact this.1 e; exact this.2 e), h.far, h.strm, h.max⟩
theorem BR.only {S : Nat → Prop} {w w' : World} {g : Nat} {a : Option Addr} {n c i : Nat} (h : BR w g a n c i) (ho : Only S w w') (hn : ¬ S g) : BR w' g a n c i := by
  obtain ⟨pr, h⟩ := h
  exact ⟨pr, h.only ho hn⟩
theorem two_ne {w : World} {gd gr : Nat} {vs : List Value} {a : Option Addr} {n c i : Nat} (h1 : SObj w gd 96 vs) (h : BR w gr a n c i) : gd ≠ gr := by
  intro e
  subst e
  obtain ⟨pr, h2⟩ := h
  exact absurd (h1.ty.inj h2.ty) (by decide)
theorem DB.ne {w : World} {gd gr : Nat} {a : Option Addr} {n c S p b i : Nat} (h : DB w gd gr a n c S p b i) : gd ≠ gr := two_ne h.1 h.2

theorem read_val (S p b i x : Nat) (hx : x = byteOf S i) (hpb : p + b = 8 * i) (hb : b < 24) : bits .or .u32 (hand S p b : Int) ((x : Int) * 2 ^ b % 4294967296) = (hand S p (b + 8) : Int) := by
  have h1 := hand_lt S p b
  have h2 : x < 256 := by rw [hx]; exact byteOf_lt _ _
  have h3 : 2 ^ b ≤ 2 ^ 23 := Nat.pow_le_pow_right (by decide) (by omega)
  have h4 : x * 2 ^ b ≤ 255 * 2 ^ b := Nat.mul_le_mul_right _ (by omega)
  have e1 : (x : Int) * 2 ^ b = ((x * 2 ^ b : Nat) : Int) := by simp
  have hh := hand_byte S p i (by omega)
  rw [show 8 * (i + 1) - p = b + 8 by omega, show 8 * i - p = b by omega, ← hx] at hh
  rw [e1, Int.emod_eq_of_lt (by omega) (by omega), u32_or_nat _ _ (by omega) (by omega), Nat.or_comm, nat_join b _ _ (Nat.mul_mod_left _ _) h1, hh, Nat.add_comm]

theorem read_and (S p b k : Nat) (hk : k ≤ 24) (hkb : k ≤ b) (hb : b ≤ 31) : bits .and .u32 (hand S p b : Int) ((2 ^ k - 1) % 4294967296) = (hand S p k : Int) ∧ (hand S p b : Int) / 2 ^ k = (hand S (p + k) (b - k) : Int) := by
  have h1 := hand_lt S p b
  have h3 : 2 ^ b ≤ 2 ^ 31 := Nat.pow_le_pow_right (by decide) hb
  have h4 : 2 ^ k ≤ 2 ^ 24 := Nat.pow_le_pow_right (by decide) hk
  have h5 : 0 < 2 ^ k := Nat.pow_pos (by decide)
  have e1 : (2 : Int) ^ k - 1 = ((2 ^ k - 1 : Nat) : Int) := by rw [Int.ofNat_sub h5]; simp
  constructor
  · rw [e1, Int.emod_eq_of_lt (by omega) (by omega), u32_and_nat _ _ (by omega) (by omega), Nat.and_two_pow_sub_one_eq_mod, hand_low _ _ _ _ hkb]
  · rw [← hand_rest _ _ _ _ hkb]; simp

theorem method_readByte (x : Addr) (w : World) : (method 239 59 (.pointer (some x)) "ReadByte").run Tryd.prog w = .ok (85, .pointer (some x)) w := by kernel_rfl

set_option maxRecDepth 100000 in
set_option maxHeartbeats 800000 in
theorem read_ok (gd gr : Nat) (a : Option Addr) (n c : Nat) (f : Nat → Int) (S p k : Nat) (w : World) (h : Rdr w gd gr a n c f S p) (hk : k ≤ 24) (hp : p + k ≤ 8 * n) :
    Calls Tryd.prog 48 #[.pointer (some ⟨gd, 0, none⟩), .int .u32 k] w fun e w' => e = .returned (.tuple #[.int .u32 (hand S p k), .nilIface]) ∧ Rdr w' gd gr a n c f S (p + k) ∧ Only (Two gd gr) w w' := by
  have H := Lib.hid h; clear h
  have hmax := H.out.1.max
  have hm := method_readByte
  go_enter Tryd.func48, Tryd.ntmps48
  go_wp2
  go_loopg [] (n + 1) (fun j wr => ∃ b i, n - i ≤ j ∧ p + b = 8 * i ∧ i ≤ n ∧ b ≤ 31 ∧ Hid (DB wr gd gr a n c S p b i ∧ Only (Two gd gr) w wr))
  case atStart =>
    obtain ⟨b, i, h1, h2, h3, h4⟩ := H.out.2
    exact ⟨b, i, by omega, h2, h3, h4, h1, Only.refl _ _⟩
  case round =>
    obtain ⟨b, i, hj, hpb, hin, hb, hR⟩ := hrel
    have HJ := Lib.hid (And.intro hj hpb); clear hj
    obtain ⟨c0, c1, c2, z1, z2⟩ : wr.cell? ⟨gd, 0, none⟩ = some (.iface 59 (.pointer (some ⟨gr, 0, none⟩))) ∧ wr.cell? ⟨gd, 1, none⟩ = some (.int .u32 (hand S p b)) ∧ wr.cell? ⟨gd, 2, none⟩ = some (.int .u32 b) ∧ wr.frozen? ⟨gd, 1, none⟩ = false ∧ wr.frozen? ⟨gd, 2, none⟩ = false :=
      ⟨hR.out.1.1.cell 0 rfl, hR.out.1.1.cell 1 rfl, hR.out.1.1.cell 2 rfl, hR.out.1.1.free 1, hR.out.1.1.free 2⟩
    by_cases hlt : b < k
    · have hi : i < n := by omega
      clear hpb
      go_wp2_with fail
      have A := H.out.1.only hR.out.2
      refine (readByte_some gr a n c i f wr hR.out.1.2 hi hmax A.row (fun x hx => (A.far (by omega) x hx).2)).mono ?_
      rintro _ w2 ⟨rfl, hbr, hon⟩
      have hne := hR.out.1.ne
      have ho2 := hR.out.1.1.only hon hne
      have c1 := ho2.cell 1 rfl
      have c2 := ho2.cell 2 rfl
      have z1 := ho2.free 1
      have z2 := ho2.free 2
      obtain ⟨x, hx⟩ : ∃ x, x = byteOf S i := ⟨_, rfl⟩
      have hx256 : x < 256 := by rw [hx]; exact byteOf_lt _ _
      rw [A.strm i hi, ← hx]
      have H2 := Lib.hid (And.intro hx (And.intro A (And.intro ho2 (And.intro hbr (hR.out.2.tr (hon.mono (fun k hk => .inr hk)))))))
      clear hx A hbr hon ho2 hne hR
      go_wp2
      go_region
      all_goals
        go_wp2
        go_roundg (gk - 1)
        case measure => have := HJ.out.1; omega
        case rel =>
          have hpb := HJ.out.2
          have e := read_val S p b i x H2.out.1 hpb (by omega)
          refine ⟨b + 8, i + 1, by have := HJ.out.1; omega, by omega, by omega, by omega, ⟨?_, ?_⟩, ?_⟩
          · have e2 : ((b + 8 : Nat) : Int) = (b : Int) + 8 := by omega
            rw [← e, e2]
            exact (H2.out.2.2.1.set 1 _).set 2 _
          · exact BR.only H2.out.2.2.2.1 (((Only.setCell (S := fun k => k = gd) _ _ _ rfl).tr (Only.setCell _ _ _ rfl)).dr) (fun e => two_ne H2.out.2.2.1 H2.out.2.2.2.1 e.symm)
          · exact (H2.out.2.2.2.2.tr (Only.setCell _ _ _ (Or.inl rfl))).tr (Only.setCell _ _ _ (Or.inl rfl)).dr
    · have e := read_and S p b k hk (by omega) hb
      have HE := Lib.hid e; clear e
      go_wp2
      go_ret2
      rw [HE.out.1]
      refine ⟨rfl, ⟨H.out.1.only ?_, b - k, i, ⟨?_, ?_⟩, by have := HJ.out.2; omega, hin, by omega⟩, ?_⟩
      · exact hR.out.2.tr ((Only.setCell _ _ _ (Or.inl rfl)).tr (Only.setCell _ _ _ (Or.inl rfl)))
      · have e2 : ((b - k : Nat) : Int) = (b : Int) - k := by omega
        rw [HE.out.2, e2]
        exact (hR.out.1.1.set 1 _).set 2 _
      · exact BR.only hR.out.1.2 ((Only.setCell (S := fun k => k = gd) _ _ _ rfl).tr (Only.setCell _ _ _ rfl)) (fun e => hR.out.1.ne e.symm)
      · exact hR.out.2.tr ((Only.setCell _ _ _ (Or.inl rfl)).tr (Only.setCell _ _ _ (Or.inl rfl)))
end Go.Proofs.YtdmefbpfpmkdcaaDoor
