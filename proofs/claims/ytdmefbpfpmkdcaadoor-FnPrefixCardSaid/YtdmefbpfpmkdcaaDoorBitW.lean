/- The laws' writer of bits (bitWriter). -/
import Derived.Test.YtdmefbpfpmkdcaaDoorOnly
import Derived.Test.YtdmefbpfpmkdcaaDoorStream
import Derived.Test.YtdmefbpfpmkdcaaDoorBits
import Derived.RegionTactic
import Derived.BigRegion
import Derived.BigQuiet
import Derived.Deep.QuietTactic
import Derived.Deep.RegionLaw
import Derived.Deep.AppendLies
import Derived.StillTailTactics
import Derived.WalkSmall
import Derived.Outline
namespace Go.Proofs.YtdmefbpfpmkdcaaDoor
open Go.RowKit
set_option linter.unusedVariables false

theorem infoByte : (Tryd.prog.info? 5).map (fun i => (i.zero, i.size, i.bytes)) = some (some (.int .u8 0), 1, 1) := by kernel_rfl
/-- The bytes of T, of which q bits are written. -/
def bytesF (T : Nat) (j : Nat) : Int := (byteOf T j : Int)
def lenB (q : Nat) : Nat := (q + 7) / 8
/-- The writer at block g: q bits are written, they are T. -/
def BWr (w : World) (B g T q : Nat) : Prop :=
  ∃ v, SObj w g 27 [v, .int .i64 q] ∧ w.ownsRow B 5 1 v (lenB q) (cellsOf .u8 (lenB q) (bytesF T)) ∧ B ≤ g ∧ T < 2 ^ q

theorem row_ne {w : World} {B g : Nat} {v : Value} {n : Nat} {xs vs : List Value} (h : w.ownsRow B 5 1 v n xs) (ho : SObj w g 27 vs) : ∀ k, v.ownBlock = some k → ¬ (k = g) := by
  intro k hk e
  subst e
  have := (ownsRow_ty h hk).1.inj ho.ty
  exact absurd this (by decide)

theorem cells_set (n : Nat) (f : Nat → Int) (j : Nat) (x : Int) : (cellsOf .u8 n f).set j (.int .u8 x) = cellsOf .u8 n (upd f j x) := by
  apply List.ext_getElem
  · simp [cellsOf]
  · intro i h1 h2
    simp only [cellsOf, List.length_set, List.length_map, List.length_range] at h1
    simp only [cellsOf, List.getElem_set, List.getElem_map, List.getElem_range, upd]
    by_cases e : j = i
    · subst e; simp
    · simp [e, show ¬ i = j from fun h => e h.symm]

theorem put_val (S v p k bt : Nat) (hbt : bt = v / 2 ^ k % 2) (hS : S < 2 ^ p) :
    bits .or .u8 (bytesF S (p / 8)) (wrap64 (bits .and .i64 ((v : Int) / 2 ^ k) 1 * 2 ^ (p % 8)) % 256) = bytesF (S + bt * 2 ^ p) (p / 8) := by
  have h1 : bits .and .i64 ((v : Int) / 2 ^ k) 1 = (bt : Int) := by
    rw [mask1, hbt]
    simp
  obtain ⟨b1, b2⟩ := bit_in S p bt hS (by omega)
  have h8 : 2 ^ (p % 8) ≤ 128 := by
    have : 2 ^ (p % 8) ≤ 2 ^ 7 := Nat.pow_le_pow_right (by decide) (by omega)
    simpa using this
  have hm : bt * 2 ^ (p % 8) ≤ 2 ^ (p % 8) := by
    have := Nat.mul_le_mul_right (2 ^ (p % 8)) (show bt ≤ 1 by omega)
    simpa using this
  have e1 : (bt : Int) * 2 ^ (p % 8) = ((bt * 2 ^ (p % 8) : Nat) : Int) := by simp
  rw [h1, e1, IntWalk.wrap64_in _ (by omega), Int.emod_eq_of_lt (by omega) (by omega)]
  unfold bytesF
  rw [b2, u8_or_nat _ _ (by omega) (by omega), Nat.or_comm, nat_join (p % 8) _ _ (Nat.mul_mod_left _ _) b1, Nat.add_comm]
theorem bytes_put (S p bt : Nat) : ∀ i, i < p / 8 + 1 → upd (bytesF S) (p / 8) (bytesF (S + bt * 2 ^ p) (p / 8)) i = bytesF (S + bt * 2 ^ p) i := by
  intro i hi
  unfold upd
  split
  · subst i; rfl
  · unfold bytesF; rw [bit_other _ _ _ _ (by omega)]
theorem cellsOf_congr {k : IntKind} {n : Nat} {f f' : Nat → Int} (h : ∀ i, i < n → f i = f' i) : cellsOf k n f = cellsOf k n f' := by
  simp only [cellsOf]
  exact List.map_congr_left fun i hi => by rw [h i (List.mem_range.1 hi)]
/-- Behind the store of a byte. -/
theorem bwr_store {wz : World} {B g gr cap S p bt : Nat} (ho : SObj wz g 27 [.slice (some ⟨gr, 0, none⟩) (p / 8 + 1) cap, .int .i64 p])
    (hown : wz.ownsRow B 5 1 (.slice (some ⟨gr, 0, none⟩) (p / 8 + 1) cap) (p / 8 + 1) (cellsOf .u8 (p / 8 + 1) (bytesF S))) {x : Int} (hx : x = bytesF (S + bt * 2 ^ p) (p / 8)) :
    SObj (wz.setCell ⟨gr, p / 8, none⟩ (.int .u8 x)) g 27 [.slice (some ⟨gr, 0, none⟩) (p / 8 + 1) cap, .int .i64 p] ∧
    (wz.setCell ⟨gr, p / 8, none⟩ (.int .u8 x)).ownsRow B 5 1 (.slice (some ⟨gr, 0, none⟩) (p / 8 + 1) cap) (p / 8 + 1) (cellsOf .u8 (p / 8 + 1) (bytesF (S + bt * 2 ^ p))) ∧
    Only (Of wz B 5 g) wz (wz.setCell ⟨gr, p / 8, none⟩ (.int .u8 x)) := by
  have hne := row_ne hown ho gr rfl
  refine ⟨ho.far _ (fun e => hne e.symm) _, ?_, Only.setCell _ _ _ (.inr ?_)⟩
  · have := (hown.stored (p / 8) (.int .u8 x)).1
    rw [cells_set, hx, cellsOf_congr (bytes_put S p bt)] at this
    rw [hx]
    exact this
  · have := ownsRow_ty hown (k := gr) rfl
    exact ⟨this.2.1, this.1⟩
theorem Only.trOf' {w w1 w2 : World} {B : Nat} {e : TypeId} {g : Nat} (h : Only (Of w B e g) w w1) (k : Only (Of w1 B e g) w1 w2) (d : Nat) : Only (Of w B e g) w (w2.drewN d) := (h.trOf k).tr (Only.drewN _ _ _)

set_option maxRecDepth 100000 in
set_option maxHeartbeats 800000 in
theorem put_any (B g T q v n : Nat) (w : World) (hb : BWr w B g T q) (hv : v < 16777216) (hn : n ≤ 24) (hq : q ≤ 100000) :
    Calls Tryd.prog 11 #[.pointer (some ⟨g, 0, none⟩), .int .i64 v, .int .i64 n] w fun e w' => e = .returned (.tuple #[]) ∧ BWr w' B g (T + v % 2 ^ n * 2 ^ q) (q + n) ∧ Only (Of w B 5 g) w w' := by
  obtain ⟨i0, hi, hz0, hz1, hz2⟩ := info_parts infoByte
  have H := Lib.hid hb; clear hb
  go_enter Tryd.func11, Tryd.ntmps11
  go_wp2
  go_loopw [6] (fun i wr => ∃ k : Nat, k ≤ n ∧ i = .int .i64 k ∧ Hid (BWr wr B g (T + v % 2 ^ k * 2 ^ q) (q + k) ∧ Only (Of w B 5 g) w wr)) (fun i _ => n - (intOf i).toNat)
  case atStart => exact ⟨0, by omega, rfl, by simpa [Nat.mod_one] using H.out, Only.refl _ _⟩
  case round =>
    obtain ⟨k, hk, rfl, hR⟩ := hrel
    by_cases hlt : k < n
    · obtain ⟨p, hp⟩ : ∃ p, p = q + k := ⟨_, rfl⟩
      have hp0 : p ≤ 100024 := by omega
      rw [← hp] at hR
      obtain ⟨S, hS⟩ : ∃ S, S = T + v % 2 ^ k * 2 ^ q := ⟨_, rfl⟩
      obtain ⟨bt, hbt⟩ : ∃ bt, bt = v / 2 ^ k % 2 := ⟨_, rfl⟩
      have hb1 : bt ≤ 1 := by omega
      have HE : Hid (T + v % 2 ^ (k + 1) * 2 ^ q = S + bt * 2 ^ p) := Lib.hid (by rw [more_bit, ← hS, ← hbt, ← hp])
      rw [← hS] at hR
      have HP := Lib.hid hp; clear hp hS
      have HBT := Lib.hid hbt; clear hbt
      obtain ⟨u, ho, hown, hB, hS⟩ := hR.out.1
      have c0 := ho.cell 0 rfl
      have c1 := ho.cell 1 rfl
      have z0 := ho.free 0
      have z1 := ho.free 1
      have HS := Lib.hid hS; clear hS
      have hlen : lenB (p + 1) = p / 8 + 1 := by unfold lenB; omega
      have HL := Lib.hid hlen; clear hlen
      have hne := row_ne hown ho
      have Hne := Lib.hid hne; clear hne
      by_cases h8 : p % 8 = 0
      · have q1 : ((p : Int) % 8 == 0) = true := by simp; omega
        have HLp : Hid (lenB p = p / 8 ∧ bytesF S (p / 8) = 0) := Lib.hid ⟨by unfold lenB; omega, by unfold bytesF; rw [byte_past S p (p / 8) HS.out (by omega)]; rfl⟩
        have H8 := Lib.hid h8
        clear h8
        have hown' : wr.ownsRow B 5 1 u (p / 8) (cellsOf .u8 (p / 8) (bytesF S)) := by rw [HLp.out.1] at hown; exact hown
        have hBw : B ≤ wr.heap.size := by have := ho.lt; omega
        have Hown := Lib.hid (And.intro ho hown'); clear ho hown
        go_wp2_with (at_builtin; refine wpList_append_lies _ rfl _ _ 23 rfl B 5 i0 (.int .u8 0) 1 1 Tryd.underlying23 hi hz0 hz1 hz2 rfl (by decide) _ _ _ rfl (hown'.alloc _) ⟨wr.heap.size, 0, none⟩ 1 1 [.int .u8 0] rfl rfl (cell_one_new _ _ _) (by simp [Value.oneCell']) (by omega) (by unfold maxLen; omega) (by omega) (by simp; omega) _ rfl ?_)
        intro gr cap w1 hown1 hgrow hat hlt1
        have hne1 : u.ownBlock ≠ some g := fun e => Hne.out g e rfl
        have ho1 := SObj.grown (Hown.out.1.alloc _) hgrow (fun h => hne1 h.symm)
        have k0 := ho1.cell 0 rfl
        have kz0 := ho1.free 0
        have hob : Only (Of wr B 5 g) wr w1 := (Only.alloc _ wr _).tr (Only.of_grown hgrow (fun k hk => .inr ⟨(ownsRow_ty Hown.out.2 hk).2.1, (ownsRow_ty Hown.out.2 hk).1⟩))
        have hown2 : w1.ownsRow B 5 1 (.slice (some ⟨gr, 0, none⟩) (p / 8 + 1) cap) (p / 8 + 1) (cellsOf .u8 (p / 8 + 1) (bytesF S)) := by rw [cellsOf_succ, HLp.out.2]; exact hown1
        have H1 := Lib.hid (And.intro ho1 (And.intro hown2 hob))
        clear hown1 hgrow hat ho1 hown2 hob hown' c0 c1 z0 z1 q1
        go_wp2
        obtain ⟨wz, hwz⟩ : ∃ wz, wz = w1.setCell ⟨g, 0, none⟩ (.slice (some ⟨gr, 0, none⟩) (p / 8 + 1) cap) := ⟨_, rfl⟩
        rw [← hwz]
        have ho : SObj wz g 27 [.slice (some ⟨gr, 0, none⟩) (p / 8 + 1) cap, .int .i64 p] := by rw [hwz]; exact H1.out.1.set 0 _
        have hown' : wz.ownsRow B 5 1 (.slice (some ⟨gr, 0, none⟩) (p / 8 + 1) cap) (p / 8 + 1) (cellsOf .u8 (p / 8 + 1) (bytesF S)) := by
          rw [hwz]
          exact ownsRow_only H1.out.2.1 (Only.setCell (S := fun k => k = g) _ _ _ rfl) (row_ne H1.out.2.1 H1.out.1)
        have HZ : Hid (Only (Of w B 5 g) w wz) := Lib.hid (by
          rw [hwz]
          exact (hR.out.2.trOf H1.out.2.2).tr (Only.setCell _ _ _ (Or.inl rfl)))
        clear hwz hR HLp Hne H1 k0 kz0 Hown
        have c0 := ho.cell 0 rfl
        have c1 := ho.cell 1 rfl
        have z0 := ho.free 0
        have z1 := ho.free 1
        have cr : wz.cell? ⟨gr, p / 8, none⟩ = some (.int .u8 (bytesF S (p / 8))) := by
          have := hown'.cellAt (p / 8) (by simp)
          simpa [cellsOf] using this
        have zr : wz.frozen? ⟨gr, p / 8, none⟩ = false := hown'.frozenAt _
        have hst := bwr_store ho hown' (put_val S v p k bt HBT.out HS.out)
        have HN := Lib.hid hst; clear ho hown' hst
        go_region
        all_goals
          generalize wz.setCell ⟨gr, p / 8, none⟩ (.int .u8 (bits .or .u8 (bytesF S (p / 8)) (wrap64 (bits .and .i64 ((v : Int) / 2 ^ k) 1 * 2 ^ (p % 8)) % 256))) = w2 at HN ⊢
          clear c0 c1 z0 z1 cr zr
          have c1 := HN.out.1.cell 1 rfl
          have z1 := HN.out.1.free 1
          go_wp2
          go_roundw
          case rel => exact ⟨k + 1, by omega, by go_num, by
            rw [HE.out, ← Nat.add_assoc, ← HP.out]
            refine ⟨⟨_, HN.out.1.set 1 _, ?_, hB, ?_⟩, ?_⟩
            · rw [HL.out]
              exact ownsRow_only HN.out.2.1 (Only.setCell (S := fun k => k = g) _ _ _ rfl).dr (row_ne HN.out.2.1 HN.out.1)
            · rw [Nat.pow_succ]
              have := Nat.mul_le_mul_right (2 ^ p) hb1
              have := HS.out
              omega
            · exact (HZ.out.trOf HN.out.2.2).tr (Only.setCell _ _ _ (Or.inl rfl)).dr⟩
          case measure => simp [intOf]; omega
      · have q1 : ((p : Int) % 8 == 0) = false := by simp; omega
        have HLp : Hid (lenB p = p / 8 + 1) := Lib.hid (by unfold lenB; omega)
        have H8 := Lib.hid h8
        clear h8
        have hown' : wr.ownsRow B 5 1 u (p / 8 + 1) (cellsOf .u8 (p / 8 + 1) (bytesF S)) := by rw [HLp.out] at hown; exact hown
        obtain ⟨gr, cap, hu, hgr, hglt⟩ := hown'.form (by omega)
        subst hu
        clear hown
        go_wp2
        obtain ⟨wz, hwz⟩ : ∃ wz, wz = wr := ⟨_, rfl⟩
        rw [← hwz] at ho hown' ⊢
        have HZ : Hid (Only (Of w B 5 g) w wz) := Lib.hid (by rw [hwz]; exact hR.out.2)
        clear hwz hR c0 c1 z0 z1 q1 HLp Hne
        have c0 := ho.cell 0 rfl
        have c1 := ho.cell 1 rfl
        have z0 := ho.free 0
        have z1 := ho.free 1
        have cr : wz.cell? ⟨gr, p / 8, none⟩ = some (.int .u8 (bytesF S (p / 8))) := by
          have := hown'.cellAt (p / 8) (by simp)
          simpa [cellsOf] using this
        have zr : wz.frozen? ⟨gr, p / 8, none⟩ = false := hown'.frozenAt _
        have hst := bwr_store ho hown' (put_val S v p k bt HBT.out HS.out)
        have HN := Lib.hid hst; clear ho hown' hst
        go_region
        all_goals
          generalize wz.setCell ⟨gr, p / 8, none⟩ (.int .u8 (bits .or .u8 (bytesF S (p / 8)) (wrap64 (bits .and .i64 ((v : Int) / 2 ^ k) 1 * 2 ^ (p % 8)) % 256))) = w2 at HN ⊢
          clear c0 c1 z0 z1 cr zr
          have c1 := HN.out.1.cell 1 rfl
          have z1 := HN.out.1.free 1
          go_wp2
          go_roundw
          case rel => exact ⟨k + 1, by omega, by go_num, by
            rw [HE.out, ← Nat.add_assoc, ← HP.out]
            refine ⟨⟨_, HN.out.1.set 1 _, ?_, hB, ?_⟩, ?_⟩
            · rw [HL.out]
              exact ownsRow_only HN.out.2.1 (Only.setCell (S := fun k => k = g) _ _ _ rfl).dr (row_ne HN.out.2.1 HN.out.1)
            · rw [Nat.pow_succ]
              have := Nat.mul_le_mul_right (2 ^ p) hb1
              have := HS.out
              omega
            · exact (HZ.out.trOf HN.out.2.2).tr (Only.setCell _ _ _ (Or.inl rfl)).dr⟩
          case measure => simp [intOf]; omega
    · obtain rfl : k = n := by omega
      go_wp2
      go_end0
      go_wp2
      exact hR.out
end Go.Proofs.YtdmefbpfpmkdcaaDoor
