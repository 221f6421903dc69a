/- The package's decoder of bits: read where the bits end. -/
import Derived.Test.YtdmefbpfpmkdcaaDoorSyms
namespace Go.Proofs.YtdmefbpfpmkdcaaDoor
open Go.RowKit
set_option linter.unusedVariables false

set_option maxRecDepth 100000 in
set_option maxHeartbeats 800000 in
theorem read_end (gd gr : Nat) (a : Option Addr) (n c : Nat) (f : Nat → Int) (S p k : Nat) (w : World) (h : Rdr w gd gr a n c f S p) (hk : k ≤ 24) (hp : 8 * n < p + k) (hse : SntE w) (hne : ∀ g, g ≤ 1 → ¬ Two gd gr g) :
    Calls Tryd.prog 48 #[.pointer (some ⟨gd, 0, none⟩), .int .u32 k] w fun e w' => (∃ x, e = .returned (.tuple #[.int .u32 0, errV x])) ∧ Only (Two gd gr) w w' := by
  have H := Lib.hid h; clear h
  have HE := Lib.hid (And.intro hse hne); clear hse hne
  have hmax := H.out.1.max
  have hm := method_readByte
  go_enter Tryd.func48, Tryd.ntmps48
  go_wp2
  go_loopg [] (n + 1) (fun j wr => ∃ b i, n - i ≤ j ∧ p + b = 8 * i ∧ i ≤ n ∧ b ≤ 31 ∧ Hid (DB wr gd gr a n c S p b i ∧ Only (Two gd gr) w wr))
  case atStart =>
    obtain ⟨b, i, h1, h2, h3, h4⟩ := H.out.2
    exact ⟨b, i, by omega, h2, h3, h4, h1, Only.refl _ _⟩
  case round =>
    obtain ⟨b, i, hj, hpb, hin, hb, hR⟩ := hrel
    have HJ := Lib.hid (And.intro hj hpb); clear hj
    obtain ⟨c0, c1, c2, z1, z2⟩ : wr.cell? ⟨gd, 0, none⟩ = some (.iface 59 (.pointer (some ⟨gr, 0, none⟩))) ∧ wr.cell? ⟨gd, 1, none⟩ = some (.int .u32 (hand S p b)) ∧ wr.cell? ⟨gd, 2, none⟩ = some (.int .u32 b) ∧ wr.frozen? ⟨gd, 1, none⟩ = false ∧ wr.frozen? ⟨gd, 2, none⟩ = false :=
      ⟨hR.out.1.1.cell 0 rfl, hR.out.1.1.cell 1 rfl, hR.out.1.1.cell 2 rfl, hR.out.1.1.free 1, hR.out.1.1.free 2⟩
    have hlt : b < k := by omega
    by_cases hi : i < n
    · clear hpb
      go_wp2_with fail
      have A := H.out.1.only hR.out.2
      refine (readByte_some gr a n c i f wr hR.out.1.2 hi hmax A.row (fun x hx => (A.far (by omega) x hx).2)).mono ?_
      rintro _ w2 ⟨rfl, hbr, hon⟩
      have hne := hR.out.1.ne
      have ho2 := hR.out.1.1.only hon hne
      have c1 := ho2.cell 1 rfl
      have c2 := ho2.cell 2 rfl
      have z1 := ho2.free 1
      have z2 := ho2.free 2
      obtain ⟨x, hx⟩ : ∃ x, x = byteOf S i := ⟨_, rfl⟩
      have hx256 : x < 256 := by rw [hx]; exact byteOf_lt _ _
      rw [A.strm i hi, ← hx]
      have H2 := Lib.hid (And.intro hx (And.intro A (And.intro ho2 (And.intro hbr (hR.out.2.tr (hon.mono (fun k hk => .inr hk)))))))
      clear hx A hbr hon ho2 hne hR
      go_wp2
      go_region
      all_goals
        go_wp2
        go_roundg (gk - 1)
        case measure => have := HJ.out.1; omega
        case rel =>
          have hpb := HJ.out.2
          have e := read_val S p b i x H2.out.1 hpb (by omega)
          refine ⟨b + 8, i + 1, by have := HJ.out.1; omega, by omega, by omega, by omega, ⟨?_, ?_⟩, ?_⟩
          · have e2 : ((b + 8 : Nat) : Int) = (b : Int) + 8 := by omega
            rw [← e, e2]
            exact (H2.out.2.2.1.set 1 _).set 2 _
          · exact BR.only H2.out.2.2.2.1 (((Only.setCell (S := fun k => k = gd) _ _ _ rfl).tr (Only.setCell _ _ _ rfl)).dr) (fun e => two_ne H2.out.2.2.1 H2.out.2.2.2.1 e.symm)
          · exact (H2.out.2.2.2.2.tr (Only.setCell _ _ _ (Or.inl rfl))).tr (Only.setCell _ _ _ (Or.inl rfl)).dr
    · obtain rfl : i = n := by omega
      clear hpb
      obtain ⟨⟨aE, hE⟩, ⟨aU, hU⟩⟩ := HE.out.1.only hR.out.2 HE.out.2
      go_wp2_with fail
      refine (readByte_none gr a i c (errV aE) wr hR.out.1.2 hmax hE (fun e => HE.out.2 _ (by decide) (.inr e))).mono ?_
      rintro _ w3 ⟨rfl, hbr3, hon3⟩
      have ho3 := hR.out.2.tr (hon3.mono (S' := Two gd gr) (fun k hk => .inr hk))
      obtain ⟨⟨aE', hE'⟩, ⟨aU', hU'⟩⟩ := HE.out.1.only ho3 HE.out.2
      have e1 : errV aE' = errV aE := by
        have h5 := (World.cell?_of_block (hon3.block _ (World.block_lt_of_cell? wr _ hE) (fun e => HE.out.2 _ (by decide) (.inr e)))).trans hE
        rw [hE'] at h5
        injection h5
      rw [e1] at hE'
      have HW3 := Lib.hid ho3
      unfold errV at hE' hU' ⊢
      have hq := eql_err aE
      clear hE hU e1 hbr3 hon3 ho3 c0 c1 c2 z1 z2
      go_wp2
      (try rw [Exit.noGoto_ret])
      (try rw [jumpRet])
      go_ret2
      exact ⟨⟨aU', rfl⟩, HW3.out⟩
end Go.Proofs.YtdmefbpfpmkdcaaDoor
