/- The package's reader of bits over a bytes.Reader. -/
import Derived.Test.YtdmefbpfpmkdcaaDoorBitW
import Derived.WalkLawsBesides
namespace Go.Proofs.YtdmefbpfpmkdcaaDoor
open Go.RowKit
set_option linter.unusedVariables false

/-- A bytes.Reader at block g, of which i bytes are read. -/
def BR (w : World) (g : Nat) (a : Option Addr) (n c i : Nat) : Prop := ∃ pr : Int, SObj w g 98 [.slice a n c, .int .i64 i, .int .i64 pr]

set_option maxRecDepth 100000 in
theorem readByte_some (g : Nat) (a : Option Addr) (n c i : Nat) (f : Nat → Int) (w : World) (h : BR w g a n c i) (hi : i < n) (hn : n ≤ 140737488351232) (ha : Arg .u8 w a n f) (hne : ∀ p, a = some p → p.block ≠ g) :
    Calls Tryd.prog 85 #[.pointer (some ⟨g, 0, none⟩)] w fun e w' => e = .returned (.tuple #[.int .u8 (f i), .nilIface]) ∧ BR w' g a n c (i + 1) ∧ Only (fun k => k = g) w w' := by
  obtain ⟨pr, ho⟩ := h
  obtain ⟨ga, oa, rfl, hlt, hrow⟩ := ha (by omega)
  have hgne := hne _ rfl
  simp only at hgne
  have c2 := ho.cell 2 rfl
  have z2 := ho.free 2
  have HO := Lib.hid ho; clear ho
  have HR := Lib.hid hrow; clear hrow
  have HNE := Lib.hid hgne; clear hne ha
  go_enter Tryd.func85, Tryd.ntmps85
  go_wp2
  generalize hw1 : w.setCell ⟨g, 2, none⟩ (.int .i64 (-1)) = w1
  have H1 : Hid (SObj w1 g 98 [.slice (some ⟨ga, oa, none⟩) n c, .int .i64 i, .int .i64 (-1)] ∧ Only (fun k => k = g) w w1 ∧ w1.cell? ⟨ga, oa + i, none⟩ = some (.int .u8 (f i))) := by
    rw [← hw1]
    exact Lib.hid ⟨HO.out.set 2 _, Only.setCell _ _ _ rfl, HR.out.far _ (fun e => HNE.out e.symm) _ i hi⟩
  clear hw1 c2 z2
  have c0 := H1.out.1.cell 0 rfl
  have c1 := H1.out.1.cell 1 rfl
  have z1 := H1.out.1.free 1
  have cr := H1.out.2.2
  go_quiet (fail)
  go_wp2
  go_quiet (fail)
  go_wp2
  go_ret2
  exact ⟨rfl, ⟨_, H1.out.1.set 1 _⟩, (H1.out.2.1.dN _).tr (Only.setCell (S := fun k => k = g) _ _ _ rfl)⟩

set_option maxRecDepth 100000 in
theorem readByte_none (g : Nat) (a : Option Addr) (n c : Nat) (E : Value) (w : World) (h : BR w g a n c n) (hn : n ≤ 140737488351232) (hE : w.cell? ⟨0, 0, none⟩ = some E) (hg : 0 ≠ g) :
    Calls Tryd.prog 85 #[.pointer (some ⟨g, 0, none⟩)] w fun e w' => e = .returned (.tuple #[.int .u8 0, E]) ∧ BR w' g a n c n ∧ Only (fun k => k = g) w w' := by
  obtain ⟨pr, ho⟩ := h
  have c2 := ho.cell 2 rfl
  have z2 := ho.free 2
  have HO := Lib.hid (And.intro ho hE); clear ho hE
  have HG := Lib.hid hg; clear hg
  go_enter Tryd.func85, Tryd.ntmps85
  go_wp2
  generalize hw1 : w.setCell ⟨g, 2, none⟩ (.int .i64 (-1)) = w1
  have H1 : Hid (SObj w1 g 98 [.slice a n c, .int .i64 n, .int .i64 (-1)] ∧ Only (fun k => k = g) w w1 ∧ w1.cell? ⟨0, 0, none⟩ = some E) := by
    rw [← hw1]
    refine Lib.hid ⟨HO.out.1.set 2 _, Only.setCell _ _ _ rfl, ?_⟩
    rw [World.cell?_setCell_other _ _ _ _ (by intro h; injection h with h1; exact HG.out h1.symm)]
    exact HO.out.2
  clear hw1 c2 z2
  have c0 := H1.out.1.cell 0 rfl
  have c1 := H1.out.1.cell 1 rfl
  have z1 := H1.out.1.free 1
  have cr := H1.out.2.2
  go_quiet (fail)
  go_wp2
  go_quiet (fail)
  go_wp2
  go_ret2
  exact ⟨rfl, ⟨_, H1.out.1⟩, (H1.out.2.1.dN _).dN _⟩
end Go.Proofs.YtdmefbpfpmkdcaaDoor
