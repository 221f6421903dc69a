/- What the package's stores of a line come to (plain words). -/
import Derived.Test.YtmdijdoaijnpaaaDoorFilt
namespace Go.Proofs.YtmdijdoaijnpaaaDoor
open Go.RowKit

section
variable {F : Nat → Int} {pos : Nat → Nat} {l : Nat → Int} {lev il hl : Int} {fo : Bool}

theorem way_id (hin : Inj8 pos) (e : l = fun j => F (pos j)) (h : ¬ (isNr l lev = true ∧ isSm l il = true)) : put8 F pos (nrm lev il hl fo l) 8 = F := by
  have : nrm lev il hl fo l = l := by unfold nrm; rw [if_neg h]
  rw [this]
  exact (put8_eq hin (fun j _ => by rw [e]) (fun x _ => rfl)).symm

theorem way_two (hin : Inj8 pos) (e : l = fun j => F (pos j)) (h1 : isNr l lev = true) (h2 : isSm l il = true) (h3 : contr l hl = true) :
    put8 F pos (nrm lev il hl fo l) 8 = upd (upd F (pos 3) (hld 0 255 (l 3 + hld (-16) 15 ((3 * (l 4 - l 3) + hld (-128) 127 (l 2 - l 5) + 3) / 8))))
      (pos 4) (hld 0 255 (l 4 - hld (-16) 15 ((3 * (l 4 - l 3) + hld (-128) 127 (l 2 - l 5) + 4) / 8))) := by
  have hn : nrm lev il hl fo l = two l true := by unfold nrm; rw [if_pos ⟨h1, h2⟩, if_pos h3]
  rw [hn]
  have a0 : (∀ j, j < 8 → F (pos j) = l j) ∧ ∀ x, (∀ j, j < 8 → x ≠ pos j) → F x = F x := ⟨fun j _ => by rw [e], fun _ _ => rfl⟩
  have a1 := upd_put8 hin 3 (by decide) (hld 0 255 (l 3 + hld (-16) 15 ((3 * (l 4 - l 3) + hld (-128) 127 (l 2 - l 5) + 3) / 8))) a0.1 a0.2
  have a2 := upd_put8 hin 4 (by decide) (hld 0 255 (l 4 - hld (-16) 15 ((3 * (l 4 - l 3) + hld (-128) 127 (l 2 - l 5) + 4) / 8))) a1.1 a1.2
  refine (put8_eq hin (fun j hj => (a2.1 j hj).trans ?_) a2.2).symm
  have hA : stA l true = 3 * (l 4 - l 3) + hld (-128) 127 (l 2 - l 5) := by unfold stA; rw [if_pos rfl]; omega
  unfold two st1 st2 upd
  rw [hA]
  by_cases j3 : j = 3
  · subst j3; rw [if_neg (by decide), if_pos rfl, if_pos rfl]
  by_cases j4 : j = 4
  · subst j4; rw [if_pos rfl, if_neg (by decide), if_pos rfl]
  rw [if_neg j4, if_neg j3, if_neg j3, if_neg j4]

theorem way_four (hin : Inj8 pos) (e : l = fun j => F (pos j)) (h1 : isNr l lev = true) (h2 : isSm l il = true) (h3 : contr l hl = false) (h4 : fo = true) :
    put8 F pos (nrm lev il hl fo l) 8 = upd (upd (upd (upd F (pos 2) (hld 0 255 (l 2 + (hld (-16) 15 ((3 * (l 4 - l 3) + 4) / 8) + 1) / 2)))
      (pos 3) (hld 0 255 (l 3 + hld (-16) 15 ((3 * (l 4 - l 3) + 3) / 8))))
      (pos 4) (hld 0 255 (l 4 - hld (-16) 15 ((3 * (l 4 - l 3) + 4) / 8))))
      (pos 5) (hld 0 255 (l 5 - (hld (-16) 15 ((3 * (l 4 - l 3) + 4) / 8) + 1) / 2)) := by
  have hn : nrm lev il hl fo l = four l := by unfold nrm; rw [if_pos ⟨h1, h2⟩, if_neg (by rw [h3]; decide), if_pos h4]
  rw [hn]
  have a0 : (∀ j, j < 8 → F (pos j) = l j) ∧ ∀ x, (∀ j, j < 8 → x ≠ pos j) → F x = F x := ⟨fun j _ => by rw [e], fun _ _ => rfl⟩
  have a1 := upd_put8 hin 2 (by decide) (hld 0 255 (l 2 + (hld (-16) 15 ((3 * (l 4 - l 3) + 4) / 8) + 1) / 2)) a0.1 a0.2
  have a2 := upd_put8 hin 3 (by decide) (hld 0 255 (l 3 + hld (-16) 15 ((3 * (l 4 - l 3) + 3) / 8))) a1.1 a1.2
  have a3 := upd_put8 hin 4 (by decide) (hld 0 255 (l 4 - hld (-16) 15 ((3 * (l 4 - l 3) + 4) / 8))) a2.1 a2.2
  have a4 := upd_put8 hin 5 (by decide) (hld 0 255 (l 5 - (hld (-16) 15 ((3 * (l 4 - l 3) + 4) / 8) + 1) / 2)) a3.1 a3.2
  refine (put8_eq hin (fun j hj => (a4.1 j hj).trans ?_) a4.2).symm
  have hA : stA l false = 3 * (l 4 - l 3) := by unfold stA; rw [if_neg (by decide)]; omega
  unfold four two st1 st2 upd
  rw [hA]
  by_cases j2 : j = 2
  · subst j2; simp
  by_cases j3 : j = 3
  · subst j3; simp
  by_cases j4 : j = 4
  · subst j4; simp
  by_cases j5 : j = 5
  · subst j5; simp
  simp [j2, j3, j4, j5]

theorem way_six (hin : Inj8 pos) (e : l = fun j => F (pos j)) (h1 : isNr l lev = true) (h2 : isSm l il = true) (h3 : contr l hl = false) (h4 : fo = false) :
    put8 F pos (nrm lev il hl fo l) 8 = upd (upd (upd (upd (upd (upd F (pos 1) (hld 0 255 (l 1 + (9 * hld (-128) 127 (3 * (l 4 - l 3) + hld (-128) 127 (l 2 - l 5)) + 63) / 128)))
      (pos 2) (hld 0 255 (l 2 + (18 * hld (-128) 127 (3 * (l 4 - l 3) + hld (-128) 127 (l 2 - l 5)) + 63) / 128)))
      (pos 3) (hld 0 255 (l 3 + (27 * hld (-128) 127 (3 * (l 4 - l 3) + hld (-128) 127 (l 2 - l 5)) + 63) / 128)))
      (pos 4) (hld 0 255 (l 4 - (27 * hld (-128) 127 (3 * (l 4 - l 3) + hld (-128) 127 (l 2 - l 5)) + 63) / 128)))
      (pos 5) (hld 0 255 (l 5 - (18 * hld (-128) 127 (3 * (l 4 - l 3) + hld (-128) 127 (l 2 - l 5)) + 63) / 128)))
      (pos 6) (hld 0 255 (l 6 - (9 * hld (-128) 127 (3 * (l 4 - l 3) + hld (-128) 127 (l 2 - l 5)) + 63) / 128)) := by
  have hn : nrm lev il hl fo l = six l := by unfold nrm; rw [if_pos ⟨h1, h2⟩, if_neg (by rw [h3]; decide), if_neg (by rw [h4]; decide)]
  rw [hn]
  have hA : stW l = hld (-128) 127 (3 * (l 4 - l 3) + hld (-128) 127 (l 2 - l 5)) := by
    have : stA l true = 3 * (l 4 - l 3) + hld (-128) 127 (l 2 - l 5) := by unfold stA; rw [if_pos rfl]; omega
    unfold stW; rw [this]
  unfold six
  rw [hA]
  generalize hld (-128) 127 (3 * (l 4 - l 3) + hld (-128) 127 (l 2 - l 5)) = W
  have a0 : (∀ j, j < 8 → F (pos j) = l j) ∧ ∀ x, (∀ j, j < 8 → x ≠ pos j) → F x = F x := ⟨fun j _ => by rw [e], fun _ _ => rfl⟩
  have a1 := upd_put8 hin 1 (by decide) (hld 0 255 (l 1 + (9 * W + 63) / 128)) a0.1 a0.2
  have a2 := upd_put8 hin 2 (by decide) (hld 0 255 (l 2 + (18 * W + 63) / 128)) a1.1 a1.2
  have a3 := upd_put8 hin 3 (by decide) (hld 0 255 (l 3 + (27 * W + 63) / 128)) a2.1 a2.2
  have a4 := upd_put8 hin 4 (by decide) (hld 0 255 (l 4 - (27 * W + 63) / 128)) a3.1 a3.2
  have a5 := upd_put8 hin 5 (by decide) (hld 0 255 (l 5 - (18 * W + 63) / 128)) a4.1 a4.2
  have a6 := upd_put8 hin 6 (by decide) (hld 0 255 (l 6 - (9 * W + 63) / 128)) a5.1 a5.2
  refine (put8_eq hin (fun j hj => (a6.1 j hj).trans ?_) a6.2).symm
  unfold upd
  by_cases j1 : j = 1
  · subst j1; simp
  by_cases j2 : j = 2
  · subst j2; simp
  by_cases j3 : j = 3
  · subst j3; simp
  by_cases j4 : j = 4
  · subst j4; simp
  by_cases j5 : j = 5
  · subst j5; simp
  by_cases j6 : j = 6
  · subst j6; simp
  simp [j1, j2, j3, j4, j5, j6]
end
end Go.Proofs.YtmdijdoaijnpaaaDoor
