/- The law's choices: byte, next, is: what they tell is within bounds. -/
import Derived.Test.YthipghkhdlnfiaaDoorOnly
import Derived.BigQuiet
import Derived.Deep.QuietTactic
import Derived.Lib.Hide
import Derived.Outline
import Derived.Deep.Cut
import Derived.WalkSpells
namespace Go.Proofs.YthipghkhdlnfiaaDoor
open Go.RowKit
set_option linter.unusedVariables false

/-- Choices in block gc, over bn bytes. -/
structure CH (w : World) (gc : Nat) (ba : Option Addr) (bn bc : Nat) (f : Nat → Int) : Prop where
  obj : ∃ i : Nat, i ≤ bn ∧ SObj w gc 77 [.slice ba bn bc, .int .i64 i, .bool false]
  row : Arg .u8 w ba bn f
  far : 0 < bn → ∀ p, ba = some p → p.block ≠ gc
  u8 : ∀ i, 0 ≤ f i ∧ f i ≤ 255
  max : bn ≤ 65536
theorem CH.only {S : Nat → Prop} {w w' : World} {gc : Nat} {ba : Option Addr} {bn bc : Nat} {f : Nat → Int} (h : CH w gc ba bn bc f) (ho : Only S w w') (hg : ¬ S gc) (hb : 0 < bn → ∀ p, ba = some p → ¬ S p.block) : CH w' gc ba bn bc f := by
  obtain ⟨i, hi, hs⟩ := h.obj
  exact ⟨⟨i, hi, hs.only ho hg⟩, h.row.only ho hb, h.far, h.u8, h.max⟩

set_option maxRecDepth 100000 in
set_option maxHeartbeats 4000000 in
theorem chByte_any (gc : Nat) (ba : Option Addr) (bn bc : Nat) (f : Nat → Int) (w : World) (h : CH w gc ba bn bc f) :
    Calls Tryd.prog 33 #[.pointer (some ⟨gc, 0, none⟩)] w fun e w' => ∃ v : Nat, e = .returned (.int .i64 v) ∧ v ≤ 255 ∧ CH w' gc ba bn bc f ∧ Only (fun k => k = gc) w w' := by
  obtain ⟨i, hi, hs⟩ := h.obj
  have HS := Lib.hid (And.intro h hs)
  have hm := h.max
  have c0 := hs.cell 0 rfl
  have c1 := hs.cell 1 rfl
  have fr := hs.free 1
  by_cases hlt : i < bn
  · obtain ⟨g, o, rfl, hg, hr⟩ := h.row (by omega)
    have hgc : g ≠ gc := h.far (by omega) _ rfl
    have hc := hr i hlt
    obtain ⟨v, hv, hv2⟩ : ∃ v : Nat, f i = (v : Int) ∧ v ≤ 255 := ⟨(f i).toNat, by have := h.u8 i; omega, by have := h.u8 i; omega⟩
    rw [hv] at hc
    have HX : Hid (∀ d, ∃ w2, w2 = (w.drewN d).setCell ⟨gc, 1, none⟩ (.int .i64 ((i : Int) + 1)) ∧ CH w2 gc (some ⟨g, o, none⟩) bn bc f ∧ Only (fun k => k = gc) w w2 ∧ w2.cell? ⟨gc, 0, none⟩ = some (.slice (some ⟨g, o, none⟩) bn bc) ∧ w2.cell? ⟨gc, 1, none⟩ = some (.int .i64 ((i : Int) + 1)) ∧ w2.cell? ⟨g, o + i, none⟩ = some (.int .u8 v)) := Lib.hid (fun d => by
      have ho : Only (fun k => k = gc) w ((w.drewN d).setCell ⟨gc, 1, none⟩ (.int .i64 ((i : Int) + 1))) := (Only.drewN _ w d).tr (Only.setCell _ _ _ rfl)
      have hs2 := (hs.drewN d).set 1 (.int .i64 ((i : Int) + 1))
      have hrow := h.row.only ho (fun _ p hp e => by injection hp with hp; subst hp; exact hgc e)
      refine ⟨_, rfl, ⟨⟨i + 1, by omega, ?_⟩, hrow, h.far, h.u8, h.max⟩, ho, hs2.cell 0 rfl, hs2.cell 1 rfl, ?_⟩
      · have e : ((i + 1 : Nat) : Int) = (i : Int) + 1 := by omega
        rw [e]; exact hs2
      · obtain ⟨g', o', e1, _, hr'⟩ := hrow (by omega)
        injection e1 with e1
        injection e1 with e1 e2
        subst e1 e2
        rw [hr' i hlt, hv])
    clear h hr hs
    go_enter Tryd.func33, Tryd.ntmps33
    go_wp2
    go_quiet (fail)
    go_upto_region 4 with fail
    obtain ⟨w2, hw2, h2⟩ := HX.out nq
    rw [← hw2]
    have H2 := Lib.hid (And.intro h2.1 h2.2.1)
    have e0 := h2.2.2.1
    have e1 := h2.2.2.2.1
    have e2 := h2.2.2.2.2
    clear hw2 h2 c0 c1 fr hc
    go_quiet (fail)
    go_wp2
    go_ret
    exact ⟨v, rfl, hv2, H2.out.1.only (Only.drewN (fun _ => False) w2 nq) (fun h => h) (fun _ _ _ h => h), H2.out.2.tr (Only.drewN _ w2 nq)⟩
  · have HX : Hid (CH w gc ba bn bc f) := Lib.hid h
    clear h hs
    go_enter Tryd.func33, Tryd.ntmps33
    go_wp2
    go_quiet (fail)
    go_wp2
    go_ret
    exact ⟨0, rfl, by omega, HX.out.only (Only.drewN (fun _ => False) w nq) (fun h => h) (fun _ _ _ h => h), Only.drewN _ w nq⟩

set_option maxRecDepth 100000 in
set_option maxHeartbeats 4000000 in
theorem chNext_any (n : Nat) (gc : Nat) (ba : Option Addr) (bn bc : Nat) (f : Nat → Int) (w : World) (h : CH w gc ba bn bc f) (h2 : 2 ≤ n) (hn : n ≤ 256) :
    Calls Tryd.prog 25 #[.pointer (some ⟨gc, 0, none⟩), .int .i64 n] w fun e w' => ∃ v : Nat, e = .returned (.int .i64 v) ∧ v < n ∧ CH w' gc ba bn bc f ∧ Only (fun k => k = gc) w w' := by
  have HC := Lib.hid (chByte_any gc ba bn bc f w h)
  clear h
  go_enter Tryd.func25, Tryd.ntmps25
  go_wp2_with fail
  refine HC.out.mono ?_
  rintro _ w2 ⟨v, rfl, hv, hc2, ho2⟩
  have H2 := Lib.hid (And.intro hc2 ho2)
  clear hc2 ho2
  obtain ⟨m, hm⟩ : ∃ m : Nat, m = v % n := ⟨_, rfl⟩
  have hml : m < n := by rw [hm]; exact Nat.mod_lt _ (by omega)
  have hmi : Int.tmod (v : Int) (n : Int) = (m : Int) := by rw [hm]; rfl
  have hmi2 : (v : Int) % (n : Int) = (m : Int) := by rw [hm]; rfl
  have nz : ¬ n = 0 := by omega
  have nz2 : ((n : Int) == 0) = false := beq_false_of_ne (by omega)
  have nz3 : ¬ (n : Int) = 0 := by omega
  clear hm
  go_wp2
  go_ret
  exact ⟨m, rfl, hml, H2.out.1, H2.out.2⟩

set_option maxRecDepth 100000 in
set_option maxHeartbeats 4000000 in
theorem chIs_any (n : Nat) (gc : Nat) (ba : Option Addr) (bn bc : Nat) (f : Nat → Int) (w : World) (h : CH w gc ba bn bc f) (h2 : 2 ≤ n) (hn : n ≤ 256) :
    Calls Tryd.prog 26 #[.pointer (some ⟨gc, 0, none⟩), .int .i64 n] w fun e w' => (e = .returned (.bool true) ∨ e = .returned (.bool false)) ∧ CH w' gc ba bn bc f ∧ Only (fun k => k = gc) w w' := by
  have HC := Lib.hid (chNext_any n gc ba bn bc f w h h2 hn)
  clear h
  go_enter Tryd.func26, Tryd.ntmps26
  go_wp2_with fail
  refine HC.out.mono ?_
  rintro _ w2 ⟨v, rfl, hv, hc2, ho2⟩
  have H2 := Lib.hid (And.intro hc2 ho2)
  clear hc2 ho2
  by_cases he : (v : Int) = (n : Int) - 1
  · have hb : ((v : Int) == (n : Int) - 1) = true := by rw [he]; exact beq_self_eq_true _
    clear he
    go_wp2
    go_ret
    exact ⟨.inl rfl, H2.out.1, H2.out.2⟩
  · have hb : ((v : Int) == (n : Int) - 1) = false := beq_false_of_ne he
    clear he
    go_wp2
    go_ret
    exact ⟨.inr rfl, H2.out.1, H2.out.2⟩
end Go.Proofs.YthipghkhdlnfiaaDoor
