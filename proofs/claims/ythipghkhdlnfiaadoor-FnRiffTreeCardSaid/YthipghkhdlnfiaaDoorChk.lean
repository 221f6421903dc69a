/- The contract of the law's comparison of lists of chunks, at equal ones. -/
import Derived.Test.YthipghkhdlnfiaaDoorRfI
import Derived.Test.YthipghkhdlnfiaaDoorBytesEq
namespace Go.Proofs.YthipghkhdlnfiaaDoor
open Go.RowKit
set_option linter.unusedVariables false

/-- A chunk in memory: at cell o of block g. -/
def CkAt (w : World) (g o : Nat) (k : Ck) : Prop := ∃ d c, w.cell? ⟨g, o, none⟩ = some (.int .u8 (k.id.getD 0 0)) ∧ w.cell? ⟨g, o + 1, none⟩ = some (.int .u8 (k.id.getD 1 0)) ∧ w.cell? ⟨g, o + 2, none⟩ = some (.int .u8 (k.id.getD 2 0)) ∧ w.cell? ⟨g, o + 3, none⟩ = some (.int .u8 (k.id.getD 3 0)) ∧ w.cell? ⟨g, o + 4, none⟩ = some (.int .i64 k.len) ∧ w.cell? ⟨g, o + 5, none⟩ = some (.slice d k.data.length c) ∧ w.cell? ⟨g, o + 6, none⟩ = some (.int .i64 k.fin) ∧ Arg .u8 w d k.data.length (fun i => k.data.getD i 0)
/-- A slice of chunks. -/
def Cks (w : World) (a : Option Addr) (l : List Ck) : Prop := 0 < l.length → ∃ g o, a = some ⟨g, o, none⟩ ∧ ∀ i k, l[i]? = some k → CkAt w g (o + i * 7) k

theorem Arg.dn {k : IntKind} {w : World} {a : Option Addr} {n : Nat} {f : Nat → Int} (h : Arg k w a n f) (d : Nat) : Arg k (w.drewN d) a n f := h
theorem neq_id (w : World) (a b c d : Int) : (binOp .neq 26 (.agg #[.int .u8 a, .int .u8 b, .int .u8 c, .int .u8 d]) (.agg #[.int .u8 a, .int .u8 b, .int .u8 c, .int .u8 d])).run Tryd.prog w = .ok (.bool false) w := by
  obtain ⟨i, hi, _⟩ := info_parts (show (Tryd.prog.info? 5).map (fun i => (i.zero, i.size, i.bytes)) = some (some (.int .u8 0), 1, 1) by kernel_rfl)
  have hc : Tryd.prog.cellsOf 5 = 1 := by kernel_rfl
  rw [run_neq_struct, run_equalIn_array w 9999 _ _ Tryd.underlying26 hi, hc]
  simp [List.range, List.range.loop, Op.eqItems, go_sem]
theorem eql_id (w : World) (a b c d : Int) : (binOp .eql 26 (.agg #[.int .u8 a, .int .u8 b, .int .u8 c, .int .u8 d]) (.agg #[.int .u8 a, .int .u8 b, .int .u8 c, .int .u8 d])).run Tryd.prog w = .ok (.bool true) w := by
  obtain ⟨i, hi, _⟩ := info_parts (show (Tryd.prog.info? 5).map (fun i => (i.zero, i.size, i.bytes)) = some (some (.int .u8 0), 1, 1) by kernel_rfl)
  have hc : Tryd.prog.cellsOf 5 = 1 := by kernel_rfl
  rw [run_eql_struct, run_equalIn_array w 9999 _ _ Tryd.underlying26 hi, hc]
  simp [List.range, List.range.loop, Op.eqItems, go_sem]

set_option maxRecDepth 100000 in
set_option maxHeartbeats 4000000 in
theorem chunks_eq (a b : Option Addr) (c c' : Nat) (l : List Ck) (w : World) (hn : l.length ≤ 9223372036854775807) (hd : ∀ k ∈ l, k.data.length ≤ 9223372036854775807) (ha : Cks w a l) (hb : Cks w b l) :
    Calls Tryd.prog 9 #[.slice a l.length c, .slice b l.length c'] w fun e w' => e = .returned (.bool true) ∧ ∃ d, w' = w.drewN d := by
  have HA := Lib.hid ha; clear ha
  have HB := Lib.hid hb; clear hb
  have HD := Lib.hid hd; clear hd
  obtain ⟨n, hnl⟩ : ∃ n, n = l.length := ⟨_, rfl⟩
  rw [← hnl] at hn ⊢
  have HL := Lib.hid hnl; clear hnl
  have kneq := neq_id
  go_enter Tryd.func9, Tryd.ntmps9
  go_wp2
  go_loopw [5] (fun i wr => ∃ k : Nat, k ≤ n ∧ i = .int .i64 k ∧ Hid (∃ d, wr = w.drewN d)) (fun i _ => n - (intOf i).toNat)
  case atStart => exact ⟨0, by omega, rfl, ⟨0, rfl⟩⟩
  case round =>
    obtain ⟨i, hi, rfl, hw⟩ := hrel
    obtain ⟨d, rfl⟩ := hw.out
    clear hw
    by_cases hlt : i < n
    · obtain ⟨ga, oa, rfl, ra⟩ := HA.out (by have := HL.out; omega)
      obtain ⟨gb, ob, rfl, rb⟩ := HB.out (by have := HL.out; omega)
      obtain ⟨k, hk⟩ : ∃ k, l[i]? = some k := ⟨l[i]'(by have := HL.out; omega), List.getElem?_eq_getElem _⟩
      obtain ⟨da, ca, a0, a1, a2, a3, a4, a5, a6, a7⟩ := ra i k hk
      obtain ⟨db, cb, b0, b1, b2, b3, b4, b5, b6, b7⟩ := rb i k hk
      have hkd : k.data.length ≤ 9223372036854775807 := HD.out k (List.mem_of_getElem? hk)
      have HQ : Hid (∀ x : Nat, Calls Tryd.prog 15 #[.slice da k.data.length ca, .slice db k.data.length cb] (w.drewN (d + x)) fun e w' => e = .returned (.bool true) ∧ ∃ m, w' = w.drewN (d + m)) := Lib.hid (fun x => (bytes_eq da db k.data.length ca cb _ _ (w.drewN (d + x)) (by unfold maxLen; omega) (a7.dn _) (b7.dn _) (fun _ _ => rfl)).mono (fun _ _ ⟨h1, m, h2⟩ => ⟨h1, x + m, by rw [h2, World.drewN_drewN, Nat.add_assoc]⟩))
      clear ra rb hk HA HB HD HL a7 b7 hkd
      generalize k.data.length = kl at *
      go_wp2
      go_quiet ((go_at_call 15; exact HQ.out _))
      go_wp2
      go_roundw
      case rel => exact ⟨i + 1, by omega, by go_num, ⟨_, rfl⟩⟩
      case measure => simp [intOf]; omega
    · go_wp2
      go_ret
      exact ⟨rfl, _, rfl⟩
end Go.Proofs.YthipghkhdlnfiaaDoor
