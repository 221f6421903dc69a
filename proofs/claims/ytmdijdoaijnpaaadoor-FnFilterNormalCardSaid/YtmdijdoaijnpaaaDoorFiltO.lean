/- The reference's filter of many lines (line.over), for the normal one. -/
import Derived.Test.YtmdijdoaijnpaaaDoorFiltR
import Derived.BigCall
import Derived.Laws.AppendOwn
namespace Go.Proofs.YtmdijdoaijnpaaaDoor
open Go.RowKit
set_option linter.unusedVariables false

theorem infoU8 : (Tryd.prog.info? 5).map (fun i => (i.zero, i.size, i.bytes)) = some (some (.int .u8 0), 1, 1) := by kernel_rfl

/-- What stands all through the call: the struct in its block, the row in its own. -/
structure OV (w w' : World) (g m : Nat) (f : Nat → Int) (most near high : Int) (large : Bool) : Prop where
  obj : SObj w' w.heap.size 48 [.int .i64 most, .int .i64 near, .int .i64 high, .bool false, .bool large]
  row : Row .u8 w' g 0 m f
  fre : Wr w' g 0 m
  bel : Below w.heap.size w w'
  lo : w.heap.size < g
  hi : g < w'.heap.size
theorem OV.below {w w' w'' : World} {g m : Nat} {f : Nat → Int} {most near high : Int} {large : Bool} (h : OV w w' g m f most near high large) (hb : Below w'.heap.size w' w'') : OV w w'' g m f most near high large :=
  ⟨h.obj.below hb (by have := h.lo; have := h.hi; omega), h.row.below hb h.hi, h.fre.below hb h.hi, h.bel.trans (hb.mono h.bel.size), h.lo, Nat.lt_of_lt_of_le h.hi hb.size⟩
theorem OV.far {w w' : World} {g m : Nat} {f : Nat → Int} {most near high : Int} {large : Bool} (h : OV w w' g m f most near high large) (k o : Nat) (hk : w.heap.size < k) (hg : k ≠ g) (v : Value) : OV w (w'.setCell ⟨k, o, none⟩ v) g m f most near high large :=
  ⟨h.obj.far _ (by simp; omega) _, h.row.far _ (by simpa using hg) _, h.fre.set _ _, h.bel.setCell (by simp; omega) _, h.lo, by rw [size_setCell]; exact h.hi⟩
theorem OV.set {w w' : World} {g m : Nat} {f : Nat → Int} {most near high : Int} {large : Bool} (h : OV w w' g m f most near high large) (i : Nat) (hi : i < m) (v : Int) : OV w (w'.setCell ⟨g, i, none⟩ (.int .u8 v)) g m (upd f i v) most near high large :=
  ⟨h.obj.far _ (by have := h.lo; simp; omega) _, by simpa using h.row.set i hi v, h.fre.set _ _, h.bel.setCell (by have := h.lo; simp; omega) _, h.lo, by rw [size_setCell]; exact h.hi⟩
/-- The line read so far. -/
def rdTo (l : Nat → Int) (j k : Nat) : Int := if k < j then l k else 0
theorem rdTo_step (l : Nat → Int) (j k : Nat) : upd (rdTo l j) j (l j) k = rdTo l (j + 1) k := by
  unfold upd rdTo
  by_cases h : k = j
  · subst h; rw [if_pos rfl, if_pos (by omega)]
  · rw [if_neg h]
    by_cases h2 : k < j
    · rw [if_pos h2, if_pos (by omega)]
    · rw [if_neg h2, if_neg (by omega)]
theorem mul_bd (i : Nat) (S : Int) (hi : i ≤ 16) (h1 : -16384 ≤ S) (h2 : S ≤ 16384) : -300000 ≤ (i : Int) * S ∧ (i : Int) * S ≤ 300000 := by
  have a : (i : Int) * S ≤ 16 * 16384 := by
    by_cases h : 0 ≤ S
    · exact Int.mul_le_mul (by omega) h2 h (by omega)
    · have : (i : Int) * S ≤ 0 := Int.mul_nonpos_of_nonneg_of_nonpos (by omega) (by omega)
      omega
  have b : -(16 * 16384) ≤ (i : Int) * S := by
    by_cases h : 0 ≤ S
    · have : 0 ≤ (i : Int) * S := Int.mul_nonneg (by omega) h
      omega
    · have : (i : Int) * (-S) ≤ 16 * 16384 := Int.mul_le_mul (by omega) (by omega) (by omega) (by omega)
      rw [Int.mul_neg] at this
      omega
  omega
theorem mul_bd4 (j : Nat) (J : Int) (hj : j ≤ 8) (h1 : -16384 ≤ J) (h2 : J ≤ 16384) : -400000 ≤ ((j : Int) - 4) * J ∧ ((j : Int) - 4) * J ≤ 400000 := by
  have e : ((j : Int) - 4) * J = (j : Int) * J - 4 * J := by rw [Int.sub_mul]
  have := mul_bd j J (by omega) h1 h2
  rw [e]; omega

theorem OV.eight {w w' : World} {g m k : Nat} {f l l' : Nat → Int} {most near high : Int} {large : Bool} (h : OV w w' g m f most near high large) (hk : w.heap.size < k) (hg : k ≠ g) (hs : SObj w' k 70 (cellsOf .i64 8 l)) :
    OV w ((((((((w'.setCell ⟨k, 0, none⟩ (.int .i64 (l' 0))).setCell ⟨k, 1, none⟩ (.int .i64 (l' 1))).setCell ⟨k, 2, none⟩ (.int .i64 (l' 2))).setCell ⟨k, 3, none⟩ (.int .i64 (l' 3))).setCell ⟨k, 4, none⟩ (.int .i64 (l' 4))).setCell ⟨k, 5, none⟩ (.int .i64 (l' 5))).setCell ⟨k, 6, none⟩ (.int .i64 (l' 6))).setCell ⟨k, 7, none⟩ (.int .i64 (l' 7))) g m f most near high large ∧ SObj ((((((((w'.setCell ⟨k, 0, none⟩ (.int .i64 (l' 0))).setCell ⟨k, 1, none⟩ (.int .i64 (l' 1))).setCell ⟨k, 2, none⟩ (.int .i64 (l' 2))).setCell ⟨k, 3, none⟩ (.int .i64 (l' 3))).setCell ⟨k, 4, none⟩ (.int .i64 (l' 4))).setCell ⟨k, 5, none⟩ (.int .i64 (l' 5))).setCell ⟨k, 6, none⟩ (.int .i64 (l' 6))).setCell ⟨k, 7, none⟩ (.int .i64 (l' 7))) k 70 (cellsOf .i64 8 l') :=
  ⟨((((((((h.far k 0 hk hg _).far k 1 hk hg _).far k 2 hk hg _).far k 3 hk hg _).far k 4 hk hg _).far k 5 hk hg _).far k 6 hk hg _).far k 7 hk hg _), ((((((((hs.set 0 (.int .i64 (l' 0))).set 1 (.int .i64 (l' 1))).set 2 (.int .i64 (l' 2))).set 3 (.int .i64 (l' 3))).set 4 (.int .i64 (l' 4))).set 5 (.int .i64 (l' 5))).set 6 (.int .i64 (l' 6))).set 7 (.int .i64 (l' 7)))⟩
set_option maxRecDepth 100000 in
set_option maxHeartbeats 4000000 in
theorem over_any (a : Nat) (o m c n : Nat) (f : Nat → Int) (most near high I0 S J : Int) (large : Bool) (w : World) (hm : m ≤ 16384) (hm1 : 1 ≤ m) (hn : n ≤ 16) (hJ : -16384 ≤ J) (hJ2 : J ≤ 16384) (hS : -16384 ≤ S) (hS2 : S ≤ 16384)
    (hI : -16384 ≤ I0) (hI2 : I0 ≤ 16384) (hpos : ∀ i j : Nat, i < n → j < 8 → 0 ≤ I0 + i * S + ((j : Int) - 4) * J ∧ I0 + i * S + ((j : Int) - 4) * J < m) (ha : Arg .u8 w (some ⟨a, o, none⟩) m f) (hf : ∀ x, 0 ≤ f x ∧ f x ≤ 255) :
    Calls Tryd.prog 27 #[.agg #[.int .i64 most, .int .i64 near, .int .i64 high, .bool false, .bool large], .slice (some ⟨a, o, none⟩) m c, .int .i64 n, .int .i64 4, .int .i64 I0, .int .i64 S, .int .i64 J] w fun e w' =>
      (∃ a' c', e = .returned (.slice a' m c') ∧ Own .u8 w.heap.size w' a' m (lines (nrm most near high (!large)) I0 S J f n)) ∧ Below w.heap.size w w' := by
  obtain ⟨i0, hi, hz0, hz1, hz2⟩ := info_parts infoU8
  have HP := Lib.hid hpos
  have Hf := Lib.hid hf
  have HA := Lib.hid ha
  have HB := Lib.hid (obj_new w 48 [.int .i64 most, .int .i64 near, .int .i64 high, .bool false, .bool large])
  clear hpos hf ha
  go_enter Tryd.func27, Tryd.ntmps27
  go_wp2_with (at_builtin; refine wpList_append_own _ rfl _ _ 22 rfl (w.heap.size + 1) 5 i0 (.int .u8 0) 1 1 Tryd.underlying22 hi hz0 hz1 hz2 rfl (by decide) (.slice none 0 0) 0 [] rfl (World.ownsRow_nil _ _ _ _) ⟨a, o, none⟩ m c (cellsOf .u8 m f) rfl (cellsOf_length _ _ _) (HA.out.alloc _).news (cellsOf_one _ _ _) (by unfold maxLen; omega) (by omega) (by simp) ?_)
  intro v' w1 hown1 hgrow _
  obtain ⟨a', c', rfl, _, ho⟩ := own_of_cells (k := .u8) (n := m) (f := f) (by simpa using hown1)
  obtain ⟨g, rfl, hg1, hg2, hr, hw⟩ := ho (by omega)
  have HV : Hid (OV w w1 g m f most near high large) := Lib.hid ⟨HB.out.grown hgrow (by simp [Value.ownBlock]), hr, hw, ((Below.refl _ _).alloc (Nat.le_refl _) _).grown hgrow (by simp) (fun k hk => by simp [Value.ownBlock] at hk), by omega, hg2⟩
  clear hown1 hgrow ho hr hw HB hg1 hg2
  go_wp2
  go_loopw [16] (fun i wr => ∃ p : Nat, p ≤ n ∧ i = .int .i64 p ∧ Hid (OV w wr g m (lines (nrm most near high (!large)) I0 S J f p) most near high large)) (fun i _ => n - (intOf i).toNat)
  case atStart => exact ⟨0, by omega, rfl, HV⟩
  case round =>
    obtain ⟨p, hp, rfl, hR⟩ := hrel
    by_cases hlt : p < n
    · have hP := Lib.hid (fun j hj => HP.out p j hlt hj)
      have hFr : ∀ x, 0 ≤ lines (nrm most near high (!large)) I0 S J f p x ∧ lines (nrm most near high (!large)) I0 S J f p x ≤ 255 := fun x => lines_in (fun l h => nrm_in8 h) Hf.out p x
      have hlp : Hid (lines (nrm most near high (!large)) I0 S J f (p + 1) = put8 (lines (nrm most near high (!large)) I0 S J f p) (posOf (I0 + p * S) J) (nrm most near high (!large) fun j => lines (nrm most near high (!large)) I0 S J f p (posOf (I0 + p * S) J j)) 8) := Lib.hid rfl
      generalize hFp : lines (nrm most near high (!large)) I0 S J f p = F at hR hFr hlp
      clear hFp
      obtain ⟨l, el⟩ : ∃ l : Nat → Int, l = fun j => F (posOf (I0 + p * S) J j) := ⟨_, rfl⟩
      rw [← el] at hlp
      have hl8 : Hid (In8 l) := Lib.hid (fun j _ => by rw [el]; exact hFr _)
      have hel : Hid (∀ j, l j = F (I0 + (p : Int) * S + ((j : Int) - 4) * J).toNat) := Lib.hid (fun j => by rw [el]; rfl)
      clear el hFr
      obtain ⟨x0, x1⟩ := mul_bd p S (by omega) hS hS2
      have HG : Hid (OV w (wr.alloc (.cells #[.int .i64 0, .int .i64 0, .int .i64 0, .int .i64 0, .int .i64 0, .int .i64 0, .int .i64 0, .int .i64 0] 70)) g m F most near high large ∧ SObj (wr.alloc (.cells #[.int .i64 0, .int .i64 0, .int .i64 0, .int .i64 0, .int .i64 0, .int .i64 0, .int .i64 0, .int .i64 0] 70)) wr.heap.size 70 (cellsOf .i64 8 (rdTo l 0)) ∧ w.heap.size < wr.heap.size ∧ wr.heap.size ≠ g) :=
        Lib.hid ⟨hR.out.below ((Below.refl _ _).alloc (Nat.le_refl _) _), obj_new wr 70 (cellsOf .i64 8 (rdTo l 0)), by have := hR.out.lo; have := hR.out.hi; omega, by have := hR.out.hi; omega⟩
      have HGL : Hid (w.heap.size < wr.heap.size ∧ wr.heap.size ≠ g) := Lib.hid HG.out.2.2
      have HG0 : Hid (OV w (wr.alloc (.cells #[.int .i64 0, .int .i64 0, .int .i64 0, .int .i64 0, .int .i64 0, .int .i64 0, .int .i64 0, .int .i64 0] 70)) g m F most near high large ∧ SObj (wr.alloc (.cells #[.int .i64 0, .int .i64 0, .int .i64 0, .int .i64 0, .int .i64 0, .int .i64 0, .int .i64 0, .int .i64 0] 70)) wr.heap.size 70 (cellsOf .i64 8 (rdTo l 0))) := Lib.hid ⟨HG.out.1, HG.out.2.1⟩
      clear HG
      go_wp2
      generalize World.alloc wr _ = w2 at HG0 ⊢
      generalize hgl : wr.heap.size = gl at *
      clear hgl hR
      go_loopw [18] (fun i wr => ∃ k : Nat, k ≤ 8 ∧ i = .int .i64 k ∧ Hid (OV w wr g m F most near high large ∧ SObj wr gl 70 (cellsOf .i64 8 (rdTo l k)))) (fun i _ => 8 - (intOf i).toNat)
      case atStart => exact ⟨0, by omega, rfl, HG0⟩
      case round =>
        obtain ⟨k, hk, rfl, hQ⟩ := hrel
        by_cases hlk : k < 8
        · obtain ⟨y0, y1⟩ := hP.out k hlk
          obtain ⟨x2, x3⟩ := mul_bd4 k J (by omega) hJ hJ2
          obtain ⟨r0, r1⟩ := hl8.out k hlk
          have c0 : wr.cell? ⟨g, (I0 + (p : Int) * S + ((k : Int) - 4) * J).toNat, none⟩ = some (.int .u8 (l k)) := by
            rw [hel.out k]; simpa using hQ.out.1.row _ (by omega)
          have d0 := hQ.out.2.cell k (v := .int .i64 (rdTo l k k)) (by simp [cellsOf, hlk])
          have z0 := hQ.out.2.free k
          have q0 : decide (I0 + (p : Int) * S + ((k : Int) - 4) * J < 0) = false := by simp; omega
          have q1 : decide ((m : Int) ≤ I0 + (p : Int) * S + ((k : Int) - 4) * J) = false := by simp; omega
          go_wp2
          go_roundw
          case rel =>
            refine ⟨k + 1, by omega, by go_num, Lib.hid ⟨hQ.out.1.far gl k HGL.out.1 HGL.out.2 _, ?_⟩⟩
            have := hQ.out.2.set k (.int .i64 (l k))
            rwa [cellsOf_set, cellsOf_congr .i64 8 (f' := rdTo l (k + 1)) (fun i _ => rdTo_step l k i)] at this
          case measure => simp [intOf]; omega
        · obtain rfl : k = 8 := by omega
          have HQ : Hid (SObj wr gl 70 (cellsOf .i64 8 l)) := Lib.hid (by
            have := hQ.out.2
            rwa [cellsOf_congr .i64 8 (f' := l) (fun i hi => by unfold rdTo; rw [if_pos hi])] at this)
          obtain ⟨c0, c1, c2, c3, c4, c5, c6, c7⟩ := cells8 HQ.out
          have s0 := hQ.out.1.obj.cell 0 rfl
          have s1 := hQ.out.1.obj.cell 1 rfl
          have s2 := hQ.out.1.obj.cell 2 rfl
          have s3 := hQ.out.1.obj.cell 3 rfl
          have s4 := hQ.out.1.obj.cell 4 rfl
          go_wp2_with fail
          refine (normalRow_any l most near high large _ hl8.out).mono ?_
          rintro _ w3 ⟨rfl, hb⟩
          have HV3 := Lib.hid (And.intro (hQ.out.1.below hb) (HQ.out.below hb HQ.out.lt))
          have hl8' : Hid (In8 (nrm most near high (!large) l)) := Lib.hid (nrm_in8 hl8.out)
          clear hb c0 c1 c2 c3 c4 c5 c6 c7 s0 s1 s2 s3 s4 HQ hQ
          generalize nrm most near high (!large) l = l' at *
          unfold row8
          obtain ⟨c0, c1, c2, c3, c4, c5, c6, c7⟩ := cells8 HV3.out.2
          obtain ⟨f0, f1, f2, f3, f4, f5, f6, f7⟩ := frees8 HV3.out.2
          have HE8 := Lib.hid (OV.eight (l' := l') HV3.out.1 HGL.out.1 HGL.out.2 HV3.out.2)
          go_wp2
          generalize World.setCell _ _ _ = w4 at HE8 ⊢
          clear c0 c1 c2 c3 c4 c5 c6 c7 f0 f1 f2 f3 f4 f5 f6 f7 HV3 HG0
          go_loopw [20] (fun i wr => ∃ k : Nat, k ≤ 8 ∧ i = .int .i64 k ∧ Hid (OV w wr g m (put8 F (posOf (I0 + p * S) J) l' k) most near high large ∧ SObj wr gl 70 (cellsOf .i64 8 l'))) (fun i _ => 8 - (intOf i).toNat)
          case atStart => exact ⟨0, by omega, rfl, HE8⟩
          case round =>
            obtain ⟨k, hk, rfl, hQ⟩ := hrel
            by_cases hlk : k < 8
            · obtain ⟨y0, y1⟩ := hP.out k hlk
              obtain ⟨x2, x3⟩ := mul_bd4 k J (by omega) hJ hJ2
              obtain ⟨r0, r1⟩ := hl8'.out k hlk
              have c0 : wr.cell? ⟨g, (I0 + (p : Int) * S + ((k : Int) - 4) * J).toNat, none⟩ = some (.int .u8 (put8 F (posOf (I0 + p * S) J) l' k (I0 + (p : Int) * S + ((k : Int) - 4) * J).toNat)) := by
                simpa using hQ.out.1.row _ (by omega)
              have d0 := hQ.out.2.cell k (v := .int .i64 (l' k)) (by simp [cellsOf, hlk])
              have z0 : wr.frozen? ⟨g, (I0 + (p : Int) * S + ((k : Int) - 4) * J).toNat, none⟩ = false := by simpa using hQ.out.1.fre _ (by omega)
              have HS : Hid (OV w (wr.setCell ⟨g, (I0 + (p : Int) * S + ((k : Int) - 4) * J).toNat, none⟩ (.int .u8 (l' k))) g m (put8 F (posOf (I0 + p * S) J) l' (k + 1)) most near high large) := Lib.hid (hQ.out.1.set _ (by omega) (l' k))
              go_wp2
              go_roundw
              case rel => exact ⟨k + 1, by omega, by go_num, Lib.hid ⟨HS.out, hQ.out.2.far _ (fun e => HGL.out.2 e) _⟩⟩
              case measure => simp [intOf]; omega
            · obtain rfl : k = 8 := by omega
              go_wp2
              go_roundw
              case rel => exact ⟨p + 1, by omega, by go_num, Lib.hid (by rw [hlp.out]; exact hQ.out.1)⟩
              case measure => simp [intOf]; omega
    · obtain rfl : p = n := by omega
      go_wp2
      go_ret
      exact ⟨⟨_, _, rfl, fun _ => ⟨g, rfl, Nat.le_of_lt hR.out.lo, hR.out.hi, hR.out.row, hR.out.fre⟩⟩, hR.out.bel⟩
end Go.Proofs.YtmdijdoaijnpaaaDoor
