/- The reference's PrefixTold and Prefix. -/
import Derived.Test.YtdmefbpfpmkdcaaDoorSCode
namespace Go.Proofs.YtdmefbpfpmkdcaaDoor
open Go.RowKit
set_option linter.unusedVariables false

def toldB : Pre → Bool
  | .opened => false
  | _ => true
theorem sb_new (w : World) (a : Option Addr) (n c : Nat) (f : Nat → Int) (S : Nat) (ha : Arg .u8 w a n f) (hs : Strm f S n) (hmax : n ≤ 1048576) :
    SB (w.alloc (.cells #[.slice a n c, .int .i64 0, .bool false, .bool false, .pointer none] 83)) w.heap.size a n c f S 0 false false := by
  refine ⟨obj_new w 83 [.slice a n c, .int .i64 0, .bool false, .bool false, .pointer none], ha.only (Only.alloc (fun _ => False) _ _) (fun _ _ _ h => h), fun h0 x hx e => ?_, hs, hmax, Nat.zero_le _⟩
  obtain ⟨g1, o1, e1, hg1, _⟩ := ha h0
  rw [hx] at e1; injection e1 with e1; subst e1
  simp only at e
  omega

set_option maxRecDepth 100000 in
theorem told_any (a : Option Addr) (n c : Nat) (f : Nat → Int) (S size : Nat) (w : World) (ha : Arg .u8 w a n f) (hs : Strm f S n) (hmax : n ≤ 1048576) (hs1 : 1 ≤ size) (hs2 : size ≤ 4096) :
    Calls Tryd.prog 25 #[.slice a n c, .int .i64 size] w fun e w' => e = .returned (.bool (toldB (preF S n size))) ∧ Below w.heap.size w w' := by
  obtain ⟨w1, hw1⟩ : ∃ x, x = w.alloc (.cells #[.slice a n c, .int .i64 0, .bool false, .bool false, .pointer none] 83) := ⟨_, rfl⟩
  obtain ⟨g, hg⟩ : ∃ x, x = w.heap.size := ⟨_, rfl⟩
  have hsb : SB w1 g a n c f S 0 false false := by rw [hw1, hg]; exact sb_new w a n c f S ha hs hmax
  have hb1 : Only (fun _ => False) w w1 := by rw [hw1]; exact Only.alloc _ _ _
  have HN := Lib.hid (scode_any g a n c f S size w1 hsb hs1 hs2)
  have H := Lib.hid (And.intro hb1 hg)
  clear ha hs hsb hb1
  go_enter Tryd.func25, Tryd.ntmps25
  go_upto_region 2 with fail
  rw [← hw1, ← hg]
  clear hw1 hg
  go_wp2_with fail
  refine HN.out.mono ?_
  rintro _ w2 ⟨⟨cs, ok, p', sh', op', rfl, hsz, hall, hsb, hr⟩, ho⟩
  have c3 := hsb.obj.cell 3 rfl
  have HT : Hid ((!op') = toldB (preF S n size)) := Lib.hid (by
    rcases hr with ⟨e1, e2⟩ | ⟨e1, _, e2⟩ | ⟨e1, _, _, C, I, sa, sc, M, e2, _⟩ <;> rw [e1, e2] <;> rfl)
  have HB : Hid (Below w.heap.size w w2) := Lib.hid ((H.out.1.below (Nat.le_refl _) (fun _ h => h.elim)).trans (ho.below H.out.1.size (fun k hk => by have := H.out.2; omega)))
  clear hsz hall hsb hr ho HN
  go_wp2
  go_ret
  exact ⟨by rw [HT.out]; rfl, HB.out⟩

/-- What both sides' Prefix comes to. -/
def PRes (pre : Pre) (S n m k : Nat) (w w' : World) (e : Ending) : Prop :=
  (pre = .short ∧ e = .returned (.tuple #[.slice none 0 0, .int .i64 (k : Nat)])) ∨
  (∃ C I q l kind a' c', pre = .tree C q ∧ Code C I ∧ e = .returned (.tuple #[.slice a' l.length c', .int .i64 (kind : Nat)]) ∧ Told C S n q m l kind ∧ Own .i64 w.heap.size w' a' l.length (listF l))

set_option maxRecDepth 100000 in
set_option maxHeartbeats 400000 in
theorem sprefix_any (a : Option Addr) (n c : Nat) (f : Nat → Int) (S size m : Nat) (w : World) (ha : Arg .u8 w a n f) (hs : Strm f S n) (hmax : n ≤ 1048576) (hs1 : 1 ≤ size) (hs2 : size ≤ 4096) (hm : m ≤ 4096) (hpre : preF S n size ≠ .opened) :
    Calls Tryd.prog 27 #[.slice a n c, .int .i64 size, .int .i64 m] w fun e w' => PRes (preF S n size) S n m 2 w w' e ∧ Below w.heap.size w w' := by
  obtain ⟨w1, hw1⟩ : ∃ x, x = w.alloc (.cells #[.slice a n c, .int .i64 0, .bool false, .bool false, .pointer none] 83) := ⟨_, rfl⟩
  obtain ⟨g, hg⟩ : ∃ x, x = w.heap.size := ⟨_, rfl⟩
  have hsb : SB w1 g a n c f S 0 false false := by rw [hw1, hg]; exact sb_new w a n c f S ha hs hmax
  have hb1 : Only (fun _ => False) w w1 := by rw [hw1]; exact Only.alloc _ _ _
  have HN := Lib.hid (scode_any g a n c f S size w1 hsb hs1 hs2)
  have H := Lib.hid (And.intro hb1 (And.intro hg (And.intro hpre hsb.obj.lt)))
  clear ha hs hsb hb1 hpre
  go_enter Tryd.func27, Tryd.ntmps27
  go_upto_region 2 with fail
  rw [← hw1, ← hg]
  clear hw1 hg
  go_wp2_with fail
  refine HN.out.mono ?_
  rintro _ w2 ⟨⟨cs, ok, p', sh', op', rfl, hsz, hall, hsb, hr⟩, ho⟩
  have HPT := Lib.hid (cd_put w2 cs hsz)
  have HTH := Lib.hid (cd_there w2 cs hsz)
  have HSZ := Lib.hid (And.intro hsz hall)
  have H2 := Lib.hid (And.intro hsb (And.intro hr ho))
  clear hsz hall hsb hr ho HN
  go_upto_region 3 with (refine wpList_store_mid rfl 86 (.tmp 9) (.tmp 18) rfl w2.heap.size 0 cs rfl rfl HTH.out (infoCode17 cs HSZ.out.1) HSZ.out.2 ?_)
  (try simp only [Act.put])
  obtain ⟨g9, hg9⟩ : ∃ x, x = w2.heap.size := ⟨_, rfl⟩
  rw [← hg9] at HPT ⊢
  generalize hw3 : World.setCells _ _ _ _ = w3
  have H3 : Hid (SObj w3 g9 86 cs.toList ∧ Only (fun _ => False) w2 w3) := Lib.hid (by rw [← hw3]; exact HPT.out)
  have hsb3 : SB w3 g a n c f S p' sh' op' := H2.out.1.only H3.out.2 (fun h => h) (fun _ _ _ h => h)
  have c2 := hsb3.obj.cell 2 rfl
  have HB : Hid (Below w.heap.size w w3) := Lib.hid (((H.out.1.below (Nat.le_refl _) (fun _ h => h.elim)).trans (H2.out.2.2.below H.out.1.size (fun k hk => by have := H.out.2.1; omega))).trans (H3.out.2.below (by have h5 := H.out.1.size; have h6 := H2.out.2.2.size; omega) (fun k hk => hk.elim)))
  have HS3 := Lib.hid hsb3
  clear hw3 HPT HTH hg9 hsb3
  have hr2 := H2.out.2.1
  rcases hr2 with ⟨e1, e2⟩ | ⟨rfl, rfl, e2⟩ | ⟨rfl, rfl, rfl, C, I, sa, sc, M, e2, hC, hck, hfar⟩
  · exact absurd e2 H.out.2.2.1
  · have HE := Lib.hid e2
    clear e2
    go_wp2
    go_ret2
    exact ⟨.inl ⟨HE.out, rfl⟩, HB.out⟩
  · have HBX : Hid (w3.heap[g9]? = some (.cells cs 86 (0, 0))) := Lib.hid (by
      have h6 : w3.heap[g9]? = some (.cells cs.toList.toArray 86 (0, 0)) := H3.out.1
      rw [Array.toArray_toList] at h6
      exact h6)
    have HN2 := Lib.hid (some_any C I g a n c f S p' m false cs sa sc M w3 hC HS3.out (hck.only H3.out.2 (fun _ _ _ h => h)) (fun h0 x hx => by have := hfar x h0 hx; have := H3.out.2.size; have := H.out.2.2.2; omega) hm)
    have HE := Lib.hid (And.intro e2 hC)
    clear e2 hC hck hfar
    go_wp2_with (first | (refine wpList_load_row rfl 86 (.tmp 9) rfl g9 rfl 86 cs (0,0) _ HBX.out Tryd.underlying86 rfl (infoCode17 cs HSZ.out.1) ?_))
    refine HN2.out.mono ?_
    rintro _ w4 ⟨⟨l, kind, a', c', rfl, htold, hown⟩, ho4⟩
    have H4 := Lib.hid (And.intro htold (And.intro hown ho4))
    clear htold hown ho4
    go_wp2
    go_ret2
    have h5 := HB.out.size
    exact ⟨.inr ⟨C, I, p', l, kind, a', c', HE.out.1, HE.out.2, rfl, H4.out.1, H4.out.2.1.mono h5⟩, HB.out.trans (H4.out.2.2.below h5 (fun k hk => by have := H.out.2.1; omega))⟩
end Go.Proofs.YtdmefbpfpmkdcaaDoor
