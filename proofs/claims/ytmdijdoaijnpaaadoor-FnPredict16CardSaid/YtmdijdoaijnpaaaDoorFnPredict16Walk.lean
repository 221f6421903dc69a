/- The walk of FnPredict16: the law returns true for every input. -/
import Derived.Test.YtmdijdoaijnpaaaDoorPredD
import Derived.Test.YtmdijdoaijnpaaaDoorPredL2
import Derived.Test.YtmdijdoaijnpaaaDoorBytesEq
import Derived.Test.YtmdijdoaijnpaaaDoorInR
namespace Go.Proofs.YtmdijdoaijnpaaaDoor
open Go.RowKit
set_option linter.unusedVariables false

/-- What stands around the block in the workspace. -/
theorem sq_row0 (n la : Nat) (c : Int) (fa fl fi : Nat → Int) (k : Nat) (hk : k < 32) : ∀ j, sqTo n la c fa fl fi j k = sqTo n la c fa fl fi 0 k
  | 0 => rfl
  | j + 1 => by
    have ih := sq_row0 n la c fa fl fi k hk j
    rw [← ih]
    show updN (upd _ _ _) _ _ _ k = _
    unfold updN upd
    rw [if_neg (by omega), if_neg (by omega)]
theorem sq_left (n la : Nat) (c : Int) (fa fl fi : Nat → Int) (hn : n ≤ 16) (j : Nat) : ∀ m, j < m → sqTo n la c fa fl fi m (32 * (j + 1) + 7) = fl j
  | 0, h => absurd h (by omega)
  | m + 1, h => by
    show updN (upd _ _ _) _ _ _ _ = _
    unfold updN upd
    rw [if_neg (by omega)]
    by_cases e : j = m
    · subst e; rw [if_pos rfl]
    · rw [if_neg (by omega)]; exact sq_left n la c fa fl fi hn j m (by omega)
theorem sq_corner (n la : Nat) (c : Int) (fa fl fi : Nat → Int) (m : Nat) : sqTo n la c fa fl fi m 7 = c := by
  rw [sq_row0 _ _ _ _ _ _ _ (by decide)]
  show updN (upd _ _ _) _ _ _ _ = _
  unfold updN upd
  rw [if_neg (by omega), if_pos rfl]
theorem sq_top (n la : Nat) (c : Int) (fa fl fi : Nat → Int) (m i : Nat) (hi : i < la) (h24 : i < 24) : sqTo n la c fa fl fi m (8 + i) = fa i := by
  rw [sq_row0 _ _ _ _ _ _ _ (by omega)]
  show updN (upd _ _ _) _ _ _ _ = _
  unfold updN
  rw [if_pos (by omega)]
  congr 1
  omega
theorem blk_val (y : Nat → Int) (V : Nat → Nat → Int) (i : Nat) (hi : i < 256) : valF 16 (blkTo y V 256) i = rowF V i := by
  have e : i = 16 * (i / 16) + i % 16 := by omega
  have hm : i % 16 < 16 := Nat.mod_lt _ (by decide)
  have hd : i / 16 < 16 := by omega
  unfold rowF
  generalize i / 16 = p at *
  generalize i % 16 = q at *
  subst e
  rw [valF_row 16 _ p q hm]
  unfold blkTo
  have e1 : (32 * (p + 1) + 8 + q) / 32 = p + 1 := by omega
  have e2 : (32 * (p + 1) + 8 + q) % 32 = 8 + q := by omega
  rw [e1, e2, if_pos ⟨by omega, by omega⟩, show p + 1 - 1 = p by omega, show 8 + q - 8 = q by omega]
theorem sumF_congr {f g : Nat → Int} : ∀ n, (∀ i, i < n → f i = g i) → sumF f n = sumF g n
  | 0, _ => rfl
  | n + 1, h => by simp only [sumF]; rw [sumF_congr n (fun i hi => h i (by omega)), h n (by omega)]

def lgB (m : Int) : Bool := decide (0 ≤ m ∧ m ≤ 3 ∨ 10 ≤ m ∧ m ≤ 12)
theorem isLarge_any (m : Int) (w : World) :
    Calls Tryd.prog 7 #[.int .i64 m] w fun e w' => e = .returned (.bool (lgB m)) ∧ w = w' := by
  by_cases h1 : 0 ≤ m
  · by_cases h2 : m ≤ 3
    · have e : lgB m = true := decide_eq_true (by omega)
      rw [e]
      have k1 : decide (0 ≤ m) = true := decide_eq_true h1
      have k2 : decide (m ≤ 3) = true := decide_eq_true h2
      clear h1 h2 e
      go_enter Tryd.func7, Tryd.ntmps7
      go_wp2
      go_ret
      exact ⟨rfl, rfl⟩
    · by_cases h3 : 10 ≤ m
      · by_cases h4 : m ≤ 12
        · have e : lgB m = true := decide_eq_true (by omega)
          rw [e]
          clear e h1
          go_enter Tryd.func7, Tryd.ntmps7
          go_wp2
          go_ret
          exact ⟨rfl, rfl⟩
        · have e : lgB m = false := decide_eq_false (by omega)
          rw [e]
          clear e h1
          go_enter Tryd.func7, Tryd.ntmps7
          go_wp2
          go_ret
          exact ⟨rfl, rfl⟩
      · have e : lgB m = false := decide_eq_false (by omega)
        rw [e]
        clear e
        go_enter Tryd.func7, Tryd.ntmps7
        go_wp2
        go_ret
        exact ⟨rfl, rfl⟩
  · have e : lgB m = false := decide_eq_false (by omega)
    rw [e]
    clear e
    go_enter Tryd.func7, Tryd.ntmps7
    go_wp2
    go_ret
    exact ⟨rfl, rfl⟩

/-- impl.Predict16. -/
theorem impl16_any (mode k : Nat) (V : (Nat → Int) → Nat → Nat → Int) (hix : ∀ w, (Instr.index 65 (.agg tab16) (.int .i64 mode)).run Tryd.prog w = .ok (.func (.func k) #[] #[]) w) (hcf : ∀ args w, (callFunc k args).run Tryd.prog w = .ok (.enter k args) w) (hk : Large k V)
    (corner : Int) (aa : Option Addr) (ca : Nat) (fa : Nat → Int) (al : Option Addr) (cl : Nat) (fl : Nat → Int) (w : World)
    (ha : Arg .u8 w aa 16 fa) (hl : Arg .u8 w al 16 fl) (hc0 : 0 ≤ corner) (hc1 : corner ≤ 255) (ha2 : ∀ k, 0 ≤ fa k ∧ fa k ≤ 255) (hl2 : ∀ k, 0 ≤ fl k ∧ fl k ≤ 255) :
    Calls Tryd.prog 10 #[.int .i64 mode, .int .i64 corner, .slice aa 16 ca, .slice al 16 cl] w fun e w' => (∃ a' c', e = .returned (.slice a' 256 c') ∧ Own .u8 w.heap.size w' a' 256 (valF 16 (blkTo (sqTo 16 16 corner fa fl (fun _ => 0) 16) (V (sqTo 16 16 corner fa fl (fun _ => 0) 16)) 256))) ∧ Below w.heap.size w w' := by
  have H := Lib.hid (door16_any mode k V hix hcf hk corner aa ca fa al cl fl w ha hl ⟨hc0, hc1⟩ ha2 hl2)
  clear hix hcf hk ha hl ha2 hl2
  have hw : IntKind.u8.wrap corner = corner := u8_in _ ⟨hc0, hc1⟩
  go_enter Tryd.func10, Tryd.ntmps10
  go_wp2_with fail
  refine H.out.mono ?_
  rintro _ w1 ⟨⟨a', c', rfl, ho⟩, hb⟩
  have H1 := Lib.hid (And.intro ho hb); clear ho hb
  go_wp2
  go_ret
  exact ⟨⟨_, _, rfl, H1.out.1⟩, H1.out.2⟩

/-- The law at one mode. -/
theorem fnP16_core (mode k : Nat) (V : (Nat → Int) → Nat → Nat → Int) (S : (Nat → Int) → (Nat → Int) → Int → Nat → Nat → Int) (hix : ∀ w, (Instr.index 65 (.agg tab16) (.int .i64 mode)).run Tryd.prog w = .ok (.func (.func k) #[] #[]) w) (hcf : ∀ args w, (callFunc k args).run Tryd.prog w = .ok (.enter k args) w) (hk : Large k V)
    (hs : ∀ (aa : Option Addr) (ca : Nat) (fa : Nat → Int) (al : Option Addr) (cl : Nat) (fl : Nat → Int) (corner : Int) (w : World), Arg .u8 w aa 16 fa → Arg .u8 w al 16 fl → (∀ k, 0 ≤ fa k ∧ fa k ≤ 255) → (∀ k, 0 ≤ fl k ∧ fl k ≤ 255) → 0 ≤ corner → corner ≤ 255 →
      Calls Tryd.prog 11 #[.int .i64 mode, .int .i64 corner, .slice aa 16 ca, .slice al 16 cl] w fun e w' => (∃ a' c', e = .returned (.slice a' 256 c') ∧ Own .u8 w.heap.size w' a' 256 (rowF (S fa fl corner))) ∧ Below w.heap.size w w')
    (heq : ∀ (fa fl : Nat → Int) (corner : Int) (j i : Nat), j < 16 → i < 16 → V (sqTo 16 16 corner fa fl (fun _ => 0) 16) j i = S fa fl corner j i) (hm : lgB mode = true) (hm12 : mode ≤ 12)
    (corner : Int) (aa : Option Addr) (ca : Nat) (fa : Nat → Int) (al : Option Addr) (cl : Nat) (fl : Nat → Int) (w : World) (ht : Tabs w)
    (ha : Arg .u8 w aa 16 fa) (hl : Arg .u8 w al 16 fl) (hc0 : 0 ≤ corner) (hc1 : corner ≤ 255) (ha2 : ∀ k, 0 ≤ fa k ∧ fa k ≤ 255) (hl2 : ∀ k, 0 ≤ fl k ∧ fl k ≤ 255) :
    Calls Tryd.prog 3 #[.int .i64 mode, .int .i64 corner, .slice aa 16 ca, .slice al 16 cl] w fun e w' => e = .returned (.bool true) ∧ Below w.heap.size w w' := by
  have h2 := ht.two
  have HI := Lib.hid (impl16_any mode k V hix hcf hk corner aa ca fa al cl fl w ha hl hc0 hc1 ha2 hl2)
  have HE : Hid (∀ i, i < 256 → valF 16 (blkTo (sqTo 16 16 corner fa fl (fun _ => 0) 16) (V (sqTo 16 16 corner fa fl (fun _ => 0) 16)) 256) i = rowF (S fa fl corner) i) := Lib.hid (fun i hi => by
    rw [blk_val _ _ i hi]
    unfold rowF
    exact heq fa fl corner _ _ (by omega) (Nat.mod_lt _ (by decide)))
  have HS : Hid (∀ w' : World, Below w.heap.size w w' → Calls Tryd.prog 11 #[.int .i64 mode, .int .i64 corner, .slice aa 16 ca, .slice al 16 cl] w' fun e w'' => (∃ a' c', e = .returned (.slice a' 256 c') ∧ Own .u8 w'.heap.size w'' a' 256 (rowF (S fa fl corner))) ∧ Below w'.heap.size w' w'') :=
    Lib.hid (fun w' hb => hs aa ca fa al cl fl corner w' (ha.below hb) (hl.below hb) ha2 hl2 hc0 hc1)
  have HM := Lib.hid hm
  have H := Lib.hid ht
  clear hix hcf hk hs heq ha hl ha2 hl2 hm ht
  go_enter Tryd.func3, Tryd.ntmps3
  go_wp2_with fail
  refine (isLarge_any mode w).mono ?_
  rintro _ _ ⟨rfl, rfl⟩
  rw [HM.out]
  go_wp2_with fail
  refine HI.out.mono ?_
  rintro _ w1 ⟨⟨a1, c1, rfl, ho⟩, hb⟩
  have H1 := Lib.hid (And.intro ho hb); clear ho hb HI
  go_wp2_with fail
  refine (HS.out w1 H1.out.2).mono ?_
  rintro _ w2 ⟨⟨a2, c2, rfl, ho⟩, hb⟩
  have H2 : Hid (Arg .u8 w2 a1 256 _ ∧ Arg .u8 w2 a2 256 _ ∧ Below w.heap.size w w2) := Lib.hid ⟨(H1.out.1.below hb).arg, ho.arg, H1.out.2.trans (hb.mono H1.out.2.size)⟩
  clear ho hb HS H1
  go_wp2_with fail
  refine (bytes_eq a1 a2 256 c1 c2 _ _ w2 (by decide) H2.out.1 H2.out.2.1 HE.out).mono ?_
  rintro _ w3 ⟨rfl, d, hd⟩
  have H3 : Hid (Below w.heap.size w w3) := Lib.hid (by rw [hd]; exact below_drewN H2.out.2.2 d)
  clear hd H2
  go_wp2_with fail
  refine (readBool_any w3 (H.out.below h2 H3.out) (by have := H3.out.size; omega)).mono ?_
  rintro _ w4 ⟨rfl, hb⟩
  have H4 : Hid (Below w.heap.size w w4) := Lib.hid (H3.out.trans (hb.mono H3.out.size)); clear hb
  go_wp2
  go_ret
  exact ⟨rfl, H4.out⟩

def P16Good (m c : Int) (n2 n3 : Nat) : Prop := lgB m = true ∧ 0 ≤ c ∧ c ≤ 255 ∧ n2 = 16 ∧ n3 = 16
set_option maxRecDepth 100000 in
set_option maxHeartbeats 1600000 in
theorem fnP16_bad (mode corner : Int) (aa : Option Addr) (n2 c2 : Nat) (al : Option Addr) (n3 c3 : Nat) (w : World) (ht : Tabs w) (hn2 : n2 ≤ 2147483647) (hn3 : n3 ≤ 2147483647) (hbad : ¬ P16Good mode corner n2 n3) :
    Calls Tryd.prog 3 #[.int .i64 mode, .int .i64 corner, .slice aa n2 c2, .slice al n3 c3] w fun e w' => e = .returned (.bool true) ∧ Below w.heap.size w w' := by
  have h2 := ht.two
  have H := Lib.hid ht; clear ht
  cases hm : lgB mode with
  | false =>
    clear hbad
    have HQ := Lib.hid (hm); clear hm
    go_enter Tryd.func3, Tryd.ntmps3
    go_wp2_with fail
    refine (isLarge_any mode w).mono ?_
    rintro _ _ ⟨rfl, rfl⟩
    rw [HQ.out]
    go_wp2_with fail
    refine (readBool_any w H.out h2).mono ?_
    rintro _ w4 ⟨rfl, hb⟩
    have H4 := Lib.hid hb; clear hb
    go_wp2
    go_ret
    exact ⟨rfl, H4.out⟩
  | true =>
    by_cases k1 : corner < 0
    · clear hbad
      have HQ := Lib.hid (hm); clear hm
      go_enter Tryd.func3, Tryd.ntmps3
      go_wp2_with fail
      refine (isLarge_any mode w).mono ?_
      rintro _ _ ⟨rfl, rfl⟩
      rw [HQ.out]
      go_wp2_with fail
      refine (readBool_any w H.out h2).mono ?_
      rintro _ w4 ⟨rfl, hb⟩
      have H4 := Lib.hid hb; clear hb
      go_wp2
      go_ret
      exact ⟨rfl, H4.out⟩
    by_cases k2 : 255 < corner
    · clear hbad
      have HQ := Lib.hid (hm); clear hm
      go_enter Tryd.func3, Tryd.ntmps3
      go_wp2_with fail
      refine (isLarge_any mode w).mono ?_
      rintro _ _ ⟨rfl, rfl⟩
      rw [HQ.out]
      go_wp2_with fail
      refine (readBool_any w H.out h2).mono ?_
      rintro _ w4 ⟨rfl, hb⟩
      have H4 := Lib.hid hb; clear hb
      go_wp2
      go_ret
      exact ⟨rfl, H4.out⟩
    by_cases k3 : n2 = 16
    · by_cases k4 : n3 = 16
      · exact absurd ⟨hm, by omega, by omega, k3, k4⟩ hbad
      · clear hbad
        subst k3
        have t : ((n3 : Int) != 16) = true := by simp; omega
        clear k4
        have HQ := Lib.hid (hm); clear hm
        go_enter Tryd.func3, Tryd.ntmps3
        go_wp2_with fail
        refine (isLarge_any mode w).mono ?_
        rintro _ _ ⟨rfl, rfl⟩
        rw [HQ.out]
        go_wp2_with fail
        refine (readBool_any w H.out h2).mono ?_
        rintro _ w4 ⟨rfl, hb⟩
        have H4 := Lib.hid hb; clear hb
        go_wp2
        go_ret
        exact ⟨rfl, H4.out⟩
    · have t : ((n2 : Int) != 16) = true := by simp; omega
      clear hbad k3
      have HQ := Lib.hid (hm); clear hm
      go_enter Tryd.func3, Tryd.ntmps3
      go_wp2_with fail
      refine (isLarge_any mode w).mono ?_
      rintro _ _ ⟨rfl, rfl⟩
      rw [HQ.out]
      go_wp2_with fail
      refine (readBool_any w H.out h2).mono ?_
      rintro _ w4 ⟨rfl, hb⟩
      have H4 := Lib.hid hb; clear hb
      go_wp2
      go_ret
      exact ⟨rfl, H4.out⟩
theorem topS (fa fl : Nat → Int) (c : Int) (i : Nat) (hi : i < 16) : topF (sqTo 16 16 c fa fl (fun _ => 0) 16) i = fa i := sq_top _ _ _ _ _ _ _ _ hi (by omega)
theorem leftS (fa fl : Nat → Int) (c : Int) (i : Nat) (hi : i < 16) : leftF (sqTo 16 16 c fa fl (fun _ => 0) 16) i = fl i := sq_left _ _ _ _ _ _ (by decide) _ _ hi
set_option maxRecDepth 100000 in
theorem ix_dc (w : World) : (Instr.index 65 (.agg tab16) (.int .i64 ((0 : Nat) : Int))).run Tryd.prog w = .ok (.func (.func 52) #[] #[]) w := by kernel_rfl
set_option maxRecDepth 100000 in
theorem cf_dc (args : Array Value) (w : World) : (callFunc 52 args).run Tryd.prog w = .ok (.enter 52 args) w := by kernel_rfl
theorem lg_dc : Large 52 (fun y _ _ => (16 + sumF (topF y) 16 + sumF (leftF y) 16) / 32) := fun g y w h hv => p16DC g y w h hv
theorem fnP16_dc (corner : Int) (aa : Option Addr) (ca : Nat) (fa : Nat → Int) (al : Option Addr) (cl : Nat) (fl : Nat → Int) (w : World) (ht : Tabs w) (ha : Arg .u8 w aa 16 fa) (hl : Arg .u8 w al 16 fl) (hc0 : 0 ≤ corner) (hc1 : corner ≤ 255) (ha2 : ∀ k, 0 ≤ fa k ∧ fa k ≤ 255) (hl2 : ∀ k, 0 ≤ fl k ∧ fl k ≤ 255) :
    Calls Tryd.prog 3 #[.int .i64 0, .int .i64 corner, .slice aa 16 ca, .slice al 16 cl] w fun e w' => e = .returned (.bool true) ∧ Below w.heap.size w w' :=
  fnP16_core 0 52 (fun y _ _ => (16 + sumF (topF y) 16 + sumF (leftF y) 16) / 32) (fun fa fl _ _ _ => (sumF fa 16 + sumF fl 16 + 16) / 32) ix_dc cf_dc lg_dc
    (fun aa ca fa al cl fl c w h1 h2 h3 h4 h5 h6 => sp16_dc aa ca fa al cl fl c w h1 h2 h3 h4 h5 h6) (fun fa fl c j i hj hi => by show (16 + sumF (topF _) 16 + sumF (leftF _) 16) / 32 = _; rw [sumF_congr 16 (fun i hi => topS fa fl c i hi), sumF_congr 16 (fun i hi => leftS fa fl c i hi)]; omega) (by decide) (by decide) corner aa ca fa al cl fl w ht ha hl hc0 hc1 ha2 hl2
set_option maxRecDepth 100000 in
theorem ix_tm (w : World) : (Instr.index 65 (.agg tab16) (.int .i64 ((1 : Nat) : Int))).run Tryd.prog w = .ok (.func (.func 53) #[] #[]) w := by kernel_rfl
set_option maxRecDepth 100000 in
theorem cf_tm (args : Array Value) (w : World) : (callFunc 53 args).run Tryd.prog w = .ok (.enter 53 args) w := by kernel_rfl
theorem lg_tm : Large 53 (tmF) := fun g y w h hv => p16TM g y w h hv
theorem fnP16_tm (corner : Int) (aa : Option Addr) (ca : Nat) (fa : Nat → Int) (al : Option Addr) (cl : Nat) (fl : Nat → Int) (w : World) (ht : Tabs w) (ha : Arg .u8 w aa 16 fa) (hl : Arg .u8 w al 16 fl) (hc0 : 0 ≤ corner) (hc1 : corner ≤ 255) (ha2 : ∀ k, 0 ≤ fa k ∧ fa k ≤ 255) (hl2 : ∀ k, 0 ≤ fl k ∧ fl k ≤ 255) :
    Calls Tryd.prog 3 #[.int .i64 1, .int .i64 corner, .slice aa 16 ca, .slice al 16 cl] w fun e w' => e = .returned (.bool true) ∧ Below w.heap.size w w' :=
  fnP16_core 1 53 (tmF) (fun fa fl c j i => hld 0 255 (fl j + fa i - c)) ix_tm cf_tm lg_tm
    (fun aa ca fa al cl fl c w h1 h2 h3 h4 h5 h6 => sp16_tm aa ca fa al cl fl c w h1 h2 h3 h4 h5 h6) (fun fa fl c j i hj hi => by show hld 0 255 _ = hld 0 255 _; rw [sq_corner, sq_left _ _ _ _ _ _ (by decide) _ _ hj, sq_top _ _ _ _ _ _ _ _ hi (by omega)]; congr 1; omega) (by decide) (by decide) corner aa ca fa al cl fl w ht ha hl hc0 hc1 ha2 hl2
set_option maxRecDepth 100000 in
theorem ix_ve (w : World) : (Instr.index 65 (.agg tab16) (.int .i64 ((2 : Nat) : Int))).run Tryd.prog w = .ok (.func (.func 54) #[] #[]) w := by kernel_rfl
set_option maxRecDepth 100000 in
theorem cf_ve (args : Array Value) (w : World) : (callFunc 54 args).run Tryd.prog w = .ok (.enter 54 args) w := by kernel_rfl
theorem lg_ve : Large 54 (fun y _ i => y (8 + i)) := fun g y w h hv => p16VE g y w h
theorem fnP16_ve (corner : Int) (aa : Option Addr) (ca : Nat) (fa : Nat → Int) (al : Option Addr) (cl : Nat) (fl : Nat → Int) (w : World) (ht : Tabs w) (ha : Arg .u8 w aa 16 fa) (hl : Arg .u8 w al 16 fl) (hc0 : 0 ≤ corner) (hc1 : corner ≤ 255) (ha2 : ∀ k, 0 ≤ fa k ∧ fa k ≤ 255) (hl2 : ∀ k, 0 ≤ fl k ∧ fl k ≤ 255) :
    Calls Tryd.prog 3 #[.int .i64 2, .int .i64 corner, .slice aa 16 ca, .slice al 16 cl] w fun e w' => e = .returned (.bool true) ∧ Below w.heap.size w w' :=
  fnP16_core 2 54 (fun y _ i => y (8 + i)) (fun fa _ _ _ i => fa i) ix_ve cf_ve lg_ve
    (fun aa ca fa al cl fl c w h1 h2 h3 h4 h5 h6 => sp16_ve aa ca fa al cl fl c w h1 h2 h3 h4 h5 h6) (fun fa fl c j i hj hi => sq_top _ _ _ _ _ _ _ _ hi (by omega)) (by decide) (by decide) corner aa ca fa al cl fl w ht ha hl hc0 hc1 ha2 hl2
set_option maxRecDepth 100000 in
theorem ix_he (w : World) : (Instr.index 65 (.agg tab16) (.int .i64 ((3 : Nat) : Int))).run Tryd.prog w = .ok (.func (.func 55) #[] #[]) w := by kernel_rfl
set_option maxRecDepth 100000 in
theorem cf_he (args : Array Value) (w : World) : (callFunc 55 args).run Tryd.prog w = .ok (.enter 55 args) w := by kernel_rfl
theorem lg_he : Large 55 (fun y j _ => y (32 * (j + 1) + 7)) := fun g y w h hv => p16HE g y w h
theorem fnP16_he (corner : Int) (aa : Option Addr) (ca : Nat) (fa : Nat → Int) (al : Option Addr) (cl : Nat) (fl : Nat → Int) (w : World) (ht : Tabs w) (ha : Arg .u8 w aa 16 fa) (hl : Arg .u8 w al 16 fl) (hc0 : 0 ≤ corner) (hc1 : corner ≤ 255) (ha2 : ∀ k, 0 ≤ fa k ∧ fa k ≤ 255) (hl2 : ∀ k, 0 ≤ fl k ∧ fl k ≤ 255) :
    Calls Tryd.prog 3 #[.int .i64 3, .int .i64 corner, .slice aa 16 ca, .slice al 16 cl] w fun e w' => e = .returned (.bool true) ∧ Below w.heap.size w w' :=
  fnP16_core 3 55 (fun y j _ => y (32 * (j + 1) + 7)) (fun _ fl _ j _ => fl j) ix_he cf_he lg_he
    (fun aa ca fa al cl fl c w h1 h2 h3 h4 h5 h6 => sp16_he aa ca fa al cl fl c w h1 h2 h3 h4 h5 h6) (fun fa fl c j i hj hi => sq_left _ _ _ _ _ _ (by decide) _ _ hj) (by decide) (by decide) corner aa ca fa al cl fl w ht ha hl hc0 hc1 ha2 hl2
set_option maxRecDepth 100000 in
theorem ix_left (w : World) : (Instr.index 65 (.agg tab16) (.int .i64 ((10 : Nat) : Int))).run Tryd.prog w = .ok (.func (.func 56) #[] #[]) w := by kernel_rfl
set_option maxRecDepth 100000 in
theorem cf_left (args : Array Value) (w : World) : (callFunc 56 args).run Tryd.prog w = .ok (.enter 56 args) w := by kernel_rfl
theorem lg_left : Large 56 (fun y _ _ => (8 + sumF (leftF y) 16) / 16) := fun g y w h hv => p16Top g y w h hv
theorem fnP16_left (corner : Int) (aa : Option Addr) (ca : Nat) (fa : Nat → Int) (al : Option Addr) (cl : Nat) (fl : Nat → Int) (w : World) (ht : Tabs w) (ha : Arg .u8 w aa 16 fa) (hl : Arg .u8 w al 16 fl) (hc0 : 0 ≤ corner) (hc1 : corner ≤ 255) (ha2 : ∀ k, 0 ≤ fa k ∧ fa k ≤ 255) (hl2 : ∀ k, 0 ≤ fl k ∧ fl k ≤ 255) :
    Calls Tryd.prog 3 #[.int .i64 10, .int .i64 corner, .slice aa 16 ca, .slice al 16 cl] w fun e w' => e = .returned (.bool true) ∧ Below w.heap.size w w' :=
  fnP16_core 10 56 (fun y _ _ => (8 + sumF (leftF y) 16) / 16) (fun _ fl _ _ _ => (sumF fl 16 + 8) / 16) ix_left cf_left lg_left
    (fun aa ca fa al cl fl c w h1 h2 h3 h4 h5 h6 => sp16_left aa ca fa al cl fl c w h1 h2 h3 h4 h5 h6) (fun fa fl c j i hj hi => by show (8 + sumF (leftF _) 16) / 16 = _; rw [sumF_congr 16 (fun i hi => leftS fa fl c i hi)]; omega) (by decide) (by decide) corner aa ca fa al cl fl w ht ha hl hc0 hc1 ha2 hl2
set_option maxRecDepth 100000 in
theorem ix_top (w : World) : (Instr.index 65 (.agg tab16) (.int .i64 ((11 : Nat) : Int))).run Tryd.prog w = .ok (.func (.func 57) #[] #[]) w := by kernel_rfl
set_option maxRecDepth 100000 in
theorem cf_top (args : Array Value) (w : World) : (callFunc 57 args).run Tryd.prog w = .ok (.enter 57 args) w := by kernel_rfl
theorem lg_top : Large 57 (fun y _ _ => (8 + sumF (topF y) 16) / 16) := fun g y w h hv => p16Left g y w h hv
theorem fnP16_top (corner : Int) (aa : Option Addr) (ca : Nat) (fa : Nat → Int) (al : Option Addr) (cl : Nat) (fl : Nat → Int) (w : World) (ht : Tabs w) (ha : Arg .u8 w aa 16 fa) (hl : Arg .u8 w al 16 fl) (hc0 : 0 ≤ corner) (hc1 : corner ≤ 255) (ha2 : ∀ k, 0 ≤ fa k ∧ fa k ≤ 255) (hl2 : ∀ k, 0 ≤ fl k ∧ fl k ≤ 255) :
    Calls Tryd.prog 3 #[.int .i64 11, .int .i64 corner, .slice aa 16 ca, .slice al 16 cl] w fun e w' => e = .returned (.bool true) ∧ Below w.heap.size w w' :=
  fnP16_core 11 57 (fun y _ _ => (8 + sumF (topF y) 16) / 16) (fun fa _ _ _ _ => (sumF fa 16 + 8) / 16) ix_top cf_top lg_top
    (fun aa ca fa al cl fl c w h1 h2 h3 h4 h5 h6 => sp16_top aa ca fa al cl fl c w h1 h2 h3 h4 h5 h6) (fun fa fl c j i hj hi => by show (8 + sumF (topF _) 16) / 16 = _; rw [sumF_congr 16 (fun i hi => topS fa fl c i hi)]; omega) (by decide) (by decide) corner aa ca fa al cl fl w ht ha hl hc0 hc1 ha2 hl2
set_option maxRecDepth 100000 in
theorem ix_no (w : World) : (Instr.index 65 (.agg tab16) (.int .i64 ((12 : Nat) : Int))).run Tryd.prog w = .ok (.func (.func 58) #[] #[]) w := by kernel_rfl
set_option maxRecDepth 100000 in
theorem cf_no (args : Array Value) (w : World) : (callFunc 58 args).run Tryd.prog w = .ok (.enter 58 args) w := by kernel_rfl
theorem lg_no : Large 58 (fun _ _ _ => 128) := fun g y w h hv => p16TL g y w h
theorem fnP16_no (corner : Int) (aa : Option Addr) (ca : Nat) (fa : Nat → Int) (al : Option Addr) (cl : Nat) (fl : Nat → Int) (w : World) (ht : Tabs w) (ha : Arg .u8 w aa 16 fa) (hl : Arg .u8 w al 16 fl) (hc0 : 0 ≤ corner) (hc1 : corner ≤ 255) (ha2 : ∀ k, 0 ≤ fa k ∧ fa k ≤ 255) (hl2 : ∀ k, 0 ≤ fl k ∧ fl k ≤ 255) :
    Calls Tryd.prog 3 #[.int .i64 12, .int .i64 corner, .slice aa 16 ca, .slice al 16 cl] w fun e w' => e = .returned (.bool true) ∧ Below w.heap.size w w' :=
  fnP16_core 12 58 (fun _ _ _ => 128) (fun _ _ _ _ _ => 128) ix_no cf_no lg_no
    (fun aa ca fa al cl fl c w h1 h2 h3 h4 h5 h6 => sp16_no aa ca fa al cl fl c w h1 h2 h3 h4 h5 h6) (fun fa fl c j i hj hi => rfl) (by decide) (by decide) corner aa ca fa al cl fl w ht ha hl hc0 hc1 ha2 hl2

theorem fnPredict16_walk (w : World) (ht : Tabs w) (a0 : Int) (w0 : (Lit.int .i64 a0).wf = true) (a1 : Int) (w1 : (Lit.int .i64 a1).wf = true) (a2 : Option Addr) (n2 c2 : Nat) (z2 : List Int) (h2 : IsRow .u8 w a2 n2 c2 z2) (a3 : Option Addr) (n3 c3 : Nat) (z3 : List Int) (h3 : IsRow .u8 w a3 n3 c3 z3) :
    Calls Tryd.prog 3 #[.int .i64 a0, .int .i64 a1, .slice a2 n2 c2, .slice a3 n3 c3] w fun e w' => e = .returned (.bool true) ∧ Below w.heap.size w w' := by
  obtain ⟨ys2, l2, r2, b2⟩ := h2.bytes
  obtain ⟨ys3, l3, r3, b3⟩ := h3.bytes
  have m2 : n2 ≤ 9223372036854775807 := by have := h2.arg.2.1; have := h2.arg.2.2.1; unfold maxLen at this; omega
  have m3 : n3 ≤ 9223372036854775807 := by have := h3.arg.2.1; have := h3.arg.2.2.1; unfold maxLen at this; omega
  by_cases k2 : 2147483647 < n2
  · clear ht h2 h3 l2 r2 b2 l3 r3 b3
    go_enter Tryd.func3, Tryd.ntmps3
    go_wp2
    go_ret
    exact ⟨rfl, Below.refl _ _⟩
  by_cases k3 : 2147483647 < n3
  · clear ht h2 h3 l2 r2 b2 l3 r3 b3
    go_enter Tryd.func3, Tryd.ntmps3
    go_wp2
    go_ret
    exact ⟨rfl, Below.refl _ _⟩
  by_cases hg : P16Good a0 a1 n2 n3
  · obtain ⟨g1, g2, g3, rfl, rfl⟩ := hg
    have g4 : 0 ≤ a0 ∧ a0 ≤ 3 ∨ 10 ≤ a0 ∧ a0 ≤ 12 := of_decide_eq_true g1
    have g5 : a0 = 0 ∨ a0 = 1 ∨ a0 = 2 ∨ a0 = 3 ∨ a0 = 10 ∨ a0 = 11 ∨ a0 = 12 := by omega
    rcases g5 with rfl | rfl | rfl | rfl | rfl | rfl | rfl
    · exact fnP16_dc a1 a2 c2 _ a3 c3 _ w ht r2 r3 g2 g3 b2 b3
    · exact fnP16_tm a1 a2 c2 _ a3 c3 _ w ht r2 r3 g2 g3 b2 b3
    · exact fnP16_ve a1 a2 c2 _ a3 c3 _ w ht r2 r3 g2 g3 b2 b3
    · exact fnP16_he a1 a2 c2 _ a3 c3 _ w ht r2 r3 g2 g3 b2 b3
    · exact fnP16_left a1 a2 c2 _ a3 c3 _ w ht r2 r3 g2 g3 b2 b3
    · exact fnP16_top a1 a2 c2 _ a3 c3 _ w ht r2 r3 g2 g3 b2 b3
    · exact fnP16_no a1 a2 c2 _ a3 c3 _ w ht r2 r3 g2 g3 b2 b3
  · exact fnP16_bad a0 a1 a2 n2 c2 a3 n3 c3 w ht (by omega) (by omega) hg
end Go.Proofs.YtmdijdoaijnpaaaDoor
