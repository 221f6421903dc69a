/- The package's hTree.next: the symbol that the bits tell. -/
import Derived.Test.YtdmefbpfpmkdcaaDoorIns
import Derived.Test.YtdmefbpfpmkdcaaDoorReadD
import Derived.Test.YtdmefbpfpmkdcaaDoorErrs
import Derived.ScopeJumps
import Derived.WalkMore
namespace Go.Proofs.YtdmefbpfpmkdcaaDoor
open Go.RowKit
set_option linter.unusedVariables false

/-- A scope with gotos forward to one label. -/
theorem wp_scope_goto {P : Program} {a : Act} {w : World} {Q : Exit → Act → World → Prop} {c rest : Go.Code} (l : Nat) (hf : findLabel c l = some rest)
    (first : c.wp P (Exit.jump l (fun a' w' => rest.wp P (Exit.noGoto Q) a' w') Q) a w) : (Go.Code.scope c).wp P Q a w :=
  wp_scope_jumps l _ (fun _ _ => 0) hf first (fun a w hJ => wp_mono hJ (fun e a' w' h => by
    cases e with
    | goto l => exact h.elim
    | normal => exact h
    | exit id => exact h
    | ret => exact h
    | panic ch => exact h
    | outgrown => exact h))

theorem jumpRet {l : Nat} {J : Act → World → Prop} {Q : Exit → Act → World → Prop} {a : Act} {w : World} : Exit.jump l J Q .ret a w = Q .ret a w := rfl
/-- A whole tree in memory. -/
def TreeW (C : List (Nat × Nat)) (w : World) (gh gn : Nat) : Prop := ∃ L m nd lut At, Dec C L nd lut At ∧ L ≤ m ∧ m ≤ 8191 ∧ TreeM w gh gn L m nd lut
theorem TreeS.whole {C : List (Nat × Nat)} {I : List Nat} {A : List (Nat × Nat)} {w : World} {gh gn : Nat} (hC : Code C I) (h : TreeS C A w gh gn) (hA : ∀ u s, (u, s) ∈ C → (u, s) ∈ A) (hn : C.length ≤ 4096) : TreeW C w gh gn := by
  obtain ⟨P, nd, lut, b, l, t⟩ := h
  obtain ⟨d, hle⟩ := b.dec hC l hA
  exact ⟨_, _, nd, lut, _, d, hle, by omega, t⟩

theorem hand_mask7 (S p b : Nat) (h : 7 ≤ b) (hb : b ≤ 31) : bits .and .u32 (hand S p b : Int) 127 = (hand S p 7 : Int) := by
  have := (read_and S p b 7 (by decide) h hb).1
  simpa using this
theorem lut_hit (s k : Nat) (hs : s ≤ 65535) (hk : k ≤ 7) : bits .and .u32 ((s * 256 + (k + 1) : Nat) : Int) 255 = ((k + 1 : Nat) : Int) := by
  have h2 := u32_and_nat (s * 256 + (k + 1)) 255 (by omega) (by omega)
  rw [show ((255 : Nat) : Int) = 255 from rfl] at h2
  rw [h2, show (255 : Nat) = 2 ^ 8 - 1 from rfl, Nat.and_two_pow_sub_one_eq_mod]
  omega
theorem lut_miss (n : Nat) (hn : n ≤ 8191) : bits .and .u32 ((n * 256 : Nat) : Int) 255 = 0 := by
  have h2 := u32_and_nat (n * 256) 255 (by omega) (by omega)
  rw [show ((255 : Nat) : Int) = 255 from rfl] at h2
  rw [h2, show (255 : Nat) = 2 ^ 8 - 1 from rfl, Nat.and_two_pow_sub_one_eq_mod]
  omega
theorem hand_bit (S p q b : Nat) (hb : 1 ≤ b) (hb31 : b ≤ 31) : bits .and .u32 1 (hand S (p + q) b : Int) = ((S / 2 ^ p / 2 ^ q % 2 : Nat) : Int) ∧ (hand S (p + q) b : Int) / 2 = (hand S (p + (q + 1)) (b - 1) : Int) := by
  have h1 := hand_lt S (p + q) b
  have h3 : 2 ^ b ≤ 2 ^ 31 := Nat.pow_le_pow_right (by decide) hb31
  have e31 : (2 : Nat) ^ 31 = 2147483648 := rfl
  constructor
  · have h2 := u32_and_nat 1 (hand S (p + q) b) (by omega) (by omega)
    rw [show ((1 : Nat) : Int) = 1 from rfl, Nat.and_comm, Nat.and_one_is_mod] at h2
    rw [h2]
    have := hand_low S (p + q) b 1 hb
    rw [show (2 : Nat) ^ 1 = 2 from rfl] at this
    rw [this]
    unfold hand
    rw [Nat.div_div_eq_div_mul, ← Nat.pow_add]
  · have := hand_rest S (p + q) b 1 hb
    rw [show (2 : Nat) ^ 1 = 2 from rfl, Nat.add_assoc] at this
    rw [← this]; simp

set_option maxRecDepth 100000 in
set_option maxHeartbeats 4000000 in
theorem next_any (C : List (Nat × Nat)) (I : List Nat) (gh gn gd gr : Nat) (a : Option Addr) (n c : Nat) (f : Nat → Int) (S p k s : Nat) (w : World) (hC : Code C I) (h : TreeW C w gh gn) (hr : Rdr w gd gr a n c f S p) (hs : SntE w)
    (hg : ∀ g, g ≤ 1 → ¬ Two gd gr g) (ht : Tells C (S / 2 ^ p) k s) :
    Calls Tryd.prog 64 #[.pointer (some ⟨gh, 0, none⟩), .pointer (some ⟨gd, 0, none⟩)] w fun e w' =>
      ((p + k ≤ 8 * n ∧ e = .returned (.tuple #[.int .u32 s, .nilIface]) ∧ Rdr w' gd gr a n c f S (p + k)) ∨ (8 * n < p + k ∧ ∃ b, e = .returned (.tuple #[.int .u32 0, errV b]))) ∧ Only (Two gd gr) w w' := by
  obtain ⟨L, m, nd, lut, At, hD, hLm, hm8, hT⟩ := h
  obtain ⟨⟨aE, hE⟩, ⟨aU, hU⟩⟩ := hs
  obtain ⟨hA, b, i, hdb, hpb, hin, hb31⟩ := hr
  have hmax := hA.max
  have hm := method_readByte
  have hne : gd ≠ gh ∧ gd ≠ gn ∧ gr ≠ gh ∧ gr ≠ gn := by
    obtain ⟨pr, h2⟩ := hdb.2
    refine ⟨fun e => ?_, fun e => ?_, fun e => ?_, fun e => ?_⟩
    · subst e; exact absurd (hdb.1.ty.inj hT.obj.ty) (by decide)
    · subst e; exact absurd (hdb.1.ty.inj hT.nds.ty) (by decide)
    · subst e; exact absurd (h2.ty.inj hT.obj.ty) (by decide)
    · subst e; exact absurd (h2.ty.inj hT.nds.ty) (by decide)
  have hTo : ∀ w', Only (Two gd gr) w w' → TreeM w' gh gn L m nd lut := fun w' ho => hT.only ho (fun e => by rcases e with e | e <;> omega) (fun e => by rcases e with e | e <;> omega)
  have hEo : ∀ w', Only (Two gd gr) w w' → w'.cell? ⟨0, 0, none⟩ = some (errV aE) := fun w' ho => (World.cell?_of_block (ho.block _ (World.block_lt_of_cell? w _ hE) (hg _ (by decide)))).trans hE
  have hUo : ∀ w', Only (Two gd gr) w w' → w'.cell? ⟨1, 0, none⟩ = some (errV aU) := fun w' ho => (World.cell?_of_block (ho.block _ (World.block_lt_of_cell? w _ hU) (hg _ (by decide)))).trans hU
  have H := Lib.hid (And.intro hC (And.intro hD (And.intro hA (And.intro hdb (And.intro hTo (And.intro hEo (And.intro hUo (And.intro ht (And.intro (show 0 ≠ gr from fun e => hg _ (by decide) (.inr e)) hne)))))))))
  obtain ⟨c0, c1, c2, z1, z2⟩ : w.cell? ⟨gd, 0, none⟩ = some (.iface 59 (.pointer (some ⟨gr, 0, none⟩))) ∧ w.cell? ⟨gd, 1, none⟩ = some (.int .u32 (hand S p b)) ∧ w.cell? ⟨gd, 2, none⟩ = some (.int .u32 b) ∧ w.frozen? ⟨gd, 1, none⟩ = false ∧ w.frozen? ⟨gd, 2, none⟩ = false :=
      ⟨hdb.1.cell 0 rfl, hdb.1.cell 1 rfl, hdb.1.cell 2 rfl, hdb.1.free 1, hdb.1.free 2⟩
  clear hC hD hA hdb hTo hEo hUo ht hne hT hE hU hg
  go_enter Tryd.func64, Tryd.ntmps64
  go_wp2_with fail
  refine wp_scope_goto 0 rfl ?_
  go_upto_if 16 with fail
  go_cut [] from 7 to 51 (fun wx => ∃ b i : Nat, 7 ≤ b ∧ b ≤ 31 ∧ p + b = 8 * i ∧ i ≤ n ∧ Hid (DB wx gd gr a n c S p b i ∧ Only (Two gd gr) w wx))
  case first =>
    by_cases hlt : b < 7
    · by_cases hi : i < n
      · go_wp2_with fail
        refine (readByte_some gr a n c i f w H.out.2.2.2.1.2 hi hmax H.out.2.2.1.row (fun x hx => (H.out.2.2.1.far (by omega) x hx).2)).mono ?_
        rintro _ w2 ⟨rfl, hbr, hon⟩
        have hne2 := H.out.2.2.2.1.ne
        have ho2 := H.out.2.2.2.1.1.only hon hne2
        have c1 := ho2.cell 1 rfl
        have c2 := ho2.cell 2 rfl
        have z1 := ho2.free 1
        have z2 := ho2.free 2
        obtain ⟨x, hx⟩ : ∃ x, x = byteOf S i := ⟨_, rfl⟩
        have hx256 : x < 256 := by rw [hx]; exact byteOf_lt _ _
        rw [H.out.2.2.1.strm i hi, ← hx]
        have H2 := Lib.hid (And.intro hx (And.intro ho2 (And.intro hbr ((Only.refl (Two gd gr) w).tr (hon.mono (fun k hk => .inr hk))))))
        clear hx hbr hon ho2 hne2
        go_wp2
        go_region
        all_goals
          go_wp2
          go_meet
          case rel =>
            have e := read_val S p b i x H2.out.1 hpb (by omega)
            refine ⟨b + 8, i + 1, by omega, by omega, by omega, by omega, Lib.hid ⟨⟨?_, ?_⟩, ?_⟩⟩
            · have e2 : ((b + 8 : Nat) : Int) = (b : Int) + 8 := by omega
              rw [← e, e2]
              exact (H2.out.2.1.set 1 _).set 2 _
            · exact BR.only H2.out.2.2.1 (((Only.setCell (S := fun k => k = gd) _ _ _ rfl).tr (Only.setCell _ _ _ rfl)).dr) (fun e => two_ne H2.out.2.1 H2.out.2.2.1 e.symm)
            · exact (H2.out.2.2.2.tr (Only.setCell _ _ _ (Or.inl rfl))).tr (Only.setCell _ _ _ (Or.inl rfl)).dr
      · obtain rfl : n = i := by omega
        have HE := H.out.2.2.2.2.2.1 w (Only.refl _ _)
        go_wp2_with fail
        refine (readByte_none gr a n c (errV aE) w H.out.2.2.2.1.2 hmax HE H.out.2.2.2.2.2.2.2.2.1).mono ?_
        rintro _ w2 ⟨rfl, hbr, hon⟩
        have hne2 := H.out.2.2.2.1.ne
        have ho2 := H.out.2.2.2.1.1.only hon hne2
        have HS := Lib.hid (And.intro (H.out.2.1.root) (And.intro (show ∀ j, j < 0 → ∀ s', ¬ Tells C (S / 2 ^ p) j s' from fun j hj => absurd hj (by omega)) (And.intro (show DB w2 gd gr a n c S (p + 0) b n from And.intro ho2 hbr) (hon.mono (S' := Two gd gr) (fun k hk => .inr hk)))))
        have hE2 := H.out.2.2.2.2.2.1 w2 HS.out.2.2.2
        unfold errV at hE2 ⊢
        have hq := eql_err aE
        clear HE hbr hon ho2 hne2 c0 c1 c2 z1 z2
        go_wp2
        go_step3
        show _ ∧ _
        refine ⟨rfl, ?_⟩
        show Go.Code.wp _ _ _ _ _
        go_wp2_with fail
        go_loopg [6] (8 * n - (p + 0) + 1) (fun g s6 wr => ∃ nn q b i : Nat, s6 = .int .u32 nn ∧ p + q + b = 8 * i ∧ i ≤ n ∧ b ≤ 31 ∧ 8 * n < g + (p + q) ∧ nn < L ∧ Hid (At nn (pth (S / 2 ^ p) q) ∧ (∀ j, j < q → ∀ s', ¬ Tells C (S / 2 ^ p) j s') ∧ DB wr gd gr a n c S (p + q) b i ∧ Only (Two gd gr) w wr))
        case atStart => exact ⟨0, 0, b, n, rfl, by omega, by omega, by omega, by omega, H.out.2.1.bound _ _ HS.out.1, HS.out⟩
        case round =>
          obtain ⟨nn, q, b2, i2, rfl, hpb2, hin2, hb2, hg2, hnL, hR⟩ := hrel
          have ht2 := H.out.2.2.2.2.1 wr hR.out.2.2.2
          obtain ⟨n0, d0, d1, d2, y1, y2⟩ : wr.cell? ⟨gh, 0, none⟩ = some (.slice (some ⟨gn, 0, none⟩) L m) ∧ wr.cell? ⟨gd, 0, none⟩ = some (.iface 59 (.pointer (some ⟨gr, 0, none⟩))) ∧ wr.cell? ⟨gd, 1, none⟩ = some (.int .u32 (hand S (p + q) b2)) ∧ wr.cell? ⟨gd, 2, none⟩ = some (.int .u32 b2) ∧ wr.frozen? ⟨gd, 1, none⟩ = false ∧ wr.frozen? ⟨gd, 2, none⟩ = false :=
            ⟨ht2.obj.cell 0 rfl, hR.out.2.2.1.1.cell 0 rfl, hR.out.2.2.1.1.cell 1 rfl, hR.out.2.2.1.1.cell 2 rfl, hR.out.2.2.1.1.free 1, hR.out.2.2.1.1.free 2⟩
          have ck := ht2.nds.cell (nn * 2 + 1) (ndCells_kid nd m nn (by omega))
          have cs := ht2.nds.cell (nn * 2) (ndCells_sym nd m nn (by omega))
          have HT2 := Lib.hid ht2; clear ht2
          rcases H.out.2.1.step nn _ hR.out.1 with ⟨s', h1, h2⟩ | ⟨ch, h1, h2, h3, h4, h5⟩
          · rw [h2] at ck cs
            obtain ⟨e1, e2⟩ := Tells.uniq H.out.1 h1 H.out.2.2.2.2.2.2.2.1
            subst e1; subst e2
            clear h1 h2
            go_wp2
            (try rw [Exit.noGoto_ret])
            (try rw [jumpRet])
            go_ret2
            exact ⟨.inl ⟨by omega, rfl, H.out.2.2.1.only hR.out.2.2.2, b2, i2, hR.out.2.2.1, hpb2, hin2, hb2⟩, hR.out.2.2.2⟩
          · rw [h2] at ck
            have HK := Lib.hid (And.intro h4 h5)
            have HC2 := Lib.hid h2
            clear h2 h4 h5 cs
            go_upto_if 115 with fail
            go_cut [] from 116 to 138 (fun wx => ∃ b i : Nat, 1 ≤ b ∧ b ≤ 31 ∧ p + q + b = 8 * i ∧ i ≤ n ∧ Hid (DB wx gd gr a n c S (p + q) b i ∧ Only (Two gd gr) w wx))
            case first =>
              by_cases hb0 : b2 = 0
              · subst hb0
                by_cases hi : i2 < n
                · exfalso; omega
                · obtain rfl : n = i2 := by omega
                  have HE := H.out.2.2.2.2.2.1 wr hR.out.2.2.2
                  go_wp2_with fail
                  refine (readByte_none gr a n c (errV aE) wr hR.out.2.2.1.2 hmax HE H.out.2.2.2.2.2.2.2.2.1).mono ?_
                  rintro _ w3 ⟨rfl, hbr3, hon3⟩
                  have ho3 := hR.out.2.2.2.tr (hon3.mono (S' := Two gd gr) (fun k hk => .inr hk))
                  have hE3 := H.out.2.2.2.2.2.1 w3 ho3
                  have hU3 := H.out.2.2.2.2.2.2.1 w3 ho3
                  have HW3 := Lib.hid ho3
                  unfold errV at hE3 hU3 ⊢
                  have hq := eql_err aE
                  clear HE hbr3 hon3 ho3 n0 d0 d1 d2 y1 y2 ck
                  go_wp2
                  (try rw [Exit.noGoto_ret])
                  (try rw [jumpRet])
                  go_ret2
                  refine ⟨.inr ⟨?_, aU, rfl⟩, HW3.out⟩
                  rcases Nat.lt_or_ge q k with hl | hl
                  · omega
                  · exfalso
                    rcases Nat.lt_or_ge k q with hl2 | hl2
                    · exact hR.out.2.1 k hl2 s H.out.2.2.2.2.2.2.2.1
                    · obtain rfl : q = k := by omega
                      exact HK.out.1 s H.out.2.2.2.2.2.2.2.1
              · go_wp2
                go_meet
                case rel => exact ⟨b2, i2, by omega, hb2, hpb2, hin2, Lib.hid ⟨hR.out.2.2.1, hR.out.2.2.2⟩⟩
            case rest =>
              obtain ⟨b3, i3, hb1, hb3, hpb3, hin3, hR3⟩ := hcut
              have ht3 := H.out.2.2.2.2.1 wc hR3.out.2
              obtain ⟨n0, d1, d2, y1, y2⟩ : wc.cell? ⟨gh, 0, none⟩ = some (.slice (some ⟨gn, 0, none⟩) L m) ∧ wc.cell? ⟨gd, 1, none⟩ = some (.int .u32 (hand S (p + q) b3)) ∧ wc.cell? ⟨gd, 2, none⟩ = some (.int .u32 b3) ∧ wc.frozen? ⟨gd, 1, none⟩ = false ∧ wc.frozen? ⟨gd, 2, none⟩ = false :=
                ⟨ht3.obj.cell 0 rfl, hR3.out.1.1.cell 1 rfl, hR3.out.1.1.cell 2 rfl, hR3.out.1.1.free 1, hR3.out.1.1.free 2⟩
              have ck := ht3.nds.cell (nn * 2 + 1) (ndCells_kid nd m nn (by omega))
              rw [HC2.out] at ck
              obtain ⟨eb, ed⟩ := hand_bit S p q b3 hb1 hb3
              obtain ⟨bt, hbt⟩ : ∃ x, x = S / 2 ^ p / 2 ^ q % 2 := ⟨_, rfl⟩
              rw [← hbt] at eb
              obtain ⟨hv, hhv⟩ : ∃ x, x = hand S (p + q) b3 := ⟨_, rfl⟩
              have hv0 : hv < 2147483648 := by
                have h1 := hand_lt S (p + q) b3
                have h3 : 2 ^ b3 ≤ 2 ^ 31 := Nat.pow_le_pow_right (by decide) hb3
                have e31 : (2 : Nat) ^ 31 = 2147483648 := rfl
                omega
              rw [← hhv] at eb d1 ed
              have hbt1 : bt < 2 := by omega
              have HV := Lib.hid (And.intro hbt (And.intro hhv ed))
              clear ht3 hbt hhv ed
              go_upto_region 28 with fail
              go_quiet (fail)
              go_wp2
              go_roundg (gk - 1)
              case measure => omega
              case rel =>
                refine ⟨ch + bt, q + 1, b3 - 1, i3, by go_num, by omega, hin3, by omega, by omega, by omega, Lib.hid ⟨?_, ?_, ⟨?_, ?_⟩, ?_⟩⟩
                · have h9 := HK.out.2 bt hbt1
                  rw [HV.out.1] at h9 ⊢
                  exact h9
                · intro j hj s'
                  by_cases e : j = q
                  · rw [e]; exact HK.out.1 s'
                  · exact hR.out.2.1 j (by omega) s'
                · have e2 : ((b3 - 1 : Nat) : Int) = (b3 : Int) - 1 := by omega
                  rw [← HV.out.2.2, e2]
                  exact ((hR3.out.1.1.drewN _).set 1 _).set 2 _
                · exact BR.only hR3.out.1.2 (((Only.drewN (fun k => k = gd) wc nq).tr (Only.setCell _ _ _ rfl)).tr (Only.setCell _ _ _ rfl)) (fun e => hR3.out.1.ne e.symm)
                · exact ((hR3.out.2.dN nq).tr (Only.setCell _ _ _ (Or.inl rfl))).tr (Only.setCell _ _ _ (Or.inl rfl))
    · go_wp2
      go_meet
      case rel => exact ⟨b, i, by omega, hb31, hpb, hin, Lib.hid ⟨H.out.2.2.2.1, Only.refl _ _⟩⟩
  case rest =>
    obtain ⟨b, i, hb7, hb31, hpb, hin, hR⟩ := hcut
    clear c0 c1 c2 z1 z2
    have ht2 := H.out.2.2.2.2.1 wc hR.out.2
    obtain ⟨x, hx⟩ : ∃ x, x = hand S p 7 := ⟨_, rfl⟩
    have hx128 : x < 128 := by rw [hx]; exact hand_lt S p 7
    obtain ⟨c1, c2, z1, z2⟩ : wc.cell? ⟨gd, 1, none⟩ = some (.int .u32 (hand S p b)) ∧ wc.cell? ⟨gd, 2, none⟩ = some (.int .u32 b) ∧ wc.frozen? ⟨gd, 1, none⟩ = false ∧ wc.frozen? ⟨gd, 2, none⟩ = false :=
      ⟨hR.out.1.1.cell 1 rfl, hR.out.1.1.cell 2 rfl, hR.out.1.1.free 1, hR.out.1.1.free 2⟩
    have em := hand_mask7 S p b hb7 hb31
    have cl := ht2.obj.cell (1 + x) (hCells_at _ _ x hx128)
    obtain ⟨hv, hhv⟩ : ∃ y, y = hand S p b := ⟨_, rfl⟩
    rw [← hx, ← hhv] at em
    rw [← hhv] at c1
    have hpx : ∀ j, j ≤ 7 → pth x j = pth (S / 2 ^ p) j := fun j hj => by
      rw [hx]; exact pth_mod (S / 2 ^ p) 7 j hj
    have HXX := Lib.hid (And.intro hx (And.intro hpx hhv))
    clear hx hpx hhv
    rcases H.out.2.1.lut x hx128 with ⟨k', s', h1, h2, h3⟩ | ⟨nn, h1, h2, h3⟩
    · rw [HXX.out.2.1 k' h1] at h2
      obtain ⟨e1, e2⟩ := Tells.uniq H.out.1 h2 H.out.2.2.2.2.2.2.2.1
      subst e1; subst e2
      rw [h3] at cl
      have hs65 := (Tells.le H.out.1 H.out.2.2.2.2.2.2.2.1).2
      have eh := lut_hit s' k' hs65 h1
      obtain ⟨lv, hlv⟩ : ∃ y, y = s' * 256 + (k' + 1) := ⟨_, rfl⟩
      rw [← hlv] at cl eh
      have hlv1 : lv < 16777216 := by omega
      have ed : (lv : Int) / 256 = (s' : Int) := by omega
      have HLV := Lib.hid hlv
      clear hlv h2 h3 ht2
      go_upto_region 9 with fail
      go_quiet (fail)
      go_wp2
      rw [jumpRet]
      go_ret2
      have eb : (hv : Int) / 2 ^ k' = (hand S (p + k') (b - k') : Int) := by
        rw [HXX.out.2.2, ← hand_rest S p b k' (by omega)]; simp
      have e2 : ((b - k' : Nat) : Int) = (b : Int) - k' := by omega
      refine ⟨.inl ⟨by omega, rfl, ?_, b - k', i, ⟨?_, ?_⟩, by omega, hin, by omega⟩, ?_⟩
      · exact H.out.2.2.1.only (((hR.out.2.dN nq).tr (Only.setCell _ _ _ (Or.inl rfl))).tr (Only.setCell _ _ _ (Or.inl rfl)))
      · rw [eb, ← e2]
        exact ((hR.out.1.1.drewN _).set 1 _).set 2 _
      · exact BR.only hR.out.1.2 (((Only.drewN (fun k => k = gd) wc nq).tr (Only.setCell _ _ _ rfl)).tr (Only.setCell _ _ _ rfl)) (fun e => hR.out.1.ne e.symm)
      · exact ((hR.out.2.dN nq).tr (Only.setCell _ _ _ (Or.inl rfl))).tr (Only.setCell _ _ _ (Or.inl rfl))
    · rw [h2] at cl
      have hnL := H.out.2.1.bound _ _ h1
      have eh := lut_miss nn (by omega)
      obtain ⟨lv, hlv⟩ : ∃ y, y = nn * 256 := ⟨_, rfl⟩
      rw [← hlv] at cl eh
      have hlv1 : lv < 16777216 := by omega
      have ed : (lv : Int) / 256 = (nn : Int) := by omega
      have HLV := Lib.hid (And.intro h1 h3)
      clear hlv h1 h2 h3 ht2
      go_upto_region 9 with fail
      go_quiet (fail)
      go_upto_region 19 with fail
      generalize hw2 : World.setCell _ _ _ = w2
      have HS : Hid (At nn (pth (S / 2 ^ p) 7) ∧ (∀ j, j < 7 → ∀ s', ¬ Tells C (S / 2 ^ p) j s') ∧ DB w2 gd gr a n c S (p + 7) (b - 7) i ∧ Only (Two gd gr) w w2) := Lib.hid (by
        rw [← hw2]
        have eb : (hv : Int) / 128 = (hand S (p + 7) (b - 7) : Int) := by
          rw [HXX.out.2.2, ← hand_rest S p b 7 (by omega)]; simp
        have e2 : ((b - 7 : Nat) : Int) = (b : Int) - 7 := by omega
        refine ⟨by rw [← HXX.out.2.1 7 (Nat.le_refl _)]; exact HLV.out.1, fun j hj s' h => HLV.out.2 j s' (by omega) (by rw [HXX.out.2.1 j (by omega)]; exact h), ⟨?_, ?_⟩, ?_⟩
        · rw [eb, ← e2]
          exact ((hR.out.1.1.drewN _).set 1 _).set 2 _
        · exact BR.only hR.out.1.2 (((Only.drewN (fun k => k = gd) wc nq).tr (Only.setCell _ _ _ rfl)).tr (Only.setCell _ _ _ rfl)) (fun e => hR.out.1.ne e.symm)
        · exact ((hR.out.2.dN nq).tr (Only.setCell _ _ _ (Or.inl rfl))).tr (Only.setCell _ _ _ (Or.inl rfl)))
      clear hw2 c1 c2 z1 z2 cl em eh ed hlv1
      go_step3
      go_wp2_with fail
      go_loopg [6] (8 * n - (p + 7) + 1) (fun g s6 wr => ∃ nn q b i : Nat, s6 = .int .u32 nn ∧ p + q + b = 8 * i ∧ i ≤ n ∧ b ≤ 31 ∧ 8 * n < g + (p + q) ∧ nn < L ∧ Hid (At nn (pth (S / 2 ^ p) q) ∧ (∀ j, j < q → ∀ s', ¬ Tells C (S / 2 ^ p) j s') ∧ DB wr gd gr a n c S (p + q) b i ∧ Only (Two gd gr) w wr))
      case atStart => exact ⟨nn, 7, b - 7, i, rfl, by omega, by omega, by omega, by omega, H.out.2.1.bound _ _ HS.out.1, HS.out⟩
      case round =>
        obtain ⟨nn, q, b2, i2, rfl, hpb2, hin2, hb2, hg2, hnL, hR⟩ := hrel
        have ht2 := H.out.2.2.2.2.1 wr hR.out.2.2.2
        obtain ⟨n0, d0, d1, d2, y1, y2⟩ : wr.cell? ⟨gh, 0, none⟩ = some (.slice (some ⟨gn, 0, none⟩) L m) ∧ wr.cell? ⟨gd, 0, none⟩ = some (.iface 59 (.pointer (some ⟨gr, 0, none⟩))) ∧ wr.cell? ⟨gd, 1, none⟩ = some (.int .u32 (hand S (p + q) b2)) ∧ wr.cell? ⟨gd, 2, none⟩ = some (.int .u32 b2) ∧ wr.frozen? ⟨gd, 1, none⟩ = false ∧ wr.frozen? ⟨gd, 2, none⟩ = false :=
          ⟨ht2.obj.cell 0 rfl, hR.out.2.2.1.1.cell 0 rfl, hR.out.2.2.1.1.cell 1 rfl, hR.out.2.2.1.1.cell 2 rfl, hR.out.2.2.1.1.free 1, hR.out.2.2.1.1.free 2⟩
        have ck := ht2.nds.cell (nn * 2 + 1) (ndCells_kid nd m nn (by omega))
        have cs := ht2.nds.cell (nn * 2) (ndCells_sym nd m nn (by omega))
        have HT2 := Lib.hid ht2; clear ht2
        rcases H.out.2.1.step nn _ hR.out.1 with ⟨s', h1, h2⟩ | ⟨ch, h1, h2, h3, h4, h5⟩
        · rw [h2] at ck cs
          obtain ⟨e1, e2⟩ := Tells.uniq H.out.1 h1 H.out.2.2.2.2.2.2.2.1
          subst e1; subst e2
          clear h1 h2
          go_wp2
          (try rw [Exit.noGoto_ret])
          (try rw [jumpRet])
          go_ret2
          exact ⟨.inl ⟨by omega, rfl, H.out.2.2.1.only hR.out.2.2.2, b2, i2, hR.out.2.2.1, hpb2, hin2, hb2⟩, hR.out.2.2.2⟩
        · rw [h2] at ck
          have HK := Lib.hid (And.intro h4 h5)
          have HC2 := Lib.hid h2
          clear h2 h4 h5 cs
          go_upto_if 115 with fail
          go_cut [] from 116 to 138 (fun wx => ∃ b i : Nat, 1 ≤ b ∧ b ≤ 31 ∧ p + q + b = 8 * i ∧ i ≤ n ∧ Hid (DB wx gd gr a n c S (p + q) b i ∧ Only (Two gd gr) w wx))
          case first =>
            by_cases hb0 : b2 = 0
            · subst hb0
              by_cases hi : i2 < n
              · go_wp2_with fail
                refine (readByte_some gr a n c i2 f wr hR.out.2.2.1.2 hi hmax (H.out.2.2.1.only hR.out.2.2.2).row (fun x hx => ((H.out.2.2.1.only hR.out.2.2.2).far (by omega) x hx).2)).mono ?_
                rintro _ w2 ⟨rfl, hbr, hon⟩
                have hne2 := hR.out.2.2.1.ne
                have ho2 := hR.out.2.2.1.1.only hon hne2
                have c1 := ho2.cell 1 rfl
                have c2 := ho2.cell 2 rfl
                have z1 := ho2.free 1
                have z2 := ho2.free 2
                obtain ⟨x, hx⟩ : ∃ x, x = byteOf S i2 := ⟨_, rfl⟩
                have hx256 : x < 256 := by rw [hx]; exact byteOf_lt _ _
                rw [(H.out.2.2.1.only hR.out.2.2.2).strm i2 hi, ← hx]
                have H2 := Lib.hid (And.intro hx (And.intro ho2 (And.intro hbr (hR.out.2.2.2.tr (hon.mono (fun k hk => .inr hk))))))
                clear hx hbr hon ho2 hne2
                go_wp2
                go_meet
                case rel =>
                  refine ⟨8, i2 + 1, by omega, by omega, by omega, by omega, Lib.hid ⟨⟨?_, ?_⟩, ?_⟩⟩
                  · have e3 := hand_byte S (p + q) i2 (by omega)
                    rw [show 8 * (i2 + 1) - (p + q) = 8 by omega, show 8 * i2 - (p + q) = 0 by omega, hand_zero, Nat.zero_add, Nat.pow_zero, Nat.mul_one, ← H2.out.1] at e3
                    rw [e3]
                    exact (H2.out.2.1.set 1 _).set 2 _
                  · exact BR.only H2.out.2.2.1 ((Only.setCell (S := fun k => k = gd) _ _ _ rfl).tr (Only.setCell _ _ _ rfl)) (fun e => two_ne H2.out.2.1 H2.out.2.2.1 e.symm)
                  · exact (H2.out.2.2.2.tr (Only.setCell _ _ _ (Or.inl rfl))).tr (Only.setCell _ _ _ (Or.inl rfl))
              · obtain rfl : n = i2 := by omega
                have HE := H.out.2.2.2.2.2.1 wr hR.out.2.2.2
                go_wp2_with fail
                refine (readByte_none gr a n c (errV aE) wr hR.out.2.2.1.2 hmax HE H.out.2.2.2.2.2.2.2.2.1).mono ?_
                rintro _ w3 ⟨rfl, hbr3, hon3⟩
                have ho3 := hR.out.2.2.2.tr (hon3.mono (S' := Two gd gr) (fun k hk => .inr hk))
                have hE3 := H.out.2.2.2.2.2.1 w3 ho3
                have hU3 := H.out.2.2.2.2.2.2.1 w3 ho3
                have HW3 := Lib.hid ho3
                unfold errV at hE3 hU3 ⊢
                have hq := eql_err aE
                clear HE hbr3 hon3 ho3 n0 d0 d1 d2 y1 y2 ck
                go_wp2
                (try rw [Exit.noGoto_ret])
                (try rw [jumpRet])
                go_ret2
                refine ⟨.inr ⟨?_, aU, rfl⟩, HW3.out⟩
                rcases Nat.lt_or_ge q k with hl | hl
                · omega
                · exfalso
                  rcases Nat.lt_or_ge k q with hl2 | hl2
                  · exact hR.out.2.1 k hl2 s H.out.2.2.2.2.2.2.2.1
                  · obtain rfl : q = k := by omega
                    exact HK.out.1 s H.out.2.2.2.2.2.2.2.1
            · go_wp2
              go_meet
              case rel => exact ⟨b2, i2, by omega, hb2, hpb2, hin2, Lib.hid ⟨hR.out.2.2.1, hR.out.2.2.2⟩⟩
          case rest =>
            obtain ⟨b3, i3, hb1, hb3, hpb3, hin3, hR3⟩ := hcut
            have ht3 := H.out.2.2.2.2.1 wc hR3.out.2
            obtain ⟨n0, d1, d2, y1, y2⟩ : wc.cell? ⟨gh, 0, none⟩ = some (.slice (some ⟨gn, 0, none⟩) L m) ∧ wc.cell? ⟨gd, 1, none⟩ = some (.int .u32 (hand S (p + q) b3)) ∧ wc.cell? ⟨gd, 2, none⟩ = some (.int .u32 b3) ∧ wc.frozen? ⟨gd, 1, none⟩ = false ∧ wc.frozen? ⟨gd, 2, none⟩ = false :=
              ⟨ht3.obj.cell 0 rfl, hR3.out.1.1.cell 1 rfl, hR3.out.1.1.cell 2 rfl, hR3.out.1.1.free 1, hR3.out.1.1.free 2⟩
            have ck := ht3.nds.cell (nn * 2 + 1) (ndCells_kid nd m nn (by omega))
            rw [HC2.out] at ck
            obtain ⟨eb, ed⟩ := hand_bit S p q b3 hb1 hb3
            obtain ⟨bt, hbt⟩ : ∃ x, x = S / 2 ^ p / 2 ^ q % 2 := ⟨_, rfl⟩
            rw [← hbt] at eb
            obtain ⟨hv, hhv⟩ : ∃ x, x = hand S (p + q) b3 := ⟨_, rfl⟩
            have hv0 : hv < 2147483648 := by
              have h1 := hand_lt S (p + q) b3
              have h3 : 2 ^ b3 ≤ 2 ^ 31 := Nat.pow_le_pow_right (by decide) hb3
              have e31 : (2 : Nat) ^ 31 = 2147483648 := rfl
              omega
            rw [← hhv] at eb d1 ed
            have hbt1 : bt < 2 := by omega
            have HV := Lib.hid (And.intro hbt (And.intro hhv ed))
            clear ht3 hbt hhv ed
            go_upto_region 28 with fail
            go_quiet (fail)
            go_wp2
            go_roundg (gk - 1)
            case measure => omega
            case rel =>
              refine ⟨ch + bt, q + 1, b3 - 1, i3, by go_num, by omega, hin3, by omega, by omega, by omega, Lib.hid ⟨?_, ?_, ⟨?_, ?_⟩, ?_⟩⟩
              · have h9 := HK.out.2 bt hbt1
                rw [HV.out.1] at h9 ⊢
                exact h9
              · intro j hj s'
                by_cases e : j = q
                · rw [e]; exact HK.out.1 s'
                · exact hR.out.2.1 j (by omega) s'
              · have e2 : ((b3 - 1 : Nat) : Int) = (b3 : Int) - 1 := by omega
                rw [← HV.out.2.2, e2]
                exact ((hR3.out.1.1.drewN _).set 1 _).set 2 _
              · exact BR.only hR3.out.1.2 (((Only.drewN (fun k => k = gd) wc nq).tr (Only.setCell _ _ _ rfl)).tr (Only.setCell _ _ _ rfl)) (fun e => hR3.out.1.ne e.symm)
              · exact ((hR3.out.2.dN nq).tr (Only.setCell _ _ _ (Or.inl rfl))).tr (Only.setCell _ _ _ (Or.inl rfl))
end Go.Proofs.YtdmefbpfpmkdcaaDoor
