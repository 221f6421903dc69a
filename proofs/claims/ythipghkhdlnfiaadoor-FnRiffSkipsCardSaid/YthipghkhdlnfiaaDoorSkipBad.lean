/- FnRiffSkips, where the arguments are too great. -/
import Derived.Test.YthipghkhdlnfiaaDoorSkipP
namespace Go.Proofs.YthipghkhdlnfiaaDoor
open Go.RowKit
set_option linter.unusedVariables false

set_option maxRecDepth 100000 in
set_option maxHeartbeats 4000000 in
theorem skips_bad (w : World) (a0 : Option Addr) (len0 cap0 : Nat) (z0 : Nat → Int) (a1 : Option Addr) (len1 cap1 : Nat) (A1 : Nat → Option Addr) (L1 C1 : Nat → Nat) (Z1 : Nat → Nat → Int) (a2 : Option Addr) (len2 cap2 : Nat) (cz : Nat → Int) (a3 : Option Addr) (len3 cap3 : Nat) (R : Nat → Int) (E U M S L P H : Addr) (hs : Sn w E U M S L P H) (w1 : Rows2 .u8 w a1 len1 A1 L1 C1 Z1) (l1 : len1 ≤ cap1) (m1 : cap1 ≤ maxLen) (hbad : ¬ skipOk len0 len1 len2 len3 L1) :
    Calls Tryd.prog 5 #[.slice a0 len0 cap0, .slice a1 len1 cap1, .slice a2 len2 cap2, .slice a3 len3 cap3] w fun e w' => e = .returned (.bool true) ∧ Below w.heap.size w w' := by
  have HF := Lib.hid (readFile_any w E U M S L P H hs)
  clear hs
  have HD := Lib.hid (And.intro w1 (And.intro l1 (And.intro m1 trivial)))
  have HBAD := Lib.hid hbad
  clear w1 l1 m1 hbad
  by_cases b1 : 2147483647 < len0
  · go_enter Tryd.func5, Tryd.ntmps5
    go_wp2
    go_ret
    exact ⟨rfl, Below.refl _ _⟩
  cases hft : fits2 L1 len1
  · have HFT := Lib.hid hft; clear hft
    go_enter Tryd.func5, Tryd.ntmps5
    go_wp2_with fail
    refine (zzFits2_any a1 len1 cap1 w A1 L1 C1 Z1 HD.out.1 HD.out.2.1 HD.out.2.2.1).mono ?_
    rw [HFT.out]
    rintro _ w4 ⟨rfl, rfl⟩
    go_wp2
    go_ret
    exact ⟨rfl, Below.refl _ _⟩
  have hfa := fits2_all hft
  have HFT := Lib.hid hft; clear hft
  by_cases b2 : 2147483647 < len2
  · go_enter Tryd.func5, Tryd.ntmps5
    go_wp2_with fail
    refine (zzFits2_any a1 len1 cap1 w A1 L1 C1 Z1 HD.out.1 HD.out.2.1 HD.out.2.2.1).mono ?_
    rw [HFT.out]
    rintro _ w4 ⟨rfl, rfl⟩
    go_wp2
    go_ret
    exact ⟨rfl, Below.refl _ _⟩
  by_cases b3 : 2147483647 < len3
  · go_enter Tryd.func5, Tryd.ntmps5
    go_wp2_with fail
    refine (zzFits2_any a1 len1 cap1 w A1 L1 C1 Z1 HD.out.1 HD.out.2.1 HD.out.2.2.1).mono ?_
    rw [HFT.out]
    rintro _ w4 ⟨rfl, rfl⟩
    go_wp2
    go_ret
    exact ⟨rfl, Below.refl _ _⟩
  obtain ⟨SM, hSM⟩ : ∃ x, x = sumI L1 len1 len1 := ⟨_, rfl⟩
  have HSM := Lib.hid hSM
  have smb : SM ≤ 9223372036854775807 := by rw [hSM]; exact sumI_bound (by have := hfa.1; omega) _
  clear hfa hSM
  by_cases b4 : 1048576 < SM
  · go_enter Tryd.func5, Tryd.ntmps5
    go_wp2_with fail
    refine (zzFits2_any a1 len1 cap1 w A1 L1 C1 Z1 HD.out.1 HD.out.2.1 HD.out.2.2.1).mono ?_
    rw [HFT.out]
    rintro _ w4 ⟨rfl, rfl⟩
    go_wp2_with fail
    refine (sum_any a1 len1 cap1 w A1 L1 C1 Z1 HD.out.1 HD.out.2.1 HD.out.2.2.1).mono ?_
    rw [← HSM.out]
    rintro _ w4 ⟨rfl, rfl⟩
    go_wp2_with fail
    refine HF.out.mono ?_
    rintro _ w4 ⟨rfl, h4⟩
    have H4 := Lib.hid h4; clear h4
    go_wp2
    go_ret
    exact ⟨rfl, H4.out⟩
  by_cases b5 : 4096 < len0
  · go_enter Tryd.func5, Tryd.ntmps5
    go_wp2_with fail
    refine (zzFits2_any a1 len1 cap1 w A1 L1 C1 Z1 HD.out.1 HD.out.2.1 HD.out.2.2.1).mono ?_
    rw [HFT.out]
    rintro _ w4 ⟨rfl, rfl⟩
    go_wp2_with fail
    refine (sum_any a1 len1 cap1 w A1 L1 C1 Z1 HD.out.1 HD.out.2.1 HD.out.2.2.1).mono ?_
    rw [← HSM.out]
    rintro _ w4 ⟨rfl, rfl⟩
    go_wp2_with fail
    refine HF.out.mono ?_
    rintro _ w4 ⟨rfl, h4⟩
    have H4 := Lib.hid h4; clear h4
    go_wp2
    go_ret
    exact ⟨rfl, H4.out⟩
  by_cases b6 : 1048576 < len2
  · go_enter Tryd.func5, Tryd.ntmps5
    go_wp2_with fail
    refine (zzFits2_any a1 len1 cap1 w A1 L1 C1 Z1 HD.out.1 HD.out.2.1 HD.out.2.2.1).mono ?_
    rw [HFT.out]
    rintro _ w4 ⟨rfl, rfl⟩
    go_wp2_with fail
    refine (sum_any a1 len1 cap1 w A1 L1 C1 Z1 HD.out.1 HD.out.2.1 HD.out.2.2.1).mono ?_
    rw [← HSM.out]
    rintro _ w4 ⟨rfl, rfl⟩
    go_wp2_with fail
    refine HF.out.mono ?_
    rintro _ w4 ⟨rfl, h4⟩
    have H4 := Lib.hid h4; clear h4
    go_wp2
    go_ret
    exact ⟨rfl, H4.out⟩
  by_cases b7 : 4096 < len3
  · go_enter Tryd.func5, Tryd.ntmps5
    go_wp2_with fail
    refine (zzFits2_any a1 len1 cap1 w A1 L1 C1 Z1 HD.out.1 HD.out.2.1 HD.out.2.2.1).mono ?_
    rw [HFT.out]
    rintro _ w4 ⟨rfl, rfl⟩
    go_wp2_with fail
    refine (sum_any a1 len1 cap1 w A1 L1 C1 Z1 HD.out.1 HD.out.2.1 HD.out.2.2.1).mono ?_
    rw [← HSM.out]
    rintro _ w4 ⟨rfl, rfl⟩
    go_wp2_with fail
    refine HF.out.mono ?_
    rintro _ w4 ⟨rfl, h4⟩
    have H4 := Lib.hid h4; clear h4
    go_wp2
    go_ret
    exact ⟨rfl, H4.out⟩
  exact absurd ⟨by omega, HFT.out, by omega, by omega, by rw [← HSM.out]; omega⟩ HBAD.out
end Go.Proofs.YthipghkhdlnfiaaDoor
