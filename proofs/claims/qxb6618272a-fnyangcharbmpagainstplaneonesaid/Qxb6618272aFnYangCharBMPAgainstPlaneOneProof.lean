/- FnYangCharBMPAgainstPlaneOneSaid: the given shell, its hole filled. -/
import Derived.Test.Qxb6618272aRows
import Derived.WalkKit
import Derived.ProofKit
import Derived.OpenShut
import Derived.ShutString
import Derived.Test.Qxb6618272aWalks
namespace Go.Proofs.Qxb6618272a.fnYangCharBMPAgainstPlaneOne
open Go.ChangeShapes Go.WideShapes Go.ChangeAt Go.RowKit
open Go.ChangeMaps (open_string shut_string)
set_option linter.unusedVariables false      -- a walk need not use every 'w<i>' (that an integer argument fits its kind)

theorem own : ownKnob Try.prog.godebug = none := by kernel_rfl

/-! ### STEP 1: THE WALK -/
set_option maxRecDepth 100000 in
set_option maxHeartbeats 1000000 in
theorem walk (a0 : Int) (w0 : (Lit.int .i32 a0).wf = true) (w : World) :
    Calls Try.prog 4 #[.int .i32 a0] w fun e w' => e = .returned (.bool true) ∧ Grown w w' := by
  have br := bounds_i32 w0
  clear w0
  by_cases h1 : 0 ≤ a0
  · by_cases h2 : a0 ≤ 65535
    · by_cases h3 : 55296 ≤ a0 ∧ a0 ≤ 57343
      · obtain ⟨h3, h4⟩ := h3
        have g1 : decide (a0 < 0) = false := decide_eq_false (by omega)
        go_enter Try.func4, Try.ntmps4
        go_wp2_with fail
        all_goals go_ret
        all_goals exact ⟨rfl, Grown.refl _⟩
      · have g1 : decide (a0 < 0) = false := decide_eq_false (by omega)
        have g2 : decide ((65535 : Int) < a0) = false := decide_eq_false (by omega)
        have yb0 : ycB (a0 + 65536) = decide (a0 < 65534) := by
          rw [yc_rest (by omega) (by omega) (by omega)]
          congr 2
          omega
        by_cases h5 : a0 < 32
        · have yb : ycB (a0 + 65536) = true := by rw [yb0]; exact decide_eq_true (by omega)
          clear yb0
          have g3 : decide ((55296 : Int) ≤ a0) = false := decide_eq_false (by omega)
          have g4 : decide ((64976 : Int) ≤ a0) = false := decide_eq_false (by omega)
          have g5 : decide (a0 < 65534) = true := decide_eq_true (by omega)
          cases n9 : (a0 == 9) with
          | true =>
            have ya : ycB a0 = true := by rw [yc_low h5, n9]; rfl
            have m9 : (a0 != 9) = false := by simp [bne, n9]
            have HA : Hid (ycB a0 = true) := ya
            have HB : Hid (ycB (a0 + 65536) = true) := yb
            clear ya yb
            go_enter Try.func4, Try.ntmps4
            go_wp2_with fail
            refine (yc_any _ _).mono ?_
            rintro e w' ⟨rfl, rfl⟩
            rw [HA.out]
            go_wp2_with fail
            refine (yc_any _ _).mono ?_
            rintro e w' ⟨rfl, rfl⟩
            rw [HB.out]
            go_wp2_with fail
            go_ret
            exact ⟨rfl, Grown.refl _⟩
          | false =>
            have m9 : (a0 != 9) = true := by simp [bne, n9]
            cases n10 : (a0 == 10) with
            | true =>
              have ya : ycB a0 = true := by rw [yc_low h5, n10]; simp
              have m10 : (a0 != 10) = false := by simp [bne, n10]
              have HA : Hid (ycB a0 = true) := ya
              have HB : Hid (ycB (a0 + 65536) = true) := yb
              clear ya yb
              go_enter Try.func4, Try.ntmps4
              go_wp2_with fail
              refine (yc_any _ _).mono ?_
              rintro e w' ⟨rfl, rfl⟩
              rw [HA.out]
              go_wp2_with fail
              refine (yc_any _ _).mono ?_
              rintro e w' ⟨rfl, rfl⟩
              rw [HB.out]
              go_wp2_with fail
              go_ret
              exact ⟨rfl, Grown.refl _⟩
            | false =>
              have m10 : (a0 != 10) = true := by simp [bne, n10]
              cases n13 : (a0 == 13) with
              | true =>
                have ya : ycB a0 = true := by rw [yc_low h5, n13]; simp
                have m13 : (a0 != 13) = false := by simp [bne, n13]
                have HA : Hid (ycB a0 = true) := ya
                have HB : Hid (ycB (a0 + 65536) = true) := yb
                clear ya yb
                go_enter Try.func4, Try.ntmps4
                go_wp2_with fail
                refine (yc_any _ _).mono ?_
                rintro e w' ⟨rfl, rfl⟩
                rw [HA.out]
                go_wp2_with fail
                refine (yc_any _ _).mono ?_
                rintro e w' ⟨rfl, rfl⟩
                rw [HB.out]
                go_wp2_with fail
                go_ret
                exact ⟨rfl, Grown.refl _⟩
              | false =>
                have ya : ycB a0 = false := by rw [yc_low h5, n9, n10, n13]; rfl
                have m13 : (a0 != 13) = true := by simp [bne, n13]
                have HA : Hid (ycB a0 = false) := ya
                have HB : Hid (ycB (a0 + 65536) = true) := yb
                clear ya yb
                go_enter Try.func4, Try.ntmps4
                go_wp2_with fail
                refine (yc_any _ _).mono ?_
                rintro e w' ⟨rfl, rfl⟩
                rw [HA.out]
                go_wp2_with fail
                refine (yc_any _ _).mono ?_
                rintro e w' ⟨rfl, rfl⟩
                rw [HB.out]
                go_wp2_with fail
                go_ret
                exact ⟨rfl, Grown.refl _⟩
        · have g5 : decide (a0 < 32) = false := decide_eq_false h5
          by_cases h6 : 64976 ≤ a0 ∧ a0 ≤ 65007
          · obtain ⟨h6, h7⟩ := h6
            have ya : ycB a0 = false := yc_blk h6 h7
            have yb : ycB (a0 + 65536) = true := by rw [yb0]; exact decide_eq_true (by omega)
            clear yb0 h3
            have g8 : decide (a0 < 65534) = true := decide_eq_true (by omega)
            have g6 : decide (a0 ≤ 57343) = false := decide_eq_false (by omega)
            have g7 : (55296 : Int) ≤ a0 := by omega
            have HA : Hid (ycB a0 = false) := ya
            have HB : Hid (ycB (a0 + 65536) = true) := yb
            clear ya yb
            go_enter Try.func4, Try.ntmps4
            go_wp2_with fail
            refine (yc_any _ _).mono ?_
            rintro e w' ⟨rfl, rfl⟩
            rw [HA.out]
            go_wp2_with fail
            refine (yc_any _ _).mono ?_
            rintro e w' ⟨rfl, rfl⟩
            rw [HB.out]
            go_wp2_with fail
            go_ret
            exact ⟨rfl, Grown.refl _⟩
          · have ya0 : ycB a0 = decide (a0 < 65534) := by
              rw [yc_rest (by omega) h6 (by omega)]
              congr 2
              omega
            by_cases h8 : a0 < 65534
            · have ya : ycB a0 = true := by rw [ya0]; exact decide_eq_true h8
              have yb : ycB (a0 + 65536) = true := by rw [yb0]; exact decide_eq_true h8
              clear ya0 yb0
              by_cases h9 : a0 < 55296
              · have g6 : decide ((55296 : Int) ≤ a0) = false := decide_eq_false (by omega)
                have g7 : decide ((64976 : Int) ≤ a0) = false := decide_eq_false (by omega)
                clear h3 h6
                have HA : Hid (ycB a0 = true) := ya
                have HB : Hid (ycB (a0 + 65536) = true) := yb
                clear ya yb
                go_enter Try.func4, Try.ntmps4
                go_wp2_with fail
                refine (yc_any _ _).mono ?_
                rintro e w' ⟨rfl, rfl⟩
                rw [HA.out]
                go_wp2_with fail
                refine (yc_any _ _).mono ?_
                rintro e w' ⟨rfl, rfl⟩
                rw [HB.out]
                go_wp2_with fail
                go_ret
                exact ⟨rfl, Grown.refl _⟩
              · have g6 : (55296 : Int) ≤ a0 := by omega
                have g6' : decide (a0 ≤ 57343) = false := decide_eq_false (by omega)
                by_cases h10 : a0 < 64976
                · have g7 : decide ((64976 : Int) ≤ a0) = false := decide_eq_false (by omega)
                  clear h3 h6
                  have HA : Hid (ycB a0 = true) := ya
                  have HB : Hid (ycB (a0 + 65536) = true) := yb
                  clear ya yb
                  go_enter Try.func4, Try.ntmps4
                  go_wp2_with fail
                  refine (yc_any _ _).mono ?_
                  rintro e w' ⟨rfl, rfl⟩
                  rw [HA.out]
                  go_wp2_with fail
                  refine (yc_any _ _).mono ?_
                  rintro e w' ⟨rfl, rfl⟩
                  rw [HB.out]
                  go_wp2_with fail
                  go_ret
                  exact ⟨rfl, Grown.refl _⟩
                · have g7 : (64976 : Int) ≤ a0 := by omega
                  have g7' : decide (a0 ≤ 65007) = false := decide_eq_false (by omega)
                  clear h3 h6
                  have HA : Hid (ycB a0 = true) := ya
                  have HB : Hid (ycB (a0 + 65536) = true) := yb
                  clear ya yb
                  go_enter Try.func4, Try.ntmps4
                  go_wp2_with fail
                  refine (yc_any _ _).mono ?_
                  rintro e w' ⟨rfl, rfl⟩
                  rw [HA.out]
                  go_wp2_with fail
                  refine (yc_any _ _).mono ?_
                  rintro e w' ⟨rfl, rfl⟩
                  rw [HB.out]
                  go_wp2_with fail
                  go_ret
                  exact ⟨rfl, Grown.refl _⟩
            · have ya : ycB a0 = false := by rw [ya0]; exact decide_eq_false h8
              have yb : ycB (a0 + 65536) = false := by rw [yb0]; exact decide_eq_false h8
              have g8 : decide (a0 < 65534) = false := decide_eq_false h8
              clear ya0 yb0
              have g6 : (55296 : Int) ≤ a0 := by omega
              have g6' : decide (a0 ≤ 57343) = false := decide_eq_false (by omega)
              have g7 : (64976 : Int) ≤ a0 := by omega
              have g7' : decide (a0 ≤ 65007) = false := decide_eq_false (by omega)
              clear h3 h6
              have HA : Hid (ycB a0 = false) := ya
              have HB : Hid (ycB (a0 + 65536) = false) := yb
              clear ya yb
              go_enter Try.func4, Try.ntmps4
              go_wp2_with fail
              refine (yc_any _ _).mono ?_
              rintro e w' ⟨rfl, rfl⟩
              rw [HA.out]
              go_wp2_with fail
              refine (yc_any _ _).mono ?_
              rintro e w' ⟨rfl, rfl⟩
              rw [HB.out]
              go_wp2_with fail
              go_ret
              exact ⟨rfl, Grown.refl _⟩
    · have g1 : decide (a0 < 0) = false := decide_eq_false (by omega)
      go_enter Try.func4, Try.ntmps4
      go_wp2_with fail
      all_goals go_ret
      all_goals exact ⟨rfl, Grown.refl _⟩
  · go_enter Try.func4, Try.ntmps4
    go_wp2_with fail
    all_goals go_ret
    all_goals exact ⟨rfl, Grown.refl _⟩

/-! ### THE ROW's STEP: WRITTEN OUT: LEAVE IT -/
set_option maxRecDepth 100000 in
theorem lifted (os : Os) (started : os.Started) (H : Type) (enc : TypeId × Value → H) :
    ReturnsInHanded {} Try.checked os 4 .any (Rows.fnYangCharBMPAgainstPlaneOneSpec.pre6 enc Try.prog Try.f4 Rows.fnYangCharBMPAgainstPlaneOneRow.domain false) (Rows.fnYangCharBMPAgainstPlaneOneSpec.post enc Try.prog Try.f4 false true false false) := by
  refine returnsInHanded_of_change (C := Try.checked) own started (by kernel_rfl) Try.func4
    (ChangeSpec.witness6 (enc := enc) (C := Try.checked) false ⟨#[], #[.int .i32 0], []⟩ 8 (by kernel_rfl) (by kernel_rfl) (by kernel_rfl) (by kernel_rfl)) ?_
  intro W base args ds gs before hval0 hW hcnd _
  have hval : ∀ (j : Nat) t v, Try.f4.params[j]? = some t → args[j]? = some v → Value.okWide Try.prog W .any base t v := hval0
  have hW' := hW
  obtain ⟨p, q, hA0, hV, rfl, hfz, hnd⟩ := hW
  have hA : DataW.TrodAll enc Try.prog W 0 (fun _ => true) true Try.f4.params.toList args.toList ds p := hA0
  rw [Try.params4] at hA hval
  obtain ⟨v0, vs0, d0, ds0, p0, q0, hargs, rfl, rfl, h0, r0⟩ := trodAll_cons hA
  obtain ⟨rfl, rfl, rfl⟩ := trodAll_nil r0
  obtain rfl : args = #[v0] := by cases args; simp_all
  obtain ⟨rfl, rfl⟩ := trodVars_none hV
  obtain ⟨a0, rfl, rfl, rfl, w0⟩ := open_int Try.underlying21 (hval 0 21 v0 rfl rfl) h0
  clear hA0 hval0
  simp only [List.append_nil] at hW'
  refine (walk a0 w0 W).mono fun e W' ⟨he, hg⟩ => ?_
  subst he
  exact ⟨_, rfl, post_of_same (pa := []) (pv := []) hW' (fun _ _ _ => (trodAll_cons_mk (shut_bool Try.underlying4 _) trodAll_mk0)) (fun sp _ => (trodAll_cons_mk (shut_int Try.underlying21 w0) trodAll_mk0)) (fun _ _ => rfl) rfl
    (hg.frame _) hg.2.1 (ok_one (by kernel_rfl) rfl (okWide_bool_mk Try.underlying4 _))⟩

theorem over : Rows.fnYangCharBMPAgainstPlaneOneRow.holds Try.pinned (OpenSpec.ofChange Rows.fnYangCharBMPAgainstPlaneOneSpec) :=
  OpenClaim.holds_of_wide 4 Try.f4 rfl rfl rfl rfl rfl rfl rfl ⟨rfl, rfl, rfl, rfl, rfl⟩ rfl rfl rfl rfl rfl (by kernel_rfl) Try.func4 (by kernel_rfl)
    (of_decide_eq_true (by kernel_rfl)) (by unfold Func.isWrapper; first | (rw [if_pos (by decide +kernel)]; kernel_rfl) | (rw [if_neg (by decide +kernel)]; exact ⟨rfl, rfl⟩))
    (fun os started H enc _ => lifted os started H enc)

/-- ████ THE STATEMENT ████ -/
theorem proved : Rows.FnYangCharBMPAgainstPlaneOneSaid :=
  over
#print axioms proved
end Go.Proofs.Qxb6618272a.fnYangCharBMPAgainstPlaneOne
