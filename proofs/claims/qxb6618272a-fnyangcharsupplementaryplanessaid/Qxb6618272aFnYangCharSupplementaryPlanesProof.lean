/- FnYangCharSupplementaryPlanesSaid: the given shell, its hole filled. -/
import Derived.Test.Qxb6618272aRows
import Derived.WalkKit
import Derived.ProofKit
import Derived.OpenShut
import Derived.ShutString
import Derived.Test.Qxb6618272aWalks
namespace Go.Proofs.Qxb6618272a.fnYangCharSupplementaryPlanes
open Go.ChangeShapes Go.WideShapes Go.ChangeAt Go.RowKit
open Go.ChangeMaps (open_string shut_string)
set_option linter.unusedVariables false      -- a walk need not use every 'w<i>' (that an integer argument fits its kind)

theorem own : ownKnob Try.prog.godebug = none := by kernel_rfl

/-! ### STEP 1: THE WALK -/
set_option maxRecDepth 100000 in
set_option maxHeartbeats 1000000 in
theorem walk (a0 : Int) (a1 : Int) (w0 : (Lit.int .i32 a0).wf = true) (w1 : (Lit.int .u8 a1).wf = true) (w : World) :
    Calls Try.prog 3 #[.int .i32 a0, .int .u8 a1] w fun e w' => e = .returned (.bool true) ∧ Grown w w' := by
  have br := bounds_i32 w0
  have bq := bounds_u8 w1
  clear w0 w1
  by_cases h1 : 65536 ≤ a0
  · by_cases h2 : a0 ≤ 1114111
    · by_cases h3 : 1 ≤ a1
      · by_cases h4 : a1 ≤ 16
        · have g1 : decide (a0 < 65536) = false := decide_eq_false (by omega)
          have g2 : decide ((1114111 : Int) < a0) = false := decide_eq_false (by omega)
          have g3 : decide (a1 < 1) = false := decide_eq_false (by omega)
          have g4 : decide ((16 : Int) < a1) = false := decide_eq_false (by omega)
          have eS : bits .or .i32 (bits .and .i32 a0 65535) (a1 * 65536) = a1 * 65536 + a0 % 65536 := by
            rw [and16 (by omega) (by omega)]
            exact join16 (by omega) (by omega) (by omega) (by omega) (by omega)
          have eE : bits .or .i32 a0 65535 = a0 / 65536 * 65536 + 65535 := or16 (by omega) (by omega)
          have y0 : ycB a0 = decide (a0 % 65536 < 65534) := yc_rest (by omega) (by omega) (by omega)
          have yS : ycB (bits .or .i32 (bits .and .i32 a0 65535) (a1 * 65536)) = ycB a0 := by
            rw [eS, y0, yc_rest (by omega) (by omega) (by omega)]
            congr 2
            omega
          have yE : ycB (bits .or .i32 a0 65535) = false := by
            rw [eE, yc_rest (by omega) (by omega) (by omega)]
            exact decide_eq_false (by omega)
          have yE1 : ycB (bits .or .i32 a0 65535 - 1) = false := by
            rw [eE, yc_rest (by omega) (by omega) (by omega)]
            exact decide_eq_false (by omega)
          have bE : 65535 ≤ bits .or .i32 a0 65535 ∧ bits .or .i32 a0 65535 ≤ 1114111 := by rw [eE]; omega
          have fin : ycB a0 = false → bits .or .i32 a0 65535 - 1 ≤ a0 := fun h => by
            rw [y0] at h
            have := of_decide_eq_false h
            rw [eE]; omega
          have HS : Hid (ycB (bits .or .i32 (bits .and .i32 a0 65535) (a1 * 65536)) = ycB a0) := yS
          have HE : Hid (ycB (bits .or .i32 a0 65535) = false) := yE
          have HE1 : Hid (ycB (bits .or .i32 a0 65535 - 1) = false) := yE1
          have HF : Hid (ycB a0 = false → bits .or .i32 a0 65535 - 1 ≤ a0) := fin
          obtain ⟨bE1, bE2⟩ := bE
          clear eS eE y0 yS yE yE1 fin
          go_enter Try.func3, Try.ntmps3
          go_wp2_with fail
          refine (yc_any _ _).mono ?_
          rintro e w' ⟨rfl, rfl⟩
          go_wp2_with fail
          refine (yc_any _ _).mono ?_
          rintro e w' ⟨rfl, rfl⟩
          rw [HS.out]
          clear HS
          generalize bits .or .i32 (bits .and .i32 a0 65535) (a1 * 65536) = S at *
          generalize bits .or .i32 a0 65535 = E at *
          go_wp2_with fail
          refine (yc_any _ _).mono ?_
          rintro e w' ⟨rfl, rfl⟩
          rw [HE.out]
          go_wp2_with fail
          refine (yc_any _ _).mono ?_
          rintro e w' ⟨rfl, rfl⟩
          rw [HE1.out]
          cases hy : ycB a0 with
          | true =>
            go_wp2_with fail
            go_ret
            exact ⟨rfl, Grown.refl _⟩
          | false =>
            have hf := HF.out hy
            go_wp2_with fail
            go_ret
            exact ⟨rfl, Grown.refl _⟩
        · go_enter Try.func3, Try.ntmps3
          go_wp2_with fail
          all_goals go_ret
          all_goals exact ⟨rfl, Grown.refl _⟩
      · go_enter Try.func3, Try.ntmps3
        go_wp2_with fail
        all_goals go_ret
        all_goals exact ⟨rfl, Grown.refl _⟩
    · go_enter Try.func3, Try.ntmps3
      go_wp2_with fail
      all_goals go_ret
      all_goals exact ⟨rfl, Grown.refl _⟩
  · go_enter Try.func3, Try.ntmps3
    go_wp2_with fail
    all_goals go_ret
    all_goals exact ⟨rfl, Grown.refl _⟩

/-! ### THE ROW's STEP: WRITTEN OUT: LEAVE IT -/
set_option maxRecDepth 100000 in
theorem lifted (os : Os) (started : os.Started) (H : Type) (enc : TypeId × Value → H) :
    ReturnsInHanded {} Try.checked os 3 .any (Rows.fnYangCharSupplementaryPlanesSpec.pre6 enc Try.prog Try.f3 Rows.fnYangCharSupplementaryPlanesRow.domain false) (Rows.fnYangCharSupplementaryPlanesSpec.post enc Try.prog Try.f3 false true false false) := by
  refine returnsInHanded_of_change (C := Try.checked) own started (by kernel_rfl) Try.func3
    (ChangeSpec.witness6 (enc := enc) (C := Try.checked) false ⟨#[], #[.int .i32 0, .int .u8 0], []⟩ 8 (by kernel_rfl) (by kernel_rfl) (by kernel_rfl) (by kernel_rfl)) ?_
  intro W base args ds gs before hval0 hW hcnd _
  have hval : ∀ (j : Nat) t v, Try.f3.params[j]? = some t → args[j]? = some v → Value.okWide Try.prog W .any base t v := hval0
  have hW' := hW
  obtain ⟨p, q, hA0, hV, rfl, hfz, hnd⟩ := hW
  have hA : DataW.TrodAll enc Try.prog W 0 (fun _ => true) true Try.f3.params.toList args.toList ds p := hA0
  rw [Try.params3] at hA hval
  obtain ⟨v0, vs0, d0, ds0, p0, q0, hargs, rfl, rfl, h0, r0⟩ := trodAll_cons hA
  obtain ⟨v1, vs1, d1, ds1, p1, q1, rfl, rfl, rfl, h1, r1⟩ := trodAll_cons r0
  obtain ⟨rfl, rfl, rfl⟩ := trodAll_nil r1
  obtain rfl : args = #[v0, v1] := by cases args; simp_all
  obtain ⟨rfl, rfl⟩ := trodVars_none hV
  obtain ⟨a0, rfl, rfl, rfl, w0⟩ := open_int Try.underlying21 (hval 0 21 v0 rfl rfl) h0
  obtain ⟨a1, rfl, rfl, rfl, w1⟩ := open_int Try.underlying5 (hval 1 5 v1 rfl rfl) h1
  clear hA0 hval0
  simp only [List.append_nil] at hW'
  refine (walk a0 a1 w0 w1 W).mono fun e W' ⟨he, hg⟩ => ?_
  subst he
  exact ⟨_, rfl, post_of_same (pa := []) (pv := []) hW' (fun _ _ _ => (trodAll_cons_mk (shut_bool Try.underlying4 _) trodAll_mk0)) (fun sp _ => (trodAll_cons_mk (shut_int Try.underlying21 w0) (trodAll_cons_mk (shut_int Try.underlying5 w1) trodAll_mk0))) (fun _ _ => rfl) rfl
    (hg.frame _) hg.2.1 (ok_one (by kernel_rfl) rfl (okWide_bool_mk Try.underlying4 _))⟩

theorem over : Rows.fnYangCharSupplementaryPlanesRow.holds Try.pinned (OpenSpec.ofChange Rows.fnYangCharSupplementaryPlanesSpec) :=
  OpenClaim.holds_of_wide 3 Try.f3 rfl rfl rfl rfl rfl rfl rfl ⟨rfl, rfl, rfl, rfl, rfl⟩ rfl rfl rfl rfl rfl (by kernel_rfl) Try.func3 (by kernel_rfl)
    (of_decide_eq_true (by kernel_rfl)) (by unfold Func.isWrapper; first | (rw [if_pos (by decide +kernel)]; kernel_rfl) | (rw [if_neg (by decide +kernel)]; exact ⟨rfl, rfl⟩))
    (fun os started H enc _ => lifted os started H enc)

/-- ████ THE STATEMENT ████ -/
theorem proved : Rows.FnYangCharSupplementaryPlanesSaid :=
  over
#print axioms proved
end Go.Proofs.Qxb6618272a.fnYangCharSupplementaryPlanes
