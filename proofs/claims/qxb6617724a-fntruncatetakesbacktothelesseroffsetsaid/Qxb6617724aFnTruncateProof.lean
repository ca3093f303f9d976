/- FnTruncateTakesBackToTheLesserOffsetSaid: the frame after the guide's shell for slices of integers, turned for a slice of strings beside them. -/
import Derived.Test.Qxb6617724aRows
import Derived.WalkKit
import Derived.ProofKit
import Derived.OpenShut
import Derived.ShutString
import Derived.ChangeOld
import Derived.Below
import Derived.SliceStrings
import Derived.Test.Qxb6617724aTop
namespace Go.Proofs.Qxb6617724a.fnTruncateTakesBackToTheLesserOffset
open Go.ChangeShapes Go.WideShapes Go.ChangeAt Go.RowKit
open Go.ChangeMaps (open_string shut_string)
set_option linter.unusedVariables false

theorem own : ownKnob Try.prog.godebug = none := by kernel_rfl
theorem laidOut : laidOutB Try.prog = true := by kernel_rfl

/-- WHAT THE WALK IS TOLD OF A SLICE OF INTEGERS THAT CAME IN: it is nil; or it leads to a row of 'cap' cells, the numbers 'zs' (the first 'len' are its elements, the rest its spare room), each fitting its kind. -/
def IsRow (k : IntKind) (w : World) (a : Option Addr) (len cap : Nat) (zs : List Int) : Prop :=
  (a = none ∧ len = 0 ∧ cap = 0 ∧ zs = []) ∨
  ∃ x, a = some x ∧ len ≤ cap ∧ cap ≤ maxLen ∧ zs.length = cap ∧ (∀ i, i < zs.length → w.cell? (x.add i) = some (.int k (zs.getD i 0))) ∧ ∀ n ∈ zs, (Lit.int k n).wf = true

/-- .. OF A SLICE OF STRINGS. -/
def IsRowS (w : World) (a : Option Addr) (len cap : Nat) (ss : List ByteArray) : Prop :=
  (a = none ∧ len = 0 ∧ cap = 0 ∧ ss = []) ∨
  ∃ x, a = some x ∧ len ≤ cap ∧ cap ≤ maxLen ∧ ss.length = cap ∧ (∀ i, i < ss.length → w.cell? (x.add i) = some (.string (ss.getD i ByteArray.empty))) ∧ ∀ s ∈ ss, s.size ≤ maxLen

theorem view_at {w : World} {x : Addr} {n i : Nat} {c : Nat → Value} (hi : i < n) (h : ∀ i, i < n → w.cell? (x.add i) = some (c i)) : ∃ b o, (some x : Option Addr) = some ⟨b, o, none⟩ ∧ w.cell? ⟨b, o + i, none⟩ = some (c i) := by
  have hc := h i hi
  have hs := World.cell?_spot (h 0 (by omega))
  obtain ⟨b, o, s⟩ := x
  obtain rfl : s = none := by simpa [Addr.add] using hs
  exact ⟨b, o, rfl, by rw [Addr.add_lit] at hc; exact hc⟩
theorem view_u8 {w : World} {a : Option Addr} {len cap : Nat} {zs : List Int} (h : IsRow .u8 w a len cap zs) : View w a len (bv fun i => zs.getD i 0) ∧ (a = none → len = 0) := by
  rcases h with ⟨rfl, rfl, rfl, rfl⟩ | ⟨x, rfl, h1, h2, h3, h4, h5⟩
  · exact ⟨fun i hi => absurd hi (by omega), fun _ => rfl⟩
  · exact ⟨fun i hi => view_at (n := zs.length) (by omega) h4, by simp⟩
theorem view_i64 {w : World} {a : Option Addr} {len cap : Nat} {zs : List Int} (h : IsRow .i64 w a len cap zs) : View w a len (nv fun i => zs.getD i 0) ∧ ∀ i, (Lit.int .i64 (zs.getD i 0)).wf = true := by
  rcases h with ⟨rfl, rfl, rfl, rfl⟩ | ⟨x, rfl, h1, h2, h3, h4, h5⟩
  · exact ⟨fun i hi => absurd hi (by omega), fun i => by simp; decide⟩
  · refine ⟨fun i hi => view_at (n := zs.length) (by omega) h4, fun i => ?_⟩
    by_cases hi : i < zs.length
    · have e : zs.getD i 0 = zs[i] := by simp [hi]
      rw [e]
      exact h5 _ (List.getElem_mem hi)
    · have e : zs.getD i 0 = 0 := by simp [hi]
      rw [e]
      decide
theorem view_str {w : World} {a : Option Addr} {len cap : Nat} {ss : List ByteArray} (h : IsRowS w a len cap ss) : View w a len (sv fun i => ss.getD i ByteArray.empty) ∧ ∀ i, (ss.getD i ByteArray.empty).size ≤ maxLen := by
  rcases h with ⟨rfl, rfl, rfl, rfl⟩ | ⟨x, rfl, h1, h2, h3, h4, h5⟩
  · exact ⟨fun i hi => absurd hi (by omega), fun i => by simp⟩
  · refine ⟨fun i hi => view_at (n := ss.length) (by omega) h4, fun i => ?_⟩
    by_cases hi : i < ss.length
    · have e : ss.getD i ByteArray.empty = ss[i] := by simp [hi]
      rw [e]
      exact h5 _ (List.getElem_mem hi)
    · have e : ss.getD i ByteArray.empty = ByteArray.empty := by simp [hi]
      rw [e]
      simp

/-! ### STEP 1: THE WALK -/
set_option maxRecDepth 100000 in
set_option maxHeartbeats 1000000 in
theorem walk (a0 : Option Addr) (len0 cap0 : Nat) (z0 : List Int) (a1 : Option Addr) (len1 cap1 : Nat) (z1 : List ByteArray) (a2 : Option Addr) (len2 cap2 : Nat) (z2 : List Int) (a3 a4 : Int) (w : World) (w0 : IsRow .u8 w a0 len0 cap0 z0) (w1 : IsRowS w a1 len1 cap1 z1) (w2 : IsRow .i64 w a2 len2 cap2 z2) :
    Calls Try.prog 3 #[.slice a0 len0 cap0, .slice a1 len1 cap1, .slice a2 len2 cap2, .int .i64 a3, .int .i64 a4] w fun e w' => e = .returned (.bool true) ∧ Below w.heap.size w w' := by
  obtain ⟨v0, e0⟩ := view_u8 w0
  obtain ⟨v1, hs⟩ := view_str w1
  obtain ⟨v2, ht⟩ := view_i64 w2
  clear w0 w1 w2
  by_cases h0 : len0 ≤ 1048576
  · by_cases h1 : len1 ≤ 65536
    · by_cases h2 : len2 ≤ 65536
      · by_cases h3 : len0 + 8 * len1 + 8 * len2 ≤ 1048576
        · exact top_main a0 len0 cap0 a1 len1 cap1 a2 len2 cap2 a3 a4 _ _ _ w v0 v1 v2 e0 hs ht h0 h1 h2 h3
        · have g1 : decide ((1048576 : Int) < (len0 : Int)) = false := decide_eq_false (by omega)
          have g2 : decide ((65536 : Int) < (len1 : Int)) = false := decide_eq_false (by omega)
          have g3 : decide ((65536 : Int) < (len2 : Int)) = false := decide_eq_false (by omega)
          have HV1 := (show Hid (View w a1 len1 (sv fun i => z1.getD i ByteArray.empty)) from v1)
          have HS := (show Hid (∀ i, (z1.getD i ByteArray.empty).size ≤ maxLen) from hs)
          clear v0 v1 v2 e0 hs ht
          go_enter Try.func3, Try.ntmps3
          go_wp2_with fail
          refine (bytes_any _ _ _ _ _ _ _ _ _ _ _ _ _ HV1.out HS.out).mono ?_
          rintro e w' ⟨r, rfl, _, rfl⟩
          cases r
          all_goals go_wp2_with fail
          all_goals go_ret
          all_goals exact ⟨rfl, Below.refl _ _⟩
      · have g1 : decide ((1048576 : Int) < (len0 : Int)) = false := decide_eq_false (by omega)
        have g2 : decide ((65536 : Int) < (len1 : Int)) = false := decide_eq_false (by omega)
        have g3 : (65536 : Int) < (len2 : Int) := by omega
        have HV1 := (show Hid (View w a1 len1 (sv fun i => z1.getD i ByteArray.empty)) from v1)
        have HS := (show Hid (∀ i, (z1.getD i ByteArray.empty).size ≤ maxLen) from hs)
        clear v0 v1 v2 e0 hs ht
        go_enter Try.func3, Try.ntmps3
        go_wp2_with fail
        refine (bytes_any _ _ _ _ _ _ _ _ _ _ _ _ _ HV1.out HS.out).mono ?_
        rintro e w' ⟨r, rfl, _, rfl⟩
        cases r
        all_goals go_wp2_with fail
        all_goals go_ret
        all_goals exact ⟨rfl, Below.refl _ _⟩
    · have g1 : decide ((1048576 : Int) < (len0 : Int)) = false := decide_eq_false (by omega)
      have g2 : (65536 : Int) < (len1 : Int) := by omega
      have HV1 := (show Hid (View w a1 len1 (sv fun i => z1.getD i ByteArray.empty)) from v1)
      have HS := (show Hid (∀ i, (z1.getD i ByteArray.empty).size ≤ maxLen) from hs)
      clear v0 v1 v2 e0 hs ht
      go_enter Try.func3, Try.ntmps3
      go_wp2_with fail
      refine (bytes_any _ _ _ _ _ _ _ _ _ _ _ _ _ HV1.out HS.out).mono ?_
      rintro e w' ⟨r, rfl, _, rfl⟩
      cases r
      all_goals go_wp2_with fail
      all_goals go_ret
      all_goals exact ⟨rfl, Below.refl _ _⟩
  · have g1 : (1048576 : Int) < (len0 : Int) := by omega
    have HV1 := (show Hid (View w a1 len1 (sv fun i => z1.getD i ByteArray.empty)) from v1)
    have HS := (show Hid (∀ i, (z1.getD i ByteArray.empty).size ≤ maxLen) from hs)
    clear v0 v1 v2 e0 hs ht
    go_enter Try.func3, Try.ntmps3
    go_wp2_with fail
    refine (bytes_any _ _ _ _ _ _ _ _ _ _ _ _ _ HV1.out HS.out).mono ?_
    rintro e w' ⟨r, rfl, _, rfl⟩
    cases r
    all_goals go_wp2_with fail
    all_goals go_ret
    all_goals exact ⟨rfl, Below.refl _ _⟩

/-! ### THE ROW's STEP: WRITTEN OUT: LEAVE IT -/
set_option maxRecDepth 100000 in
theorem lifted (os : Os) (started : os.Started) (H : Type) (enc : TypeId × Value → H) :
    ReturnsInHanded {} Try.checked os 3 .any (Rows.fnTruncateTakesBackToTheLesserOffsetSpec.pre6 enc Try.prog Try.f3 Rows.fnTruncateTakesBackToTheLesserOffsetRow.domain false) (Rows.fnTruncateTakesBackToTheLesserOffsetSpec.post enc Try.prog Try.f3 false true false false) := by
  refine returnsInHanded_of_change (C := Try.checked) own started (by kernel_rfl) Try.func3
    (ChangeSpec.witness6 (enc := enc) (C := Try.checked) false ⟨#[], #[.slice none 0 0, .slice none 0 0, .slice none 0 0, .int .i64 0, .int .i64 0], []⟩ 8 (by kernel_rfl) (by kernel_rfl) (by kernel_rfl) (by kernel_rfl)) ?_
  intro W base args ds gs before hval0 hW hcnd _
  have hval : ∀ (j : Nat) t v, Try.f3.params[j]? = some t → args[j]? = some v → Value.okWide Try.prog W .any base t v := hval0
  have hW' := hW
  obtain ⟨p, q, hA0, hV, rfl, hfz, hnd⟩ := hW
  have hA : DataW.TrodAll enc Try.prog W 0 (fun _ => true) true Try.f3.params.toList args.toList ds p := hA0
  rw [Try.params3] at hA hval
  obtain ⟨v0, vs0, d0, ds0, p0, q0, hargs, rfl, rfl, h0, r0⟩ := trodAll_cons hA
  obtain ⟨v1, vs1, d1, ds1, p1, q1, rfl, rfl, rfl, h1, r1⟩ := trodAll_cons r0
  obtain ⟨v2, vs2, d2, ds2, p2, q2, rfl, rfl, rfl, h2, r2⟩ := trodAll_cons r1
  obtain ⟨v3, vs3, d3, ds3, p3, q3, rfl, rfl, rfl, h3, r3⟩ := trodAll_cons r2
  obtain ⟨v4, vs4, d4, ds4, p4, q4, rfl, rfl, rfl, h4, r4⟩ := trodAll_cons r3
  obtain ⟨rfl, rfl, rfl⟩ := trodAll_nil r4
  obtain rfl : args = #[v0, v1, v2, v3, v4] := by cases args; simp_all
  obtain ⟨rfl, rfl⟩ := trodVars_none hV
  obtain ⟨a0, len0, cap0, rfl⟩ := okWide_slice Try.underlying22 (hval 0 22 v0 rfl rfl)
  have k0 := h0
  have lt0 : ∀ x ∈ p0, x.block < W.heap.size := by obtain ⟨m, hm⟩ := k0; exact DataW.trod_lt m _ _ _ hm
  obtain ⟨z0, w0⟩ : ∃ zs, IsRow .u8 W a0 len0 cap0 zs := by
    obtain ⟨fuel, hf⟩ := h0
    rcases open_ints Try.underlying22 Try.underlying5 (by kernel_rfl) hf with ⟨hcs, _⟩ | ⟨x, l, c, zs, hcs, _, hl, hm, hz, _, hcell, hwz⟩
    · simp [Value.cells] at hcs
      obtain ⟨rfl, rfl, rfl⟩ := hcs
      exact ⟨[], .inl ⟨rfl, rfl, rfl, rfl⟩⟩
    · simp [Value.cells] at hcs
      obtain ⟨rfl, rfl, rfl⟩ := hcs
      exact ⟨zs, .inr ⟨_, rfl, hl, hm, by simpa using hz, hcell, hwz⟩⟩
  obtain ⟨a1, len1, cap1, rfl⟩ := okWide_slice Try.underlying23 (hval 1 23 v1 rfl rfl)
  have k1 := h1
  have lt1 : ∀ x ∈ p1, x.block < W.heap.size := by obtain ⟨m, hm⟩ := k1; exact DataW.trod_lt m _ _ _ hm
  obtain ⟨z1, w1⟩ : ∃ zs, IsRowS W a1 len1 cap1 zs := by
    obtain ⟨fuel, hf⟩ := h1
    rcases open_strings Try.underlying23 Try.underlying9 (by kernel_rfl) hf with ⟨hcs, _⟩ | ⟨x, l, c, zs, hcs, _, hl, hm, hz, _, hcell, hwz⟩
    · simp [Value.cells] at hcs
      obtain ⟨rfl, rfl, rfl⟩ := hcs
      exact ⟨[], .inl ⟨rfl, rfl, rfl, rfl⟩⟩
    · simp [Value.cells] at hcs
      obtain ⟨rfl, rfl, rfl⟩ := hcs
      exact ⟨zs, .inr ⟨_, rfl, hl, hm, by simpa using hz, hcell, hwz⟩⟩
  obtain ⟨a2, len2, cap2, rfl⟩ := okWide_slice Try.underlying24 (hval 2 24 v2 rfl rfl)
  have k2 := h2
  have lt2 : ∀ x ∈ p2, x.block < W.heap.size := by obtain ⟨m, hm⟩ := k2; exact DataW.trod_lt m _ _ _ hm
  obtain ⟨z2, w2⟩ : ∃ zs, IsRow .i64 W a2 len2 cap2 zs := by
    obtain ⟨fuel, hf⟩ := h2
    rcases open_ints Try.underlying24 Try.underlying3 (by kernel_rfl) hf with ⟨hcs, _⟩ | ⟨x, l, c, zs, hcs, _, hl, hm, hz, _, hcell, hwz⟩
    · simp [Value.cells] at hcs
      obtain ⟨rfl, rfl, rfl⟩ := hcs
      exact ⟨[], .inl ⟨rfl, rfl, rfl, rfl⟩⟩
    · simp [Value.cells] at hcs
      obtain ⟨rfl, rfl, rfl⟩ := hcs
      exact ⟨zs, .inr ⟨_, rfl, hl, hm, by simpa using hz, hcell, hwz⟩⟩
  obtain ⟨a3, rfl, rfl, rfl, w3⟩ := open_int Try.underlying3 (hval 3 3 v3 rfl rfl) h3
  obtain ⟨a4, rfl, rfl, rfl, w4⟩ := open_int Try.underlying3 (hval 4 3 v4 rfl rfl) h4
  clear hA0 hval0
  refine (walk a0 len0 cap0 z0 a1 len1 cap1 z1 a2 len2 cap2 z2 a3 a4 W w0 w1 w2).mono fun e W' ⟨he, bel⟩ => ?_
  subst he
  exact ⟨_, rfl, _, _, _, [], _, [], hW', trodAll_mk1 (shut_bool Try.underlying4 _), (trodAll_cons_mk (Below.trod laidOut (by kernel_rfl) (of_decide_eq_true (by kernel_rfl)) k0 bel lt0) (trodAll_cons_mk (Below.trod laidOut (by kernel_rfl) (of_decide_eq_true (by kernel_rfl)) k1 bel lt1) (trodAll_cons_mk (Below.trod laidOut (by kernel_rfl) (of_decide_eq_true (by kernel_rfl)) k2 bel lt2) (trodAll_cons_mk (shut_int Try.underlying3 w3) (trodAll_cons_mk (shut_int Try.underlying3 w4) trodAll_mk0))))), rfl, bel.frame _, fun h => by cases h⟩

theorem over : Rows.fnTruncateTakesBackToTheLesserOffsetRow.holds Try.pinned (OpenSpec.ofChange Rows.fnTruncateTakesBackToTheLesserOffsetSpec) :=
  OpenClaim.holds_of_wide 3 Try.f3 rfl rfl rfl rfl rfl rfl rfl ⟨rfl, rfl, rfl, rfl, rfl⟩ rfl rfl rfl rfl rfl (by kernel_rfl) Try.func3 (by kernel_rfl)
    (of_decide_eq_true (by kernel_rfl)) (by unfold Func.isWrapper; first | (rw [if_pos (by decide +kernel)]; kernel_rfl) | (rw [if_neg (by decide +kernel)]; exact ⟨rfl, rfl⟩))
    (fun os started H enc _ => lifted os started H enc)

/-- ████ THE STATEMENT ████ -/
theorem proved : Rows.FnTruncateTakesBackToTheLesserOffsetSaid := over
#print axioms proved
end Go.Proofs.Qxb6617724a.fnTruncateTakesBackToTheLesserOffset
