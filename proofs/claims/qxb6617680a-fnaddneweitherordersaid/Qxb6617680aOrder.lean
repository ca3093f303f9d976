/- The plain law of FnAddNewEitherOrder, over rows of words. -/
import Derived.Test.Qxb6617680aParts
namespace Go.Proofs.Qxb6617680a

theorem sAft_w (n : Nat) (S O : Nat → Int) (i : Nat) : sAft n S O i = addS (S i) (wAt n O i) := by
  unfold sAft wAt
  by_cases hi : i < n
  · rw [if_pos hi, if_pos hi]
  · rw [if_neg hi, if_neg hi, addS_zero]
theorem fAft_w (n : Nat) (F S O : Nat → Int) (i : Nat) : fAft n F S O i = addF (F i) (S i) (wAt n O i) := by
  unfold fAft wAt
  by_cases hi : i < n
  · rw [if_pos hi, if_pos hi]
  · rw [if_neg hi, if_neg hi, addF_zero]
theorem grewB_none {S O : Nat → Int} : ∀ {n : Nat}, (∀ i, i < n → (anw (O i) (S i) != 0) = false) → grewB S O n = false
  | 0, _ => rfl
  | n + 1, h => by
    show (grewB S O n || (anw (O n) (S n) != 0)) = false
    rw [grewB_none (fun i hi => h i (by omega)), h n (by omega)]; rfl
theorem grewB_some {S O : Nat → Int} : ∀ {n i : Nat}, i < n → (anw (O i) (S i) != 0) = true → grewB S O n = true
  | 0, _, h, _ => absurd h (by omega)
  | n + 1, i, h, hg => by
    show (grewB S O n || (anw (O n) (S n) != 0)) = true
    by_cases e : i = n
    · subst e; rw [hg, Bool.or_true]
    · rw [grewB_some (n := n) (i := i) (by omega) hg, Bool.true_or]

section
variable {S F A B : Nat → Int} {na nb ns : Nat}

/-- adding a once more brings nothing -/
theorem order_again : grewB (sAft nb (sAft na S A) B) A na = false :=
  grewB_none fun i hi => by
    rw [sAft_w, sAft_w, wAt_in hi]
    exact again_zero _ _ _
theorem order_S3 (i : Nat) : sAft na (sAft nb (sAft na S A) B) A i = sAft nb (sAft na S A) B i := by
  rw [sAft_w, sAft_w, sAft_w]
  exact again_S _ _ _
theorem order_F3 (i : Nat) : fAft na (fAft nb (fAft na F S A) (sAft na S A) B) (sAft nb (sAft na S A) B) A i = fAft nb (fAft na F S A) (sAft na S A) B i := by
  rw [fAft_w, sAft_w, sAft_w]
  exact again_F _ _ _ _
theorem order_S (okS : ∀ i, OkW (S i)) (i : Nat) : sAft nb (sAft na S A) B i = sAft na (sAft nb S B) A i := by
  rw [sAft_w, sAft_w, sAft_w, sAft_w]
  exact addS_comm (okS i)
theorem order_F (okF : ∀ i, OkW (F i)) (i : Nat) : fAft nb (fAft na F S A) (sAft na S A) B i = fAft na (fAft nb F S B) (sAft nb S B) A i := by
  rw [fAft_w, fAft_w, fAft_w, fAft_w, sAft_w, sAft_w]
  exact addF_comm (okF i)
theorem order_or (okS : ∀ i, OkW (S i)) (i : Nat) : sAft nb (sAft na S A) B i = bits .or .u64 (bits .or .u64 (S i) (wAt na A i)) (wAt nb B i) := by
  rw [sAft_w, sAft_w]
  exact two_or (okS i)
theorem order_gained (okF : ∀ i, OkW (F i)) (i : Nat) : fAft nb (fAft na F S A) (sAft na S A) B i = bits .or .u64 (F i) (bits .andNot .u64 (sAft nb (sAft na S A) B i) (S i)) := by
  simp only [fAft_w, sAft_w]
  exact two_gained (okF i)
theorem order_out (okF : ∀ i, OkW (F i)) {i : Nat} (ha : na ≤ i) (hb : nb ≤ i) : fAft nb (fAft na F S A) (sAft na S A) B i = bits .or .u64 (F i) 0 := by
  rw [fAft_w, fAft_w, wAt_out (by omega), wAt_out (by omega), addF_zero, addF_zero]
  exact (orw_zero (okF i)).symm
/-- either call grew the set iff the set changed -/
theorem order_grew (okS : ∀ i, OkW (S i)) (ha : na ≤ ns) (hb : nb ≤ ns) : (!sameB ns (sAft nb (sAft na S A) B) ns S) = (grewB S A na || grewB (sAft na S A) B nb) := by
  have key : ∀ i, ((anw (wAt na A i) (S i) != 0) || (anw (wAt nb B i) (sAft na S A i) != 0)) = (sAft nb (sAft na S A) B i != S i) := fun i => by
    rw [sAft_w nb, sAft_w na]
    exact two_grew (okS i)
  cases h : (grewB S A na || grewB (sAft na S A) B nb)
  · rw [Bool.or_eq_false_iff] at h
    have : sameB ns (sAft nb (sAft na S A) B) ns S = true := sameB_true rfl fun i _ => by
      have e1 : sAft nb (sAft na S A) B i = sAft na S A i := by
        by_cases hi : i < nb
        · have := grewB_false h.2 i hi
          rw [grew_iff] at this
          rw [sAft_w nb, wAt_in hi]
          simpa using this
        · unfold sAft; rw [if_neg hi]
      have e2 : sAft na S A i = S i := by
        by_cases hi : i < na
        · have := grewB_false h.1 i hi
          rw [grew_iff] at this
          rw [sAft_w na, wAt_in hi]
          simpa using this
        · unfold sAft; rw [if_neg hi]
      rw [e1, e2]
    rw [this]; rfl
  · have : ∃ i, i < ns ∧ (sAft nb (sAft na S A) B i != S i) = true := by
      rw [Bool.or_eq_true] at h
      rcases h with h | h
      · obtain ⟨i, hi, hg⟩ := grewB_true h
        refine ⟨i, by omega, ?_⟩
        rw [← key i, wAt_in hi, hg, Bool.true_or]
      · obtain ⟨i, hi, hg⟩ := grewB_true h
        refine ⟨i, by omega, ?_⟩
        rw [← key i, wAt_in (n := nb) hi, hg, Bool.or_true]
    obtain ⟨i, hi, hg⟩ := this
    have : sameB ns (sAft nb (sAft na S A) B) ns S = false := sameB_false fun hh => by
      rw [hh.2 i hi] at hg
      simp at hg
    rw [this]; rfl
theorem sameB_congr {n m : Nat} {f f' g : Nat → Int} (h : ∀ i, f i = f' i) : sameB n f m g = sameB n f' m g := by
  have : f = f' := funext h
  rw [this]
end
end Go.Proofs.Qxb6617680a
