/- What becomes of the rows behind the calls of addNew: lemmas outside the walk. -/
import Derived.Test.Qxb6617680aClone
namespace Go.Proofs.Qxb6617680a
open Go.RowKit

/-- 'other', copied (or nil): what is known of it behind the copy. -/
structure Copied (w w' : World) (ao : Option Addr) (n co : Nat) (O : Nat → Int) : Prop where
  own : Own w' ao n w.heap.size 0 O
  below : Below w.heap.size w w'
  lt : 0 < n → w.heap.size < w'.heap.size
  cap : n ≤ co

theorem View.later {w w' : World} {a : Option Addr} {n : Nat} {f : Nat → Int} (h : View w a n f) (hb : Below w.heap.size w w') : View w' a n f := by
  intro i hi
  obtain ⟨b, o, e, hc⟩ := h i hi
  exact ⟨b, o, e, by rw [hb.cell (p := ⟨b, o + i, none⟩) (World.block_lt_of_cell? w ⟨b, o + i, none⟩ hc)]; exact hc⟩
theorem Own.lt {w : World} {a : Option Addr} {n B o : Nat} {f : Nat → Int} (h : Own w a n B o f) (hn : 0 < n) : B < w.heap.size :=
  World.block_lt_of_cell? w ⟨B, o + 0, none⟩ (h.cell 0 hn)
theorem Own.later {w w' : World} {a : Option Addr} {n B o : Nat} {f : Nat → Int} (h : Own w a n B o f) (hb : Below w.heap.size w w') : Own w' a n B o f :=
  ⟨h.at', fun i hi => by rw [hb.cell (p := ⟨B, o + i, none⟩) (h.lt (by omega))]; exact h.cell i hi, fun i hi => by rw [hb.frozen (p := ⟨B, o + i, none⟩) (h.lt (by omega))]; exact h.free i hi⟩
theorem Own.drew {w : World} {a : Option Addr} {n B o : Nat} {f : Nat → Int} (h : Own w a n B o f) : Own w.drew a n B o f := ⟨h.at', h.cell, h.free⟩
theorem Added.undrew {w w' : World} {k Bs os Bf of : Nat} {S O F : Nat → Int} (h : Added w.drew w' k Bs os Bf of S O F) : Added w w' k Bs os Bf of S O F :=
  ⟨h.size, fun B h1 h2 => (Below.refl B w).drew.trans (h.below B h1 h2), h.set, h.fresh, h.far, h.setOut, h.freshOut, h.frozen⟩
/-- What another row, in a block of its own, is behind an addNew. -/
theorem Own.added {w w' : World} {k Bs os Bf of : Nat} {S O F : Nat → Int} (hA : Added w w' k Bs os Bf of S O F) {a : Option Addr} {n B o : Nat} {f : Nat → Int} (h : Own w a n B o f) (hne : 0 < n → 0 < k → B ≠ Bs ∧ B ≠ Bf) : Own w' a n B o f := by
  refine ⟨h.at', fun i hi => ?_, fun i hi => by rw [hA.frozen]; exact h.free i hi⟩
  by_cases hk : 0 < k
  · obtain ⟨h1, h2⟩ := hne (by omega) hk
    rw [hA.far _ _ h1 h2]; exact h.cell i hi
  · have hk0 : k = 0 := by omega
    subst hk0
    by_cases h1 : B = Bs
    · subst h1; rw [hA.setOut _ (by omega)]; exact h.cell i hi
    · by_cases h2 : B = Bf
      · subst h2; rw [hA.freshOut _ (by omega)]; exact h.cell i hi
      · rw [hA.far _ _ h1 h2]; exact h.cell i hi
theorem Own.take {w : World} {a : Option Addr} {n B o : Nat} {f : Nat → Int} (h : Own w a n B o f) {m : Nat} (hm : m ≤ n) : Own w a m B o f :=
  ⟨fun h0 => h.at' (by omega), fun i hi => h.cell i (by omega), fun i hi => h.free i (by omega)⟩


theorem Own.drop {w : World} {a : Option Addr} {n B : Nat} {f : Nat → Int} {k c : Nat} (ha : 0 < n → a = some ⟨B, 0, none⟩) (hk : k ≤ n) (hc : n ≤ c)
    (hcell : ∀ i, k ≤ i → i < n → w.cell? ⟨B, i, none⟩ = some (.int .u64 (f i))) (hfree : ∀ i, i < n → w.frozen? ⟨B, i, none⟩ = false) :
    Own w (if c = k then a else Option.map (fun x => x.add k) a) (n - k) B k (fun i => f (k + i)) := by
  refine ⟨fun h => ?_, fun i hi => hcell (k + i) (by omega) (by omega), fun i hi => hfree (k + i) (by omega)⟩
  rw [if_neg (by omega), ha (by omega)]
  simp [Addr.add_lit]

/-- The set behind an addNew of n words of O; fresh likewise. -/
def sAft (n : Nat) (S O : Nat → Int) (i : Nat) : Int := if i < n then addS (S i) (O i) else S i
def fAft (n : Nat) (F S O : Nat → Int) (i : Nat) : Int := if i < n then addF (F i) (S i) (O i) else F i

theorem Own.afterSet {w w' : World} {n Bs Bf : Nat} {S O F : Nat → Int} (hA : Added w w' n Bs 0 Bf 0 S O F) {a : Option Addr} {m : Nat} (h : Own w a m Bs 0 S) : Own w' a m Bs 0 (sAft n S O) := by
  refine ⟨h.at', fun i hi => ?_, fun i hi => by rw [hA.frozen]; exact h.free i hi⟩
  unfold sAft
  by_cases hn : i < n
  · rw [if_pos hn]; exact hA.set i hn
  · rw [if_neg hn, hA.setOut _ (by omega)]; exact h.cell i hi
theorem Own.afterFresh {w w' : World} {n Bs Bf : Nat} {S O F : Nat → Int} (hA : Added w w' n Bs 0 Bf 0 S O F) {a : Option Addr} {m : Nat} (h : Own w a m Bf 0 F) : Own w' a m Bf 0 (fAft n F S O) := by
  refine ⟨h.at', fun i hi => ?_, fun i hi => by rw [hA.frozen]; exact h.free i hi⟩
  unfold fAft
  by_cases hn : i < n
  · rw [if_pos hn]; exact hA.fresh i hn
  · rw [if_neg hn, hA.freshOut _ (by omega)]; exact h.cell i hi

theorem Own.setTwo {w w' w'' : World} {n k Bs Bf : Nat} {S O F : Nat → Int} (hk : k ≤ n) (hA : Added w w' k Bs 0 Bf 0 S O F) (hA' : Added w' w'' (n - k) Bs k Bf k (fun i => S (k + i)) (fun i => O (k + i)) (fun i => F (k + i)))
    {a : Option Addr} {m : Nat} (h : Own w a m Bs 0 S) : Own w'' a m Bs 0 (sAft n S O) := by
  refine ⟨h.at', fun i hi => ?_, fun i hi => by rw [hA'.frozen, hA.frozen]; exact h.free i hi⟩
  unfold sAft
  by_cases hn : i < n
  · rw [if_pos hn]
    by_cases hik : i < k
    · rw [hA'.setOut _ (by omega)]; exact hA.set i hik
    · have := hA'.set (i - k) (by omega)
      have e : k + (i - k) = i := by omega
      simp only [e] at this
      rwa [Nat.zero_add]
  · rw [if_neg hn, hA'.setOut _ (by omega), hA.setOut _ (by omega)]; exact h.cell i hi
theorem Own.freshTwo {w w' w'' : World} {n k Bs Bf : Nat} {S O F : Nat → Int} (hk : k ≤ n) (hA : Added w w' k Bs 0 Bf 0 S O F) (hA' : Added w' w'' (n - k) Bs k Bf k (fun i => S (k + i)) (fun i => O (k + i)) (fun i => F (k + i)))
    {a : Option Addr} {m : Nat} (h : Own w a m Bf 0 F) : Own w'' a m Bf 0 (fAft n F S O) := by
  refine ⟨h.at', fun i hi => ?_, fun i hi => by rw [hA'.frozen, hA.frozen]; exact h.free i hi⟩
  unfold fAft
  by_cases hn : i < n
  · rw [if_pos hn]
    by_cases hik : i < k
    · rw [hA'.freshOut _ (by omega)]; exact hA.fresh i hik
    · have := hA'.fresh (i - k) (by omega)
      have e : k + (i - k) = i := by omega
      simp only [e] at this
      rwa [Nat.zero_add]
  · rw [if_neg hn, hA'.freshOut _ (by omega), hA.freshOut _ (by omega)]; exact h.cell i hi

/-! ### the plain law over rows -/
theorem grewB_add (S O : Nat → Int) (k : Nat) : ∀ m, grewB S O (k + m) = (grewB S O k || grewB (fun i => S (k + i)) (fun i => O (k + i)) m)
  | 0 => by simp [grewB]
  | m + 1 => by
    show (grewB S O (k + m) || (anw (O (k + m)) (S (k + m)) != 0)) = _
    rw [grewB_add S O k m, Bool.or_assoc]
    rfl
theorem grewB_cut (S O : Nat → Int) {k n : Nat} (h : k ≤ n) : grewB S O n = (grewB S O k || grewB (fun i => S (k + i)) (fun i => O (k + i)) (n - k)) := by
  rw [← grewB_add, show k + (n - k) = n by omega]
theorem grewB_false {S O : Nat → Int} : ∀ {n : Nat}, grewB S O n = false → ∀ i, i < n → (anw (O i) (S i) != 0) = false
  | 0, _, i, h => absurd h (by omega)
  | n + 1, h, i, hi => by
    have h2 : (grewB S O n || (anw (O n) (S n) != 0)) = false := h
    rw [Bool.or_eq_false_iff] at h2
    by_cases e : i = n
    · subst e; exact h2.2
    · exact grewB_false h2.1 i (by omega)
theorem grewB_true {S O : Nat → Int} : ∀ {n : Nat}, grewB S O n = true → ∃ i, i < n ∧ (anw (O i) (S i) != 0) = true
  | 0, h => by cases h
  | n + 1, h => by
    have h2 : (grewB S O n || (anw (O n) (S n) != 0)) = true := h
    rw [Bool.or_eq_true] at h2
    rcases h2 with h2 | h2
    · obtain ⟨i, hi, hh⟩ := grewB_true h2
      exact ⟨i, by omega, hh⟩
    · exact ⟨n, by omega, h2⟩
/-- addNew says 'it grew' iff the set changed. -/
theorem grew_same {S O : Nat → Int} {n ns : Nat} (hn : n ≤ ns) : (!sameB ns (sAft n S O) ns S) = grewB S O n := by
  cases h : grewB S O n
  · have : sameB ns (sAft n S O) ns S = true := sameB_true rfl fun i _ => by
      unfold sAft
      by_cases hi : i < n
      · have h0 := grewB_false h i hi
        rw [grew_iff] at h0
        rw [if_pos hi]
        simpa using h0
      · rw [if_neg hi]
    rw [this]; rfl
  · obtain ⟨i, hi, h0⟩ := grewB_true h
    have : sameB ns (sAft n S O) ns S = false := sameB_false fun hh => by
      have := hh.2 i (by omega)
      unfold sAft at this
      rw [if_pos hi] at this
      rw [grew_iff, this] at h0
      simp at h0
    rw [this]; rfl
/-- the set's word is set | other -/
theorem sAft_or {S O : Nat → Int} (okS : ∀ i, OkW (S i)) (n i : Nat) : sAft n S O i = bits .or .u64 (S i) (wAt n O i) := by
  unfold sAft wAt
  by_cases hi : i < n
  · rw [if_pos hi, if_pos hi]; exact addS_or (okS i)
  · rw [if_neg hi, if_neg hi]; exact (orw_zero (okS i)).symm
theorem fAft_in {S O F : Nat → Int} (okF : ∀ i, OkW (F i)) (n i : Nat) : fAft n F S O i = bits .or .u64 (F i) (bits .andNot .u64 (sAft n S O i) (S i)) := by
  unfold fAft sAft
  by_cases hi : i < n
  · rw [if_pos hi, if_pos hi]; exact addF_gained (okF i)
  · rw [if_neg hi, if_neg hi]
    show F i = orw (F i) (anw (S i) (S i))
    rw [anw_self]; exact (orw_zero (okF i)).symm
theorem fAft_out {S O F : Nat → Int} (okF : ∀ i, OkW (F i)) {n i : Nat} (h : n ≤ i) : fAft n F S O i = bits .or .u64 (F i) 0 := by
  unfold fAft
  rw [if_neg (by omega)]
  exact (orw_zero (okF i)).symm

theorem View.drewN {w : World} {a : Option Addr} {n : Nat} {f : Nat → Int} (h : View w a n f) (q : Nat) : View (w.drewN q) a n f := h
end Go.Proofs.Qxb6617680a
