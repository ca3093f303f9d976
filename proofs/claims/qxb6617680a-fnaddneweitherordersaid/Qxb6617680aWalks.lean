/- The walks of the small functions: wordAt, sameWords. -/
import Derived.Test.Qxb6617680aRows
import Derived.Test.Qxb6617680aBits
import Derived.WalkKit
import Derived.WalkSpells
import Derived.WalkSmall
import Derived.Deep.QuietTactic
import Derived.BigQuiet
import Derived.Laws.CopyOwn
namespace Go.Proofs.Qxb6617680a
open Go.RowKit

/-- A slice of words reads as f, n words long. -/
def View (w : World) (a : Option Addr) (n : Nat) (f : Nat → Int) : Prop :=
  ∀ i, i < n → ∃ b o, a = some ⟨b, o, none⟩ ∧ w.cell? ⟨b, o + i, none⟩ = some (.int .u64 (f i))

/-- The word at place i, 0 behind the end. -/
def wAt (n : Nat) (f : Nat → Int) (i : Nat) : Int := if i < n then f i else 0
theorem wAt_in {n : Nat} {f : Nat → Int} {i : Nat} (h : i < n) : wAt n f i = f i := if_pos h
theorem wAt_out {n : Nat} {f : Nat → Int} {i : Nat} (h : ¬ i < n) : wAt n f i = 0 := if_neg h
theorem ret_u64 {a b : Int} (h : a = b) : Ending.returned (.int .u64 a) = .returned (.int .u64 b) := by rw [h]

set_option maxHeartbeats 400000 in
theorem wordAt_any (a : Option Addr) (n c : Nat) (f : Nat → Int) (i : Nat) (w : World) (hv : View w a n f) :
    Calls Try.prog 9 #[.slice a n c, .int .i64 (i : Int)] w fun e w' => e = .returned (.int .u64 (wAt n f i)) ∧ w' = w := by
  by_cases h : i < n
  · obtain ⟨b, o, rfl, hc⟩ := hv i h
    clear hv
    go_enter Try.func9, Try.ntmps9
    go_wp2
    go_ret
    exact ⟨ret_u64 (wAt_in h).symm, rfl⟩
  · clear hv
    go_enter Try.func9, Try.ntmps9
    go_wp2
    go_ret
    exact ⟨ret_u64 (wAt_out h).symm, rfl⟩

/-- The two rows of words are one. -/
def sameB (n : Nat) (f : Nat → Int) (n' : Nat) (f' : Nat → Int) : Bool := decide (n = n' ∧ ∀ i, i < n → f i = f' i)
theorem sameB_true {n n' : Nat} {f f' : Nat → Int} (h : n = n') (hf : ∀ i, i < n → f i = f' i) : sameB n f n' f' = true := decide_eq_true ⟨h, hf⟩
theorem sameB_false {n n' : Nat} {f f' : Nat → Int} (h : ¬ (n = n' ∧ ∀ i, i < n → f i = f' i)) : sameB n f n' f' = false := decide_eq_false h
theorem ret_bool {a b : Bool} (h : a = b) : Ending.returned (.bool a) = .returned (.bool b) := by rw [h]

set_option maxHeartbeats 400000 in
theorem sameWords_any (a : Option Addr) (n c : Nat) (f : Nat → Int) (a' : Option Addr) (n' c' : Nat) (f' : Nat → Int) (w : World) (hv : View w a n f) (hv' : View w a' n' f') (hn : n ≤ 1048576) :
    Calls Try.prog 8 #[.slice a n c, .slice a' n' c'] w fun e w' => e = .returned (.bool (sameB n f n' f')) ∧ ∃ q, w' = w.drewN q := by
  by_cases hne : n = n'
  · subst hne
    have hb : ((n : Int) != (n : Int)) = false := by simp
    go_enter Try.func8, Try.ntmps8
    go_wp2
    go_loopw [5] (fun t wr => ∃ k : Nat, k ≤ n ∧ t = .int .i64 k ∧ (∀ i, i < k → f i = f' i) ∧ ∃ q, wr = w.drewN q) (fun t _ => n - (intOf t).toNat)
    case atStart => exact ⟨0, Nat.zero_le _, rfl, fun i h => absurd h (by omega), 0, rfl⟩
    case round =>
      obtain ⟨k, hk, rfl, hs, q, rfl⟩ := hrel
      have HS : Hid (∀ i, i < k → f i = f' i) := hs
      clear hs
      by_cases hlt : k < n
      · obtain ⟨b, o, rfl, hc⟩ := hv k hlt
        obtain ⟨b', o', rfl, hc'⟩ := hv' k hlt
        clear hv hv'
        have hlt' : (k : Int) < (n : Int) := by omega
        go_wp2_with fail
        go_quiet (fail)
        go_wp2
        · have hd : (f k != f' k) = true := by assumption
          go_ret
          exact ⟨ret_bool (sameB_false fun h => by rw [h.2 k hlt] at hd; simp at hd).symm, q + nq, World.drewN_drewN _ _ _⟩
        · have hd : (f k != f' k) = false := by assumption
          go_roundw
          case rel =>
            refine ⟨k + 1, by omega, by go_num, fun i hi => ?_, _, rfl⟩
            by_cases e : i = k
            · subst e; simpa using hd
            · exact HS.out i (by omega)
          case measure => simp [intOf]; omega
      · clear hv hv'
        go_wp2
        go_ret
        exact ⟨ret_bool (sameB_true rfl fun i hi => HS.out i (by omega)).symm, q, rfl⟩
  · have hb : ((n : Int) != (n' : Int)) = true := by rw [bne_iff_ne]; omega
    go_enter Try.func8, Try.ntmps8
    go_wp2
    go_ret
    exact ⟨ret_bool (sameB_false fun h => hne h.1).symm, 0, rfl⟩
end Go.Proofs.Qxb6617680a
