/- the two functions that bound the lengths -/
import Derived.Test.Qxb6617680aWalks
namespace Go.Proofs.Qxb6617680a
open Go.RowKit

def small (n : Nat) : Bool := decide (n ≤ 1048576)
theorem small_yes {n : Nat} (h : n ≤ 1048576) : small n = true := decide_eq_true h
theorem small_no {n : Nat} (h : 1048576 < n) : small n = false := decide_eq_false (by omega)
theorem of_small {n : Nat} (h : small n = true) : n ≤ 1048576 := of_decide_eq_true h

set_option maxHeartbeats 400000 in
theorem bytes5_any (a0 : Option Addr) (n0 c0 : Nat) (a1 : Option Addr) (n1 c1 : Nat) (a2 : Option Addr) (n2 c2 : Nat) (k : Int) (w : World) :
    Calls Try.prog 5 #[.slice a0 n0 c0, .slice a1 n1 c1, .slice a2 n2 c2, .int .i64 k] w fun e w' => e = .returned (.bool (small (n0 + n1 + n2))) ∧ w = w' := by
  go_enter Try.func5, Try.ntmps5
  go_wp2
  all_goals go_ret
  all_goals first | exact ⟨ret_bool (small_no (by omega)).symm, rfl⟩ | exact ⟨ret_bool (small_yes (by omega)).symm, rfl⟩

set_option maxHeartbeats 400000 in
theorem bytes10_any (a0 : Option Addr) (n0 c0 : Nat) (a1 : Option Addr) (n1 c1 : Nat) (a2 : Option Addr) (n2 c2 : Nat) (a3 : Option Addr) (n3 c3 : Nat) (w : World) :
    Calls Try.prog 10 #[.slice a0 n0 c0, .slice a1 n1 c1, .slice a2 n2 c2, .slice a3 n3 c3] w fun e w' => e = .returned (.bool (small (n0 + n1 + n2 + n3))) ∧ w = w' := by
  go_enter Try.func10, Try.ntmps10
  go_wp2
  all_goals go_ret
  all_goals first | exact ⟨ret_bool (small_no (by omega)).symm, rfl⟩ | exact ⟨ret_bool (small_yes (by omega)).symm, rfl⟩
end Go.Proofs.Qxb6617680a
