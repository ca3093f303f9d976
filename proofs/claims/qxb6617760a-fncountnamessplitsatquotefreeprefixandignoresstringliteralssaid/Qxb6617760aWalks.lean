/- The walks of the length check and of countNames (through ZZcountNames). -/
import Derived.Test.Qxb6617760aRows
import Derived.Test.Qxb6617760aPlain
import Derived.WalkKit
import Derived.WalkSpells
import Derived.WalkSmall
import Derived.Laws.CopyOwn
namespace Go.Proofs.Qxb6617760a
open Go.RowKit

/-- A slice of bytes reads as the list z. -/
def View (w : World) (a : Option Addr) (z : List Int) : Prop :=
  ∀ i, i < z.length → ∃ b o, a = some ⟨b, o, none⟩ ∧ w.cell? ⟨b, o + i, none⟩ = some (.int .u8 (z.getD i 0))
theorem View.later {w w' : World} {a : Option Addr} {z : List Int} (h : View w a z) (hb : Below w.heap.size w w') : View w' a z := by
  intro i hi
  obtain ⟨b, o, e, hc⟩ := h i hi
  exact ⟨b, o, e, by rw [hb.cell (p := ⟨b, o + i, none⟩) (World.block_lt_of_cell? w ⟨b, o + i, none⟩ hc)]; exact hc⟩
theorem ret_bool {a b : Bool} (h : a = b) : Ending.returned (.bool a) = .returned (.bool b) := by rw [h]
theorem ret_int {k : IntKind} {a b : Int} (h : a = b) : Ending.returned (.int k a) = .returned (.int k b) := by rw [h]

def small (n : Nat) : Bool := decide (n ≤ 1048576)
theorem small_yes {n : Nat} (h : n ≤ 1048576) : small n = true := decide_eq_true h
theorem small_no {n : Nat} (h : 1048576 < n) : small n = false := decide_eq_false (by omega)

set_option maxHeartbeats 400000 in
theorem bytes_any (a0 : Option Addr) (n0 c0 : Nat) (a1 : Option Addr) (n1 c1 : Nat) (a2 : Option Addr) (n2 c2 : Nat) (w : World) :
    Calls Try.prog 4 #[.slice a0 n0 c0, .slice a1 n1 c1, .slice a2 n2 c2] w fun e w' => e = .returned (.bool (small (n0 + n1 + n2))) ∧ w = w' := by
  go_enter Try.func4, Try.ntmps4
  go_wp2
  all_goals go_ret
  all_goals first | exact ⟨ret_bool (small_no (by omega)).symm, rfl⟩ | exact ⟨ret_bool (small_yes (by omega)).symm, rfl⟩

set_option maxRecDepth 100000 in
set_option maxHeartbeats 1000000 in
theorem count_any (a : Option Addr) (n c : Nat) (z : List Int) (w : World) (hv : View w a z) (hz : z.length = n) (hn : n ≤ 4194304) :
    Calls Try.prog 5 #[.slice a n c] w fun e w' => e = .returned (.int .i64 (cnt 0 z)) ∧ w = w' := by
  have HV : Hid (View w a z) := hv
  have HZ : Hid (z.length = n) := hz
  have hle : cnt 0 z ≤ n := by rw [← hz]; exact cnt_le z 0
  clear hv hz
  go_enter Try.func5, Try.ntmps5
  go_wp2
  go_loop [3, 4, 5] (fun t q i => ∃ (d k : Nat) (b : Bool), k ≤ n + 1 ∧ t = .int .i64 d ∧ q = .bool b ∧ i = .int .i64 k ∧ d + cnt (st b) (z.drop k) = cnt 0 z) (fun _ _ i => n + 1 - (intOf i).toNat)
  case atStart => exact ⟨0, 0, false, Nat.zero_le _, rfl, rfl, rfl, by rw [st_f]; simp⟩
  case round =>
    obtain ⟨d, k, b, hk, rfl, rfl, rfl, hd⟩ := hrel
    have hdn : d ≤ n := by omega
    have HD : Hid (d + cnt (st b) (z.drop k) = cnt 0 z) := hd
    clear hd
    by_cases hlt : k < n
    · have hkz : k < z.length := by rw [HZ.out]; exact hlt
      obtain ⟨bb, o, rfl, hc⟩ := HV.out k hkz
      obtain ⟨x, hx⟩ : ∃ x, x = z.getD k 0 := ⟨_, rfl⟩
      rw [← hx] at hc
      have HX : Hid (x = z.getD k 0) := hx
      have HK : Hid (k < z.length) := hkz
      clear hx hkz
      cases b with
      | true =>
        cases h9 : (x == 92) with
        | true =>
          go_wp2
          go_round
          case rel => exact ⟨d, k + 2, true, by omega, rfl, rfl, by go_num, by rw [← st_skip z k HK.out (by rw [← HX.out]; exact h9)]; exact HD.out⟩
          case measure => simp [intOf]; omega
        | false =>
          cases h3 : (x == 34) with
          | true =>
            go_wp2
            go_round
            case rel => exact ⟨d, k + 1, false, by omega, rfl, rfl, by go_num, by rw [← st_close z k HK.out (by rw [← HX.out]; exact h9) (by rw [← HX.out]; exact h3)]; exact HD.out⟩
            case measure => simp [intOf]; omega
          | false =>
            cases h5 : (x == 58)
            all_goals
              go_wp2
              go_round
              case rel => exact ⟨d, k + 1, true, by omega, rfl, rfl, by go_num, by rw [← st_stay z k HK.out (by rw [← HX.out]; exact h9) (by rw [← HX.out]; exact h3)]; exact HD.out⟩
              case measure => simp [intOf]; omega
      | false =>
        cases h3 : (x == 34) with
        | true =>
          go_wp2
          go_round
          case rel => exact ⟨d, k + 1, true, by omega, rfl, rfl, by go_num, by rw [← st_open z k HK.out (by rw [← HX.out]; exact h3)]; exact HD.out⟩
          case measure => simp [intOf]; omega
        | false =>
          cases h5 : (x == 58) with
          | true =>
            go_wp2
            go_round
            case rel => exact ⟨d + 1, k + 1, false, by omega, by go_num, rfl, by go_num, by have := HD.out; rw [st_colon z k HK.out (by rw [← HX.out]; exact h3) (by rw [← HX.out]; exact h5)] at this; omega⟩
            case measure => simp [intOf]; omega
          | false =>
            go_wp2
            go_round
            case rel => exact ⟨d, k + 1, false, by omega, rfl, rfl, by go_num, by rw [← st_pass z k HK.out (by rw [← HX.out]; exact h3) (by rw [← HX.out]; exact h5)]; exact HD.out⟩
            case measure => simp [intOf]; omega
    · go_wp2
      go_ret
      refine ⟨ret_int ?_, rfl⟩
      have := HD.out
      rw [List.drop_eq_nil_of_le (by rw [HZ.out]; omega), cnt_nil] at this
      omega
end Go.Proofs.Qxb6617760a
