/- yangChar (through ZZyangChar), and the plain laws on int32 bits. -/
import Derived.Test.Qxb6618272aRows
import Derived.WalkKit
namespace Go.Proofs.Qxb6618272a
open Go.RowKit

theorem and16 {r : Int} (h0 : 0 ≤ r) (h1 : r < 2147483648) : bits .and .i32 r 65535 = r % 65536 :=
  bits_mask .i32 31 (by decide) wraps_i32 16 (by decide) r h0 (by omega)
theorem and2 {r : Int} (h0 : 0 ≤ r) (h1 : r < 2147483648) : bits .and .i32 r 65534 = r % 65536 / 2 * 2 := by
  obtain ⟨a, rfl⟩ := Int.eq_ofNat_of_zero_le h0
  have h := (bits_nat .i32 31 (by decide) wraps_i32 a 65534 (by omega) (by decide)).1
  rw [show ((65534 : Nat) : Int) = 65534 from rfl] at h
  have hm : a &&& 65534 = a % 65536 / 2 * 2 := nat_midmask 16 1 a (by decide)
  rw [h, hm]
  omega
theorem nat_or16 (a : Nat) : a ||| 65535 = a / 65536 * 65536 + 65535 := by
  have e1 : a = 2 ^ 16 * (a / 65536) ||| a % 65536 := by
    rw [← Nat.two_pow_add_eq_or_of_lt (by omega : a % 65536 < 2 ^ 16)]
    omega
  have e2 : (a % 65536) ||| 65535 = 65535 := by
    have h1 : (a % 65536) ||| 65535 < 2 ^ 16 := Nat.or_lt_two_pow (by omega) (by decide)
    have h2 : 65535 ≤ (a % 65536) ||| 65535 := Nat.right_le_or
    omega
  have e3 : 2 ^ 16 * (a / 65536) ||| 65535 = 2 ^ 16 * (a / 65536) + 65535 := (Nat.two_pow_add_eq_or_of_lt (by decide : 65535 < 2 ^ 16) _).symm
  calc a ||| 65535 = (2 ^ 16 * (a / 65536) ||| a % 65536) ||| 65535 := by rw [← e1]
    _ = 2 ^ 16 * (a / 65536) ||| (a % 65536 ||| 65535) := by rw [Nat.or_assoc]
    _ = a / 65536 * 65536 + 65535 := by rw [e2, e3]; omega
theorem or16 {r : Int} (h0 : 0 ≤ r) (h1 : r < 2147483648) : bits .or .i32 r 65535 = r / 65536 * 65536 + 65535 := by
  obtain ⟨a, rfl⟩ := Int.eq_ofNat_of_zero_le h0
  have h := (bits_nat .i32 31 (by decide) wraps_i32 a 65535 (by omega) (by decide)).2
  rw [show ((65535 : Nat) : Int) = 65535 from rfl] at h
  rw [h, nat_or16]
  omega
theorem join16 {x y : Int} (hx0 : 0 ≤ x) (hx1 : x < 65536) (hy0 : 0 ≤ y) (hy1 : y % 65536 = 0) (hy2 : y < 2147483648) : bits .or .i32 x y = y + x := by
  obtain ⟨a, rfl⟩ := Int.eq_ofNat_of_zero_le hx0
  obtain ⟨b, rfl⟩ := Int.eq_ofNat_of_zero_le hy0
  have h := (bits_nat .i32 31 (by decide) wraps_i32 a b (by omega) (by omega)).2
  have h' := bits_join .i32 31 (by decide) wraps_i32 16 (b : Int) (a : Int) hy0 (by omega) (by omega) hx0 (by omega) (by omega)
  have h2 := (bits_nat .i32 31 (by decide) wraps_i32 b a (by omega) (by omega)).2
  rw [h, Nat.or_comm, ← h2, h']

/-- What yangChar answers. -/
def ycB (r : Int) : Bool := if r < 32 then (r == 9 || r == 10 || r == 13) else if 64976 ≤ r ∧ r ≤ 65007 then false else (bits .and .i32 r 65534 != 65534)
theorem yc_low {r : Int} (h : r < 32) : ycB r = (r == 9 || r == 10 || r == 13) := if_pos h
theorem yc_blk {r : Int} (h : 64976 ≤ r) (h' : r ≤ 65007) : ycB r = false := by
  unfold ycB
  rw [if_neg (by omega), if_pos ⟨h, h'⟩]
theorem yc_bits {r : Int} (h : ¬ r < 32) (h' : ¬ (64976 ≤ r ∧ r ≤ 65007)) : ycB r = (bits .and .i32 r 65534 != 65534) := by
  unfold ycB
  rw [if_neg h, if_neg h']
theorem yc_rest {r : Int} (h : 32 ≤ r) (h' : ¬ (64976 ≤ r ∧ r ≤ 65007)) (h1 : r < 2147483648) : ycB r = decide (r % 65536 < 65534) := by
  rw [yc_bits (by omega) h', and2 (by omega) h1]
  by_cases hr : r % 65536 < 65534
  · rw [decide_eq_true hr, bne_iff_ne]; omega
  · rw [decide_eq_false hr]
    have : r % 65536 / 2 * 2 = 65534 := by omega
    rw [this]; rfl
theorem ret_bool {a b : Bool} (h : a = b) : Ending.returned (.bool a) = .returned (.bool b) := by rw [h]

set_option maxHeartbeats 400000 in
theorem yc_any (r : Int) (w : World) : Calls Try.prog 5 #[.int .i32 r] w fun e w' => e = .returned (.bool (ycB r)) ∧ w = w' := by
  by_cases h : r < 32
  · cases h9 : (r == 9)
    · cases h10 : (r == 10)
      · go_enter Try.func5, Try.ntmps5
        go_wp2
        go_ret
        exact ⟨ret_bool (by rw [yc_low h, h9, h10]; rfl), rfl⟩
      · go_enter Try.func5, Try.ntmps5
        go_wp2
        go_ret
        exact ⟨ret_bool (by rw [yc_low h, h9, h10]; rfl), rfl⟩
    · go_enter Try.func5, Try.ntmps5
      go_wp2
      go_ret
      exact ⟨ret_bool (by rw [yc_low h, h9]; rfl), rfl⟩
  · by_cases h1 : 64976 ≤ r
    · by_cases h2 : r ≤ 65007
      · go_enter Try.func5, Try.ntmps5
        go_wp2
        go_ret
        exact ⟨ret_bool (yc_blk h1 h2).symm, rfl⟩
      · go_enter Try.func5, Try.ntmps5
        go_wp2
        go_ret
        exact ⟨ret_bool (yc_bits (by omega) (by omega)).symm, rfl⟩
    · have h1' : decide (64976 ≤ r) = false := decide_eq_false h1
      go_enter Try.func5, Try.ntmps5
      go_wp2
      go_ret
      exact ⟨ret_bool (yc_bits (by omega) (by omega)).symm, rfl⟩
end Go.Proofs.Qxb6618272a
