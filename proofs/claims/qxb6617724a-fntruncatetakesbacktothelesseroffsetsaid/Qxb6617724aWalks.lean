/- The walks of the small functions: the length check, cloneBytesB1, isPrefixB1. -/
import Derived.Test.Qxb6617724aRows
import Derived.Test.Qxb6617724aPlain
import Derived.WalkKit
import Derived.WalkSpells
import Derived.WalkSmall
import Derived.Maps.OwnOps
import Derived.Deep.QuietTactic
import Derived.BigQuiet
import Derived.Deep.RegionLaw
namespace Go.Proofs.Qxb6617724a
open Go.RowKit

/-- A slice whose i-th cell holds c i. -/
def View (w : World) (a : Option Addr) (n : Nat) (c : Nat → Value) : Prop :=
  ∀ i, i < n → ∃ b o, a = some ⟨b, o, none⟩ ∧ w.cell? ⟨b, o + i, none⟩ = some (c i)
theorem View.later {w w' : World} {a : Option Addr} {n : Nat} {c : Nat → Value} (h : View w a n c) (hb : Below w.heap.size w w') : View w' a n c := by
  intro i hi
  obtain ⟨b, o, e, hc⟩ := h i hi
  exact ⟨b, o, e, by rw [hb.cell (p := ⟨b, o + i, none⟩) (World.block_lt_of_cell? w ⟨b, o + i, none⟩ hc)]; exact hc⟩
theorem View.drewN {w : World} {a : Option Addr} {n : Nat} {c : Nat → Value} (h : View w a n c) (q : Nat) : View (w.drewN q) a n c := h
def bv (f : Nat → Int) (i : Nat) : Value := .int .u8 (f i)
def sv (s : Nat → ByteArray) (i : Nat) : Value := .string (s i)
def nv (t : Nat → Int) (i : Nat) : Value := .int .i64 (t i)
theorem ret_bool {a b : Bool} (h : a = b) : Ending.returned (.bool a) = .returned (.bool b) := by rw [h]

/-- What the length check answers. -/
def BSaid (n1 : Nat) (s : Nat → ByteArray) (w : World) (e : Ending) (w' : World) : Prop :=
  ∃ r : Bool, e = .returned (.bool r) ∧ (r = true → ∀ i, i < n1 → (s i).size ≤ 1048576) ∧ w = w'
theorem BSaid.no (n1 : Nat) (s : Nat → ByteArray) (w : World) : BSaid n1 s w (.returned (.bool false)) w := ⟨false, rfl, (fun h => by cases h), rfl⟩
theorem BSaid.yes {n1 : Nat} {s : Nat → ByteArray} {w : World} (h : ∀ i, i < n1 → (s i).size ≤ 1048576) : BSaid n1 s w (.returned (.bool true)) w := ⟨true, rfl, fun _ => h, rfl⟩

set_option maxRecDepth 100000 in
set_option maxHeartbeats 400000 in
theorem bytes_any (a0 : Option Addr) (n0 c0 : Nat) (a1 : Option Addr) (n1 c1 : Nat) (a2 : Option Addr) (n2 c2 : Nat) (m n : Int) (s : Nat → ByteArray) (w : World) (hv : View w a1 n1 (sv s)) (hs : ∀ i, (s i).size ≤ maxLen) :
    Calls Try.prog 4 #[.slice a0 n0 c0, .slice a1 n1 c1, .slice a2 n2 c2, .int .i64 m, .int .i64 n] w fun e w' => BSaid n1 s w e w' := by
  have HV : Hid (View w a1 n1 (sv s)) := hv
  clear hv
  unfold maxLen at hs
  by_cases h0 : n0 ≤ 1048576
  · by_cases h1 : n1 ≤ 1048576
    · by_cases h2 : n0 + n1 ≤ 1048576
      · go_enter Try.func4, Try.ntmps4
        go_wp2
        go_loop [11, 12] (fun t i => ∃ (z : Int) (k : Nat), 0 ≤ z ∧ z ≤ 1048576 ∧ k ≤ n1 ∧ t = .int .i64 z ∧ i = .int .i64 k ∧ ∀ j, j < k → (s j).size ≤ 1048576) (fun _ i => n1 - (intOf i).toNat)
        case atStart => exact ⟨_, 0, by omega, by omega, Nat.zero_le _, rfl, rfl, fun j h => absurd h (by omega)⟩
        case round =>
          obtain ⟨z, k, hz0, hz1, hk, rfl, rfl, hj⟩ := hrel
          have HJ : Hid (∀ j, j < k → (s j).size ≤ 1048576) := hj
          clear hj
          by_cases hlt : k < n1
          · obtain ⟨b, o, rfl, hc⟩ := HV.out k hlt
            have hcs : w.cell? ⟨b, o + k, none⟩ = some (.string (s k)) := hc
            have hsz := hs k
            clear hc hs
            go_wp2
            · go_ret
              exact BSaid.no _ _ _
            · go_ret
              exact BSaid.no _ _ _
            · have hle : (s k).size ≤ 1048576 := by omega
              go_round
              case rel =>
                refine ⟨_, k + 1, by omega, by omega, by omega, rfl, by go_num, fun j hj => ?_⟩
                by_cases e : j = k
                · subst e; exact hle
                · exact HJ.out j (by omega)
              case measure => simp [intOf]; omega
          · clear hs
            go_wp2
            all_goals go_ret
            all_goals first | exact BSaid.no _ _ _ | exact BSaid.yes fun j hj => HJ.out j (by omega)
      · clear hs
        go_enter Try.func4, Try.ntmps4
        go_wp2
        go_ret
        exact BSaid.no _ _ _
    · clear hs
      go_enter Try.func4, Try.ntmps4
      go_wp2
      go_ret
      exact BSaid.no _ _ _
  · clear hs
    go_enter Try.func4, Try.ntmps4
    go_wp2
    go_ret
    exact BSaid.no _ _ _

set_option maxHeartbeats 400000 in
/-- isPrefixB1, where the two rows agree. -/
theorem prefix_any (a : Option Addr) (n c : Nat) (a' : Option Addr) (n' c' : Nat) (f : Nat → Int) (w : World) (hv : View w a n (bv f)) (hv' : View w a' n' (bv f)) (hn : n ≤ n') (hb : n ≤ 1048576) :
    Calls Try.prog 8 #[.slice a n c, .slice a' n' c', .int .i64 (n : Int)] w fun e w' => e = .returned (.bool true) ∧ ∃ q, w' = w.drewN q := by
  have hb' : ((n : Int) != (n : Int)) = false := by simp
  go_enter Try.func8, Try.ntmps8
  go_wp2
  go_loopw [7] (fun t wr => ∃ k : Nat, k ≤ n ∧ t = .int .i64 k ∧ ∃ q, wr = w.drewN q) (fun t _ => n - (intOf t).toNat)
  case atStart => exact ⟨0, Nat.zero_le _, rfl, 0, rfl⟩
  case round =>
    obtain ⟨k, hk, rfl, q, rfl⟩ := hrel
    by_cases hlt : k < n
    · obtain ⟨b, o, rfl, hc⟩ := hv k hlt
      obtain ⟨b', o', rfl, hc'⟩ := hv' k (by omega)
      have g : w.cell? ⟨b, o + k, none⟩ = some (.int .u8 (f k)) := hc
      have g' : w.cell? ⟨b', o' + k, none⟩ = some (.int .u8 (f k)) := hc'
      clear hv hv' hc hc'
      have hlt' : (k : Int) < (n : Int) := by omega
      have hlt2 : (k : Int) < (n' : Int) := by omega
      go_wp2_with fail
      go_quiet (fail)
      go_wp2
      go_roundw
      case rel => exact ⟨k + 1, by omega, by go_num, _, rfl⟩
      case measure => simp [intOf]; omega
    · clear hv hv'
      go_wp2
      go_ret
      exact ⟨rfl, q, rfl⟩
end Go.Proofs.Qxb6617724a
