/- cloneBytesB1, buildNamesB1: their contracts. -/
import Derived.Test.Qxb6617724aWalks
namespace Go.Proofs.Qxb6617724a
open Go.RowKit Go.Maps

theorem Try.info5 : (Try.prog.info? 5).map (fun i => (i.zero, i.size, i.bytes)) = some (some (.int .u8 0), 1, 1) := by kernel_rfl
theorem law9 : Keyed Try.prog 9 := string_keyed Try.underlying9
theorem zero3 (w : World) : (zeroValue 3).run Try.prog w = .ok (.int .i64 0) w := by kernel_rfl
theorem zero4 (w : World) : (zeroValue 4).run Try.prog w = .ok (.bool false) w := by kernel_rfl

/-- What a clone comes to. -/
structure Cloned (w w' : World) (a' : Option Addr) (n : Nat) (f : Nat → Int) : Prop where
  view : View w' a' n (bv f)
  below : Below w.heap.size w w'

set_option maxHeartbeats 400000 in
theorem clone_any (a : Option Addr) (n c : Nat) (f : Nat → Int) (w : World) (hv : View w a n (bv f)) (hnil : a = none → n = 0) (hn : n ≤ 1048576) :
    Calls Try.prog 5 #[.slice a n c] w fun e w' => ∃ a', e = .returned (.slice a' n n) ∧ Cloned w w' a' n f := by
  have q22 := fun (w : World) (a : Option Addr) (n c n' c' : Nat) => Lib.run_eql_slice_nil (P := Try.prog) w 22 5 a n c n' c' Try.underlying22
  obtain ⟨i0, hi, hz0, hz1, hz2⟩ := info_parts Try.info5
  cases a with
  | none =>
    obtain rfl := hnil rfl
    clear hv hnil hn hi hz0 hz1 hz2
    go_enter Try.func5, Try.ntmps5
    go_wp2
    go_ret
    exact ⟨none, rfl, fun i h => absurd h (by omega), Below.refl _ _⟩
  | some ad =>
    have HV : Hid (View w (some ad) n (bv f)) := hv
    clear hv hnil
    go_enter Try.func5, Try.ntmps5
    go_wp2_with (at_make; refine wpList_make_full _ rfl _ _ 22 rfl w.heap.size 5 i0 (.int .u8 0) 1 Try.underlying22 hi hz0 hz1 _ _ _ _ n rfl rfl rfl rfl ?_ ?_ ?_ ?_)
    · rw [hz2]; omega
    · unfold maxLen; omega
    · exact Nat.le_refl _
    · intro w1 hown hgrow
      have hb1 : Below w.heap.size w w1 := (Below.refl _ _).grown hgrow (Nat.le_refl _) (fun k h => by cases h)
      have hc1 : ∀ j, j < n → ∃ v, w1.cell? ⟨w.heap.size, j, none⟩ = some v := fun j hj => by
        rw [hown.cellAt j (by omega)]
        exact ⟨_, List.getElem?_eq_getElem (by rw [toList_madeCells_one]; simpa using hj)⟩
      have hf1 : ∀ j, w1.frozen? ⟨w.heap.size, j, none⟩ = false := fun j => hown.frozenAt j
      clear hown hgrow hi hz0 hz1 hz2
      have HC : Hid (∀ j, j < n → ∃ v, w1.cell? ⟨w.heap.size, j, none⟩ = some v) := hc1
      have HF : Hid (∀ j, w1.frozen? ⟨w.heap.size, j, none⟩ = false) := hf1
      clear hc1 hf1
      go_wp2_with fail
      go_loopw [4] (fun t wr => ∃ k : Nat, k ≤ n ∧ t = .int .i64 k ∧ Below w.heap.size w wr ∧ (∀ j, j < n → ∃ v, wr.cell? ⟨w.heap.size, j, none⟩ = some v) ∧ (∀ j, wr.frozen? ⟨w.heap.size, j, none⟩ = false) ∧ ∀ j, j < k → wr.cell? ⟨w.heap.size, j, none⟩ = some (.int .u8 (f j))) (fun t _ => n - (intOf t).toNat)
      case atStart => exact ⟨0, Nat.zero_le _, rfl, hb1, HC.out, HF.out, fun j h => absurd h (by omega)⟩
      case round =>
        obtain ⟨k, hk, rfl, hb, hcs, hfs, hdone⟩ := hrel
        by_cases hlt : k < n
        · obtain ⟨b, o, e, hc⟩ := HV.out k hlt
          obtain rfl := Option.some.inj e
          have hbl : b < w.heap.size := World.block_lt_of_cell? w ⟨b, o + k, none⟩ hc
          have g : wr.cell? ⟨b, o + k, none⟩ = some (.int .u8 (f k)) := by rw [hb.cell (p := ⟨b, o + k, none⟩) hbl]; exact hc
          obtain ⟨v, gv⟩ := hcs k hlt
          have gf := hfs k
          have R : Below w.heap.size w (wr.setCell ⟨w.heap.size, k, none⟩ (.int .u8 (f k))) ∧ (∀ j, j < n → ∃ v, (wr.setCell ⟨w.heap.size, k, none⟩ (.int .u8 (f k))).cell? ⟨w.heap.size, j, none⟩ = some v) ∧ (∀ j, (wr.setCell ⟨w.heap.size, k, none⟩ (.int .u8 (f k))).frozen? ⟨w.heap.size, j, none⟩ = false) ∧ ∀ j, j < k + 1 → (wr.setCell ⟨w.heap.size, k, none⟩ (.int .u8 (f k))).cell? ⟨w.heap.size, j, none⟩ = some (.int .u8 (f j)) := by
            refine ⟨hb.setCell (Nat.le_refl _) _, fun j hj => ?_, fun j => by rw [World.frozen?_setCell]; exact hfs j, fun j hj => ?_⟩
            · obtain ⟨u, hu⟩ := hcs j hj
              exact cell?_setCell_some hu
            · by_cases e : j = k
              · subst e; exact World.cell?_setCell_same _ _ _ gv
              · rw [World.cell?_setCell_other _ _ _ _ (fun e2 => by simp only [Addr.mk.injEq] at e2; omega)]
                exact hdone j (by omega)
          have HR := (show Hid _ from R)
          clear R hcs hfs hdone hb1 hc
          go_wp2
          go_roundw
          case rel => exact ⟨k + 1, by omega, by go_num, HR.out.1, HR.out.2.1, HR.out.2.2.1, HR.out.2.2.2⟩
          case measure => simp [intOf]; omega
        · clear hb1
          go_wp2
          go_ret
          exact ⟨_, rfl, fun i hi => ⟨w.heap.size, 0, rfl, by rw [Nat.zero_add]; exact hdone i (by omega)⟩, hb⟩

theorem run_makeMap27 (n : Int) (w : World) : (Instr.makeMap 27 (some (.int .i64 n))).run Try.prog w = .ok (.map (some w.heap.size)) (w.alloc (.map #[] 0)) := by
  simp [Instr.makeMap, run_underlying Try.underlying27, Result.andThen, asInt, asIntOf]

set_option maxHeartbeats 400000 in
theorem build_any (a1 : Option Addr) (n c1 : Nat) (a2 : Option Addr) (c2 : Nat) (s : Nat → ByteArray) (t : Nat → Int) (w : World) (hv1 : View w a1 n (sv s)) (hv2 : View w a2 n (nv t)) (hn : n ≤ 1048576) (h0 : 0 < n)
    (hs : ∀ i, (s i).size ≤ maxLen) (ht : ∀ i, (Lit.int .i64 (t i)).wf = true) :
    Calls Try.prog 6 #[.slice a1 n c1, .slice a2 n c2] w fun e w' => e = .returned (.map (some w.heap.size)) ∧ w'.ownsMap Try.prog 9 (plainElem Try.prog 3) w.heap.size n (dat s t n) ∧ Below w.heap.size w w' := by
  have hmm := run_makeMap27
  have hb0 : ((n : Int) == 0) = false := beq_eq_false_iff_ne.2 (by omega)
  have HV1 : Hid (View w a1 n (sv s)) := hv1
  have HV2 : Hid (View w a2 n (nv t)) := hv2
  have HS : Hid (∀ i, (s i).size ≤ maxLen) := hs
  have HT : Hid (∀ i, (Lit.int .i64 (t i)).wf = true) := ht
  clear hv1 hv2 hs ht
  go_enter Try.func6, Try.ntmps6
  go_wp2
  go_loopw [6] (fun i wr => ∃ k : Nat, k ≤ n ∧ i = .int .i64 k ∧ wr.ownsMap Try.prog 9 (plainElem Try.prog 3) w.heap.size k (dat s t k) ∧ Below w.heap.size w wr) (fun i _ => n - (intOf i).toNat)
  case atStart => exact ⟨0, Nat.zero_le _, rfl, World.ownsMap_made _ _ _ _, (Below.refl _ _).alloc (Nat.le_refl _) _⟩
  case round =>
    obtain ⟨k, hk, rfl, hown, hb⟩ := hrel
    clear hmm hb0
    by_cases hlt : k < n
    · obtain ⟨b1, o1, rfl, r1⟩ := HV1.out k hlt
      obtain ⟨b2, o2, rfl, r2⟩ := HV2.out k hlt
      have g1 : wr.cell? ⟨b1, o1 + k, none⟩ = some (.string (s k)) := by rw [hb.cell (p := ⟨b1, o1 + k, none⟩) (World.block_lt_of_cell? w ⟨b1, o1 + k, none⟩ r1)]; exact r1
      have g2 : wr.cell? ⟨b2, o2 + k, none⟩ = some (.int .i64 (t k)) := by rw [hb.cell (p := ⟨b2, o2 + k, none⟩) (World.block_lt_of_cell? w ⟨b2, o2 + k, none⟩ r2)]; exact r2
      obtain ⟨w1, hrun, hown1, hgrow1⟩ := hown.drew.update law9 Try.underlying27 (by unfold maxLen; omega) (WideMaps.keyOf_string_mk Try.underlying9 (HS.out k)) (plainElem_int Try.underlying3 (HT.out k))
      have hlt' : (k : Int) < (n : Int) := by omega
      clear r1 r2
      go_wp2_with fail
      go_region
      have hb1 : Below w.heap.size w w1 := hb.drew.grown hgrow1 hb.size (fun j hj => by cases hj; exact Nat.le_refl _)
      clear hrun
      go_wp2_with fail
      go_roundw
      case rel => exact ⟨k + 1, by omega, by go_num, hown1, hb1⟩
      case measure => simp [intOf]; omega
    · obtain rfl : k = n := by omega
      go_wp2
      go_ret
      exact ⟨rfl, hown, hb⟩
set_option maxHeartbeats 400000 in
theorem build_none (a1 : Option Addr) (c1 : Nat) (a2 : Option Addr) (c2 : Nat) (w : World) :
    Calls Try.prog 6 #[.slice a1 0 c1, .slice a2 0 c2] w fun e w' => e = .returned (.map none) ∧ w = w' := by
  go_enter Try.func6, Try.ntmps6
  go_wp2
  go_ret
  exact ⟨rfl, rfl⟩
end Go.Proofs.Qxb6617724a
