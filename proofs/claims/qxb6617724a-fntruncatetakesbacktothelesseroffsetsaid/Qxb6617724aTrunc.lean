/- truncate, ZZTruncate: their contracts. -/
import Derived.Test.Qxb6617724aBuild
namespace Go.Proofs.Qxb6617724a
open Go.RowKit Go.Maps

theorem keyOf_string_inv {key : Value} {l : Lit} (h : keyOf Try.prog 9 key = some l) : ∃ x : ByteArray, key = .string x ∧ l = kl x ∧ x.size ≤ maxLen := by
  cases key <;> simp [keyOf, Try.underlying9, mapKey] at h
  obtain ⟨hs, rfl⟩ := h
  exact ⟨_, rfl, rfl, hs⟩

theorem key_kl {x : ByteArray} (h : x.size ≤ maxLen) : keyOf Try.prog 9 (.string x) = some (kl x) := WideMaps.keyOf_string_mk Try.underlying9 h
theorem drewN_grown (w : World) (q : Nat) : w.grownBy (w.drewN q) none := ⟨rfl, rfl, rfl, Nat.le_refl _, fun _ _ _ => rfl⟩

section
variable (w : World) {ops : Array Oper} {rest : List Oper} {o : Oper} {a : Act} {Q : Exit → Act → World → Prop}
/-- THE STEP OF A RANGE, keys strings, elements ints: the kit's general law at these shapes. -/
theorem next_si (hg : o.guard = none) (it : Operand) (hop : o.op = Op.next it false) (b r n : Nat) (D : DataW Unit) (left : Lit → Bool) (cnt : Nat)
    (hit : a.eval it = .pointer (some ⟨r, 0, none⟩)) (h : w.ranges Try.prog 9 (plainElem Try.prog 3) b r n D left cnt)
    (hDone : cnt = 0 → (∀ l, left l = false) → wpList Try.prog ops Q rest (a.put o.dst (.tuple #[.bool false])) w)
    (hMore : ∀ (x : ByteArray) (c : Int) (w' : World) (cnt' : Nat), x.size ≤ maxLen → (∀ zd, D.atKey (kl x) zd = .lit (.int .i64 c)) → w'.ranges Try.prog 9 (plainElem Try.prog 3) b r n D (fun z => left z && !z.sameKey (kl x)) cnt' → cnt' < cnt →
      w.grownBy w' (some r) → w'.heap.size = w.heap.size → (Instr.entry (.pointer (some ⟨r, 0, none⟩))).run Try.prog w' = .ok (.tuple #[.string x, .int .i64 c]) w' → wpList Try.prog ops Q rest (a.put o.dst (.tuple #[.bool true, .string x, .int .i64 c])) w') :
    wpList Try.prog ops Q (o :: rest) a w :=
  wpList_next_ranges w hg it hop 9 law9 (plainElem Try.prog 3) Value.string (Value.int .i64) (fun key l hkey => by obtain ⟨x, rfl, _⟩ := keyOf_string_inv hkey; exact ⟨x, rfl⟩) (fun v y hv => by obtain ⟨c, rfl, _⟩ := plainElem_int_inv Try.underlying3 hv; exact ⟨c, rfl⟩)
    b r n D left cnt hit h hDone (fun x c l y w' cnt' hkey _ hv hat hrg hlt hgr hsz hen => by
      obtain ⟨x', ex, rfl, hwx⟩ := keyOf_string_inv hkey
      cases ex
      obtain ⟨c', ec, rfl, _⟩ := plainElem_int_inv Try.underlying3 hv
      cases ec
      exact hMore x c w' cnt' hwx hat hrg hlt hgr hsz hen)
end

set_option maxRecDepth 100000 in
set_option maxHeartbeats 400000 in
/-- ZZTruncate on a map that is there. -/
theorem trunc_any (a : Option Addr) (nb c : Nat) (b n : Nat) (D : DataW Unit) (m : Nat) (hm : m ≤ nb) (hc : nb ≤ c) (w : World) (hown : w.ownsMap Try.prog 9 (plainElem Try.prog 3) b n D) :
    Calls Try.prog 7 #[.slice a nb c, .map (some b), .int .i64 (m : Int)] w fun e w' => e = .returned (.tuple #[.slice a m c, .map (some b)]) ∧ ∃ D', w'.ownsMap Try.prog 9 (plainElem Try.prog 3) b n D' ∧ Trim D D' m ∧ w.grownBy w' (some b) := by
  have hm1 : (m : Int) ≤ (nb : Int) := by omega
  have hm2 : (m : Int) ≤ (c : Int) := by omega
  go_enter Try.func7, Try.ntmps7
  go_wp2_with (first | (at_range; refine wpList_range_own _ rfl _ 27 rfl 9 3 law9 Try.underlying27 _ b n _ rfl (by exact hown.alloc _) ?_; intro w0 hrg0 hg0 hs0) | go_in)
  obtain ⟨r, hr⟩ : ∃ r, r = (w.alloc (.cells #[.slice a m c, .map (some b)] 35)).heap.size := ⟨_, rfl⟩
  rw [← hr] at hrg0 ⊢
  have hrs : r = w.heap.size + 1 := by rw [hr]; simp
  have hlt0 := hown.lt
  have k0 : w0.cell? ⟨w.heap.size, 0, none⟩ = some (.slice a m c) := hg0.cell (World.cell?_alloc_at _ _ _ _ rfl) (by simp)
  have k1 : w0.cell? ⟨w.heap.size, 1, none⟩ = some (.map (some b)) := hg0.cell (World.cell?_alloc_at _ _ _ _ rfl) (by simp)
  have hgw0 : w.grownBy w0 (some b) := (World.grownBy_alloc w _ _).andThen hg0 (fun j hj => by cases hj)
  have HR : Hid (r = w.heap.size + 1) := hrs
  clear hr hrs hg0 hs0 hown
  go_frame
  go_loopw [4] (fun _ wr => ∃ (left : Lit → Bool) (cnt : Nat) (D' : DataW Unit), wr.ranges Try.prog 9 (plainElem Try.prog 3) b r n D' left cnt ∧ TrimL D D' m left ∧ wr.cell? ⟨w.heap.size, 0, none⟩ = some (.slice a m c) ∧ wr.cell? ⟨w.heap.size, 1, none⟩ = some (.map (some b)) ∧ w.grownBy wr (some b))
    (fun _ wr => wr.rangeLeft b r)
  case atStart => exact ⟨_, _, D, hrg0, TrimL.start D m, k0, k1, hgw0⟩
  case round =>
    obtain ⟨left, cnt, D', hrg, hT, c0, c1, hgw⟩ := hrel
    clear hrg0 k0 k1 hgw0
    go_wp2_with (first | (at_next; refine next_si _ rfl _ rfl b r n _ _ _ rfl hrg ?_ ?_) | go_in)
    · intro _ hl0
      go_wp2
      go_end0
      go_wp2_with fail
      go_quiet (fail)
      go_wp2_with fail
      go_ret2
      exact ⟨rfl, D', hrg.owns, hT.done hl0, hgw.andThen (drewN_grown wr nq) (fun j hj => by cases hj)⟩
    · intro x v w1 cnt1 hx hat hrg1 hlt hg1 hs1 hen
      have hgw1 := hgw.andThen hg1 (fun j hj => by cases hj; exact Or.inl (by have := HR.out; omega))
      have d0 : w1.cell? ⟨w.heap.size, 0, none⟩ = some (.slice a m c) := hg1.cell c0 (by have := HR.out; simp; omega)
      have d1 : w1.cell? ⟨w.heap.size, 1, none⟩ = some (.map (some b)) := hg1.cell c1 (by have := HR.out; simp; omega)
      go_wp2_with (first | (at_delete; refine wpList_delete_ranges _ rfl _ _ 27 9 rfl 3 law9 Try.underlying27 _ b r n _ _ _ rfl hrg1 _ _ rfl (key_kl hx) ?_; intro w2 cnt2 hrg2 hle hturn; go_frame) | go_in)
      · have hv : (m : Int) ≤ v := by assumption
        rw [strike_twice] at hrg2
        have hb' : b ≠ w.heap.size := by omega
        go_roundw
        case rel => exact ⟨_, cnt2, _, hrg2, hT.struck (kl_key x) hat hv, hturn.grown.cell d0 (by simp; omega), hturn.grown.cell d1 (by simp; omega), hgw1.andThen hturn.grown (fun j hj => by cases hj; exact Or.inr rfl)⟩
        case measure => rw [hrg2.left_eq, hrg.left_eq]; omega
      · have hv : v < (m : Int) := by assumption
        go_roundw
        case rel => exact ⟨_, cnt1, _, hrg1, hT.stays hat hv, d0, d1, hgw1⟩
        case measure => rw [hrg1.left_eq, hrg.left_eq]; exact hlt

set_option maxRecDepth 100000 in
set_option maxHeartbeats 400000 in
/-- ZZTruncate on a nil map. -/
theorem trunc_none (a : Option Addr) (nb c : Nat) (m : Nat) (hm : m ≤ nb) (hc : nb ≤ c) (w : World) :
    Calls Try.prog 7 #[.slice a nb c, .map none, .int .i64 (m : Int)] w fun e w' => e = .returned (.tuple #[.slice a m c, .map none]) ∧ w.grownBy w' none := by
  have hm1 : (m : Int) ≤ (nb : Int) := by omega
  have hm2 : (m : Int) ≤ (c : Int) := by omega
  have hrg := run_range_nilMap (P := Try.prog) (w.alloc (.cells #[.slice a m c, .map none] 35)) 27 9 3 Try.underlying27
  have hnx : ∀ ty, (Instr.next (.pointer (some ⟨(w.alloc (.cells #[.slice a m c, .map none] 35)).heap.size, 0, none⟩)) false ty).run Try.prog ((w.alloc (.cells #[.slice a m c, .map none] 35)).alloc (.mapIter none 0 #[] 0)) = _ := fun ty => run_next_nilMap _ ty 0 0 #[]
  have e1 : (w.alloc (.cells #[.slice a m c, .map none] 35)).heap.size = w.heap.size + 1 := by simp
  rw [e1] at hrg hnx
  clear e1
  go_enter Try.func7, Try.ntmps7
  go_wp2
  refine wp_loop_rounds 1 ?_
  rw [rounds_succ]
  go_wp2
  go_end0
  go_wp2_with fail
  go_quiet (fail)
  go_wp2_with fail
  go_ret2
  exact ⟨rfl, ((World.grownBy_alloc w _ none).andThen (World.grownBy_alloc _ _ none) (fun j hj => by cases hj)).andThen (drewN_grown _ nq) (fun j hj => by cases hj)⟩
end Go.Proofs.Qxb6617724a
