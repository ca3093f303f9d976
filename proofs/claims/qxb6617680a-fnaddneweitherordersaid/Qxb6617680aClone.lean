/- cloneWords; and the pair 'make, copy' as a law. -/
import Derived.Test.Qxb6617680aAdd
namespace Go.Proofs.Qxb6617680a
open Go.RowKit

theorem Try.info27 : (Try.prog.info? 27).map (fun i => (i.zero, i.size, i.bytes)) = some (some (.int .u64 0), 1, 8) := by kernel_rfl
theorem Try.size27 : (Try.prog.info? 27).map (·.size) = some 1 := by kernel_rfl

def cellsOf (f : Nat → Int) (n : Nat) : List Value := (List.range n).map fun i => .int .u64 (f i)
theorem length_cellsOf (f : Nat → Int) (n : Nat) : (cellsOf f n).length = n := by simp [cellsOf]
theorem get_cellsOf (f : Nat → Int) (n i : Nat) (h : i < n) : (cellsOf f n)[i]? = some (.int .u64 (f i)) := by simp [cellsOf, h]
theorem one_cellsOf (f : Nat → Int) (n : Nat) : ∀ v ∈ cellsOf f n, v.oneCell' = true := by
  intro v hv
  obtain ⟨_, _, rfl⟩ := List.mem_map.1 hv
  rfl

theorem made_heap {w : World} {base g n : Nat} {xs : List Value} (h : w.ownsRow base 27 1 (.slice (some ⟨g, 0, none⟩) n n) n xs) : w.heap[g]? = some (.cells xs.toArray 27 (0, 0)) := by
  obtain ⟨_, h | ⟨g', cap, cur, hv, _, hh, _, _, hs, ht⟩⟩ := h
  · simp at h
  · simp only [Value.slice.injEq, Option.some.injEq, Addr.mk.injEq] at hv
    obtain ⟨⟨rfl, _⟩, _, rfl⟩ := hv
    rw [hh]
    have : cur.toList = xs := by rw [← ht, List.take_of_length_le (by simp; omega)]
    rw [← this]

theorem own_of_heap {w : World} {g n : Nat} {f : Nat → Int} {a : Option Addr} (ha : a = some ⟨g, 0, none⟩) (h : w.heap[g]? = some (.cells (cellsOf f n).toArray 27 (0, 0))) : Own w a n g 0 f := by
  refine ⟨fun _ => ha, fun i hi => ?_, fun i hi => ?_⟩
  · simp [World.cell?, h, get_cellsOf f n i hi]
  · simp [World.frozen?, h]

theorem splice_all (cur cs : List Value) (h : cs.length = cur.length) : splice cur 0 cs = cs := by simp [splice, h]

def zeros (n : Nat) : List Value := List.replicate n (.int .u64 0)
theorem length_zeros (n : Nat) : (zeros n).length = n := by simp [zeros]

/-- What a clone comes to. -/
structure Cloned (w w' : World) (a' : Option Addr) (n : Nat) (f : Nat → Int) : Prop where
  own : Own w' a' n w.heap.size 0 f
  below : Below w.heap.size w w'
  lt : 0 < n → w.heap.size < w'.heap.size
  le : w.heap.size ≤ w'.heap.size

set_option maxHeartbeats 400000 in
theorem clone_any (a : Option Addr) (n c : Nat) (f : Nat → Int) (w : World) (hv : View w a n f) (hnil : a = none → n = 0) (hn : n ≤ 1048576) :
    Calls Try.prog 6 #[.slice a n c] w fun e w' => ∃ a', e = .returned (.slice a' n n) ∧ Cloned w w' a' n f := by
  have q22 := fun (w : World) (a : Option Addr) (n c n' c' : Nat) => Lib.run_eql_slice_nil (P := Try.prog) w 22 27 a n c n' c' Try.underlying22
  obtain ⟨i0, hi, hz0, hz1, hz2⟩ := info_parts Try.info27
  cases a with
  | none =>
    obtain rfl := hnil rfl
    clear hv hnil hn hi hz0 hz1 hz2
    go_enter Try.func6, Try.ntmps6
    go_wp2
    go_ret
    exact ⟨none, rfl, ⟨fun h => absurd h (by omega), fun _ h => absurd h (by omega), fun _ h => absurd h (by omega)⟩, Below.refl _ _, fun h => absurd h (by omega), Nat.le_refl _⟩
  | some ad =>
    have HV : Hid (View w (some ad) n f) := hv
    clear hv hnil
    go_enter Try.func6, Try.ntmps6
    go_wp2_with (at_make; refine wpList_make_full _ rfl _ _ 22 rfl w.heap.size 27 i0 (.int .u64 0) 1 Try.underlying22 hi hz0 hz1 _ _ _ _ n rfl rfl rfl rfl ?_ ?_ ?_ ?_)
    · rw [hz2]; omega
    · unfold maxLen; omega
    · exact Nat.le_refl _
    · intro w1 hown hgrow
      rw [toList_madeCells_one] at hown
      have HG : Hid (w1.heap[w.heap.size]? = some (.cells (zeros n).toArray 27 (0, 0))) := made_heap hown
      have hb1 : Below w.heap.size w w1 := (Below.refl _ _).grown hgrow (Nat.le_refl _) (fun k h => by cases h)
      clear hown hgrow hi hz0 hz1 hz2
      go_wp2_with (refine wpList_copy_splice rfl (.tmp 9) (.tmp 10) 22 22 rfl 27 Try.underlying22 Try.size27 _ _ _ _ _ _ rfl rfl w.heap.size 0 (zeros n) 27 HG.out (cellsOf f n) ?_ ?_ ?_ (one_cellsOf f n) w.heap.size w hb1 (Nat.le_refl _) ?_)
      · rw [length_cellsOf]; exact (Nat.min_self n).symm
      · intro hp
        rw [length_cellsOf] at hp
        intro j v hj
        have hjn : j < n := by
          have := (List.getElem?_eq_some_iff.1 hj).1
          rwa [length_cellsOf] at this
        rw [get_cellsOf f n j hjn] at hj
        obtain rfl := Option.some.inj hj
        obtain ⟨b, o, e, hc⟩ := HV.out j hjn
        obtain rfl := Option.some.inj e
        have hlt : b < w.heap.size := World.block_lt_of_cell? w ⟨b, o + j, none⟩ hc
        rw [Addr.add_lit, hb1.cell (p := ⟨b, o + j, none⟩) hlt]
        exact hc
      · rw [length_cellsOf, length_zeros]; omega
      · intro w2 HG2 hb2
        go_wp2
        go_ret
        refine ⟨_, rfl, own_of_heap rfl ?_, hb2, fun _ => ?_, hb2.size⟩
        · have := HG2.out
          rwa [splice_all _ _ (by rw [length_cellsOf, length_zeros])] at this
        · exact (Array.getElem?_eq_some_iff.1 HG2.out).1
end Go.Proofs.Qxb6617680a
