/- namesBelowB1: its contract. -/
import Derived.Test.Qxb6617724aTrunc
namespace Go.Proofs.Qxb6617724a
open Go.RowKit Go.Maps

theorem run_makeMap37 (n : Int) (w : World) : (Instr.makeMap 37 (some (.int .i64 n))).run Try.prog w = .ok (.map (some w.heap.size)) (w.alloc (.map #[] 0)) := by
  simp [Instr.makeMap, run_underlying Try.underlying37, Result.andThen, asInt, asIntOf]

/-- An element that reads as a bool's datum IS that bool. -/
theorem plainElem_bool_inv {v : Value} {z : DataW Unit × List MemPlace} (h : plainElem Try.prog 4 v = some z) : ∃ x, v = .bool x ∧ z = (.lit (.bool x), []) := by
  unfold plainElem at h
  rw [Try.underlying4] at h
  cases v <;> simp at h
  exact ⟨_, rfl, h.symm⟩

/-- 'm[k]' in a map of bools that the call made: the run, as an equation. -/
theorem lookup_bool {w : World} {b n : Nat} {D : DataW Unit} (h : w.ownsMap Try.prog 9 (plainElem Try.prog 4) b n D) {x : ByteArray} (hx : x.size ≤ maxLen) :
    ∃ r : Bool, (Instr.lookup 37 (.map (some b)) (.string x) false).run Try.prog w = .ok (.bool r) w ∧ D.atKey (kl x) (.lit (.bool false)) = .lit (.bool r) := by
  obtain ⟨v, ps, hrun, hv⟩ := h.lookup law9 Try.underlying37 (zero4 w) (plainElem_bool Try.underlying4 false) (key_kl hx)
  obtain ⟨r, rfl, hc⟩ := plainElem_bool_inv hv
  simp only [Prod.mk.injEq] at hc
  exact ⟨r, hrun, hc.1⟩
theorem lookup_res {w : World} {b n : Nat} {D : DataW Unit} (h : w.ownsMap Try.prog 9 (plainElem Try.prog 3) b n D) {x : ByteArray} (hx : x.size ≤ maxLen) :
    (Instr.lookup 27 (.map (some b)) (.string x) true).run Try.prog w = .ok (.tuple #[.int .i64 (vOf D (kl x)), .bool (Maps.has D (kl x))]) w := by
  obtain ⟨v, ps, hrun, hv⟩ := h.look_ok law9 Try.underlying27 (zero3 w) (plainElem_int Try.underlying3 (by decide)) (key_kl hx)
  obtain ⟨c, rfl, hc, _⟩ := plainElem_int_inv Try.underlying3 hv
  simp only [Prod.mk.injEq] at hc
  rw [hrun, vOf_eq hc.1]
theorem lookup_ref {w : World} {b n : Nat} {D : DataW Unit} (h : w.ownsMap Try.prog 9 (plainElem Try.prog 3) b n D) {x : ByteArray} (hx : x.size ≤ maxLen) :
    (Instr.lookup 27 (.map (some b)) (.string x) false).run Try.prog w = .ok (.int .i64 (vOf D (kl x))) w := by
  obtain ⟨c, hrun, hat, _⟩ := h.lookup_int law9 Try.underlying27 Try.underlying3 (zero3 w) (key_kl hx)
  rw [hrun, vOf_eq hat]
theorem bool_at {Ds res Dl : DataW Unit} {c : Int} (h : Seen res Ds Dl c) {k : Lit} {r : Bool} (hat : Ds.atKey k (.lit (.bool false)) = .lit (.bool r)) : r = Maps.has Ds k := by
  cases hh : Maps.has Ds k
  · rw [Maps.atKey_of_not_has hh] at hat
    simpa using hat.symm
  · rw [h.yes k _ hh] at hat
    simpa using hat.symm

theorem owns_later {w w' : World} {e b n : Nat} {D : DataW Unit} (h : w.ownsMap Try.prog 9 (plainElem Try.prog e) b n D) {B : Nat} (hb : Below B w w') (hB : b < B) : w'.ownsMap Try.prog 9 (plainElem Try.prog e) b n D := by
  obtain ⟨es, clock, hh, r⟩ := h
  exact ⟨es, clock, by rw [hb.block b hB]; exact hh, r⟩

set_option maxRecDepth 100000 in
set_option maxHeartbeats 800000 in
theorem below_any (b1 b2 : Nat) (n1 n2 : Nat) (D1 D2 : DataW Unit) (a : Option Addr) (n c : Nat) (lo : Int) (s : Nat → ByteArray) (w : World) (h1 : w.ownsMap Try.prog 9 (plainElem Try.prog 3) b1 n1 D1) (h2 : w.ownsMap Try.prog 9 (plainElem Try.prog 3) b2 n2 D2)
    (hv : View w a n (sv s)) (hs : ∀ i, (s i).size ≤ maxLen) (hn : n ≤ 1048576) (hn1 : n1 ≤ 1048576) (hT : Trim D2 D1 lo) (hall : ∀ j, j < n → Maps.has D2 (kl (s j)) = true) (honly : ∀ k, Maps.has D2 k = true → ∃ j, j < n ∧ k = kl (s j)) :
    Calls Try.prog 9 #[.map (some b1), .map (some b2), .slice a n c, .int .i64 lo] w fun e w' => e = .returned (.bool true) ∧ Below w.heap.size w w' := by
  have hmm := run_makeMap37
  have HV : Hid (View w a n (sv s)) := hv
  have HS : Hid (∀ i, (s i).size ≤ maxLen) := hs
  have HT : Hid (Trim D2 D1 lo) := hT
  have HA : Hid (∀ j, j < n → Maps.has D2 (kl (s j)) = true) := hall
  have HO : Hid (∀ k, Maps.has D2 k = true → ∃ j, j < n ∧ k = kl (s j)) := honly
  obtain ⟨es, he1, he2, he3⟩ := h1.entries law9
  have S0 : Seen D1 (.map []) D1 0 := Seen.start (h1.tidy law9) ⟨es, he1, he3⟩
  have l1 := h1.lt
  have l2 := h2.lt
  have sz1 := h1.size_le
  clear hv hs hT hall honly he1 he2 he3
  go_enter Try.func9, Try.ntmps9
  go_wp2
  go_loopw [9, 11] (fun t i wr => ∃ (q k : Nat) (Ds Dl : DataW Unit), k ≤ n ∧ i = .int .i64 k ∧ t = .int .i64 q ∧ wr.ownsMap Try.prog 9 (plainElem Try.prog 4) w.heap.size k Ds ∧ Seen D1 Ds Dl q ∧ (∀ j, j < k → Maps.has Ds (kl (s j)) = true) ∧ Below w.heap.size w wr) (fun _ i _ => n - (intOf i).toNat)
  case atStart => exact ⟨0, 0, _, D1, Nat.zero_le _, rfl, rfl, World.ownsMap_made _ _ _ _, S0, fun j h => absurd h (by omega), (Below.refl _ _).alloc (Nat.le_refl _) _⟩
  case round =>
    obtain ⟨q, k, Ds, Dl, hk, rfl, rfl, hown, hseen, hdone, hb⟩ := hrel
    clear hmm S0
    have HD : Hid (∀ j, j < k → Maps.has Ds (kl (s j)) = true) := hdone
    have hq := hseen.le
    clear hdone
    by_cases hlt : k < n
    · obtain ⟨bb, oo, rfl, r1⟩ := HV.out k hlt
      have g1 : wr.cell? ⟨bb, oo + k, none⟩ = some (.string (s k)) := by rw [hb.cell (p := ⟨bb, oo + k, none⟩) (World.block_lt_of_cell? w ⟨bb, oo + k, none⟩ r1)]; exact r1
      have hx := HS.out k
      have e1 := lookup_ref (owns_later h2 hb l2) hx
      have e2 := lookup_res (owns_later h1 hb l1) hx
      obtain ⟨r, e3, hat⟩ := lookup_bool hown hx
      have hr := bool_at hseen hat
      have hh := HT.out.has (kl (s k))
      rw [HA.out k hlt, Bool.true_and] at hh
      have hve : Maps.has D1 (kl (s k)) = true → vOf D1 (kl (s k)) = vOf D2 (kl (s k)) := fun h => by unfold vOf; rw [HT.out.at' _ _ h]
      have HX : Hid ((s k).size ≤ maxLen) := hx
      have HSe : Hid (Seen D1 Ds Dl q) := hseen
      clear hat r1 hx hseen
      by_cases hV : vOf D2 (kl (s k)) < lo
      · have hh1 : Maps.has D1 (kl (s k)) = true := by rw [hh]; simpa using hV
        rw [hve hh1, hh1] at e2
        have HH : Hid (Maps.has D1 (kl (s k)) = true) := hh1
        clear hh hve hh1
        generalize vOf D2 (kl (s k)) = V at *
        cases r with
        | true =>
          have HRr : Hid (true = Maps.has Ds (kl (s k))) := hr
          clear hr
          go_wp2_with fail
          go_roundw
          case rel =>
            refine ⟨q, k + 1, Ds, Dl, by omega, by go_num, rfl, hown.mono (by omega), HSe.out, fun j hj => ?_, hb⟩
            by_cases e : j = k
            · subst e; exact HRr.out.symm
            · exact HD.out j (by omega)
          case measure => simp [intOf]; omega
        | false =>
          have S1 := HSe.out.next (kl_key (s k)) hr.symm
          rw [HH.out] at S1
          have HS1 : Hid (Seen D1 (Ds.put (kl (s k)) (.lit (.bool true))) (Dl.del (kl (s k))) (q + if true = true then 1 else 0)) := S1
          clear S1 hr
          go_wp2_with (at_mapUpdate; refine wpList_mapUpdate_own _ rfl _ _ _ 37 rfl 9 4 law9 Try.underlying37 _ w.heap.size k _ rfl hown (by unfold maxLen; omega) _ _ _ rfl rfl (key_kl HX.out) _ [] (plainElem_bool Try.underlying4 true) ?_; intro w1 hown1 hgrow1)
          have hb1 : Below w.heap.size w w1 := hb.grown hgrow1 hb.size (fun j hj => by cases hj; exact Nat.le_refl _)
          go_roundw
          case rel =>
            refine ⟨q + 1, k + 1, _, Dl.del (kl (s k)), by omega, by go_num, by go_num, hown1, by simpa using HS1.out, fun j hj => ?_, hb1⟩
            by_cases e : kl (s j) = kl (s k)
            · rw [e]; exact Maps.has_put_same HSe.out.isMap (kl_key _) _
            · rw [Maps.has_put_other e]
              exact HD.out j (by have : j ≠ k := fun h => e (by rw [h]); omega)
          case measure => simp [intOf]; omega
      · have hh1 : Maps.has D1 (kl (s k)) = false := by rw [hh]; simpa using hV
        rw [hh1] at e2
        have HH : Hid (Maps.has D1 (kl (s k)) = false) := hh1
        clear hh hve hh1
        generalize vOf D2 (kl (s k)) = V at *
        cases r with
        | true =>
          have HRr : Hid (true = Maps.has Ds (kl (s k))) := hr
          clear hr
          go_wp2_with fail
          go_roundw
          case rel =>
            refine ⟨q, k + 1, Ds, Dl, by omega, by go_num, rfl, hown.mono (by omega), HSe.out, fun j hj => ?_, hb⟩
            by_cases e : j = k
            · subst e; exact HRr.out.symm
            · exact HD.out j (by omega)
          case measure => simp [intOf]; omega
        | false =>
          have S1 := HSe.out.next (kl_key (s k)) hr.symm
          rw [HH.out] at S1
          have HS1 : Hid (Seen D1 (Ds.put (kl (s k)) (.lit (.bool true))) (Dl.del (kl (s k))) (q + if false = true then 1 else 0)) := S1
          clear S1 hr
          go_wp2_with (at_mapUpdate; refine wpList_mapUpdate_own _ rfl _ _ _ 37 rfl 9 4 law9 Try.underlying37 _ w.heap.size k _ rfl hown (by unfold maxLen; omega) _ _ _ rfl rfl (key_kl HX.out) _ [] (plainElem_bool Try.underlying4 true) ?_; intro w1 hown1 hgrow1)
          have hb1 : Below w.heap.size w w1 := hb.grown hgrow1 hb.size (fun j hj => by cases hj; exact Nat.le_refl _)
          go_roundw
          case rel =>
            refine ⟨q, k + 1, _, Dl.del (kl (s k)), by omega, by go_num, rfl, hown1, by simpa using HS1.out, fun j hj => ?_, hb1⟩
            by_cases e : kl (s j) = kl (s k)
            · rw [e]; exact Maps.has_put_same HSe.out.isMap (kl_key _) _
            · rw [Maps.has_put_other e]
              exact HD.out j (by have : j ≠ k := fun h => e (by rw [h]); omega)
          case measure => simp [intOf]; omega
    · have hfin : (q : Int) = Maps.size D1 := hseen.done fun l hl => by
        have h2' : Maps.has D2 l = true := by
          have := HT.out.has l
          rw [hl] at this
          cases hD : Maps.has D2 l
          · rw [hD] at this; simp at this
          · rfl
        obtain ⟨j, hj, rfl⟩ := HO.out l h2'
        exact HD.out j (by omega)
      have hown1 := owns_later h1 hb l1
      have heq : ((Maps.size D1 : Int) == (q : Int)) = true := by rw [hfin]; simp
      clear hfin hseen
      go_wp2_with (at_len; refine wpList_len_own _ rfl _ 27 rfl 9 3 Try.underlying27 _ b1 n1 D1 rfl hown1 ?_)
      go_ret
      exact ⟨rfl, hb⟩

set_option maxRecDepth 100000 in
set_option maxHeartbeats 400000 in
theorem below_none (a : Option Addr) (c : Nat) (lo : Int) (w : World) :
    Calls Try.prog 9 #[.map none, .map none, .slice a 0 c, .int .i64 lo] w fun e w' => e = .returned (.bool true) ∧ Below w.heap.size w w' := by
  have hmm := run_makeMap37
  have hln := fun (w : World) (ty : TypeId) => Maps.len_nil (P := Try.prog) (w := w) (t := 27) Try.underlying27 ty
  go_enter Try.func9, Try.ntmps9
  go_wp2
  refine wp_loop_rounds 1 ?_
  rw [rounds_succ]
  go_wp2
  go_ret
  exact ⟨rfl, (Below.refl _ _).alloc (Nat.le_refl _) _⟩
end Go.Proofs.Qxb6617724a
