/- FnAddNewEitherOrder: the main road. -/
import Derived.Test.Qxb6617680aOrder
import Derived.Test.Qxb6617680aBytes
import Derived.Deep.DeepCutAuto
import Derived.Deep.RegionWith
namespace Go.Proofs.Qxb6617680a
open Go.RowKit

set_option maxRecDepth 100000 in
set_option maxHeartbeats 1000000 in
theorem either_main (sa : Option Addr) (ns cs : Nat) (aa : Option Addr) (na ca : Nat) (ba : Option Addr) (nb cb : Nat) (fa : Option Addr) (nf cf : Nat) (S A B F : Nat → Int) (w : World)
    (hS : View w sa ns S) (hA : View w aa na A) (hB : View w ba nb B) (hF : View w fa nf F) (nS : sa = none → ns = 0) (nA : aa = none → na = 0) (nB : ba = none → nb = 0) (nF : fa = none → nf = 0)
    (hns : ns ≤ 32768) (hnf : nf ≤ 32768) (hna1 : na ≤ ns) (hna2 : na ≤ nf) (hnb1 : nb ≤ ns) (hnb2 : nb ≤ nf) (okS : ∀ i, OkW (S i)) (okF : ∀ i, OkW (F i)) :
    Calls Try.prog 4 #[.slice sa ns cs, .slice aa na ca, .slice ba nb cb, .slice fa nf cf] w fun e w' => e = .returned (.bool true) ∧ Below w.heap.size w w' := by
  have q22 := fun (w : World) (a : Option Addr) (n c n' c' : Nat) => run_neq_slice_nil_any (P := Try.prog) w 22 27 a n c n' c' Try.underlying22
  have hsm := small_yes (n := ns + na + nb + nf) (by omega)
  have g1 : decide ((ns : Int) < (na : Int)) = false := decide_eq_false (by omega)
  have g2 : decide ((ns : Int) < (nb : Int)) = false := decide_eq_false (by omega)
  have HS : Hid (View w sa ns S) := hS
  have HA : Hid (View w aa na A) := hA
  have HB : Hid (View w ba nb B) := hB
  have HF : Hid (View w fa nf F) := hF
  have HnS : Hid (sa = none → ns = 0) := nS
  have HnA : Hid (aa = none → na = 0) := nA
  have HnB : Hid (ba = none → nb = 0) := nB
  have HnF : Hid (fa = none → nf = 0) := nF
  clear hS hA hB hF nS nA nB nF
  go_enter Try.func4, Try.ntmps4
  go_upto_if 66 with (go_at_call 10; refine (bytes10_any _ _ _ _ _ _ _ _ _ _ _ _ _).mono ?_; rintro e w' ⟨rfl, rfl⟩)
  clear g1 g2 hsm
  go_cut [1] (fun s wx => ∃ ao co', s = .slice ao na co' ∧ Copied w wx ao na co' A)
  case first =>
    cases aa with
    | none =>
      obtain rfl := HnA.out rfl
      go_wp2_with fail
      go_meet
      case rel => exact ⟨_, _, rfl, ⟨fun h => absurd h (by omega), fun _ h => absurd h (by omega), fun _ h => absurd h (by omega)⟩, Below.refl _ _, fun h => absurd h (by omega), Nat.zero_le _⟩
    | some ad =>
      obtain ⟨i0, hi, hz0, hz1, hz2⟩ := info_parts Try.info27
      go_wp2_with (at_make; refine wpList_make_full _ rfl _ _ 22 rfl w.heap.size 27 i0 (.int .u64 0) 1 Try.underlying22 hi hz0 hz1 _ _ _ _ na rfl rfl rfl rfl ?_ ?_ ?_ ?_)
      · rw [hz2]; omega
      · unfold maxLen; omega
      · exact Nat.le_refl _
      · intro w1 hown hgrow
        rw [toList_madeCells_one] at hown
        have HG : Hid (w1.heap[w.heap.size]? = some (.cells (zeros na).toArray 27 (0, 0))) := made_heap hown
        have hb1 : Below w.heap.size w w1 := (Below.refl _ _).grown hgrow (Nat.le_refl _) (fun k h => by cases h)
        clear hown hgrow hi hz0 hz1 hz2
        go_wp2_with (refine wpList_copy_splice rfl (.tmp 70) (.tmp 71) 22 22 rfl 27 Try.underlying22 Try.size27 _ _ _ _ _ _ rfl rfl w.heap.size 0 (zeros na) 27 HG.out (cellsOf A na) ?_ ?_ ?_ (one_cellsOf A na) w.heap.size w hb1 (Nat.le_refl _) ?_)
        · rw [length_cellsOf]; exact (Nat.min_self na).symm
        · intro hp
          rw [length_cellsOf] at hp
          intro j v hj
          have hjn : j < na := by
            have := (List.getElem?_eq_some_iff.1 hj).1
            rwa [length_cellsOf] at this
          rw [get_cellsOf A na j hjn] at hj
          obtain rfl := Option.some.inj hj
          obtain ⟨b, o, e, hc⟩ := HA.out j hjn
          obtain rfl := Option.some.inj e
          have hlt : b < w.heap.size := World.block_lt_of_cell? w ⟨b, o + j, none⟩ hc
          rw [Addr.add_lit, hb1.cell (p := ⟨b, o + j, none⟩) hlt]
          exact hc
        · rw [length_cellsOf, length_zeros]; omega
        · intro w2 HG2 hb2
          go_wp2_with fail
          go_meet
          case rel =>
            refine ⟨_, _, rfl, own_of_heap rfl ?_, hb2, fun _ => ?_, Nat.le_refl _⟩
            · have := HG2.out
              rwa [splice_all _ _ (by rw [length_cellsOf, length_zeros])] at this
            · exact (Array.getElem?_eq_some_iff.1 HG2.out).1
  case rest =>
    obtain ⟨a', ca', rfl, hCa⟩ := hcut
    obtain ⟨wa, hwa⟩ : ∃ x, x = wc := ⟨_, rfl⟩
    subst hwa
    have HB1 : Hid (View wa ba nb B) := HB.out.later hCa.below
    go_upto_if 75 with fail
    go_cut [2] from 74 to 82 (fun s wx => ∃ ao co', s = .slice ao nb co' ∧ Copied wa wx ao nb co' B)
    case first =>
      cases ba with
      | none =>
        obtain rfl := HnB.out rfl
        go_wp2_with fail
        go_meet
        case rel => exact ⟨_, _, rfl, ⟨fun h => absurd h (by omega), fun _ h => absurd h (by omega), fun _ h => absurd h (by omega)⟩, Below.refl _ _, fun h => absurd h (by omega), Nat.zero_le _⟩
      | some ad =>
        obtain ⟨i0, hi, hz0, hz1, hz2⟩ := info_parts Try.info27
        go_wp2_with (at_make; refine wpList_make_full _ rfl _ _ 22 rfl wa.heap.size 27 i0 (.int .u64 0) 1 Try.underlying22 hi hz0 hz1 _ _ _ _ nb rfl rfl rfl rfl ?_ ?_ ?_ ?_)
        · rw [hz2]; omega
        · unfold maxLen; omega
        · exact Nat.le_refl _
        · intro w1 hown hgrow
          rw [toList_madeCells_one] at hown
          have HG : Hid (w1.heap[wa.heap.size]? = some (.cells (zeros nb).toArray 27 (0, 0))) := made_heap hown
          have hb1 : Below wa.heap.size wa w1 := (Below.refl _ _).grown hgrow (Nat.le_refl _) (fun k h => by cases h)
          clear hown hgrow hi hz0 hz1 hz2
          go_wp2_with (refine wpList_copy_splice rfl (.tmp 79) (.tmp 80) 22 22 rfl 27 Try.underlying22 Try.size27 _ _ _ _ _ _ rfl rfl wa.heap.size 0 (zeros nb) 27 HG.out (cellsOf B nb) ?_ ?_ ?_ (one_cellsOf B nb) wa.heap.size wa hb1 (Nat.le_refl _) ?_)
          · rw [length_cellsOf]; exact (Nat.min_self nb).symm
          · intro hp
            rw [length_cellsOf] at hp
            intro j v hj
            have hjn : j < nb := by
              have := (List.getElem?_eq_some_iff.1 hj).1
              rwa [length_cellsOf] at this
            rw [get_cellsOf B nb j hjn] at hj
            obtain rfl := Option.some.inj hj
            obtain ⟨b, o, e, hc⟩ := HB1.out j hjn
            obtain rfl := Option.some.inj e
            have hlt : b < wa.heap.size := World.block_lt_of_cell? wa ⟨b, o + j, none⟩ hc
            rw [Addr.add_lit, hb1.cell (p := ⟨b, o + j, none⟩) hlt]
            exact hc
          · rw [length_cellsOf, length_zeros]; omega
          · intro w2 HG2 hb2
            go_wp2_with fail
            go_meet
            case rel =>
              refine ⟨_, _, rfl, own_of_heap rfl ?_, hb2, fun _ => ?_, Nat.le_refl _⟩
              · have := HG2.out
                rwa [splice_all _ _ (by rw [length_cellsOf, length_zeros])] at this
              · exact (Array.getElem?_eq_some_iff.1 HG2.out).1
    case rest =>
      obtain ⟨b', cb', rfl, hCb⟩ := hcut
      obtain ⟨wb, hwb⟩ : ∃ x, x = wc := ⟨_, rfl⟩
      subst hwb
      clear q22 HA HB HB1 HnA HnB
      have bb : Below w.heap.size w wb := hCa.below.trans (hCb.below.mono hCa.below.size)
      have vS := HS.out.later bb
      have vF := HF.out.later bb
      have z0 := hCa.below.size
      have z0' := hCa.lt
      have z1 := hCb.below.size
      have z1' := hCb.lt
      go_wp2_with fail
      refine (clone_any _ _ _ S _ vS HnS.out (by omega)).mono ?_
      rintro e w1 ⟨a1, rfl, c1⟩
      have vF1 := vF.later c1.below
      clear vF vS
      go_wp2_with fail
      refine (clone_any _ _ _ F _ vF1 HnF.out (by omega)).mono ?_
      rintro e w2 ⟨a2, rfl, c2⟩
      clear vF1
      have z2 := c1.le
      have z2' := c1.lt
      have z3 := c2.le
      have z3' := c2.lt
      have oa2 := ((hCa.own.later hCb.below).later c1.below).later c2.below
      have ob2 := (hCb.own.later c1.below).later c2.below
      have os2 := c1.own.later c2.below
      have of2 := c2.own
      have b2 : Below w.heap.size w w2 := (bb.trans (c1.below.mono (by omega))).trans (c2.below.mono (by omega))
      clear hCa hCb c1 c2 bb
      go_wp2_with fail
      refine (add_any _ _ _ _ _ _ _ _ _ S A F wb.heap.size 0 w.heap.size 0 w1.heap.size 0 _ (os2.take hna1) oa2 (of2.take hna2) (by omega) (by omega) hna1 hna2).mono ?_
      rintro e w3 ⟨rfl, A3⟩
      have z4 := A3.size
      have os3 := Own.afterSet A3 os2
      have of3 := Own.afterFresh A3 of2
      have oa3 := oa2.added A3 (by omega)
      have ob3 := ob2.added A3 (by omega)
      have b3 : Below w.heap.size w w3 := b2.trans (A3.below _ (by omega) (by omega))
      clear A3 os2 of2 oa2 ob2 b2
      go_wp2_with fail
      refine (add_any _ _ _ _ _ _ _ _ _ (sAft na S A) B (fAft na F S A) wb.heap.size 0 wa.heap.size 0 w1.heap.size 0 _ (os3.take hnb1) ob3 (of3.take hnb2) (by omega) (by omega) hnb1 hnb2).mono ?_
      rintro e w4 ⟨rfl, A4⟩
      have z5 := A4.size
      have os4 := Own.afterSet A4 os3
      have of4 := Own.afterFresh A4 of3
      have oa4 := oa3.added A4 (by omega)
      have ob4 := ob3.added A4 (by omega)
      have b4 : Below w.heap.size w w4 := b3.trans (A4.below _ (by omega) (by omega))
      clear A4 os3 of3 oa3 ob3 b3
      go_wp2_with fail
      refine (add_any _ _ _ _ _ _ _ _ _ (sAft nb (sAft na S A) B) A (fAft nb (fAft na F S A) (sAft na S A) B) wb.heap.size 0 w.heap.size 0 w1.heap.size 0 _ (os4.take hna1) oa4 (of4.take hna2) (by omega) (by omega) hna1 hna2).mono ?_
      rintro e w5 ⟨rfl, A5⟩
      have z6 := A5.size
      have os5 := Own.afterSet A5 os4
      have of5 := Own.afterFresh A5 of4
      have oa5 := oa4.added A5 (by omega)
      have ob5 := ob4.added A5 (by omega)
      have b5 : Below w.heap.size w w5 := b4.trans (A5.below _ (by omega) (by omega))
      clear A5 os4 of4 oa4 ob4 b4
      have vS5 := HS.out.later b5
      go_wp2_with fail
      refine (clone_any _ _ _ S _ vS5 HnS.out (by omega)).mono ?_
      rintro e w6 ⟨a3, rfl, c3⟩
      have z7 := c3.le
      have z7' := c3.lt
      have b6 : Below w.heap.size w w6 := b5.trans (c3.below.mono (by omega))
      have vF6 := HF.out.later b6
      clear vS5
      go_wp2_with fail
      refine (clone_any _ _ _ F _ vF6 HnF.out (by omega)).mono ?_
      rintro e w7 ⟨a4, rfl, c4⟩
      have z8 := c4.le
      have z8' := c4.lt
      have b7 : Below w.heap.size w w7 := b6.trans (c4.below.mono (by omega))
      have oa7 := (oa5.later c3.below).later c4.below
      have ob7 := (ob5.later c3.below).later c4.below
      have os7 := (os5.later c3.below).later c4.below
      have of7 := (of5.later c3.below).later c4.below
      have ot7 := c3.own.later c4.below
      have og7 := c4.own
      clear vF6 c3 c4 oa5 ob5 os5 of5 b5 b6
      go_wp2_with fail
      refine (add_any _ _ _ _ _ _ _ _ _ S B F w5.heap.size 0 wa.heap.size 0 w6.heap.size 0 _ (ot7.take hnb1) ob7 (og7.take hnb2) (by omega) (by omega) hnb1 hnb2).mono ?_
      rintro e w8 ⟨rfl, A8⟩
      have z9 := A8.size
      have ot8 := Own.afterSet A8 ot7
      have og8 := Own.afterFresh A8 og7
      have oa8 := oa7.added A8 (by omega)
      have ob8 := ob7.added A8 (by omega)
      have os8 := os7.added A8 (by omega)
      have of8 := of7.added A8 (by omega)
      have b8 : Below w.heap.size w w8 := b7.trans (A8.below _ (by omega) (by omega))
      clear A8 ot7 og7 oa7 ob7 os7 of7 b7
      go_wp2_with fail
      refine (add_any _ _ _ _ _ _ _ _ _ (sAft nb S B) A (fAft nb F S B) w5.heap.size 0 w.heap.size 0 w6.heap.size 0 _ (ot8.take hna1) oa8 (og8.take hna2) (by omega) (by omega) hna1 hna2).mono ?_
      rintro e w9 ⟨rfl, A9⟩
      have v1 := (os8.added A9 (by omega)).view
      have v2 := (of8.added A9 (by omega)).view
      have v3 := (Own.afterSet A9 ot8).view
      have v4 := (Own.afterFresh A9 og8).view
      have v5 := (oa8.added A9 (by omega)).view
      have v5' := (ob8.added A9 (by omega)).view
      have b9 : Below w.heap.size w w9 := b8.trans (A9.below _ (by omega) (by omega))
      have v6 : View w9 sa ns S := HS.out.later b9
      have v7 : View w9 fa nf F := HF.out.later b9
      clear A9 ot8 og8 oa8 ob8 os8 of8 b8 z0 z0' z1 z1' z2 z2' z3 z3' z4 z5 z6 z7 z7' z8 z8' z9 HS HF HnS HnF
      rw [order_again]
      have eS3 : sAft na (sAft nb (sAft na S A) B) A = sAft nb (sAft na S A) B := funext order_S3
      have eF3 : fAft na (fAft nb (fAft na F S A) (sAft na S A) B) (sAft nb (sAft na S A) B) A = fAft nb (fAft na F S A) (sAft na S A) B := funext order_F3
      have eT : sAft na (sAft nb S B) A = sAft nb (sAft na S A) B := funext fun i => (order_S okS i).symm
      have eG : fAft na (fAft nb F S B) (sAft nb S B) A = fAft nb (fAft na F S A) (sAft na S A) B := funext fun i => (order_F okF i).symm
      rw [eS3] at v1
      rw [eF3] at v2
      rw [eT] at v3
      rw [eG] at v4
      have hg1 : (!sameB ns (sAft nb (sAft na S A) B) ns S) = (grewB S A na || grewB (sAft na S A) B nb) := order_grew okS hna1 hnb1
      have hg2 : (!sameB ns (sAft na (sAft nb S B) A) ns S) = (grewB S B nb || grewB (sAft nb S B) A na) := order_grew okS hnb1 hna1
      rw [eT] at hg2
      have eS := order_or (A := A) (B := B) (na := na) (nb := nb) okS
      have eF := order_gained (S := S) (A := A) (B := B) (na := na) (nb := nb) okF
      have eF' := fun i (h1 : na ≤ i) (h2 : nb ≤ i) => order_out (S := S) (A := A) (B := B) okF h1 h2
      have s1 : sameB ns (sAft nb (sAft na S A) B) ns (sAft nb (sAft na S A) B) = true := sameB_true rfl fun _ _ => rfl
      have s2 : sameB nf (fAft nb (fAft na F S A) (sAft na S A) B) nf (fAft nb (fAft na F S A) (sAft na S A) B) = true := sameB_true rfl fun _ _ => rfl
      clear eS3 eF3 eT eG okS okF
      generalize grewB S A na = x1 at *
      generalize grewB (sAft na S A) B nb = y1 at *
      generalize grewB S B nb = y2 at *
      generalize grewB (sAft nb S B) A na = x2 at *
      generalize fAft nb (fAft na F S A) (sAft na S A) B = F1 at *
      generalize sAft nb (sAft na S A) B = S1 at *
      have HG1 : Hid ((!sameB ns S1 ns S) = (x1 || y1)) := hg1
      have HG2 : Hid ((!sameB ns S1 ns S) = (y2 || x2)) := hg2
      have HeS : Hid (∀ i, S1 i = bits .or .u64 (bits .or .u64 (S i) (wAt na A i)) (wAt nb B i)) := eS
      have HeF : Hid (∀ i, F1 i = bits .or .u64 (F i) (bits .andNot .u64 (S1 i) (S i))) := eF
      have HeF' : Hid (∀ i, na ≤ i → nb ≤ i → F1 i = bits .or .u64 (F i) 0) := eF'
      clear hg1 hg2 eS eF eF'
      go_upto_region 34 with fail
      go_cut [120] from 112 to 120 (fun s wx => s = .bool false ∧ w9 = wx)
      case first =>
        have he : (x1 || y1) = (y2 || x2) := HG1.out.symm.trans HG2.out
        clear HG1 HG2 HeS HeF HeF' s1 s2 v1 v2 v3 v4 v5 v5' v6 v7 b9
        cases x1 with
        | true =>
          cases x2 with
          | true =>
            clear he
            go_wp2_with fail
            go_meet
            case rel => exact ⟨rfl, rfl⟩
          | false =>
            obtain rfl : y2 = true := by simpa using he.symm
            clear he
            go_wp2_with fail
            go_meet
            case rel => exact ⟨rfl, rfl⟩
        | false =>
          cases x2 with
          | true =>
            obtain rfl : y1 = true := by simpa using he
            clear he
            go_wp2_with fail
            go_meet
            case rel => exact ⟨rfl, rfl⟩
          | false =>
            obtain rfl : y1 = y2 := by simpa using he
            clear he
            go_wp2_with fail
            go_meet
            case rel => exact ⟨rfl, rfl⟩
      case rest =>
        obtain ⟨rfl, rfl⟩ := hcut
        clear HG2
        go_wp2_with fail
        refine (sameWords_any _ _ _ S1 _ _ _ S1 _ v1 v3 (by omega)).mono ?_
        rintro e w10 ⟨rfl, q10, rfl⟩
        rw [s1]
        go_wp2_with fail
        refine (sameWords_any _ _ _ F1 _ _ _ F1 _ (v2.drewN _) (v4.drewN _) (by omega)).mono ?_
        rintro e w11 ⟨rfl, q11, rfl⟩
        rw [s2]
        clear s1 s2 v3 v4
        go_upto_region 40 with fail
        go_cut [137] from 129 to 137 (fun s wx => s = .bool false ∧ ∃ q, wx = w9.drewN q)
        case first =>
          have h4 : sameB ns S1 ns S = !(x1 || y1) := by rw [← HG1.out]; simp
          have H4 : Hid (sameB ns S1 ns S = !(x1 || y1)) := h4
          clear h4 HG1 HeS HeF HeF' v2 v5 v5' v7 b9
          cases x1 with
          | true =>
            go_wp2_with fail
            refine (sameWords_any _ _ _ S1 _ _ _ S _ (v1.drewN _) (v6.drewN _) (by omega)).mono ?_
            rintro e w12 ⟨rfl, q12, rfl⟩
            rw [show sameB ns S1 ns S = false from by rw [H4.out]; rfl]
            go_wp2_with fail
            go_meet
            case rel => exact ⟨rfl, _, rfl⟩
          | false =>
            go_wp2_with fail
            refine (sameWords_any _ _ _ S1 _ _ _ S _ (v1.drewN _) (v6.drewN _) (by omega)).mono ?_
            rintro e w12 ⟨rfl, q12, rfl⟩
            rw [show sameB ns S1 ns S = !y1 from by rw [H4.out]; simp]
            go_wp2_with fail
            go_meet
            case rel => exact ⟨rfl, _, rfl⟩
        case rest =>
          obtain ⟨rfl, q0, rfl⟩ := hcut
          clear HG1
          go_wp2_with fail
          go_loopw [20] (fun t wr => ∃ i : Nat, i ≤ ns ∧ t = .int .i64 i ∧ ∃ q, wr = w9.drewN q) (fun t _ => ns - (intOf t).toNat)
          case atStart => exact ⟨0, Nat.zero_le _, rfl, _, rfl⟩
          case round =>
            obtain ⟨i, hi, rfl, q, rfl⟩ := hrel
            by_cases hlt : i < ns
            · obtain ⟨b1, o1, rfl, r1⟩ := v1 i hlt
              obtain ⟨b2, o2, rfl, r2⟩ := v6 i hlt
              have hlt' : (i : Int) < (ns : Int) := by omega
              have hne' : (S1 i != bits .or .u64 (bits .or .u64 (S i) (wAt na A i)) (wAt nb B i)) = false := by rw [← HeS.out i]; simp
              have HV5 : Hid (View w9 a' na A) := v5
              have HV5' : Hid (View w9 b' nb B) := v5'
              clear v1 v2 v5 v5' v6 v7
              go_wp2_with fail
              go_quiet ((first | (go_at_call_of 9 (Value.slice a' na ca'); exact (wordAt_any _ _ _ A i _ (by exact HV5.out)).mono fun e w2 h2 => ⟨h2.1, _, h2.2⟩) | (go_at_call_of 9 (Value.slice b' nb cb'); exact (wordAt_any _ _ _ B i _ (by exact HV5'.out)).mono fun e w2 h2 => ⟨h2.1, _, h2.2⟩)))
              go_wp2
              go_roundw
              case rel => exact ⟨i + 1, by omega, by go_num, _, rfl⟩
              case measure => simp [intOf]; omega
            · clear v5 v5'
              go_wp2_with fail
              go_loopw [21] (fun t wr => ∃ i : Nat, i ≤ nf ∧ t = .int .i64 i ∧ ∃ q, wr = w9.drewN q) (fun t _ => nf - (intOf t).toNat)
              case atStart => exact ⟨0, Nat.zero_le _, rfl, _, rfl⟩
              case round =>
                obtain ⟨j, hj, rfl, q', rfl⟩ := hrel
                by_cases hltf : j < nf
                · obtain ⟨b1, o1, rfl, r1⟩ := v2 j hltf
                  obtain ⟨b2, o2, rfl, r2⟩ := v7 j hltf
                  have hltf' : (j : Int) < (nf : Int) := by omega
                  by_cases hlts : j < ns
                  · obtain ⟨b3, o3, rfl, r3⟩ := v1 j hlts
                    obtain ⟨b4, o4, rfl, r4⟩ := v6 j hlts
                    have hlts' : (j : Int) < (ns : Int) := by omega
                    have hne' : (F1 j != bits .or .u64 (F j) (bits .andNot .u64 (S1 j) (S j))) = false := by rw [← HeF.out j]; simp
                    clear v1 v2 v6 v7
                    go_wp2_with fail
                    go_quiet (fail)
                    go_wp2_with fail
                    go_quiet (fail)
                    go_wp2_with fail
                    go_roundw
                    case rel => exact ⟨j + 1, by omega, by go_num, _, rfl⟩
                    case measure => simp [intOf]; omega
                  · have hne' : (F1 j != bits .or .u64 (F j) 0) = false := by rw [← HeF'.out j (by omega) (by omega)]; simp
                    clear v1 v2 v6 v7
                    go_wp2_with fail
                    go_quiet (fail)
                    go_wp2_with fail
                    go_roundw
                    case rel => exact ⟨j + 1, by omega, by go_num, _, rfl⟩
                    case measure => simp [intOf]; omega
                · clear v1 v2 v6 v7
                  go_wp2_with fail
                  go_ret
                  exact ⟨rfl, below_drewN b9 _⟩
end Go.Proofs.Qxb6617680a
