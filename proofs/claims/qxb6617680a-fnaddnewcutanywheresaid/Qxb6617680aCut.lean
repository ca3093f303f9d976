/- FnAddNewCutAnywhere: the main road. -/
import Derived.Test.Qxb6617680aParts
import Derived.Test.Qxb6617680aBytes
import Derived.Deep.DeepCutAuto
import Derived.Deep.RegionWith
namespace Go.Proofs.Qxb6617680a
open Go.RowKit

set_option maxRecDepth 100000 in
set_option maxHeartbeats 1000000 in
theorem cut_main (sa : Option Addr) (ns cs : Nat) (oa : Option Addr) (n co : Nat) (fa : Option Addr) (nf cf : Nat) (k : Nat) (S O F : Nat → Int) (w : World)
    (hS : View w sa ns S) (hO : View w oa n O) (hF : View w fa nf F) (nS : sa = none → ns = 0) (nO : oa = none → n = 0) (nF : fa = none → nf = 0)
    (hns : ns ≤ 32768) (hnf : nf ≤ 32768) (hn1 : n ≤ ns) (hn2 : n ≤ nf) (hk : k ≤ n) (hco : n ≤ co) (okS : ∀ i, OkW (S i)) (okF : ∀ i, OkW (F i)) :
    Calls Try.prog 3 #[.slice sa ns cs, .slice oa n co, .slice fa nf cf, .int .i64 (k : Int)] w fun e w' => e = .returned (.bool true) ∧ Below w.heap.size w w' := by
  have q22 := fun (w : World) (a : Option Addr) (n c n' c' : Nat) => run_neq_slice_nil_any (P := Try.prog) w 22 27 a n c n' c' Try.underlying22
  have hsm := small_yes (n := ns + n + nf) (by omega)
  have HS : Hid (View w sa ns S) := hS
  have HO : Hid (View w oa n O) := hO
  have HF : Hid (View w fa nf F) := hF
  have HnS : Hid (sa = none → ns = 0) := nS
  have HnO : Hid (oa = none → n = 0) := nO
  have HnF : Hid (fa = none → nf = 0) := nF
  clear hS hO hF nS nO nF
  go_enter Try.func3, Try.ntmps3
  go_upto_if 54 with (go_at_call 5; refine (bytes5_any _ _ _ _ _ _ _ _ _ _ _).mono ?_; rintro e w' ⟨rfl, rfl⟩)
  go_cut [1] (fun s wx => ∃ ao co', s = .slice ao n co' ∧ Copied w wx ao n co' O)
  case first =>
    cases oa with
    | none =>
      obtain rfl := HnO.out rfl
      go_wp2_with fail
      go_meet
      case rel => exact ⟨_, _, rfl, ⟨fun h => absurd h (by omega), fun _ h => absurd h (by omega), fun _ h => absurd h (by omega)⟩, Below.refl _ _, fun h => absurd h (by omega), Nat.zero_le _⟩
    | some ad =>
      obtain ⟨i0, hi, hz0, hz1, hz2⟩ := info_parts Try.info27
      go_wp2_with (at_make; refine wpList_make_full _ rfl _ _ 22 rfl w.heap.size 27 i0 (.int .u64 0) 1 Try.underlying22 hi hz0 hz1 _ _ _ _ n rfl rfl rfl rfl ?_ ?_ ?_ ?_)
      · rw [hz2]; omega
      · unfold maxLen; omega
      · exact Nat.le_refl _
      · intro w1 hown hgrow
        rw [toList_madeCells_one] at hown
        have HG : Hid (w1.heap[w.heap.size]? = some (.cells (zeros n).toArray 27 (0, 0))) := made_heap hown
        have hb1 : Below w.heap.size w w1 := (Below.refl _ _).grown hgrow (Nat.le_refl _) (fun k h => by cases h)
        clear hown hgrow hi hz0 hz1 hz2
        go_wp2_with (refine wpList_copy_splice rfl (.tmp 58) (.tmp 59) 22 22 rfl 27 Try.underlying22 Try.size27 _ _ _ _ _ _ rfl rfl w.heap.size 0 (zeros n) 27 HG.out (cellsOf O n) ?_ ?_ ?_ (one_cellsOf O n) w.heap.size w hb1 (Nat.le_refl _) ?_)
        · rw [length_cellsOf]; exact (Nat.min_self n).symm
        · intro hp
          rw [length_cellsOf] at hp
          intro j v hj
          have hjn : j < n := by
            have := (List.getElem?_eq_some_iff.1 hj).1
            rwa [length_cellsOf] at this
          rw [get_cellsOf O n j hjn] at hj
          obtain rfl := Option.some.inj hj
          obtain ⟨b, o, e, hc⟩ := HO.out j hjn
          obtain rfl := Option.some.inj e
          have hlt : b < w.heap.size := World.block_lt_of_cell? w ⟨b, o + j, none⟩ hc
          rw [Addr.add_lit, hb1.cell (p := ⟨b, o + j, none⟩) hlt]
          exact hc
        · rw [length_cellsOf, length_zeros]; omega
        · intro w2 HG2 hb2
          go_wp2_with fail
          go_meet
          case rel =>
            refine ⟨_, _, rfl, own_of_heap rfl ?_, hb2, fun _ => ?_, Nat.le_refl _⟩
            · have := HG2.out
              rwa [splice_all _ _ (by rw [length_cellsOf, length_zeros])] at this
            · exact (Array.getElem?_eq_some_iff.1 HG2.out).1
  case rest =>
    obtain ⟨ao, co', rfl, hC⟩ := hcut
    obtain ⟨w0, hw0⟩ : ∃ x, x = wc := ⟨_, rfl⟩
    subst hw0
    clear q22 HnO HO hsm
    have vS := HS.out.later hC.below
    have vF := HF.out.later hC.below
    go_wp2_with fail
    refine (clone_any _ _ _ S _ vS HnS.out (by omega)).mono ?_
    rintro e w1 ⟨a1, rfl, c1⟩
    have vF1 := vF.later c1.below
    clear vF
    go_wp2_with fail
    refine (clone_any _ _ _ F _ vF1 HnF.out (by omega)).mono ?_
    rintro e w2 ⟨a2, rfl, c2⟩
    go_wp2_with fail
    have o1 := (c1.own.later c2.below).take hn1
    have o2 := c2.own.take hn2
    have oo := (hC.own.later c1.below).later c2.below
    have hd : 0 < n → w0.heap.size ≠ w1.heap.size ∧ w.heap.size ≠ w0.heap.size ∧ w.heap.size ≠ w1.heap.size := fun h => by
      have := c1.lt (by omega)
      have := hC.lt h
      omega
    refine (add_any _ _ _ _ _ _ _ _ _ S O F w0.heap.size 0 w.heap.size 0 w1.heap.size 0 _ o1 oo o2 hd (by omega) hn1 hn2).mono ?_
    rintro e w3 ⟨rfl, A3⟩
    clear o1 o2 oo hd
    have b3 : Below w.heap.size w w3 := ((hC.below.trans (c1.below.mono hC.below.size)).trans (c2.below.mono (Nat.le_trans hC.below.size c1.le))).trans (A3.below _ hC.below.size (Nat.le_trans hC.below.size c1.le))
    have vS3 := HS.out.later b3
    clear vS
    go_wp2_with fail
    refine (clone_any _ _ _ S _ vS3 HnS.out (by omega)).mono ?_
    rintro e w4 ⟨a3, rfl, c3⟩
    have b4 : Below w.heap.size w w4 := b3.trans (c3.below.mono b3.size)
    have vF4 := HF.out.later b4
    clear vF1 vS3
    go_wp2_with fail
    refine (clone_any _ _ _ F _ vF4 HnF.out (by omega)).mono ?_
    rintro e w5 ⟨a4, rfl, c4⟩
    have b5 : Below w.heap.size w w5 := b4.trans (c4.below.mono b4.size)
    clear vF4
    go_upto_region 24 with fail
    have hcap := hC.cap
    have hk1 : (k : Int) ≤ (co' : Int) := by omega
    have hk2 : (k : Int) ≤ (ns : Int) := by omega
    have hk3 : (k : Int) ≤ (nf : Int) := by omega
    have oo5 : Own w5 ao n w.heap.size 0 O := (((((hC.own.later c1.below).later c2.below).added A3 (fun h _ => by have := hC.lt h; have := c1.le; omega)).later c3.below).later c4.below)
    have os5 : Own w5 a3 ns w3.heap.size 0 S := c3.own.later c4.below
    have of5 : Own w5 a4 nf w4.heap.size 0 F := c4.own
    have hd5 : ∀ m, 0 < m → m ≤ n → w3.heap.size ≠ w4.heap.size ∧ w.heap.size ≠ w3.heap.size ∧ w.heap.size ≠ w4.heap.size := fun m h h' => by
      have := c3.lt (by omega)
      have := hC.lt (by omega)
      have := c1.le
      have := c2.le
      have := A3.size
      omega
    go_cut [15] from 74 to 83 (fun s wx => s = .bool (grewB S O k) ∧ Added w5 wx k w3.heap.size 0 w4.heap.size 0 S O F)
    case first =>
      go_region_with (go_at_call 7; refine (add_any _ _ _ _ _ _ _ _ _ S O F w3.heap.size 0 w.heap.size 0 w4.heap.size 0 _ (os5.take (by omega)).drew (oo5.take hk).drew (of5.take (by omega)).drew (fun h => hd5 k h hk) (by omega) (Nat.le_refl _) (Nat.le_refl _)).mono ?_; rintro e w6 ⟨rfl, A6⟩)
      go_wp2_with fail
      go_meet
      case rel => exact ⟨rfl, A6.undrew⟩
    case rest =>
      obtain ⟨rfl, A6⟩ := hcut
      obtain ⟨w6, hw6⟩ : ∃ x, x = wc := ⟨_, rfl⟩
      subst hw6
      go_upto_region 25 with fail
      have os6 : Own w6 (if ns = k then a3 else Option.map (fun x => x.add k) a3) (n - k) w3.heap.size k (fun i => S (k + i)) :=
        Own.drop (f := S) (fun h => os5.at' (by omega)) hk (by omega) (fun i h1 h2 => by rw [A6.setOut _ (by omega)]; simpa using os5.cell i (by omega)) (fun i hi => by rw [A6.frozen]; simpa using os5.free i (by omega))
      have of6 : Own w6 (if nf = k then a4 else Option.map (fun x => x.add k) a4) (n - k) w4.heap.size k (fun i => F (k + i)) :=
        Own.drop (f := F) (fun h => of5.at' (by omega)) hk (by omega) (fun i h1 h2 => by rw [A6.freshOut _ (by omega)]; simpa using of5.cell i (by omega)) (fun i hi => by rw [A6.frozen]; simpa using of5.free i (by omega))
      have oo6' : Own w6 ao n w.heap.size 0 O := oo5.added A6 (fun h h' => by have := hd5 k h' hk; omega)
      have oo6 : Own w6 (if co' = k then ao else Option.map (fun x => x.add k) ao) (n - k) w.heap.size k (fun i => O (k + i)) :=
        Own.drop (f := O) (fun h => oo6'.at' (by omega)) hk (by omega) (fun i h1 h2 => by simpa using oo6'.cell i (by omega)) (fun i hi => by simpa using oo6'.free i (by omega))
      go_cut [16] from 84 to 93 (fun s wx => s = .bool (grewB (fun i => S (k + i)) (fun i => O (k + i)) (n - k)) ∧ Added w6 wx (n - k) w3.heap.size k w4.heap.size k (fun i => S (k + i)) (fun i => O (k + i)) (fun i => F (k + i)))
      case first =>
        go_region_with (go_at_call 7; generalize (if ns = k then a3 else Option.map (fun x => x.add k) a3) = x1 at os6 ⊢; generalize (if co' = k then ao else Option.map (fun x => x.add k) ao) = x2 at oo6 ⊢; generalize (if nf = k then a4 else Option.map (fun x => x.add k) a4) = x3 at of6 ⊢; refine (add_any _ _ _ _ _ _ _ _ _ (fun i => S (k + i)) (fun i => O (k + i)) (fun i => F (k + i)) w3.heap.size k w.heap.size k w4.heap.size k _ os6.drew oo6.drew of6.drew (fun h => hd5 (n - k) h (by omega)) (by omega) (by omega) (by omega)).mono ?_; rintro e w7 ⟨rfl, A7⟩)
        go_wp2_with fail
        go_meet
        case rel => exact ⟨rfl, A7.undrew⟩
      case rest =>
        obtain ⟨rfl, A7⟩ := hcut
        obtain ⟨w7, hw7⟩ : ∃ x, x = wc := ⟨_, rfl⟩
        subst hw7
        have b7 : Below w.heap.size w w7 := (b5.trans (A6.below _ b3.size b4.size)).trans (A7.below _ b3.size b4.size)
        have hdF : ∀ B, B < w3.heap.size → B ≠ w3.heap.size ∧ B ≠ w4.heap.size := fun B h => by have := c3.le; omega
        have l13 : ∀ m : Nat, 0 < m → m ≤ ns → w0.heap.size < w3.heap.size := fun m h h' => by have := c1.lt (by omega); have := c2.le; have := A3.size; omega
        have l23 : ∀ m : Nat, 0 < m → m ≤ nf → w1.heap.size < w3.heap.size := fun m h h' => by have := c2.lt (by omega); have := A3.size; omega
        have v1 : View w7 a1 ns (sAft n S O) := (((((Own.afterSet A3 (c1.own.later c2.below)).later c3.below).later c4.below).added A6 (fun h _ => hdF _ (l13 ns h (Nat.le_refl _)))).added A7 (fun h _ => hdF _ (l13 ns h (Nat.le_refl _)))).view
        have v2 : View w7 a2 nf (fAft n F S O) := (((((Own.afterFresh A3 c2.own).later c3.below).later c4.below).added A6 (fun h _ => hdF _ (l23 nf h (Nat.le_refl _)))).added A7 (fun h _ => hdF _ (l23 nf h (Nat.le_refl _)))).view
        have v3 : View w7 a3 ns (sAft n S O) := (Own.setTwo hk A6 A7 os5).view
        have v4 : View w7 a4 nf (fAft n F S O) := (Own.freshTwo hk A6 A7 of5).view
        have v5 : View w7 ao n O := (oo6'.added A7 (fun h h' => by have := hd5 (n - k) h' (by omega); omega)).view
        have v6 : View w7 sa ns S := HS.out.later b7
        have v7 : View w7 fa nf F := HF.out.later b7
        have hgr := grewB_cut S O hk
        have hsame : (!sameB ns (sAft n S O) ns S) = grewB S O n := grew_same hn1
        have eS := sAft_or (O := O) okS n
        have eF := fAft_in (S := S) (O := O) okF n
        have eF' := fun i (h : n ≤ i) => fAft_out (S := S) (O := O) okF h
        have s1 : sameB ns (sAft n S O) ns (sAft n S O) = true := sameB_true rfl fun _ _ => rfl
        have s2 : sameB nf (fAft n F S O) nf (fAft n F S O) = true := sameB_true rfl fun _ _ => rfl
        clear hdF l13 l23 A7 A6 A3 oo6 oo6' of6 os6 os5 of5 oo5 hd5 c1 c2 c3 c4 hC b3 b4 b5 HS HF HnS HnF okS okF hk1 hk2 hk3 hcap
        generalize sAft n S O = S1 at *
        generalize fAft n F S O = F1 at *
        generalize grewB S O n = g1 at *
        generalize grewB S O k = g2 at *
        generalize grewB (fun i => S (k + i)) (fun i => O (k + i)) (n - k) = g3 at *
        have HGr : Hid (g1 = (g2 || g3)) := hgr
        have HSame : Hid ((!sameB ns S1 ns S) = g1) := hsame
        have HeS : Hid (∀ i, S1 i = bits .or .u64 (S i) (wAt n O i)) := eS
        have HeF : Hid (∀ i, F1 i = bits .or .u64 (F i) (bits .andNot .u64 (S1 i) (S i))) := eF
        have HeF' : Hid (∀ i, n ≤ i → F1 i = bits .or .u64 (F i) 0) := eF'
        clear hgr hsame eS eF eF'
        go_upto_region 26 with fail
        go_cut [99] from 94 to 99 (fun s wx => s = .bool false ∧ w7 = wx)
        case first =>
          obtain rfl := HGr.out
          clear HGr HSame HeS HeF HeF' s1 s2 v1 v2 v3 v4 v5 v6 v7 b7
          cases g2 <;> cases g3
          all_goals
            go_wp2_with fail
            go_meet
            case rel => exact ⟨rfl, rfl⟩
        case rest =>
          obtain ⟨rfl, rfl⟩ := hcut
          go_wp2_with fail
          refine (sameWords_any _ _ _ S1 _ _ _ S1 _ v1 v3 (by omega)).mono ?_
          rintro e w8 ⟨rfl, q8, rfl⟩
          rw [s1]
          go_wp2_with fail
          refine (sameWords_any _ _ _ F1 _ _ _ F1 _ (v2.drewN _) (v4.drewN _) (by omega)).mono ?_
          rintro e w9 ⟨rfl, q9, rfl⟩
          rw [s2]
          go_wp2_with fail
          refine (sameWords_any _ _ _ S1 _ _ _ S _ (v1.drewN _) (v6.drewN _) (by omega)).mono ?_
          rintro e w10 ⟨rfl, q10, rfl⟩
          generalize sameB ns S1 ns S = g4 at *
          obtain rfl := HSame.out
          clear HGr HSame s1 s2
          go_wp2_with fail
          go_loopw [17] (fun t wr => ∃ i : Nat, i ≤ ns ∧ t = .int .i64 i ∧ ∃ q, wr = w7.drewN q) (fun t _ => ns - (intOf t).toNat)
          case atStart => exact ⟨0, Nat.zero_le _, rfl, _, rfl⟩
          case round =>
            obtain ⟨i, hi, rfl, q, rfl⟩ := hrel
            by_cases hlt : i < ns
            · obtain ⟨b1, o1, rfl, r1⟩ := v1 i hlt
              obtain ⟨b2, o2, rfl, r2⟩ := v6 i hlt
              have hlt' : (i : Int) < (ns : Int) := by omega
              have hne := HeS.out i
              have hne' : (S1 i != bits .or .u64 (S i) (wAt n O i)) = false := by rw [hne]; simp
              have HV5 : Hid (View w7 ao n O) := v5
              clear v1 v2 v3 v4 v5 v6 v7 hne
              go_wp2_with fail
              go_quiet ((go_at_call 9; exact (wordAt_any _ _ _ O i _ (by exact HV5.out)).mono fun e w2 h2 => ⟨h2.1, _, h2.2⟩))
              go_wp2
              go_roundw
              case rel => exact ⟨i + 1, by omega, by go_num, _, rfl⟩
              case measure => simp [intOf]; omega
            · clear v3 v4 v5
              go_wp2_with fail
              go_loopw [18] (fun t wr => ∃ i : Nat, i ≤ nf ∧ t = .int .i64 i ∧ ∃ q, wr = w7.drewN q) (fun t _ => nf - (intOf t).toNat)
              case atStart => exact ⟨0, Nat.zero_le _, rfl, _, rfl⟩
              case round =>
                obtain ⟨j, hj, rfl, q', rfl⟩ := hrel
                by_cases hltf : j < nf
                · obtain ⟨b1, o1, rfl, r1⟩ := v2 j hltf
                  obtain ⟨b2, o2, rfl, r2⟩ := v7 j hltf
                  have hltf' : (j : Int) < (nf : Int) := by omega
                  by_cases hlts : j < ns
                  · obtain ⟨b3, o3, rfl, r3⟩ := v1 j hlts
                    obtain ⟨b4, o4, rfl, r4⟩ := v6 j hlts
                    have hlts' : (j : Int) < (ns : Int) := by omega
                    have hne' : (F1 j != bits .or .u64 (F j) (bits .andNot .u64 (S1 j) (S j))) = false := by rw [← HeF.out j]; simp
                    clear v1 v2 v6 v7
                    go_wp2_with fail
                    go_quiet (fail)
                    go_wp2_with fail
                    go_quiet (fail)
                    go_wp2_with fail
                    go_roundw
                    case rel => exact ⟨j + 1, by omega, by go_num, _, rfl⟩
                    case measure => simp [intOf]; omega
                  · have hne' : (F1 j != bits .or .u64 (F j) 0) = false := by rw [← HeF'.out j (by omega)]; simp
                    clear v1 v2 v6 v7
                    go_wp2_with fail
                    go_quiet (fail)
                    go_wp2_with fail
                    go_roundw
                    case rel => exact ⟨j + 1, by omega, by go_num, _, rfl⟩
                    case measure => simp [intOf]; omega
                · clear v1 v2 v6 v7
                  go_wp2_with fail
                  go_ret
                  exact ⟨rfl, below_drewN b7 _⟩
end Go.Proofs.Qxb6617680a
