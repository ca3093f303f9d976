/- The law's main road. -/
import Derived.Test.Qxb6617760aWalks
import Derived.Deep.DeepCutAuto
namespace Go.Proofs.Qxb6617760a
open Go.RowKit

theorem Try.info5 : (Try.prog.info? 5).map (fun i => (i.zero, i.size, i.bytes)) = some (some (.int .u8 0), 1, 1) := by kernel_rfl
theorem Try.size5 : (Try.prog.info? 5).map (·.size) = some 1 := by kernel_rfl

def vals (z : List Int) : List Value := z.map (Value.int .u8)
theorem length_vals (z : List Int) : (vals z).length = z.length := by simp [vals]
theorem one_vals (z : List Int) : ∀ u ∈ vals z, u.oneCell' = true := ints_oneCell .u8 z
theorem get_vals (z : List Int) (j : Nat) (h : j < z.length) : (vals z)[j]? = some (.int .u8 (z.getD j 0)) := by simp [vals, h]
theorem vals_append (x y : List Int) : vals x ++ vals y = vals (x ++ y) := by simp [vals]
theorem cells_view {w : World} {a : Option Addr} {z : List Int} (h : View w a z) : ∀ ad, a = some ad → ∀ j u, (vals z)[j]? = some u → w.cell? (ad.add j) = some u := by
  intro ad e j u hu
  have hj : j < z.length := by
    have := (List.getElem?_eq_some_iff.1 hu).1
    rwa [length_vals] at this
  rw [get_vals z j hj] at hu
  obtain rfl := Option.some.inj hu
  obtain ⟨b, o, e', hc⟩ := h j hj
  rw [e] at e'
  obtain rfl := Option.some.inj e'
  rw [Addr.add_lit]
  exact hc
theorem cell_lit (w : World) (x : Int) : ∀ ad, some (⟨w.heap.size, 0, none⟩ : Addr) = some ad → ∀ j u, (vals [x])[j]? = some u → (w.alloc (.cells #[.int .u8 x] 5)).cell? (ad.add j) = some u := by
  intro ad e
  obtain rfl := Option.some.inj e
  exact cell_one_new _ _ _
theorem view_owns {w : World} {base g n cap : Nat} {z : List Int} (h : w.ownsRow base 5 1 (.slice (some ⟨g, 0, none⟩) n cap) n (vals z)) : View w (some ⟨g, 0, none⟩) z := by
  intro i hi
  refine ⟨g, 0, rfl, ?_⟩
  have hn : z.length = n := by have := h.1; rw [length_vals] at this; omega
  rw [Nat.zero_add, h.cellAt i (by omega), get_vals z i hi]
theorem made_heap {w : World} {base g n : Nat} {xs : List Value} (h : w.ownsRow base 5 1 (.slice (some ⟨g, 0, none⟩) n n) n xs) : w.heap[g]? = some (.cells xs.toArray 5 (0, 0)) := by
  obtain ⟨_, h | ⟨g', cap, cur, hv, _, hh, _, _, hs, ht⟩⟩ := h
  · simp at h
  · simp only [Value.slice.injEq, Option.some.injEq, Addr.mk.injEq] at hv
    obtain ⟨⟨rfl, _⟩, _, rfl⟩ := hv
    rw [hh]
    have : cur.toList = xs := by rw [← ht, List.take_of_length_le (by simp; omega)]
    rw [← this]
theorem view_heap {w : World} {g : Nat} {z : List Int} (h : w.heap[g]? = some (.cells (vals z).toArray 5 (0, 0))) : View w (some ⟨g, 0, none⟩) z := by
  intro i hi
  exact ⟨g, 0, rfl, by simp [World.cell?, h, get_vals z i hi]⟩
theorem splice_all (cur cs : List Value) (h : cs.length = cur.length) : splice cur 0 cs = cs := by simp [splice, h]
def zeros (n : Nat) : List Value := List.replicate n (.int .u8 0)
theorem length_zeros (n : Nat) : (zeros n).length = n := by simp [zeros]

theorem mem_of_get {z : List Int} {n : Nat} {p : Int → Bool} (hn : z.length = n) (h : ∀ j, j < n → p (z.getD j 0) = false) : ∀ x ∈ z, p x = false := by
  intro x hx
  obtain ⟨j, hj, rfl⟩ := List.mem_iff_getElem.1 hx
  have := h j (by omega)
  simpa [hj] using this

/-- b, copied (or nil). -/
structure Copied (w w' : World) (bo : Option Addr) (n cb : Nat) (z : List Int) : Prop where
  view : View w' bo z
  below : Below w.heap.size w w'
  nil : bo = none → n = 0 ∧ cb = 0

set_option maxRecDepth 100000 in
set_option maxHeartbeats 1000000 in
theorem top_main (a0 : Option Addr) (na c0 : Nat) (a1 : Option Addr) (nl c1 : Nat) (a2 : Option Addr) (nb c2 : Nat) (za zs zb : List Int) (w : World)
    (v0 : View w a0 za) (v1 : View w a1 zs) (v2 : View w a2 zb) (la : za.length = na) (ll : zs.length = nl) (lb : zb.length = nb)
    (e0 : a0 = none → na = 0 ∧ c0 = 0) (e1 : a1 = none → nl = 0 ∧ c1 = 0) (e2 : a2 = none → nb = 0 ∧ c2 = 0) (hna : na ≤ 262144) (hnl : nl ≤ 262144) (hnb : nb ≤ 262144) :
    Calls Try.prog 3 #[.slice a0 na c0, .slice a1 nl c1, .slice a2 nb c2] w fun e w' => e = .returned (.bool true) ∧ Below w.heap.size w w' := by
  have q22 := fun (w : World) (a : Option Addr) (n c n' c' : Nat) => run_neq_slice_nil_any (P := Try.prog) w 22 5 a n c n' c' Try.underlying22
  have hsm := small_yes (n := na + nl + nb) (by omega)
  obtain ⟨i0, hi, hz0, hz1, hz2⟩ := info_parts Try.info5
  have HV0 : Hid (View w a0 za) := v0
  have HV1 : Hid (View w a1 zs) := v1
  have HV2 : Hid (View w a2 zb) := v2
  have HA : Hid (za.length = na) := la
  have HL : Hid (zs.length = nl) := ll
  have HB : Hid (zb.length = nb) := lb
  have HE0 : Hid (a0 = none → na = 0 ∧ c0 = 0) := e0
  have HE1 : Hid (a1 = none → nl = 0 ∧ c1 = 0) := e1
  have HE2 : Hid (a2 = none → nb = 0 ∧ c2 = 0) := e2
  have Hi : Hid (Try.prog.info? 5 = some i0) := hi
  have Hz0 : Hid (i0.zero = some (.int .u8 0)) := hz0
  have Hz1 : Hid (i0.size = 1) := hz1
  have Hz2 : Hid (i0.bytes = 1) := hz2
  clear v0 v1 v2 la ll lb e0 e1 e2 hi hz0 hz1 hz2
  go_enter Try.func3, Try.ntmps3
  go_upto_if 30 with (go_at_call 4; refine (bytes_any _ _ _ _ _ _ _ _ _ _).mono ?_; rintro e w' ⟨rfl, rfl⟩)
  go_cut [2] (fun s wx => ∃ bo cb, s = .slice bo nb cb ∧ Copied w wx bo nb cb zb)
  case first =>
    cases a2 with
    | none =>
      obtain ⟨rfl, rfl⟩ := HE2.out rfl
      go_wp2_with fail
      go_meet
      case rel => exact ⟨_, _, rfl, HV2.out, Below.refl _ _, fun _ => ⟨rfl, rfl⟩⟩
    | some ad =>
      go_wp2_with (at_make; refine wpList_make_full _ rfl _ _ 22 rfl w.heap.size 5 i0 (.int .u8 0) 1 Try.underlying22 Hi.out Hz0.out Hz1.out _ _ _ _ nb rfl rfl rfl rfl ?_ ?_ ?_ ?_)
      · rw [Hz2.out]; omega
      · unfold maxLen; omega
      · exact Nat.le_refl _
      · intro w1 hown hgrow
        rw [toList_madeCells_one] at hown
        have HG : Hid (w1.heap[w.heap.size]? = some (.cells (zeros nb).toArray 5 (0, 0))) := made_heap hown
        have hb1 : Below w.heap.size w w1 := (Below.refl _ _).grown hgrow (Nat.le_refl _) (fun k h => by cases h)
        clear hown hgrow
        go_wp2_with (refine wpList_copy_splice rfl (.tmp 34) (.tmp 35) 22 22 rfl 5 Try.underlying22 Try.size5 _ _ _ _ _ _ rfl rfl w.heap.size 0 (zeros nb) 5 HG.out (vals zb) ?_ ?_ ?_ (one_vals zb) w.heap.size w hb1 (Nat.le_refl _) ?_)
        · rw [length_vals, HB.out]; exact (Nat.min_self nb).symm
        · intro hp
          exact cells_view (HV2.out.later hb1) ad rfl
        · rw [length_vals, HB.out, length_zeros]; omega
        · intro w2 HG2 hb2
          go_wp2_with fail
          go_meet
          case rel =>
            refine ⟨_, _, rfl, view_heap ?_, hb2, by simp⟩
            have := HG2.out
            rwa [splice_all _ _ (by rw [length_vals, HB.out, length_zeros])] at this
  case rest =>
    obtain ⟨bo, cb, rfl, hC⟩ := hcut
    obtain ⟨w0, hw0⟩ : ∃ x, x = wc := ⟨_, rfl⟩
    subst hw0
    clear q22 hsm HV2 HE2
    go_wp2_with fail
    go_loop [8] (fun i => ∃ k : Nat, k ≤ na ∧ i = .int .i64 k ∧ ∀ j, j < k → (za.getD j 0 == 34) = false) (fun i => na - (intOf i).toNat)
    case atStart => exact ⟨0, Nat.zero_le _, rfl, fun j h => absurd h (by omega)⟩
    case round =>
      obtain ⟨k, hk, rfl, hj⟩ := hrel
      have HJ : Hid (∀ j, j < k → (za.getD j 0 == 34) = false) := hj
      clear hj
      by_cases hlt : k < na
      · obtain ⟨b, o, rfl, hc⟩ := (HV0.out.later hC.below) k (by rw [HA.out]; exact hlt)
        cases hq : (za.getD k 0 == 34) with
        | true =>
          generalize za.getD k 0 = x at hc hq
          go_wp2_with fail
          go_ret
          exact ⟨rfl, hC.below⟩
        | false =>
          have HQ : Hid ((za.getD k 0 == 34) = false) := hq
          generalize za.getD k 0 = x at hc hq
          go_wp2_with fail
          go_round
          case rel =>
            refine ⟨k + 1, by omega, by go_num, fun j hj => ?_⟩
            by_cases e : j = k
            · subst e; exact HQ.out
            · exact HJ.out j (by omega)
          case measure => simp [intOf]; omega
      · have HJa : Hid (∀ j, j < na → (za.getD j 0 == 34) = false) := fun j hj => HJ.out j (by omega)
        clear HJ
        go_wp2_with fail
        go_loop [9] (fun i => ∃ k : Nat, k ≤ nl ∧ i = .int .i64 k ∧ ∀ j, j < k → (zs.getD j 0 == 34) = false ∧ (zs.getD j 0 == 92) = false) (fun i => nl - (intOf i).toNat)
        case atStart => exact ⟨0, Nat.zero_le _, rfl, fun j h => absurd h (by omega)⟩
        case round =>
          obtain ⟨k2, hk2, rfl, hj⟩ := hrel
          have HJ : Hid (∀ j, j < k2 → (zs.getD j 0 == 34) = false ∧ (zs.getD j 0 == 92) = false) := hj
          clear hj
          by_cases hlt2 : k2 < nl
          · obtain ⟨b, o, rfl, hc⟩ := (HV1.out.later hC.below) k2 (by rw [HL.out]; exact hlt2)
            cases hq : (zs.getD k2 0 == 34) with
            | true =>
              generalize zs.getD k2 0 = x at hc hq
              go_wp2_with fail
              go_ret
              exact ⟨rfl, hC.below⟩
            | false =>
              cases hp : (zs.getD k2 0 == 92) with
              | true =>
                generalize zs.getD k2 0 = x at hc hq hp
                go_wp2_with fail
                go_ret
                exact ⟨rfl, hC.below⟩
              | false =>
                have HQ : Hid ((zs.getD k2 0 == 34) = false ∧ (zs.getD k2 0 == 92) = false) := ⟨hq, hp⟩
                generalize zs.getD k2 0 = x at hc hq hp
                go_wp2_with fail
                go_round
                case rel =>
                  refine ⟨k2 + 1, by omega, by go_num, fun j hj => ?_⟩
                  by_cases e : j = k2
                  · subst e; exact HQ.out
                  · exact HJ.out j (by omega)
                case measure => simp [intOf]; omega
          · have HJs : Hid (∀ j, j < nl → (zs.getD j 0 == 34) = false ∧ (zs.getD j 0 == 92) = false) := fun j hj => HJ.out j (by omega)
            clear HJ
            go_wp2_with fail
            go_loop [10, 11] (fun u i => ∃ k : Nat, k ≤ na ∧ i = .int .i64 k ∧ u = .int .i64 (col (za.take k))) (fun _ i => na - (intOf i).toNat)
            case atStart => exact ⟨0, Nat.zero_le _, rfl, rfl⟩
            case round =>
              obtain ⟨k3, hk3, rfl, rfl⟩ := hrel
              have hcl : col (za.take k3) ≤ 262144 := Nat.le_trans (col_le _) (by rw [List.length_take]; omega)
              by_cases hlt3 : k3 < na
              · obtain ⟨b, o, rfl, hc⟩ := (HV0.out.later hC.below) k3 (by rw [HA.out]; exact hlt3)
                have hst := col_step za k3 (by rw [HA.out]; exact hlt3)
                cases hq : (za.getD k3 0 == 58) with
                | true =>
                  have HST : Hid (col (za.take (k3 + 1)) = col (za.take k3) + 1) := by rw [hq] at hst; exact hst
                  clear hst
                  generalize za.getD k3 0 = x at hc hq
                  generalize col (za.take k3) = cc at *
                  go_wp2_with fail
                  go_round
                  case rel => exact ⟨k3 + 1, by omega, by go_num, by rw [HST.out]; go_num⟩
                  case measure => simp [intOf]; omega
                | false =>
                  have HST : Hid (col (za.take (k3 + 1)) = col (za.take k3)) := by rw [hq] at hst; exact hst
                  clear hst
                  generalize za.getD k3 0 = x at hc hq
                  generalize col (za.take k3) = cc at *
                  go_wp2_with fail
                  go_round
                  case rel => exact ⟨k3 + 1, by omega, by go_num, by rw [HST.out]⟩
                  case measure => simp [intOf]; omega
              · have ecl : col (za.take k3) = col za := by rw [List.take_of_length_le (by rw [HA.out]; omega)]
                rw [ecl] at hcl ⊢
                clear ecl hlt hlt2
                obtain ⟨cc, hcc⟩ : ∃ cc, cc = col za := ⟨_, rfl⟩
                have HCC : Hid (cc = col za) := hcc
                rw [← hcc] at hcl ⊢
                clear hcc
                have B0 := hC.below.size
                have hcap : na + nl + nl + nb + 4 ≤ 1048580 := by omega
                go_wp2_with (at_make; refine wpList_make_own _ rfl _ _ 22 rfl w0.heap.size 5 i0 (.int .u8 0) 1 Try.underlying22 Hi.out Hz0.out Hz1.out _ _ _ (na + nb) rfl rfl (by omega) (by rw [Hz2.out]; omega) (by unfold maxLen; omega) (Nat.le_refl _) ?_)
                intro w1 o1 g1
                have b1 : Below w0.heap.size w0 w1 := (Below.refl _ _).grown g1 (Nat.le_refl _) (fun k h => by cases h)
                have V0 := HV0.out.later hC.below
                have V1 := HV1.out.later hC.below
                have V2 := hC.view
                go_wp2_with (at_builtin; refine wpList_append_fits_any _ rfl (.tmp 86) (.tmp 87) 22 rfl w0.heap.size 5 i0 1 Try.underlying22 Hi.out Hz1.out w0.heap.size 0 (na + nb) [] rfl o1 a0 na c0 (vals za) rfl (by rw [length_vals, HA.out, Nat.mul_one]) HE0.out (cells_view (V0.later b1)) (one_vals za) (by omega) ?_)
                intro w2 o2 g2
                have b2 : Below w0.heap.size w0 w2 := b1.grown g2 b1.size (fun k h => by cases h; exact Nat.le_refl _)
                clear o1 g1 g2 b1
                go_wp2_with (at_builtin; refine wpList_append_fits_any _ rfl (.tmp 89) (.tmp 90) 22 rfl w0.heap.size 5 i0 1 Try.underlying22 Hi.out Hz1.out w0.heap.size na (na + nb) (vals za) rfl o2 bo nb cb (vals zb) rfl (by rw [length_vals, HB.out, Nat.mul_one]) hC.nil (cells_view (V2.later b2)) (one_vals zb) (by omega) ?_)
                intro w3 o3 g3
                rw [vals_append] at o3
                have b3 : Below w0.heap.size w0 w3 := b2.grown g3 b2.size (fun k h => by cases h; exact Nat.le_refl _)
                have z3 : w0.heap.size < w3.heap.size := (o3.lt _ rfl).2
                clear o2 g3 b2
                go_wp2_with (at_make; refine wpList_make_own _ rfl _ _ 22 rfl w0.heap.size 5 i0 (.int .u8 0) 1 Try.underlying22 Hi.out Hz0.out Hz1.out _ _ _ (na + nl + nl + nb + 4) rfl rfl (by omega) (by rw [Hz2.out]; omega) (by unfold maxLen; omega) (by omega) ?_)
                intro w4 o4 g4
                have r4 := o3.kept g4 (.inr (by simp [Value.ownBlock]))
                have b4 : Below w0.heap.size w0 w4 := b3.grown g4 b3.size (fun k h => by cases h)
                clear o3 g4 b3
                go_wp2_with (at_builtin; refine wpList_append_fits_any _ rfl (.tmp 105) (.tmp 106) 22 rfl w0.heap.size 5 i0 1 Try.underlying22 Hi.out Hz1.out w3.heap.size 0 (na + nl + nl + nb + 4) [] rfl o4 a0 na c0 (vals za) rfl (by rw [length_vals, HA.out, Nat.mul_one]) HE0.out (cells_view (V0.later b4)) (one_vals za) (by omega) ?_)
                intro w5 o5 g5
                have r5 := r4.kept g5 (.inr (by simp [Value.ownBlock]; omega))
                have b5 : Below w0.heap.size w0 w5 := b4.grown g5 b4.size (fun k h => by cases h; omega)
                clear o4 r4 g5 b4
                go_wp2_with (at_builtin; refine wpList_append_fits_any _ rfl (.tmp 108) (.tmp 109) 22 rfl w0.heap.size 5 i0 1 Try.underlying22 Hi.out Hz1.out w3.heap.size na (na + nl + nl + nb + 4) (vals za) rfl (o5.alloc _) (some ⟨w5.heap.size, 0, none⟩) 1 1 (vals [34]) rfl rfl (by simp) (by exact cell_lit _ 34) (one_vals [34]) (by omega) ?_)
                intro w6 o6 g6
                rw [vals_append] at o6
                have r6 := (r5.alloc _).kept g6 (.inr (by simp [Value.ownBlock]; omega))
                have b6 : Below w0.heap.size w0 w6 := (b5.alloc b5.size _).grown g6 (by simp; have := b5.size; omega) (fun k h => by cases h; omega)
                clear o5 r5 g6 b5
                go_wp2_with (at_builtin; refine wpList_append_fits_any _ rfl (.tmp 111) (.tmp 112) 22 rfl w0.heap.size 5 i0 1 Try.underlying22 Hi.out Hz1.out w3.heap.size _ (na + nl + nl + nb + 4) _ rfl o6 a1 nl c1 (vals zs) rfl (by rw [length_vals, HL.out, Nat.mul_one]) HE1.out (cells_view (V1.later b6)) (one_vals zs) (by omega) ?_)
                intro w7 o7 g7
                rw [vals_append] at o7
                have r7 := r6.kept g7 (.inr (by simp [Value.ownBlock]; omega))
                have b7 : Below w0.heap.size w0 w7 := b6.grown g7 b6.size (fun k h => by cases h; omega)
                clear o6 r6 g7 b6
                go_wp2_with (at_builtin; refine wpList_append_fits_any _ rfl (.tmp 114) (.tmp 115) 22 rfl w0.heap.size 5 i0 1 Try.underlying22 Hi.out Hz1.out w3.heap.size _ (na + nl + nl + nb + 4) _ rfl (o7.alloc _) (some ⟨w7.heap.size, 0, none⟩) 1 1 (vals [92]) rfl rfl (by simp) (by exact cell_lit _ 92) (one_vals [92]) (by omega) ?_)
                intro w8 o8 g8
                rw [vals_append] at o8
                have r8 := (r7.alloc _).kept g8 (.inr (by simp [Value.ownBlock]; omega))
                have b8 : Below w0.heap.size w0 w8 := (b7.alloc b7.size _).grown g8 (by simp; have := b7.size; omega) (fun k h => by cases h; omega)
                clear o7 r7 g8 b7
                go_wp2_with (at_builtin; refine wpList_append_fits_any _ rfl (.tmp 117) (.tmp 118) 22 rfl w0.heap.size 5 i0 1 Try.underlying22 Hi.out Hz1.out w3.heap.size _ (na + nl + nl + nb + 4) _ rfl (o8.alloc _) (some ⟨w8.heap.size, 0, none⟩) 1 1 (vals [34]) rfl rfl (by simp) (by exact cell_lit _ 34) (one_vals [34]) (by omega) ?_)
                intro w9 o9 g9
                rw [vals_append] at o9
                have r9 := (r8.alloc _).kept g9 (.inr (by simp [Value.ownBlock]; omega))
                have b9 : Below w0.heap.size w0 w9 := (b8.alloc b8.size _).grown g9 (by simp; have := b8.size; omega) (fun k h => by cases h; omega)
                clear o8 r8 g9 b8
                go_wp2_with (at_builtin; refine wpList_append_fits_any _ rfl (.tmp 120) (.tmp 121) 22 rfl w0.heap.size 5 i0 1 Try.underlying22 Hi.out Hz1.out w3.heap.size _ (na + nl + nl + nb + 4) _ rfl o9 a1 nl c1 (vals zs) rfl (by rw [length_vals, HL.out, Nat.mul_one]) HE1.out (cells_view (V1.later b9)) (one_vals zs) (by omega) ?_)
                intro w10 o10 g10
                rw [vals_append] at o10
                have r10 := r9.kept g10 (.inr (by simp [Value.ownBlock]; omega))
                have b10 : Below w0.heap.size w0 w10 := b9.grown g10 b9.size (fun k h => by cases h; omega)
                clear o9 r9 g10 b9
                go_wp2_with (at_builtin; refine wpList_append_fits_any _ rfl (.tmp 123) (.tmp 124) 22 rfl w0.heap.size 5 i0 1 Try.underlying22 Hi.out Hz1.out w3.heap.size _ (na + nl + nl + nb + 4) _ rfl (o10.alloc _) (some ⟨w10.heap.size, 0, none⟩) 1 1 (vals [34]) rfl rfl (by simp) (by exact cell_lit _ 34) (one_vals [34]) (by omega) ?_)
                intro w11 o11 g11
                rw [vals_append] at o11
                have r11 := (r10.alloc _).kept g11 (.inr (by simp [Value.ownBlock]; omega))
                have b11 : Below w0.heap.size w0 w11 := (b10.alloc b10.size _).grown g11 (by simp; have := b10.size; omega) (fun k h => by cases h; omega)
                clear o10 r10 g11 b10
                go_wp2_with (at_builtin; refine wpList_append_fits_any _ rfl (.tmp 126) (.tmp 127) 22 rfl w0.heap.size 5 i0 1 Try.underlying22 Hi.out Hz1.out w3.heap.size _ (na + nl + nl + nb + 4) _ rfl o11 bo nb cb (vals zb) rfl (by rw [length_vals, HB.out, Nat.mul_one]) hC.nil (cells_view (V2.later b11)) (one_vals zb) (by omega) ?_)
                intro w12 o12 g12
                rw [vals_append] at o12
                have r12 := r11.kept g12 (.inr (by simp [Value.ownBlock]; omega))
                have b12 : Below w0.heap.size w0 w12 := b11.grown g12 b11.size (fun k h => by cases h; omega)
                clear o11 r11 g12 b11
                have ma : ∀ x ∈ za, (x == 34) = false := mem_of_get HA.out HJa.out
                have ms : ∀ x ∈ zs, (x == 34) = false ∧ (x == 92) = false := fun x hx => ⟨mem_of_get (p := fun x => (x == 34)) HL.out (fun j hj => (HJs.out j hj).1) x hx, mem_of_get (p := fun x => (x == 92)) HL.out (fun j hj => (HJs.out j hj).2) x hx⟩
                have hab : ((cnt 0 (za ++ zb) : Nat) : Int) = (cc : Int) + (cnt 0 zb : Nat) := by rw [cnt_pre za zb ma, HCC.out]; omega
                have hlt : ((cnt 0 (za ++ 34 :: (zs ++ 92 :: 34 :: (zs ++ [34])) ++ zb) : Nat) : Int) = (cc : Int) + (cnt 0 zb : Nat) := by
                  have e : za ++ 34 :: (zs ++ 92 :: 34 :: (zs ++ [34])) ++ zb = za ++ [34] ++ zs ++ [92] ++ [34] ++ zs ++ [34] ++ zb := by simp
                  rw [e, cnt_lit za zs zb ma ms, HCC.out]; omega
                have hcb : cnt 0 zb ≤ 262144 := Nat.le_trans (cnt_le zb 0) (by rw [HB.out]; exact hnb)
                have Hab := (show Hid _ from hab)
                have Hlt := (show Hid _ from hlt)
                have VB := V2.later b12
                have VAB := view_owns r12
                have VL := view_owns o12
                have lab : (za ++ zb).length = na + nb := by rw [List.length_append, HA.out, HB.out]
                have llit : (za ++ 34 :: (zs ++ 92 :: 34 :: (zs ++ [34])) ++ zb).length = na + 1 + nl + 1 + 1 + nl + 1 + nb := by simp [HA.out, HL.out, HB.out]; omega
                have bfin : Below w.heap.size w w12 := hC.below.trans (b12.mono B0)
                have Hlab := (show Hid _ from lab)
                have Hll := (show Hid _ from llit)
                clear hab hlt ma ms lab llit o12 r12 b12 V0 V1 V2
                go_wp2_with fail
                refine (count_any _ _ _ zb _ VB HB.out (by omega)).mono ?_
                rintro e w13 ⟨rfl, rfl⟩
                go_wp2_with fail
                refine (count_any _ _ _ _ _ VAB Hlab.out (by omega)).mono ?_
                rintro e w14 ⟨rfl, rfl⟩
                rw [Hab.out]
                generalize cnt 0 zb = xb at *
                go_wp2_with fail
                refine (count_any _ _ _ _ _ VL Hll.out (by omega)).mono ?_
                rintro e w15 ⟨rfl, rfl⟩
                rw [Hlt.out]
                go_wp2_with fail
                go_ret
                exact ⟨rfl, bfin⟩
end Go.Proofs.Qxb6617760a
