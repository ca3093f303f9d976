/- FnTruncateTakesBackToTheLesserOffset: the main road, out of the contracts. -/
import Derived.Test.Qxb6617724aBelow
import Derived.Deep.DeepCutAuto
namespace Go.Proofs.Qxb6617724a
open Go.RowKit Go.Maps

/-- A map of names: nil where there is no name. -/
def Names (w : World) (mo : Option Nat) (n : Nat) (D : DataW Unit) : Prop :=
  (n = 0 ∧ mo = none) ∨ (0 < n ∧ ∃ b, mo = some b ∧ w.ownsMap Try.prog 9 (plainElem Try.prog 3) b n D)

theorem Names.later {w w' : World} {mo : Option Nat} {n : Nat} {D : DataW Unit} (h : Names w mo n D) (hb : Below w.heap.size w w') : Names w' mo n D := by
  rcases h with h | ⟨h0, b, rfl, h⟩
  · exact .inl h
  · exact .inr ⟨h0, b, rfl, owns_later h hb h.lt⟩
theorem Names.grown {w w' : World} {mo mo' : Option Nat} {n : Nat} {D : DataW Unit} (h : Names w mo n D) (hg : w.grownBy w' mo') (hne : ∀ b, mo = some b → mo' ≠ some b) : Names w' mo n D := by
  rcases h with h | ⟨h0, b, rfl, h⟩
  · exact .inl h
  · exact .inr ⟨h0, b, rfl, h.kept hg (fun e => hne b rfl e.symm)⟩
theorem Names.drewN {w : World} {mo : Option Nat} {n : Nat} {D : DataW Unit} (h : Names w mo n D) (q : Nat) : Names (w.drewN q) mo n D := h
/-- A row of cells stands while a map turns. -/
theorem View.turned {w w' : World} {mo : Option Nat} {n : Nat} {D : DataW Unit} {a : Option Addr} {m : Nat} {c : Nat → Value} (h : View w a m c) (hg : w.grownBy w' mo) (hN : Names w mo n D) : View w' a m c := by
  intro i hi
  obtain ⟨b, o, e, hc⟩ := h i hi
  refine ⟨b, o, e, hg.cell hc ?_⟩
  rcases hN with ⟨_, rfl⟩ | ⟨_, b', rfl, es, clock, hh, _⟩
  · simp
  · intro e2
    obtain rfl := Option.some.inj e2
    simp [World.cell?, hh] at hc
theorem View.take {w : World} {a : Option Addr} {n m : Nat} {c : Nat → Value} (h : View w a n c) (hm : m ≤ n) : View w a m c := fun i hi => h i (by omega)

theorem build_all (a1 : Option Addr) (n c1 : Nat) (a2 : Option Addr) (c2 : Nat) (s : Nat → ByteArray) (t : Nat → Int) (w : World) (hv1 : View w a1 n (sv s)) (hv2 : View w a2 n (nv t)) (hn : n ≤ 1048576)
    (hs : ∀ i, (s i).size ≤ maxLen) (ht : ∀ i, (Lit.int .i64 (t i)).wf = true) :
    Calls Try.prog 6 #[.slice a1 n c1, .slice a2 n c2] w fun e w' => ∃ mo, e = .returned (.map mo) ∧ Names w' mo n (dat s t n) ∧ (∀ b, mo = some b → w.heap.size ≤ b ∧ b < w'.heap.size) ∧ Below w.heap.size w w' := by
  by_cases h0 : 0 < n
  · refine (build_any a1 n c1 a2 c2 s t w hv1 hv2 hn h0 hs ht).mono ?_
    rintro e w' ⟨rfl, hown, hb⟩
    exact ⟨_, rfl, .inr ⟨h0, _, rfl, hown⟩, fun b e => by cases e; exact ⟨Nat.le_refl _, hown.lt⟩, hb⟩
  · obtain rfl : n = 0 := by omega
    refine (build_none a1 c1 a2 c2 w).mono ?_
    rintro e w' ⟨rfl, rfl⟩
    exact ⟨_, rfl, .inl ⟨rfl, rfl⟩, (fun b e => by cases e), Below.refl _ _⟩

theorem trunc_all (a : Option Addr) (nb c : Nat) (mo : Option Nat) (n : Nat) (D : DataW Unit) (m : Nat) (hm : m ≤ nb) (hc : nb ≤ c) (w : World) (hN : Names w mo n D) :
    Calls Try.prog 7 #[.slice a nb c, .map mo, .int .i64 (m : Int)] w fun e w' => e = .returned (.tuple #[.slice a m c, .map mo]) ∧ ∃ D', Names w' mo n D' ∧ (0 < n → Trim D D' m) ∧ w.grownBy w' mo := by
  rcases hN with ⟨rfl, rfl⟩ | ⟨h0, b, rfl, hown⟩
  · refine (trunc_none a nb c m hm hc w).mono ?_
    rintro e w' ⟨rfl, hg⟩
    exact ⟨rfl, D, .inl ⟨rfl, rfl⟩, fun h => absurd h (by omega), hg⟩
  · refine (trunc_any a nb c b n D m hm hc w hown).mono ?_
    rintro e w' ⟨rfl, D', hown', hT, hg⟩
    exact ⟨rfl, D', .inr ⟨h0, b, rfl, hown'⟩, fun _ => hT, hg⟩

theorem below_all (mo1 mo2 : Option Nat) (D1 : DataW Unit) (a : Option Addr) (n c : Nat) (lo : Int) (s : Nat → ByteArray) (t : Nat → Int) (w : World) (h1 : Names w mo1 n D1) (h2 : Names w mo2 n (dat s t n))
    (hv : View w a n (sv s)) (hs : ∀ i, (s i).size ≤ maxLen) (hn : n ≤ 1048576) (hT : 0 < n → Trim (dat s t n) D1 lo) :
    Calls Try.prog 9 #[.map mo1, .map mo2, .slice a n c, .int .i64 lo] w fun e w' => e = .returned (.bool true) ∧ Below w.heap.size w w' := by
  rcases h1 with ⟨rfl, rfl⟩ | ⟨h0, b1, rfl, o1⟩
  · rcases h2 with ⟨_, rfl⟩ | ⟨h, _⟩
    · exact below_none a c lo w
    · exact absurd h (by omega)
  · rcases h2 with ⟨rfl, _⟩ | ⟨_, b2, rfl, o2⟩
    · exact absurd h0 (by omega)
    · exact below_any b1 b2 n n D1 _ a n c lo s w o1 o2 hv hs hn hn (hT h0) (fun j hj => dat_has s t n j hj) (fun k hk => dat_only s t n k hk)

set_option maxRecDepth 100000 in
set_option maxHeartbeats 1000000 in
theorem top_main (a0 : Option Addr) (nb c0 : Nat) (a1 : Option Addr) (nk c1 : Nat) (a2 : Option Addr) (na c2 : Nat) (m n : Int) (f : Nat → Int) (s : Nat → ByteArray) (t : Nat → Int) (w : World)
    (v0 : View w a0 nb (bv f)) (v1 : View w a1 nk (sv s)) (v2 : View w a2 na (nv t)) (z0 : a0 = none → nb = 0) (hs : ∀ i, (s i).size ≤ maxLen) (ht : ∀ i, (Lit.int .i64 (t i)).wf = true)
    (hnb : nb ≤ 1048576) (hnk : nk ≤ 65536) (hna : na ≤ 65536) (htot : nb + 8 * nk + 8 * na ≤ 1048576) :
    Calls Try.prog 3 #[.slice a0 nb c0, .slice a1 nk c1, .slice a2 na c2, .int .i64 m, .int .i64 n] w fun e w' => e = .returned (.bool true) ∧ Below w.heap.size w w' := by
  have g1 : decide ((1048576 : Int) < (nb : Int)) = false := decide_eq_false (by omega)
  have g2 : decide ((65536 : Int) < (nk : Int)) = false := decide_eq_false (by omega)
  have g3 : decide ((65536 : Int) < (na : Int)) = false := decide_eq_false (by omega)
  have g4 : decide ((1048576 : Int) < (nb : Int) + 8 * (nk : Int) + 8 * (na : Int)) = false := decide_eq_false (by omega)
  have HV0 : Hid (View w a0 nb (bv f)) := v0
  have HV1 : Hid (View w a1 nk (sv s)) := v1
  have HV2 : Hid (View w a2 na (nv t)) := v2
  have HZ : Hid (a0 = none → nb = 0) := z0
  have HS : Hid (∀ i, (s i).size ≤ maxLen) := hs
  have HT : Hid (∀ i, (Lit.int .i64 (t i)).wf = true) := ht
  clear v0 v1 v2 z0 hs ht
  go_enter Try.func3, Try.ntmps3
  go_wp2_with fail
  refine (bytes_any _ _ _ _ _ _ _ _ _ _ _ s _ HV1.out HS.out).mono ?_
  rintro e w' ⟨r, rfl, hr, rfl⟩
  cases r with
  | false =>
    clear hr
    go_wp2_with fail
    go_ret
    exact ⟨rfl, Below.refl _ _⟩
  | true =>
    have HSz : Hid (∀ i, i < nk → (s i).size ≤ 1048576) := hr rfl
    clear hr
    go_wp2_with fail
    go_loop [11, 12] (fun u i => ∃ (z : Int) (k : Nat), 0 ≤ z ∧ z ≤ 1048576 ∧ k ≤ nk ∧ u = .int .i64 z ∧ i = .int .i64 k) (fun _ i => nk - (intOf i).toNat)
    case atStart => exact ⟨_, 0, by omega, by omega, Nat.zero_le _, rfl, rfl⟩
    case round =>
      obtain ⟨z, k, hz0, hz1, hk, rfl, rfl⟩ := hrel
      clear g1 g2 g3 g4
      by_cases hlt : k < nk
      · obtain ⟨b, o, rfl, hc⟩ := HV1.out k hlt
        have hcs : w.cell? ⟨b, o + k, none⟩ = some (.string (s k)) := hc
        have hsz := HSz.out k hlt
        clear hc
        go_wp2_with fail
        · go_ret
          exact ⟨rfl, Below.refl _ _⟩
        · go_round
          case rel => exact ⟨_, k + 1, by omega, by omega, by omega, rfl, by go_num⟩
          case measure => simp [intOf]; omega
      · by_cases hne : nk = na
        · subst hne
          by_cases hm0 : 0 ≤ m
          · by_cases hm1 : m ≤ (nb : Int)
            · by_cases hn0 : 0 ≤ n
              · by_cases hn1 : n ≤ (nb : Int)
                · obtain ⟨m', rfl⟩ := Int.eq_ofNat_of_zero_le hm0
                  obtain ⟨n', rfl⟩ := Int.eq_ofNat_of_zero_le hn0
                  have e1 : ((nk : Int) != (nk : Int)) = false := by simp
                  have e2 : decide ((m' : Int) < 0) = false := decide_eq_false (by omega)
                  have e3 : decide ((nb : Int) < (m' : Int)) = false := decide_eq_false (by omega)
                  have e4 : decide ((n' : Int) < 0) = false := decide_eq_false (by omega)
                  have e5 : decide ((nb : Int) < (n' : Int)) = false := decide_eq_false (by omega)
                  go_upto_if 99 with fail
                  clear e1 e2 e3 e4 e5
                  go_cut [13, 14] (fun l h wx => ∃ lo hi : Nat, l = .int .i64 lo ∧ h = .int .i64 hi ∧ lo ≤ hi ∧ hi ≤ nb ∧ w = wx)
                  case first =>
                    by_cases hmn : (m' : Int) < (n' : Int)
                    all_goals
                      go_wp2_with fail
                      go_meet
                      case rel => exact ⟨_, _, rfl, rfl, by omega, by omega, rfl⟩
                  case rest =>
                    obtain ⟨lo, hi, rfl, rfl, hlh, hhb, rfl⟩ := hcut
                    clear hm0 hm1 hn0 hn1 HSz htot hlt hz0 hz1 hk hna
                    go_wp2_with fail
                    refine (clone_any _ _ _ f _ HV0.out HZ.out hnb).mono ?_
                    rintro e w1 ⟨x1, rfl, k1⟩
                    have vb1 := HV0.out.later k1.below
                    go_wp2_with fail
                    refine (clone_any _ _ _ f _ vb1 HZ.out hnb).mono ?_
                    rintro e w2 ⟨x2, rfl, k2⟩
                    have vb2 := vb1.later k2.below
                    clear vb1
                    go_wp2_with fail
                    refine (clone_any _ _ _ f _ vb2 HZ.out hnb).mono ?_
                    rintro e w3 ⟨x3, rfl, k3⟩
                    clear vb2
                    have b3 : Below w.heap.size w w3 := (k1.below.trans (k2.below.mono k1.below.size)).trans (k3.below.mono (Nat.le_trans k1.below.size k2.below.size))
                    have p1 := (k1.view.later k2.below).later k3.below
                    have p2 := k2.view.later k3.below
                    have p3 := k3.view
                    clear k1 k2 k3
                    have s3 := HV1.out.later b3
                    have t3 := HV2.out.later b3
                    go_wp2_with fail
                    refine (build_all _ _ _ _ _ s t _ s3 t3 (by omega) HS.out HT.out).mono ?_
                    rintro e w4 ⟨mo1, rfl, N1, f1, d4⟩
                    have s4 := s3.later d4
                    have t4 := t3.later d4
                    have q1 := p1.later d4
                    have q2 := p2.later d4
                    have q3 := p3.later d4
                    have b4 : Below w.heap.size w w4 := b3.trans (d4.mono b3.size)
                    clear s3 t3 p1 p2 p3
                    go_wp2_with fail
                    refine (build_all _ _ _ _ _ s t _ s4 t4 (by omega) HS.out HT.out).mono ?_
                    rintro e w5 ⟨mo2, rfl, N2, f2, d5⟩
                    have s5 := s4.later d5
                    have t5 := t4.later d5
                    have p1 := q1.later d5
                    have p2 := q2.later d5
                    have p3 := q3.later d5
                    have N15 := N1.later d5
                    have b5 : Below w.heap.size w w5 := b4.trans (d5.mono b4.size)
                    clear s4 t4 q1 q2 q3 N1
                    go_wp2_with fail
                    refine (build_all _ _ _ _ _ s t _ s5 t5 (by omega) HS.out HT.out).mono ?_
                    rintro e w6 ⟨mo3, rfl, N3, f3, d6⟩
                    have q1 := p1.later d6
                    have q2 := p2.later d6
                    have q3 := p3.later d6
                    have N16 := N15.later d6
                    have N26 := N2.later d6
                    have b6 : Below w.heap.size w w6 := b5.trans (d6.mono b5.size)
                    have n12 : ∀ b, mo2 = some b → mo1 ≠ some b := fun b h h' => by have := (f2 b h).1; have := (f1 b h').2; omega
                    have n13 : ∀ b, mo3 = some b → mo1 ≠ some b := fun b h h' => by have := (f3 b h).1; have := (f1 b h').2; have := d5.size; omega
                    have n23 : ∀ b, mo3 = some b → mo2 ≠ some b := fun b h h' => by have := (f3 b h).1; have := (f2 b h').2; omega
                    have u1 : ∀ k, mo1 = some k → w.heap.size ≤ k := fun k h => by have := (f1 k h).1; have := b3.size; omega
                    have u2 : ∀ k, mo2 = some k → w.heap.size ≤ k := fun k h => by have := (f2 k h).1; have := b4.size; omega
                    clear s5 t5 p1 p2 p3 N15 N2 f1 f2 f3 b3 b4 b5 d4 d5 d6
                    have Hn12 := (show Hid (∀ b, mo2 = some b → mo1 ≠ some b) from n12)
                    have Hn13 := (show Hid (∀ b, mo3 = some b → mo1 ≠ some b) from n13)
                    have Hn23 := (show Hid (∀ b, mo3 = some b → mo2 ≠ some b) from n23)
                    have Hu1 := (show Hid (∀ k, mo1 = some k → w.heap.size ≤ k) from u1)
                    have Hu2 := (show Hid (∀ k, mo2 = some k → w.heap.size ≤ k) from u2)
                    clear n12 n13 n23 u1 u2
                    go_wp2_with fail
                    refine (trunc_all _ _ _ _ _ _ hi hhb (Nat.le_refl _) _ N16).mono ?_
                    rintro e w7 ⟨rfl, D7, N17, T7, g7⟩
                    have p1 := q1.turned g7 N16
                    have p2 := q2.turned g7 N16
                    have p3 := q3.turned g7 N16
                    have N27 := N26.grown g7 Hn12.out
                    have N37 := N3.grown g7 Hn13.out
                    have b7 : Below w.heap.size w w7 := b6.grown g7 b6.size Hu1.out
                    clear q1 q2 q3 N26 N3 b6 N16 g7
                    go_wp2_with fail
                    refine (trunc_all _ _ _ _ _ _ lo hlh (by omega) _ N17).mono ?_
                    rintro e w8 ⟨rfl, D8, N18, T8, g8⟩
                    have q1 := p1.turned g8 N17
                    have q2 := p2.turned g8 N17
                    have q3 := p3.turned g8 N17
                    have N28 := N27.grown g8 Hn12.out
                    have N38 := N37.grown g8 Hn13.out
                    have b8 : Below w.heap.size w w8 := b7.grown g8 b7.size Hu1.out
                    clear p1 p2 p3 N27 N37 b7 N17 g8
                    go_wp2_with fail
                    refine (trunc_all _ _ _ _ _ _ lo (by omega) (Nat.le_refl _) _ N28).mono ?_
                    rintro e w9 ⟨rfl, D9, N29, T9, g9⟩
                    have p1 := q1.turned g9 N28
                    have p2 := q2.turned g9 N28
                    have p3 := q3.turned g9 N28
                    have N19 := N18.grown g9 (fun b h h' => Hn12.out b h' h)
                    have N39 := N38.grown g9 Hn23.out
                    have b9 : Below w.heap.size w w9 := b8.grown g9 b8.size Hu2.out
                    clear q1 q2 q3 N18 N38 b8 N28 g9
                    have TT : 0 < nk → Trim (dat s t nk) D8 lo := fun h => (T7 h).two (T8 h) (by omega)
                    have HTT := (show Hid (0 < nk → Trim (dat s t nk) D8 lo) from TT)
                    have HT9 := (show Hid (0 < nk → Trim (dat s t nk) D9 lo) from T9)
                    clear TT T7 T8 T9
                    have s9 := HV1.out.later b9
                    go_wp2_with fail
                    refine (prefix_any _ _ _ _ _ _ f _ (p2.take (by omega)) p1 (by omega) (by omega)).mono ?_
                    rintro e w10 ⟨rfl, q10, rfl⟩
                    go_wp2_with fail
                    refine (prefix_any _ _ _ _ _ _ f _ ((p3.take (by omega)).drewN _) (p1.drewN _) (by omega) (by omega)).mono ?_
                    rintro e w11 ⟨rfl, q11, rfl⟩
                    clear p1 p2 p3
                    go_wp2_with fail
                    refine (below_all _ _ D8 _ _ _ _ s t _ (N19.drewN _) (N39.drewN _) (s9.drewN _) HS.out (by omega) HTT.out).mono ?_
                    rintro e w12 ⟨rfl, d12⟩
                    have N2x := (N29.drewN (q10 + q11)).later d12
                    have N3x := (N39.drewN (q10 + q11)).later d12
                    have sx := (s9.drewN (q10 + q11)).later d12
                    have b12 : Below w.heap.size w w12 := (below_drewN b9 (q10 + q11)).trans (d12.mono b9.size)
                    clear N19 N29 N39 s9 b9 d12
                    go_wp2_with fail
                    refine (below_all _ _ D9 _ _ _ _ s t _ N2x N3x sx HS.out (by omega) HT9.out).mono ?_
                    rintro e w13 ⟨rfl, d13⟩
                    have b13 : Below w.heap.size w w13 := b12.trans (d13.mono b12.size)
                    clear N2x N3x sx b12 d13
                    go_wp2_with fail
                    go_ret
                    exact ⟨rfl, b13⟩
                · go_wp2_with fail
                  all_goals go_ret
                  all_goals exact ⟨rfl, Below.refl _ _⟩
              · go_wp2_with fail
                all_goals go_ret
                all_goals exact ⟨rfl, Below.refl _ _⟩
            · go_wp2_with fail
              all_goals go_ret
              all_goals exact ⟨rfl, Below.refl _ _⟩
          · go_wp2_with fail
            all_goals go_ret
            all_goals exact ⟨rfl, Below.refl _ _⟩
        · have e1 : ((nk : Int) != (na : Int)) = true := by rw [bne_iff_ne]; omega
          go_wp2_with fail
          go_ret
          exact ⟨rfl, Below.refl _ _⟩
end Go.Proofs.Qxb6617724a
