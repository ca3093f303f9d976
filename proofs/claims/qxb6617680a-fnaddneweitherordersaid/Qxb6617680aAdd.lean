/- addNew and cloneWords: their contracts. -/
import Derived.Test.Qxb6617680aWalks
namespace Go.Proofs.Qxb6617680a
open Go.RowKit

/-- A row of n words f at block B from place o on, of the call's own. -/
structure Own (w : World) (a : Option Addr) (n B o : Nat) (f : Nat → Int) : Prop where
  at' : 0 < n → a = some ⟨B, o, none⟩
  cell : ∀ i, i < n → w.cell? ⟨B, o + i, none⟩ = some (.int .u64 (f i))
  free : ∀ i, i < n → w.frozen? ⟨B, o + i, none⟩ = false
theorem Own.view {w : World} {a : Option Addr} {n B o : Nat} {f : Nat → Int} (h : Own w a n B o f) : View w a n f :=
  fun i hi => ⟨B, o, h.at' (by omega), h.cell i hi⟩

theorem cell_off (w : World) (b o b' o' : Nat) (v : Value) (h : b ≠ b' ∨ o ≠ o') : (w.setCell ⟨b, o, none⟩ v).cell? ⟨b', o', none⟩ = w.cell? ⟨b', o', none⟩ :=
  World.cell?_setCell_other _ _ _ _ (fun e => by simp only [Addr.mk.injEq] at e; omega)
theorem cell_at (w : World) (b o : Nat) (u v : Value) (h : w.cell? ⟨b, o, none⟩ = some u) : (w.setCell ⟨b, o, none⟩ v).cell? ⟨b, o, none⟩ = some v :=
  World.cell?_setCell_same _ _ _ h

/-- Some word grows, among the first n. -/
def grewB (S O : Nat → Int) : Nat → Bool
  | 0 => false
  | k + 1 => grewB S O k || (anw (O k) (S k) != 0)

/-- What addNew has done when k words are behind it. -/
structure Added (w w' : World) (k Bs os Bf of : Nat) (S O F : Nat → Int) : Prop where
  size : w'.heap.size = w.heap.size
  below : ∀ B, B ≤ Bs → B ≤ Bf → Below B w w'
  set : ∀ i, i < k → w'.cell? ⟨Bs, os + i, none⟩ = some (.int .u64 (addS (S i) (O i)))
  fresh : ∀ i, i < k → w'.cell? ⟨Bf, of + i, none⟩ = some (.int .u64 (addF (F i) (S i) (O i)))
  far : ∀ b o, b ≠ Bs → b ≠ Bf → w'.cell? ⟨b, o, none⟩ = w.cell? ⟨b, o, none⟩
  setOut : ∀ o, o < os ∨ os + k ≤ o → w'.cell? ⟨Bs, o, none⟩ = w.cell? ⟨Bs, o, none⟩
  freshOut : ∀ o, o < of ∨ of + k ≤ o → w'.cell? ⟨Bf, o, none⟩ = w.cell? ⟨Bf, o, none⟩
  frozen : ∀ p, w'.frozen? p = w.frozen? p

theorem Added.refl (w : World) (Bs os Bf of : Nat) (S O F : Nat → Int) : Added w w 0 Bs os Bf of S O F :=
  ⟨rfl, fun _ _ _ => Below.refl _ _, fun _ h => absurd h (by omega), fun _ h => absurd h (by omega), fun _ _ _ _ => rfl, fun _ _ => rfl, fun _ _ => rfl, fun _ => rfl⟩

theorem Added.skip {w w' : World} {k Bs os Bf of : Nat} {S O F : Nat → Int} (h : Added w w' k Bs os Bf of S O F)
    (hs : w.cell? ⟨Bs, os + k, none⟩ = some (.int .u64 (S k))) (hf : w.cell? ⟨Bf, of + k, none⟩ = some (.int .u64 (F k))) (hz : (bits .andNot .u64 (O k) (S k) != 0) = false) :
    Added w w' (k + 1) Bs os Bf of S O F ∧ grewB S O (k + 1) = grewB S O k := by
  have hz' : (anw (O k) (S k) != 0) = false := hz
  refine ⟨⟨h.size, h.below, fun i hi => ?_, fun i hi => ?_, h.far, fun o ho => h.setOut o (by omega), fun o ho => h.freshOut o (by omega), h.frozen⟩, by simp [grewB, hz']⟩
  · by_cases e : i = k
    · subst e; rw [h.setOut _ (by omega), hs]; simp [addS, hz']
    · exact h.set i (by omega)
  · by_cases e : i = k
    · subst e; rw [h.freshOut _ (by omega), hf]; simp [addF, hz']
    · exact h.fresh i (by omega)

theorem Added.grow {w w' : World} {k Bs os Bf of : Nat} {S O F : Nat → Int} (h : Added w w' k Bs os Bf of S O F) (hne : Bs ≠ Bf)
    (hs : w.cell? ⟨Bs, os + k, none⟩ = some (.int .u64 (S k))) (hf : w.cell? ⟨Bf, of + k, none⟩ = some (.int .u64 (F k))) (hz : (bits .andNot .u64 (O k) (S k) != 0) = true) :
    Added w ((w'.setCell ⟨Bs, os + k, none⟩ (.int .u64 (bits .or .u64 (S k) (bits .andNot .u64 (O k) (S k))))).setCell ⟨Bf, of + k, none⟩ (.int .u64 (bits .or .u64 (F k) (bits .andNot .u64 (O k) (S k))))) (k + 1) Bs os Bf of S O F ∧ grewB S O (k + 1) = true := by
  have hz' : (anw (O k) (S k) != 0) = true := hz
  have hs' : w'.cell? ⟨Bs, os + k, none⟩ = some (.int .u64 (S k)) := by rw [h.setOut _ (by omega), hs]
  have hf' : w'.cell? ⟨Bf, of + k, none⟩ = some (.int .u64 (F k)) := by rw [h.freshOut _ (by omega), hf]
  refine ⟨⟨?_, fun B h1 h2 => ((h.below B h1 h2).setCell h1 _).setCell h2 _, fun i hi => ?_, fun i hi => ?_, fun b o h1 h2 => ?_, fun o ho => ?_, fun o ho => ?_, fun p => ?_⟩, by simp [grewB, hz']⟩
  · simp [World.setCell, h.size]
  · rw [cell_off _ _ _ _ _ _ (by omega)]
    by_cases e : i = k
    · subst e; rw [cell_at _ _ _ _ _ hs']; simp [addS, hz']; rfl
    · rw [cell_off _ _ _ _ _ _ (by omega)]; exact h.set i (by omega)
  · by_cases e : i = k
    · subst e
      rw [cell_at _ _ _ (.int .u64 (F i)) _ (by rw [cell_off _ _ _ _ _ _ (by omega)]; exact hf')]; simp [addF, hz']; rfl
    · rw [cell_off _ _ _ _ _ _ (by omega), cell_off _ _ _ _ _ _ (by omega)]; exact h.fresh i (by omega)
  · rw [cell_off _ _ _ _ _ _ (by omega), cell_off _ _ _ _ _ _ (by omega)]; exact h.far b o h1 h2
  · rw [cell_off _ _ _ _ _ _ (by omega), cell_off _ _ _ _ _ _ (by omega)]; exact h.setOut o (by omega)
  · rw [cell_off _ _ _ _ _ _ (by omega), cell_off _ _ _ _ _ _ (by omega)]; exact h.freshOut o (by omega)
  · simp [h.frozen]

set_option maxHeartbeats 400000 in
theorem add_any (sa : Option Addr) (ns cs : Nat) (ao : Option Addr) (n co : Nat) (af : Option Addr) (nf cf : Nat) (S O F : Nat → Int) (Bs os Bo oo Bf of : Nat) (w : World)
    (hS : Own w sa n Bs os S) (hO : Own w ao n Bo oo O) (hF : Own w af n Bf of F) (hne0 : 0 < n → Bs ≠ Bf ∧ Bo ≠ Bs ∧ Bo ≠ Bf) (hn : n ≤ 1048576) (hns : n ≤ ns) (hnf : n ≤ nf) :
    Calls Try.prog 7 #[.slice sa ns cs, .slice ao n co, .slice af nf cf] w fun e w' => e = .returned (.bool (grewB S O n)) ∧ Added w w' n Bs os Bf of S O F := by
  have HN : Hid (0 < n → Bs ≠ Bf ∧ Bo ≠ Bs ∧ Bo ≠ Bf) := hne0
  clear hne0
  go_enter Try.func7, Try.ntmps7
  go_wp2
  go_loopw [7, 13] (fun g t wr => ∃ k : Nat, k ≤ n ∧ t = .int .i64 k ∧ g = .bool (grewB S O k) ∧ Added w wr k Bs os Bf of S O F) (fun _ t _ => n - (intOf t).toNat)
  case atStart => exact ⟨0, Nat.zero_le _, rfl, rfl, Added.refl _ _ _ _ _ _ _ _⟩
  case round =>
    obtain ⟨k, hk, rfl, rfl, hA⟩ := hrel
    by_cases hlt : k < n
    · obtain ⟨hne, hno, hno'⟩ := HN.out (by omega)
      obtain rfl := hS.at' (by omega)
      obtain rfl := hO.at' (by omega)
      obtain rfl := hF.at' (by omega)
      have s0 := hS.cell k hlt
      have f0 := hF.cell k hlt
      have cS : wr.cell? ⟨Bs, os + k, none⟩ = some (.int .u64 (S k)) := by rw [hA.setOut _ (by omega)]; exact s0
      have cF : wr.cell? ⟨Bf, of + k, none⟩ = some (.int .u64 (F k)) := by rw [hA.freshOut _ (by omega)]; exact f0
      have cO : wr.cell? ⟨Bo, oo + k, none⟩ = some (.int .u64 (O k)) := by rw [hA.far _ _ hno hno']; exact hO.cell k hlt
      have zS : wr.frozen? ⟨Bs, os + k, none⟩ = false := by rw [hA.frozen]; exact hS.free k hlt
      have zF : wr.frozen? ⟨Bf, of + k, none⟩ = false := by rw [hA.frozen]; exact hF.free k hlt
      clear hS hO hF
      cases hz : (bits .andNot .u64 (O k) (S k) != 0)
      · obtain ⟨hA', hg⟩ := hA.skip s0 f0 hz
        have HG : Hid (grewB S O (k + 1) = grewB S O k) := hg
        clear hg s0 f0
        go_wp2
        go_roundw
        case rel => exact ⟨k + 1, by omega, by go_num, by rw [HG.out], hA'⟩
        case measure => simp [intOf]; omega
      · obtain ⟨hA', hg⟩ := hA.grow hne s0 f0 hz
        have HG : Hid (grewB S O (k + 1) = true) := hg
        have cF' : ∀ v, (wr.setCell ⟨Bs, os + k, none⟩ v).cell? ⟨Bf, of + k, none⟩ = some (.int .u64 (F k)) := fun v => by rw [cell_off _ _ _ _ _ _ (by omega)]; exact cF
        clear hg s0 f0
        go_wp2
        go_roundw
        case rel => exact ⟨k + 1, by omega, by go_num, by rw [HG.out], hA'⟩
        case measure => simp [intOf]; omega
    · obtain rfl : k = n := by omega
      clear hS hO hF
      go_wp2
      go_ret
      exact ⟨rfl, hA⟩
end Go.Proofs.Qxb6617680a
