/- PLAIN LAWS over maps as they are read: what a fill, a truncate and a count come to, key by key. No Go text. -/
import Derived.Maps.RangeWalk
import Derived.Maps.Ext
namespace Go.Proofs.Qxb6617724a
open Go.Maps (has size IsMap Tidy)

def kl (s : ByteArray) : Lit := .string s.data.toList
theorem kl_key (s : ByteArray) : WideAt.IsKeyLit (kl s) := trivial
def iv (n : Int) : DataW Unit := .lit (.int .i64 n)

/-- The map behind i rounds of 'm[keys[i]] = ats[i]'. -/
def dat (s : Nat → ByteArray) (t : Nat → Int) : Nat → DataW Unit
  | 0 => .map []
  | i + 1 => (dat s t i).put (kl (s i)) (iv (t i))

theorem dat_isMap (s : Nat → ByteArray) (t : Nat → Int) : ∀ i, IsMap (dat s t i)
  | 0 => Maps.isMap_empty
  | i + 1 => (dat_isMap s t i).put _ _
theorem dat_has (s : Nat → ByteArray) (t : Nat → Int) : ∀ (i j : Nat), j < i → has (dat s t i) (kl (s j)) = true
  | 0, j, h => absurd h (by omega)
  | i + 1, j, h => by
    by_cases e : kl (s j) = kl (s i)
    · rw [e]; exact Maps.has_put_same (dat_isMap s t i) (kl_key _) _
    · show has ((dat s t i).put (kl (s i)) _) _ = true
      rw [Maps.has_put_other e]
      have : j ≠ i := fun h => e (by rw [h])
      exact dat_has s t i j (by omega)
theorem dat_only (s : Nat → ByteArray) (t : Nat → Int) : ∀ (i : Nat) (k : Lit), has (dat s t i) k = true → ∃ j, j < i ∧ k = kl (s j)
  | 0, k, h => by cases h
  | i + 1, k, h => by
    by_cases e : k = kl (s i)
    · exact ⟨i, by omega, e⟩
    · have h2 : has ((dat s t i).put (kl (s i)) (iv (t i))) k = true := h
      rw [Maps.has_put_other e] at h2
      obtain ⟨j, hj, e2⟩ := dat_only s t i k h2
      exact ⟨j, by omega, e2⟩

/-- The number at a key. -/
def vOf (D : DataW Unit) (k : Lit) : Int := match D.atKey k (iv 0) with
  | .lit (.int _ v) => v
  | _ => 0
theorem vOf_eq {D : DataW Unit} {k : Lit} {c : Int} (h : D.atKey k (.lit (.int .i64 0)) = .lit (.int .i64 c)) : c = vOf D k := by
  unfold vOf iv
  rw [h]

/-- D' holds just those entries of D whose number lies below m, or that are still to come. -/
structure TrimL (D D' : DataW Unit) (m : Int) (left : Lit → Bool) : Prop where
  has : ∀ k, Maps.has D' k = (Maps.has D k && (left k || decide (vOf D k < m)))
  at' : ∀ k z, Maps.has D' k = true → D'.atKey k z = D.atKey k z
theorem TrimL.start (D : DataW Unit) (m : Int) : TrimL D D m (Maps.has D) :=
  ⟨fun k => by cases Maps.has D k <;> simp, fun _ _ _ => rfl⟩
section
variable {D D' : DataW Unit} {m : Int} {left : Lit → Bool}
theorem TrimL.value (h : TrimL D D' m left) {k : Lit} {c : Int} (hat : ∀ zd, D'.atKey k zd = .lit (.int .i64 c)) : Maps.has D' k = true ∧ Maps.has D k = true ∧ vOf D k = c := by
  have h1 : Maps.has D' k = true := Maps.has_true_of_atKey hat
  have h2 : Maps.has D k = true := by
    have := h.has k
    rw [h1] at this
    cases hh : Maps.has D k
    · rw [hh] at this; simp at this
    · rfl
  refine ⟨h1, h2, (vOf_eq ?_).symm⟩
  rw [← h.at' k _ h1]
  exact hat _
theorem TrimL.struck (h : TrimL D D' m left) {k : Lit} (hk : WideAt.IsKeyLit k) {c : Int} (hat : ∀ zd, D'.atKey k zd = .lit (.int .i64 c)) (hc : m ≤ c) :
    TrimL D (D'.del k) m (fun z => left z && !z.sameKey k) := by
  obtain ⟨_, _, hv⟩ := h.value hat
  refine ⟨fun k' => ?_, fun k' z hh => ?_⟩
  · by_cases e : k' = k
    · subst e
      rw [Maps.has_del_same, hv, WideAt.sameKey_self hk]
      have : ¬ c < m := by omega
      simp [this]
    · rw [Maps.has_del_other e, h.has k', Maps.sameKey_ne e]
      simp
  · by_cases e : k' = k
    · subst e; rw [Maps.has_del_same] at hh; cases hh
    · rw [Maps.has_del_other e] at hh
      rw [Maps.atKey_del_other e]
      exact h.at' k' z hh
theorem TrimL.stays (h : TrimL D D' m left) {k : Lit} {c : Int} (hat : ∀ zd, D'.atKey k zd = .lit (.int .i64 c)) (hc : c < m) :
    TrimL D D' m (fun z => left z && !z.sameKey k) := by
  obtain ⟨h1, h2, hv⟩ := h.value hat
  refine ⟨fun k' => ?_, h.at'⟩
  by_cases e : k' = k
  · subst e
    rw [h1, h2, hv]
    simp [hc]
  · rw [h.has k', Maps.sameKey_ne e]
    simp
end

/-- D' holds just those entries of D whose number lies below m. -/
structure Trim (D D' : DataW Unit) (m : Int) : Prop where
  has : ∀ k, Maps.has D' k = (Maps.has D k && decide (vOf D k < m))
  at' : ∀ k z, Maps.has D' k = true → D'.atKey k z = D.atKey k z
theorem TrimL.done {D D' : DataW Unit} {m : Int} {left : Lit → Bool} (h : TrimL D D' m left) (hl : ∀ k, left k = false) : Trim D D' m :=
  ⟨fun k => by rw [h.has k, hl k]; simp, h.at'⟩
theorem Trim.two {D D1 D2 : DataW Unit} {hi lo : Int} (h1 : Trim D D1 hi) (h2 : Trim D1 D2 lo) (hl : lo ≤ hi) : Trim D D2 lo := by
  have sub : ∀ k, Maps.has D2 k = true → Maps.has D1 k = true := fun k h => by
    rw [h2.has k, Bool.and_eq_true] at h; exact h.1
  have ve : ∀ k, Maps.has D1 k = true → vOf D1 k = vOf D k := fun k h => by
    unfold vOf; rw [h1.at' k _ h]
  refine ⟨fun k => ?_, fun k z h => (h2.at' k z h).trans (h1.at' k z (sub k h))⟩
  rw [h2.has k]
  cases hh : Maps.has D1 k
  · have := h1.has k
    rw [hh] at this
    cases hD : Maps.has D k
    · simp
    · rw [hD] at this
      have : ¬ vOf D k < hi := by simpa using this.symm
      have : ¬ vOf D k < lo := by omega
      simp [this]
  · rw [ve k hh]
    have := h1.has k
    rw [hh] at this
    cases hD : Maps.has D k
    · rw [hD] at this; simp at this
    · simp

/-- Nothing is in it: its size is nought. -/
theorem size_none {D : DataW Unit} (he : ∃ es, D = .map es ∧ ∀ p ∈ es, WideAt.IsKeyLit p.1) (h : ∀ k, Maps.has D k = false) : size D = 0 := by
  obtain ⟨es, rfl, hk⟩ := he
  cases es with
  | nil => rfl
  | cons p r =>
    exfalso
    have := h p.1
    rw [Maps.has_eq] at this
    simp [WideAt.sameKey_self (hk p (by simp))] at this

/-- What namesBelow knows behind i rounds: Ds: the keys seen; Dl: what is left of res when the seen keys are struck. -/
structure Seen (res Ds Dl : DataW Unit) (c : Int) : Prop where
  tidy : Tidy Dl
  keys : ∃ es, Dl = .map es ∧ ∀ p ∈ es, WideAt.IsKeyLit p.1
  left : ∀ k, Maps.has Dl k = (Maps.has res k && !Maps.has Ds k)
  count : (size Dl : Int) + c = size res
  isMap : IsMap Ds
  yes : ∀ k z, Maps.has Ds k = true → Ds.atKey k z = .lit (.bool true)

theorem Seen.start {res : DataW Unit} (ht : Tidy res) (hk : ∃ es, res = .map es ∧ ∀ p ∈ es, WideAt.IsKeyLit p.1) : Seen res (.map []) res 0 :=
  ⟨ht, hk, fun k => by rw [show Maps.has (.map [] : DataW Unit) k = false from rfl]; simp, by simp, Maps.isMap_empty, fun k z h => by cases h⟩

theorem del_keys {D : DataW Unit} (h : ∃ es, D = .map es ∧ ∀ p ∈ es, WideAt.IsKeyLit p.1) (k : Lit) : ∃ es, D.del k = .map es ∧ ∀ p ∈ es, WideAt.IsKeyLit p.1 := by
  obtain ⟨es, rfl, hk⟩ := h
  exact ⟨_, rfl, fun p hp => hk p (List.mem_filter.1 hp).1⟩

theorem Seen.next {res Ds Dl : DataW Unit} {c : Int} (h : Seen res Ds Dl c) {k : Lit} (hk : WideAt.IsKeyLit k) (hn : Maps.has Ds k = false) :
    Seen res (Ds.put k (.lit (.bool true))) (Dl.del k) (c + if Maps.has res k then 1 else 0) := by
  refine ⟨h.tidy.del k, del_keys h.keys k, fun k' => ?_, ?_, h.isMap.put _ _, fun k' z hh => ?_⟩
  · by_cases e : k' = k
    · subst e; rw [Maps.has_del_same, Maps.has_put_same h.isMap hk]; simp
    · rw [Maps.has_del_other e, Maps.has_put_other e, h.left k']
  · have h1 := Maps.size_del h.tidy (k := k)
    have h2 := h.left k
    rw [hn] at h2
    have h3 := h.count
    have h4 : Maps.has Dl k = Maps.has res k := by rw [h2]; simp
    rw [h4] at h1
    cases hr : Maps.has res k
    · rw [hr] at h1; simp at h1 ⊢; omega
    · rw [hr] at h1; simp at h1 ⊢; omega
  · by_cases e : k' = k
    · subst e; exact Maps.atKey_put_same h.isMap hk _ _
    · rw [Maps.has_put_other e] at hh
      rw [Maps.atKey_put_other e]
      exact h.yes k' z hh
theorem Seen.done {res Ds Dl : DataW Unit} {c : Int} (h : Seen res Ds Dl c) (hall : ∀ k, Maps.has res k = true → Maps.has Ds k = true) : c = size res := by
  have h0 : size Dl = 0 := size_none h.keys fun k => by
    rw [h.left k]
    cases hr : Maps.has res k
    · rfl
    · rw [hall k hr]; rfl
  have := h.count
  rw [h0] at this
  simpa using this
theorem Seen.le {res Ds Dl : DataW Unit} {c : Int} (h : Seen res Ds Dl c) : c ≤ size res := by
  have := h.count
  omega
end Go.Proofs.Qxb6617724a
