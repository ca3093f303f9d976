/- PLAIN LAW: counting colons outside string literals. No Go text. -/
namespace Go.Proofs.Qxb6617760a

/-- 0: outside a string; 1: inside; 2: inside, the next byte is skipped. -/
def cnt : Nat → List Int → Nat
  | _, [] => 0
  | 0, x :: r => if x == 34 then cnt 1 r else if x == 58 then cnt 0 r + 1 else cnt 0 r
  | 1, x :: r => if x == 92 then cnt 2 r else if x == 34 then cnt 0 r else cnt 1 r
  | _ + 2, _ :: r => cnt 1 r

theorem cnt_nil (s : Nat) : cnt s [] = 0 := by
  match s with
  | 0 => rfl
  | 1 => rfl
  | _ + 2 => rfl
def col : List Int → Nat
  | [] => 0
  | x :: r => if x == 58 then col r + 1 else col r

theorem cnt_le : ∀ (l : List Int) (s : Nat), cnt s l ≤ l.length
  | [], s => by rw [cnt_nil]; exact Nat.zero_le _
  | x :: r, 0 => by
    have h0 := cnt_le r 0
    have h1 := cnt_le r 1
    simp only [cnt, List.length_cons]
    split
    · omega
    · split <;> omega
  | x :: r, 1 => by
    have h0 := cnt_le r 0
    have h1 := cnt_le r 1
    have h2 := cnt_le r 2
    simp only [cnt, List.length_cons]
    split
    · omega
    · split <;> omega
  | x :: r, s + 2 => by
    have h1 := cnt_le r 1
    simp only [cnt, List.length_cons]
    omega
theorem col_le : ∀ l : List Int, col l ≤ l.length
  | [] => Nat.le_refl _
  | x :: r => by
    have := col_le r
    simp only [col, List.length_cons]
    split <;> omega

theorem cnt_pre : ∀ (a b : List Int), (∀ x ∈ a, (x == 34) = false) → cnt 0 (a ++ b) = col a + cnt 0 b
  | [], b, _ => by simp [col]
  | x :: r, b, h => by
    have hx := h x (by simp)
    have ih := cnt_pre r b (fun y hy => h y (by simp [hy]))
    simp only [List.cons_append, cnt, col, hx]
    cases x == 58
    · simp [ih]
    · simp [ih]; omega
theorem cnt_in : ∀ (s b : List Int), (∀ x ∈ s, (x == 34) = false ∧ (x == 92) = false) → cnt 1 (s ++ b) = cnt 1 b
  | [], b, _ => rfl
  | x :: r, b, h => by
    obtain ⟨h1, h2⟩ := h x (by simp)
    simp only [List.cons_append, cnt, h1, h2]
    exact cnt_in r b (fun y hy => h y (by simp [hy]))
/-- The law: the string literal between a and b (s, an escaped quotation mark, s) changes nothing. -/
theorem cnt_lit (a s b : List Int) (ha : ∀ x ∈ a, (x == 34) = false) (hs : ∀ x ∈ s, (x == 34) = false ∧ (x == 92) = false) :
    cnt 0 (a ++ [34] ++ s ++ [92] ++ [34] ++ s ++ [34] ++ b) = col a + cnt 0 b := by
  have e : a ++ [34] ++ s ++ [92] ++ [34] ++ s ++ [34] ++ b = a ++ (34 :: (s ++ (92 :: 34 :: (s ++ (34 :: b))))) := by simp
  rw [e, cnt_pre a _ ha]
  congr 1
  show cnt 1 (s ++ (92 :: 34 :: (s ++ (34 :: b)))) = _
  rw [cnt_in s _ hs]
  show cnt 1 (s ++ (34 :: b)) = _
  rw [cnt_in s _ hs]
  rfl

/-! ### the loop of countNames, a step each -/
def st (q : Bool) : Nat := if q then 1 else 0
theorem st_t : st true = 1 := rfl
theorem st_f : st false = 0 := rfl
theorem drop_at (z : List Int) (k : Nat) (h : k < z.length) : z.drop k = z.getD k 0 :: z.drop (k + 1) := by
  rw [List.drop_eq_getElem_cons h]
  simp [h]
section
variable (x : Int) (r : List Int)
theorem c0q (hx : (x == 34) = true) : cnt 0 (x :: r) = cnt 1 r := by simp only [cnt, hx, if_true]
theorem c0c (hq : (x == 34) = false) (hx : (x == 58) = true) : cnt 0 (x :: r) = cnt 0 r + 1 := by simp [cnt, hx, hq]
theorem c0p (hq : (x == 34) = false) (hx : (x == 58) = false) : cnt 0 (x :: r) = cnt 0 r := by simp [cnt, hx, hq]
theorem c1s (hx : (x == 92) = true) : cnt 1 (x :: r) = cnt 2 r := by simp only [cnt, hx, if_true]
theorem c1q (h9 : (x == 92) = false) (hx : (x == 34) = true) : cnt 1 (x :: r) = cnt 0 r := by simp [cnt, hx, h9]
theorem c1p (h9 : (x == 92) = false) (hx : (x == 34) = false) : cnt 1 (x :: r) = cnt 1 r := by simp [cnt, hx, h9]
end
theorem st_skip (z : List Int) (k : Nat) (h : k < z.length) (hx : (z.getD k 0 == 92) = true) : cnt (st true) (z.drop k) = cnt (st true) (z.drop (k + 2)) := by
  rw [drop_at z k h, st_t, c1s _ _ hx]
  by_cases h1 : k + 1 < z.length
  · rw [drop_at z (k + 1) h1]; rfl
  · rw [List.drop_eq_nil_of_le (by omega), List.drop_eq_nil_of_le (by omega)]; rfl
theorem st_close (z : List Int) (k : Nat) (h : k < z.length) (h9 : (z.getD k 0 == 92) = false) (hx : (z.getD k 0 == 34) = true) : cnt (st true) (z.drop k) = cnt (st false) (z.drop (k + 1)) := by
  rw [drop_at z k h, st_t, st_f, c1q _ _ h9 hx]
theorem st_stay (z : List Int) (k : Nat) (h : k < z.length) (h9 : (z.getD k 0 == 92) = false) (hx : (z.getD k 0 == 34) = false) : cnt (st true) (z.drop k) = cnt (st true) (z.drop (k + 1)) := by
  rw [drop_at z k h, st_t, c1p _ _ h9 hx]
theorem st_open (z : List Int) (k : Nat) (h : k < z.length) (hx : (z.getD k 0 == 34) = true) : cnt (st false) (z.drop k) = cnt (st true) (z.drop (k + 1)) := by
  rw [drop_at z k h, st_t, st_f, c0q _ _ hx]
theorem st_colon (z : List Int) (k : Nat) (h : k < z.length) (hq : (z.getD k 0 == 34) = false) (hx : (z.getD k 0 == 58) = true) : cnt (st false) (z.drop k) = cnt (st false) (z.drop (k + 1)) + 1 := by
  rw [drop_at z k h, st_f, c0c _ _ hq hx]
theorem st_pass (z : List Int) (k : Nat) (h : k < z.length) (hq : (z.getD k 0 == 34) = false) (hx : (z.getD k 0 == 58) = false) : cnt (st false) (z.drop k) = cnt (st false) (z.drop (k + 1)) := by
  rw [drop_at z k h, st_f, c0p _ _ hq hx]
theorem col_step (z : List Int) (k : Nat) (h : k < z.length) : col (z.take (k + 1)) = col (z.take k) + if z.getD k 0 == 58 then 1 else 0 := by
  have app : ∀ (l : List Int) (x : Int), col (l ++ [x]) = col l + if x == 58 then 1 else 0 := by
    intro l x
    induction l with
    | nil => simp [col]
    | cons y r ih => simp only [List.cons_append, col, ih]; split <;> omega
  rw [List.take_succ_eq_append_getElem h, app]
  simp [h]
end Go.Proofs.Qxb6617760a
