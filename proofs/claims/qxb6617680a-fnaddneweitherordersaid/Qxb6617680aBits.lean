/-
  PLAIN LAWS, no Go text: what addNew does to one word of the set and one word of fresh, over the model's own 'bits' at uint64.
-/
import Derived.Laws.Entries
import Derived.Laws.Bits64
namespace Go.Proofs.Qxb6617680a

def bvw (x : Int) : BitVec 64 := BitVec.ofInt 64 x
def OkW (x : Int) : Prop := 0 ≤ x ∧ x < 18446744073709551616
def orw (x y : Int) : Int := bits .or .u64 x y
def anw (x y : Int) : Int := bits .andNot .u64 x y

theorem wrap_toNat (b : BitVec 64) : IntKind.u64.wrap (b.toNat : Int) = (b.toNat : Int) := by
  rw [IntKind.wrap_u64]
  have := b.isLt
  omega
theorem orw_eq (x y : Int) : orw x y = ((bvw x ||| bvw y).toNat : Int) := wrap_toNat (bvw x ||| bvw y)
theorem anw_eq (x y : Int) : anw x y = ((bvw x &&& ~~~ bvw y).toNat : Int) := wrap_toNat (bvw x &&& ~~~ bvw y)
theorem bvw_toNat (b : BitVec 64) : bvw (b.toNat : Int) = b := by
  unfold bvw
  apply BitVec.eq_of_toNat_eq
  rw [BitVec.toNat_ofInt]
  have := b.isLt
  omega
theorem toNat_bvw (x : Int) (h : OkW x) : ((bvw x).toNat : Int) = x := by
  unfold bvw
  rw [BitVec.toNat_ofInt]
  have := h.1
  have := h.2
  omega
theorem okW_toNat (b : BitVec 64) : OkW (b.toNat : Int) := by
  have := b.isLt
  exact ⟨by omega, by omega⟩
theorem okW_orw (x y : Int) : OkW (orw x y) := by rw [orw_eq]; exact okW_toNat _
theorem okW_anw (x y : Int) : OkW (anw x y) := by rw [anw_eq]; exact okW_toNat _
theorem okW_zero : OkW 0 := ⟨by omega, by omega⟩
theorem bvw_zero : bvw 0 = 0#64 := rfl
theorem eq_of_bvw {x y : Int} (hx : OkW x) (hy : OkW y) (h : bvw x = bvw y) : x = y := by
  rw [← toNat_bvw x hx, ← toNat_bvw y hy, h]
theorem bvw_orw (x y : Int) : bvw (orw x y) = bvw x ||| bvw y := by rw [orw_eq, bvw_toNat]
theorem bvw_anw (x y : Int) : bvw (anw x y) = bvw x &&& ~~~ bvw y := by rw [anw_eq, bvw_toNat]

/-- What becomes of the set's word s, at the other's word o. -/
def addS (s o : Int) : Int := if anw o s != 0 then orw s (anw o s) else s
/-- What becomes of fresh's word f. -/
def addF (f s o : Int) : Int := if anw o s != 0 then orw f (anw o s) else f

theorem anw_zero {o s : Int} (h : (anw o s != 0) = false) : bvw o &&& ~~~ bvw s = 0#64 := by
  have h0 : anw o s = 0 := by simpa using h
  rw [← bvw_anw, h0]
  rfl

theorem okW_addS {s o : Int} (hs : OkW s) : OkW (addS s o) := by
  unfold addS; split
  · exact okW_orw _ _
  · exact hs
theorem okW_addF {f s o : Int} (hf : OkW f) : OkW (addF f s o) := by
  unfold addF; split
  · exact okW_orw _ _
  · exact hf

theorem bv_or_of (a b : BitVec 64) : a ||| (b &&& ~~~ a) = a ||| b := by
  apply BitVec.eq_of_getLsbD_eq
  intro i hi
  simp [hi]
  cases a[i] <;> cases b[i] <;> rfl
theorem bv_sub (a b : BitVec 64) (h : b &&& ~~~ a = 0#64) : a ||| b = a := by
  rw [← bv_or_of, h]; simp

theorem bvw_addS (s o : Int) : bvw (addS s o) = bvw s ||| bvw o := by
  unfold addS
  cases h : (anw o s != 0)
  · rw [if_neg (by simp)]
    exact (bv_sub _ _ (anw_zero h)).symm
  · rw [if_pos rfl, bvw_orw, bvw_anw, bv_or_of]
theorem bvw_addF (f s o : Int) : bvw (addF f s o) = bvw f ||| (bvw o &&& ~~~ bvw s) := by
  unfold addF
  cases h : (anw o s != 0)
  · rw [if_neg (by simp), anw_zero h]; simp
  · rw [if_pos rfl, bvw_orw, bvw_anw]

/-- the set's word becomes set | other -/
theorem addS_or {s o : Int} (hs : OkW s) : addS s o = orw s o :=
  eq_of_bvw (okW_addS hs) (okW_orw _ _) (by rw [bvw_addS, bvw_orw])
/-- fresh gains exactly the bits that the set gained -/
theorem addF_gained {f s o : Int} (hf : OkW f) : addF f s o = orw f (anw (addS s o) s) := by
  refine eq_of_bvw (okW_addF hf) (okW_orw _ _) ?_
  rw [bvw_addF, bvw_orw, bvw_anw, bvw_addS]
  apply BitVec.eq_of_getLsbD_eq
  intro i hi
  simp [hi]
  cases (bvw s)[i] <;> cases (bvw o)[i] <;> simp
theorem addS_zero {s : Int} : addS s 0 = s := by
  unfold addS
  have : anw 0 s = 0 := by rw [anw_eq, bvw_zero]; simp
  rw [this]; rfl
theorem addF_zero {f s : Int} : addF f s 0 = f := by
  unfold addF
  have : anw 0 s = 0 := by rw [anw_eq, bvw_zero]; simp
  rw [this]; rfl
theorem orw_zero {s : Int} (hs : OkW s) : orw s 0 = s := eq_of_bvw (okW_orw _ _) hs (by rw [bvw_orw, bvw_zero]; simp)
theorem anw_self (s : Int) : anw s s = 0 := by rw [anw_eq]; simp
/-- the word grew iff it changed -/
theorem grew_iff {s o : Int} : (anw o s != 0) = (addS s o != s) := by
  cases h : (anw o s != 0)
  · have : addS s o = s := by unfold addS; rw [h]; rfl
    rw [this]; simp
  · symm
    rw [bne_iff_ne]
    intro e
    have e2 : bvw s ||| bvw o = bvw s := by rw [← bvw_addS, e]
    have e3 : bvw o &&& ~~~ bvw s = 0#64 := by
      apply BitVec.eq_of_getLsbD_eq
      intro i hi
      have := congrArg (fun v : BitVec 64 => v.getLsbD i) e2
      simp [hi] at this
      simp [hi]
      exact this
    have : anw o s = 0 := by rw [anw_eq, e3]; rfl
    rw [this] at h
    simp at h

/-! ### either order -/
theorem addS_comm {s a b : Int} (hs : OkW s) : addS (addS s a) b = addS (addS s b) a := by
  refine eq_of_bvw (okW_addS (okW_addS hs)) (okW_addS (okW_addS hs)) ?_
  simp only [bvw_addS]
  apply BitVec.eq_of_getLsbD_eq
  intro i hi
  simp [hi]
  cases (bvw s)[i] <;> cases (bvw a)[i] <;> cases (bvw b)[i] <;> rfl
theorem addF_comm {f s a b : Int} (hf : OkW f) : addF (addF f s a) (addS s a) b = addF (addF f s b) (addS s b) a := by
  refine eq_of_bvw (okW_addF (okW_addF hf)) (okW_addF (okW_addF hf)) ?_
  simp only [bvw_addF, bvw_addS]
  apply BitVec.eq_of_getLsbD_eq
  intro i hi
  simp [hi]
  cases (bvw f)[i] <;> cases (bvw s)[i] <;> cases (bvw a)[i] <;> cases (bvw b)[i] <;> rfl
/-- adding a once more after a and b brings nothing -/
theorem again_zero (s a b : Int) : (anw a (addS (addS s a) b) != 0) = false := by
  have : anw a (addS (addS s a) b) = 0 := by
    rw [anw_eq, bvw_addS, bvw_addS]
    have : bvw a &&& ~~~ (bvw s ||| bvw a ||| bvw b) = 0#64 := by
      apply BitVec.eq_of_getLsbD_eq
      intro i hi
      simp [hi]
      cases (bvw s)[i] <;> cases (bvw a)[i] <;> cases (bvw b)[i] <;> simp
    rw [this]; rfl
  rw [this]; rfl
theorem again_S (s a b : Int) : addS (addS (addS s a) b) a = addS (addS s a) b := by
  show (if anw a (addS (addS s a) b) != 0 then _ else _) = _
  rw [again_zero]; rfl
theorem again_F (f s a b : Int) : addF f (addS (addS s a) b) a = f := by
  unfold addF
  rw [again_zero]; rfl
theorem two_or {s a b : Int} (hs : OkW s) : addS (addS s a) b = orw (orw s a) b := by
  rw [addS_or (okW_addS hs), addS_or hs]
theorem two_gained {f s a b : Int} (hf : OkW f) : addF (addF f s a) (addS s a) b = orw f (anw (addS (addS s a) b) s) := by
  refine eq_of_bvw (okW_addF (okW_addF hf)) (okW_orw _ _) ?_
  simp only [bvw_addF, bvw_orw, bvw_anw, bvw_addS]
  apply BitVec.eq_of_getLsbD_eq
  intro i hi
  simp [hi]
  cases (bvw f)[i] <;> cases (bvw s)[i] <;> cases (bvw a)[i] <;> cases (bvw b)[i] <;> simp
/-- either call grew the word iff the word changed -/
theorem two_grew {s a b : Int} (hs : OkW s) : ((anw a s != 0) || (anw b (addS s a) != 0)) = (addS (addS s a) b != s) := by
  rw [grew_iff, grew_iff]
  cases h1 : (addS s a != s)
  · have : addS s a = s := by simpa using h1
    rw [this]; rfl
  · symm
    rw [Bool.true_or, bne_iff_ne]
    intro e
    rw [bne_iff_ne] at h1
    apply h1
    refine eq_of_bvw (okW_addS hs) hs ?_
    have e2 : bvw s ||| bvw a ||| bvw b = bvw s := by rw [← bvw_addS, ← bvw_addS, e]
    rw [bvw_addS]
    apply BitVec.eq_of_getLsbD_eq
    intro i hi
    have := congrArg (fun v : BitVec 64 => v.getLsbD i) e2
    simp [hi] at this
    simp [hi]
    cases h : (bvw s)[i] <;> cases h' : (bvw a)[i] <;> simp_all
end Go.Proofs.Qxb6617680a
