import Derived.Test.Qxb6609472aPlain
namespace Go.Proofs.Qxb6609472a

/-- Where an increasing list parts at n. -/
theorem boundary (A : List Int) (n : Int) (hA : Inc A) : ∀ d, d ≤ A.length → ∃ j, j ≤ d ∧ (∀ k, k < j → A.getD k 0 < n) ∧ (∀ k, j ≤ k → k < d → n ≤ A.getD k 0) := by
  intro d
  induction d with
  | zero => intro _; exact ⟨0, Nat.le_refl _, fun k hk => absurd hk (by omega), fun k _ hk => absurd hk (by omega)⟩
  | succ d ih =>
    intro hd
    obtain ⟨j, hj, h1, h2⟩ := ih (by omega)
    by_cases hx : A.getD d 0 < n
    · refine ⟨d + 1, Nat.le_refl _, fun k hk => ?_, fun k a b => absurd a (by omega)⟩
      have := inc_le hA (i := k) (j := d) (by omega) (by omega)
      omega
    · refine ⟨j, by omega, h1, fun k a b => ?_⟩
      by_cases e : k = d
      · subst e; omega
      · exact h2 k a (by omega)

theorem below_parts (A : List Int) (n : Int) (hA : Inc A) : (∀ k, k < belowN A n → A.getD k 0 < n) ∧ (∀ k, belowN A n ≤ k → k < A.length → n ≤ A.getD k 0) := by
  obtain ⟨j, hj, h1, h2⟩ := boundary A n hA A.length (Nat.le_refl _)
  rw [belowN_of A n j hj h1 h2]
  exact ⟨h1, h2⟩

/-- The list with n laid in at place m. -/
def put (A : List Int) (m : Nat) (n : Int) : List Int := A.take m ++ n :: A.drop m

theorem put_length (A : List Int) (m : Nat) (n : Int) (h : m ≤ A.length) : (put A m n).length = A.length + 1 := by
  simp [put]; omega

theorem put_lt (A : List Int) (m : Nat) (n : Int) (h : m ≤ A.length) (i : Nat) (hi : i < m) : (put A m n).getD i 0 = A.getD i 0 := by
  unfold put
  simp only [List.getD_eq_getElem?_getD]
  rw [List.getElem?_append_left (by simp; omega), List.getElem?_take_of_lt hi]
theorem put_at (A : List Int) (m : Nat) (n : Int) (h : m ≤ A.length) : (put A m n).getD m 0 = n := by
  unfold put
  simp only [List.getD_eq_getElem?_getD]
  rw [List.getElem?_append_right (by simp; omega)]
  have : m - (A.take m).length = 0 := by simp; omega
  rw [this]; rfl
theorem put_gt (A : List Int) (m : Nat) (n : Int) (h : m ≤ A.length) (i : Nat) (hi : m < i) : (put A m n).getD i 0 = A.getD (i - 1) 0 := by
  unfold put
  simp only [List.getD_eq_getElem?_getD]
  rw [List.getElem?_append_right (by simp; omega)]
  have : i - (A.take m).length = (i - 1 - m) + 1 := by simp; omega
  rw [this, List.getElem?_cons_succ, List.getElem?_drop]
  have e : m + (i - 1 - m) = i - 1 := by omega
  rw [e]

theorem put_inc (A : List Int) (n : Int) (hA : Inc A) (hf : foundB A n = false) : Inc (put A (belowN A n) n) ∧ belowN (put A (belowN A n) n) n = belowN A n ∧ foundB (put A (belowN A n) n) n = true := by
  obtain ⟨h1, h2⟩ := below_parts A n hA
  have hm := belowN_le A n
  have hf' : ¬ (belowN A n < A.length ∧ A.getD (belowN A n) 0 = n) := of_decide_eq_false hf
  generalize belowN A n = m at *
  have h3 : ∀ k, m ≤ k → k < A.length → n < A.getD k 0 := by
    intro k a b
    have c := h2 k a b
    have d := h2 m (Nat.le_refl _) (by omega)
    have e : A.getD m 0 ≠ n := fun e => hf' ⟨by omega, e⟩
    have f := inc_le hA a b
    omega
  have hl := put_length A m n hm
  have hinc : Inc (put A m n) := by
    intro i j hij hj
    rw [hl] at hj
    rcases Nat.lt_trichotomy i m with a | rfl | a
    · rw [put_lt A m n hm i a]
      rcases Nat.lt_trichotomy j m with b | rfl | b
      · rw [put_lt A m n hm j b]; exact hA i j hij (by omega)
      · rw [put_at A j n hm]; exact h1 i a
      · rw [put_gt A m n hm j b]
        have := h1 i a
        have := h3 (j - 1) (by omega) (by omega)
        omega
    · rw [put_at A i n hm, put_gt A i n hm j hij]
      exact h3 (j - 1) (by omega) (by omega)
    · rw [put_gt A m n hm i a, put_gt A m n hm j (by omega)]
      exact hA (i - 1) (j - 1) (by omega) (by omega)
  have hb : belowN (put A m n) n = m := by
    refine belowN_of _ n m (by omega) (fun k hk => ?_) (fun k a b => ?_)
    · rw [put_lt A m n hm k hk]; exact h1 k hk
    · rw [hl] at b
      by_cases e : k = m
      · subst e; rw [put_at A k n hm]; exact Int.le_refl _
      · rw [put_gt A m n hm k (by omega)]
        exact Int.le_of_lt (h3 (k - 1) (by omega) (by omega))
  refine ⟨hinc, hb, ?_⟩
  unfold foundB
  rw [hb, put_at A m n hm, hl]
  simp
  omega
end Go.Proofs.Qxb6609472a
