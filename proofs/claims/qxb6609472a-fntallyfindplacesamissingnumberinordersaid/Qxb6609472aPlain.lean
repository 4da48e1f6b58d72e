import Derived.Tactics
namespace Go.Proofs.Qxb6609472a

/-- How many of A are smaller than n. -/
def belowN (A : List Int) (n : Int) : Nat := (A.filter fun x => decide (x < n)).length
/-- Does the number at that place equal n? -/
def foundB (A : List Int) (n : Int) : Bool := decide (belowN A n < A.length ∧ A.getD (belowN A n) 0 = n)
/-- Strictly increasing. -/
def Inc (A : List Int) : Prop := ∀ i j, i < j → j < A.length → A.getD i 0 < A.getD j 0

theorem belowN_le (A : List Int) (n : Int) : belowN A n ≤ A.length := List.length_filter_le _ _

theorem belowN_of (A : List Int) (n : Int) (i : Nat) (hi : i ≤ A.length) (h1 : ∀ k, k < i → A.getD k 0 < n) (h2 : ∀ k, i ≤ k → k < A.length → n ≤ A.getD k 0) : belowN A n = i := by
  unfold belowN
  have e : A = A.take i ++ A.drop i := (List.take_append_drop i A).symm
  rw [e, List.filter_append]
  have f1 : (A.take i).filter (fun x => decide (x < n)) = A.take i := by
    rw [List.filter_eq_self]
    intro x hx
    obtain ⟨k, hk, rfl⟩ := List.getElem_of_mem hx
    have hk' : k < i ∧ k < A.length := by simp at hk; omega
    have := h1 k hk'.1
    rw [List.getD_eq_getElem?_getD, List.getElem?_eq_getElem hk'.2] at this
    simpa using this
  have f2 : (A.drop i).filter (fun x => decide (x < n)) = [] := by
    rw [List.filter_eq_nil_iff]
    intro x hx
    obtain ⟨k, hk, rfl⟩ := List.getElem_of_mem hx
    have hk' : i + k < A.length := by simp at hk; omega
    have := h2 (i + k) (by omega) hk'
    rw [List.getD_eq_getElem?_getD, List.getElem?_eq_getElem hk'] at this
    simp at this ⊢
    omega
  rw [f1, f2]
  simp
  omega

theorem belowN_take_succ (A : List Int) (n : Int) (k : Nat) (h : k < A.length) : belowN (A.take (k + 1)) n = belowN (A.take k) n + if A.getD k 0 < n then 1 else 0 := by
  unfold belowN
  rw [List.take_succ_eq_append_getElem h, List.filter_append]
  have : A.getD k 0 = A[k] := by rw [List.getD_eq_getElem?_getD, List.getElem?_eq_getElem h]; rfl
  rw [this]
  by_cases hh : A[k] < n <;> simp [hh]

theorem inc_le {A : List Int} (h : Inc A) {i j : Nat} (hij : i ≤ j) (hj : j < A.length) : A.getD i 0 ≤ A.getD j 0 := by
  rcases Nat.lt_or_eq_of_le hij with h' | rfl
  · exact Int.le_of_lt (h i j h' hj)
  · exact Int.le_refl _
/-- What cmp.Compare answers. -/
def cmpI (x y : Int) : Int := if x < y then -1 else if y < x then 1 else 0
end Go.Proofs.Qxb6609472a
