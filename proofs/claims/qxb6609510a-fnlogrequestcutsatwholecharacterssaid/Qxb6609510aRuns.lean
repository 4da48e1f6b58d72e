import Derived.Test.Qxb6609510aSpec
namespace Go.Proofs.Qxb6609510a

/-- The length that a lead byte declares; 0 for no lead byte. -/
def charLen (b : Int) : Nat := if b < 128 then 1 else if b / 32 = 6 then 2 else if b / 16 = 14 then 3 else if b / 8 = 30 then 4 else 0

theorem charLen_le (b : Int) : charLen b ≤ 4 := by unfold charLen; split <;> (try split) <;> (try split) <;> (try split) <;> omega
theorem charLen_lead (b : Int) (h0 : 0 ≤ b) (h1 : charLen b ≠ 0) : contB b = false := by
  unfold contB
  unfold charLen at h1
  split at h1
  · simp; omega
  · split at h1
    · simp; omega
    · split at h1
      · simp; omega
      · split at h1
        · simp; omega
        · exact absurd rfl h1

/-- A run of whole characters from place p on, of these lengths. -/
def Run (f : Nat → Int) : Nat → List Nat → Prop
  | _, [] => True
  | p, l :: ls => l ≠ 0 ∧ charLen (f p) = l ∧ (∀ k, 1 ≤ k → k < l → contB (f (p + k)) = true) ∧ Run f (p + l) ls

def sumN : List Nat → Nat
  | [] => 0
  | l :: ls => l + sumN ls

theorem sumN_append (a b : List Nat) : sumN (a ++ b) = sumN a + sumN b := by
  induction a with
  | nil => simp [sumN]
  | cons x a ih => simp [sumN, ih]; omega

theorem run_append (f : Nat → Int) : ∀ (a b : List Nat) (p : Nat), Run f p (a ++ b) ↔ Run f p a ∧ Run f (p + sumN a) b := by
  intro a
  induction a with
  | nil => intro b p; simp [Run, sumN]
  | cons x a ih =>
    intro b p
    simp only [List.cons_append, Run, ih, sumN, Nat.add_assoc]
    constructor
    · rintro ⟨h1, h2, h3, h4, h5⟩; exact ⟨⟨h1, h2, h3, h4⟩, h5⟩
    · rintro ⟨⟨h1, h2, h3, h4⟩, h5⟩; exact ⟨h1, h2, h3, h4, h5⟩

theorem run_congr {f g : Nat → Int} : ∀ (a : List Nat) (p : Nat), (∀ j, p ≤ j → j < p + sumN a → f j = g j) → Run f p a → Run g p a := by
  intro a
  induction a with
  | nil => intro p _ _; trivial
  | cons x a ih =>
    intro p h hr
    obtain ⟨h1, h2, h3, h4⟩ := hr
    simp only [sumN] at h
    refine ⟨h1, ?_, fun k k1 k2 => ?_, ih _ (fun j j1 j2 => h j (by omega) (by omega)) h4⟩
    · rw [← h p (by omega) (by omega)]; exact h2
    · rw [← h (p + k) (by omega) (by omega)]; exact h3 k k1 k2

/-- s is a run of whole characters. -/
def WF (s : ByteArray) : Prop := ∃ ls, Run (byteAt s) 0 ls ∧ sumN ls = s.size

/-- The character across place 1024. -/
theorem run_across (f : Nat → Int) : ∀ (ls : List Nat) (p : Nat), Run f p ls → p ≤ 1024 → 1024 < p + sumN ls → ∃ a l b, ls = a ++ l :: b ∧ p + sumN a ≤ 1024 ∧ 1024 < p + sumN a + l := by
  intro ls
  induction ls with
  | nil => intro p _ h1 h2; simp [sumN] at h2; omega
  | cons x ls ih =>
    intro p hr h1 h2
    simp only [sumN] at h2
    by_cases hx : 1024 < p + x
    · exact ⟨[], x, ls, rfl, by simpa [sumN] using h1, by simpa [sumN] using hx⟩
    · obtain ⟨a, l, b, e, e1, e2⟩ := ih (p + x) hr.2.2.2 (by omega) (by omega)
      exact ⟨x :: a, l, b, by simp [e], by simp only [sumN]; omega, by simp only [sumN]; omega⟩

/-- A character that lies across place 1024 begins where cut cuts. -/
theorem cutAt_of {s : ByteArray} {i l : Nat} (_h0 : l ≠ 0) (h1 : charLen (byteAt s i) = l) (h2 : ∀ k, 1 ≤ k → k < l → contB (byteAt s (i + k)) = true) (h3 : i ≤ 1024) (h4 : 1024 < i + l) : CutAt s i := by
  have h5 := charLen_le (byteAt s i)
  refine ⟨by omega, h3, fun j a b => ?_, .inr ?_⟩
  · have := h2 (j - i) (by omega) (by omega)
    rw [show i + (j - i) = j by omega] at this
    exact this
  · exact charLen_lead _ (byteAt_range s i).1 (by omega)

theorem byteAt_cut_lt (s : ByteArray) (n j : Nat) (h : n ≤ s.size) (hj : j < n) : byteAt (cutTo s n) j = byteAt s j := by
  have h1 : j < (s.extract 0 n ++ mark).size := by have := cutTo_size s n h; unfold cutTo at this; omega
  show byteAt (s.extract 0 n ++ mark) j = _
  rw [← byteAt_get _ j h1, ← byteAt_get s j (by omega)]
  rw [ByteArray.getElem_append_left (by rw [extract_size s n h]; exact hj)]
  rw [ByteArray.getElem_extract]
  simp
theorem byteAt_cut_ge (s : ByteArray) (n j : Nat) (h : n ≤ s.size) (hj : j < 5) : byteAt (cutTo s n) (n + j) = byteAt mark j := by
  have h1 : n + j < (s.extract 0 n ++ mark).size := by have := cutTo_size s n h; unfold cutTo at this; omega
  show byteAt (s.extract 0 n ++ mark) (n + j) = _
  rw [← byteAt_get _ (n + j) h1, ← byteAt_get mark j (by rw [mark_size]; exact hj)]
  rw [ByteArray.getElem_append_right (by rw [extract_size s n h]; omega)]
  simp only [extract_size s n h, Nat.add_sub_cancel_left]
theorem mark_len : ∀ j : Fin 5, charLen (byteAt mark j.val) = 1 := by decide +kernel

theorem wf_cut (s : ByteArray) (h : WF s) (hs : 1024 < s.size) : WF (cutTo s (cutN s)) := by
  obtain ⟨ls, hr, hl⟩ := h
  obtain ⟨a, l, b, rfl, e1, e2⟩ := run_across _ ls 0 hr (by omega) (by omega)
  simp only [Nat.zero_add] at e1 e2
  rw [run_append] at hr
  obtain ⟨ra, rb⟩ := hr
  simp only [Nat.zero_add] at rb
  have hc := cutAt_eq (cutAt_of rb.1 rb.2.1 rb.2.2.1 e1 e2)
  have hn : cutN s ≤ s.size := by omega
  rw [← hc] at hn ⊢
  refine ⟨a ++ [1, 1, 1, 1, 1], ?_, ?_⟩
  · rw [run_append]
    refine ⟨run_congr a 0 (fun j _ j2 => (byteAt_cut_lt s _ j hn (by omega)).symm) ra, ?_⟩
    simp only [Nat.zero_add]
    have m0 := byteAt_cut_ge s _ 0 hn (by omega)
    have m1 := byteAt_cut_ge s _ 1 hn (by omega)
    have m2 := byteAt_cut_ge s _ 2 hn (by omega)
    have m3 := byteAt_cut_ge s _ 3 hn (by omega)
    have m4 := byteAt_cut_ge s _ 4 hn (by omega)
    simp only [Nat.add_zero] at m0
    refine ⟨by omega, by rw [m0]; exact mark_len 0, fun k a b => absurd a (by omega), by omega, by rw [m1]; exact mark_len 1, fun k a b => absurd a (by omega), by omega, by rw [m2]; exact mark_len 2, fun k a b => absurd a (by omega), by omega, by rw [m3]; exact mark_len 3, fun k a b => absurd a (by omega), by omega, by rw [m4]; exact mark_len 4, fun k a b => absurd a (by omega), trivial⟩
  · rw [sumN_append, cutTo_size s _ hn]
    rfl

theorem wf_cutF (s : ByteArray) (h : WF s) : WF (cutF s) := by
  unfold cutF
  by_cases hs : s.size ≤ 1024
  · rw [if_pos hs]; exact h
  · rw [if_neg hs]; exact wf_cut s h (by omega)

theorem cutF_size (s : ByteArray) : (cutF s).size ≤ 1029 ∧ (1024 < (cutF s).size ↔ 1024 < s.size) := by
  unfold cutF
  by_cases hs : s.size ≤ 1024
  · rw [if_pos hs]; omega
  · rw [if_neg hs]
    have hc := cutN_cutAt s
    have h1 := hc.1
    have h2 := hc.2.1
    rw [cutTo_size s _ (by omega)]
    omega
end Go.Proofs.Qxb6609510a
