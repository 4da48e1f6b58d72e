import Derived.Test.Qxb6609472aAll
import Derived.Test.Qxb6609472aGwA
namespace Go.Proofs.Qxb6609472a
open Go.RowKit

/-- How many of the first k grants are of the group id. -/
def cnt (gg : List ByteArray) (id : ByteArray) (k : Nat) : Nat := ((List.range k).filter fun i => decide (gg.getD i ByteArray.empty = id)).length
theorem cnt_zero (gg : List ByteArray) (id : ByteArray) : cnt gg id 0 = 0 := rfl
theorem cnt_succ (gg : List ByteArray) (id : ByteArray) (k : Nat) : cnt gg id (k + 1) = cnt gg id k + (if gg.getD k ByteArray.empty = id then 1 else 0) := by
  unfold cnt
  rw [List.range_succ, List.filter_append, List.length_append]
  by_cases h : gg.getD k ByteArray.empty = id
  · simp only [List.filter_cons, h, decide_true, if_true, List.filter_nil, List.length_cons, List.length_nil]
  · simp only [List.filter_cons, h, decide_false, if_false, List.filter_nil]
    simp
theorem cnt_le (gg : List ByteArray) (id : ByteArray) (k : Nat) : cnt gg id k ≤ k := by
  have := List.length_filter_le (fun i => decide (gg.getD i ByteArray.empty = id)) (List.range k)
  simpa [cnt] using this
theorem cnt_none {gg : List ByteArray} {id : ByteArray} {k : Nat} (h : ∀ i, i < k → gg.getD i ByteArray.empty ≠ id) : cnt gg id k = 0 := by
  induction k with
  | zero => rfl
  | succ k ih => rw [cnt_succ, ih (fun i hi => h i (by omega)), if_neg (h k (by omega))]

theorem gkUp_count {names gg rr oo : List ByteArray} {id : ByteArray} {j k : Nat} (h : names.getD j ByteArray.empty = id) : (gkUp names gg rr oo k j).length = cnt gg id k := by
  induction k with
  | zero => rfl
  | succ k ih =>
    rw [gkUp_step, List.length_append, ih, cnt_succ, h]
    split <;> simp
theorem gkUp_mem {names gg rr oo : List ByteArray} {k j : Nat} {x : ByteArray × ByteArray} (h : x ∈ gkUp names gg rr oo k j) : ∃ i, i < k ∧ gg.getD i ByteArray.empty = names.getD j ByteArray.empty ∧ x.1 = rr.getD i ByteArray.empty ∧ x.2 = oo.getD i ByteArray.empty := by
  unfold gkUp at h
  rw [List.mem_filterMap] at h
  obtain ⟨i, hi, he⟩ := h
  rw [List.mem_range] at hi
  split at he
  · next hg => cases he; exact ⟨i, hi, hg, rfl, rfl⟩
  · cases he
theorem gkUp_nodup {names gg rr oo : List ByteArray} {k j : Nat} (h : Apart gg rr oo k) : (gkUp names gg rr oo k j).Nodup := by
  unfold gkUp List.Nodup
  rw [List.pairwise_filterMap]
  refine List.pairwise_iff_getElem.2 fun a b ha hb hab x hx y hy e => ?_
  rw [List.getElem_range] at hx hy
  rw [List.length_range] at hb
  split at hx
  · next h1 =>
    split at hy
    · next h2 =>
      cases hx; cases hy
      exact h a b hab hb ⟨h1.trans h2.symm, congrArg Prod.fst e, congrArg Prod.snd e⟩
    · cases hy
  · cases hx
theorem uptoR_all (xs : List (ByteArray × ByteArray)) (grp : ByteArray) : uptoR xs grp xs.length = xs.map fun g => (g.1, g.2, grp) := by
  unfold uptoR; rw [List.take_length]
theorem uptoR_nodup {xs : List (ByteArray × ByteArray)} {grp : ByteArray} (h : xs.Nodup) : (uptoR xs grp xs.length).Nodup := by
  rw [uptoR_all]
  unfold List.Nodup at *
  rw [List.pairwise_map]
  refine List.pairwise_iff_getElem.2 fun i j hi hj hij e => ?_
  have hne := (List.pairwise_iff_getElem.1 h) i j hi hj hij
  generalize xs[i] = a at e hne
  generalize xs[j] = b at e hne
  exact hne (by cases a; cases b; simp at e ⊢; exact e)

/-- What f5 finds in the rights. -/
def GotLaw (gg rr oo : List ByteArray) (L : Nat) (kd : Int) (id : ByteArray) (ys : List R3) : Prop :=
  ys.length = (if kd = 3 then cnt gg id L else 0) ∧
  (∀ k (h : k < ys.length), ys[k].2.2 = ByteArray.empty ∧ ∃ i, i < L ∧ gg.getD i ByteArray.empty = id ∧ ys[k].1 = rr.getD i ByteArray.empty ∧ ys[k].2.1 = oo.getD i ByteArray.empty) ∧
  (∀ k (h : k + 1 < ys.length), beforeR ys[k].1 ys[k].2.1 ys[k + 1].1 ys[k + 1].2.1 = true)

theorem got_law {G L : Nat} {names gg rr oo : List ByteArray} {kd : Int} {id : ByteArray} {xs ys : List R3} (hK : ∀ i, i < L → ∃ j, j < G ∧ names.getD j ByteArray.empty = gg.getD i ByteArray.empty) (hA : Apart gg rr oo L)
    (hG : Gives G names (gkUp names gg rr oo L) kd id xs) (hp : ys.Perm xs) (hs : ∀ i j (_ : i < j) (hj : j < ys.length), lexR ys[j] ys[i] = false) : GotLaw gg rr oo L kd id ys := by
  rcases hG with ⟨hk, rfl⟩ | ⟨hk, rfl, hn⟩ | ⟨hk, j, hj, hn, rfl⟩
  · obtain rfl := hp.eq_nil
    exact ⟨by simp [hk], fun k h => by simp at h, fun k h => by simp at h⟩
  · obtain rfl := hp.eq_nil
    refine ⟨?_, fun k h => by simp at h, fun k h => by simp at h⟩
    rw [if_pos hk, cnt_none]
    · rfl
    · intro i hi e
      obtain ⟨j, hj, he⟩ := hK i hi
      exact hn j hj (he.trans e)
  · have hm : ∀ k (h : k < ys.length), ys[k].2.2 = ByteArray.empty ∧ ∃ i, i < L ∧ gg.getD i ByteArray.empty = id ∧ ys[k].1 = rr.getD i ByteArray.empty ∧ ys[k].2.1 = oo.getD i ByteArray.empty := by
      intro k h
      have h1 := hp.mem_iff.1 (List.getElem_mem h)
      rw [uptoR_all, List.mem_map] at h1
      obtain ⟨x, hx, e⟩ := h1
      obtain ⟨i, hi, h2, h3, h4⟩ := gkUp_mem hx
      rw [← e]
      exact ⟨rfl, i, hi, h2.trans hn, h3, h4⟩
    refine ⟨?_, hm, fun k h => ?_⟩
    · rw [hp.length_eq, if_pos hk, uptoR_length (Nat.le_refl _), gkUp_count hn]
    · have hnd : ys.Nodup := hp.nodup_iff.2 (uptoR_nodup (gkUp_nodup hA))
      have hne : ys[k] ≠ ys[k + 1] := fun e => by
        have := (List.pairwise_iff_getElem.1 hnd) k (k + 1) (by omega) h (by omega)
        exact this e
      have h1 := hs k (k + 1) (by omega) h
      have h2 : lexR ys[k] ys[k + 1] = true := by
        cases h3 : lexR ys[k] ys[k + 1] with
        | true => rfl
        | false => exact absurd (lex_tri h3 h1) hne
      have e1 := (hm k (by omega)).1
      have e2 := (hm (k + 1) h).1
      unfold lexR at h2
      rw [e1, e2] at h2
      unfold beforeR
      have hi : Op.bytesLess [] [] = false := bl_irrefl _
      simpa [hi] using h2
end Go.Proofs.Qxb6609472a
