import Derived.Test.Qxb6609472aGwA
namespace Go.Proofs.Qxb6609472a
open Go.RowKit

theorem rw_lt {W : World} {g : Nat} {t : TypeId} {size n : Nat} (h : Rw W g t size n) : g < W.heap.size := by
  obtain ⟨xs, h⟩ := h
  exact own_lt h

/-- What holds when k grants have been taken in. -/
def L4 (w3 wr : World) (g sb l2 k : Nat) (names gg rr oo : List ByteArray) : Prop :=
  Below w3.heap.size w3 wr ∧ (∃ fs, MapIs 40 4 wr sb k fs ∧ Seen fs gg rr oo k) ∧ GrInv wr g (sb + 1) l2 (gkUp names gg rr oo k) ∧ Apart gg rr oo k ∧ (∀ i, i < k → ∃ j, j < l2 ∧ names.getD j ByteArray.empty = gg.getD i ByteArray.empty) ∧ g < sb ∧ w3.heap.size ≤ g

theorem l4_start {w3 w9 : World} {g l2 : Nat} {names gg rr oo : List ByteArray} (hB : Below w3.heap.size w3 w9) (hR : Rw w9 g 63 6 l2) (hz : Gz w9 g l2) (hg : g < w9.heap.size) (hg3 : w3.heap.size ≤ g) : L4 w3 (w9.alloc (.map #[] 0)) g w9.heap.size l2 0 names gg rr oo := by
  refine ⟨hB.alloc hB.size _, ⟨_, MapIs.made 40 4 w9, fun i hi => by omega, fun x y z v h => by cases h⟩, ⟨?_, fun _ => .slice none 0 0, fun j hj => ⟨?_, ?_⟩, fun i j _ _ _ => .inl rfl⟩, fun i j _ hj => by omega, fun i hi => by omega, hg, hg3⟩
  · obtain ⟨xs, h⟩ := hR
    exact ⟨xs, h.alloc _⟩
  · exact (World.grownBy_alloc w9 _ none).cell (hz j hj) (by simp)
  · exact World.ownsRow_nil _ _ _ _

theorem two_new (W : World) (x : ByteArray × ByteArray) (t : TypeId) : ∀ j u, (cells2 x)[j]? = some u → (W.alloc (.cells #[.string x.1, .string x.2] t)).cell? ((⟨W.heap.size, 0, none⟩ : Addr).add j) = some u :=
  World.news_of_block (cs := #[.string x.1, .string x.2]) (t := t) (fr := (0, 0)) (World.alloc_heap_new W _)

theorem l4_step {w3 W' wa : World} {g sb l2 k j g' cap : Nat} {names gg rr oo : List ByteArray} {tmp : Obj} {vj : Value} {x y z : ByteArray} {vs : Nat → Value} {fs' : Value → Option Value} {f2 : Value → Option Value}
    (HZ : MapIs 40 4 W' sb (k + 1) fs' ∧ Seen fs' gg rr oo (k + 1) ∧ Apart gg rr oo (k + 1) ∧ Rw W' g 63 6 l2 ∧ (∀ j, j < l2 → W'.cell? ⟨g, j * 6 + 4, none⟩ = some (vs j) ∧ W'.ownsRow (sb + 1) 65 2 (vs j) (gkUp names gg rr oo k j).length ((gkUp names gg rr oo k j).flatMap cells2)) ∧ (∀ i j, i < l2 → j < l2 → i ≠ j → (vs i).ownBlock = none ∨ (vs i).ownBlock ≠ (vs j).ownBlock) ∧ Below w3.heap.size w3 W')
    (hv : vj = vs j) (hj : j < l2) (hJ : names.getD j ByteArray.empty = x ∧ ∀ i : Nat, i < l2 → f2 (.string (names.getD i ByteArray.empty)) = some (.int .i64 i))
    (hN : x = gg.getD k ByteArray.empty ∧ y = rr.getD k ByteArray.empty ∧ z = oo.getD k ByteArray.empty)
    (hKn : ∀ i, i < k → ∃ j, j < l2 ∧ names.getD j ByteArray.empty = gg.getD i ByteArray.empty) (hgs : g < sb) (hg3 : w3.heap.size ≤ g)
    (hown : wa.ownsRow (sb + 1) 65 2 (.slice (some ⟨g', 0, none⟩) ((gkUp names gg rr oo k j).length + 1) cap) ((gkUp names gg rr oo k j).length + 1) ((gkUp names gg rr oo k j).flatMap cells2 ++ cells2 (y, z)))
    (hgrow : (W'.alloc tmp).grownBy wa vj.ownBlock) (hat : vj.ownBlock = some g' ∨ g' = W'.heap.size + 1) :
    L4 w3 (wa.setCell ⟨g, j * 6 + 4, none⟩ (.slice (some ⟨g', 0, none⟩) ((gkUp names gg rr oo k j).length + 1) cap)) g sb l2 (k + 1) names gg rr oo := by
  obtain ⟨hm, hs, hA, hR, hvs, hds, hB⟩ := HZ
  obtain ⟨hx, hy, hz⟩ := hN
  have hbl : ∀ b, vj.ownBlock = some b → sb + 1 ≤ b := fun b hb => (own_blk (hvs j hj).2 (hv ▸ hb)).1
  refine ⟨((hB.alloc hB.size _).grown hgrow (hB.alloc hB.size _).size (fun b hb => by have := hbl b hb; omega)).setCell hg3 _, ⟨fs', ?_, hs⟩, ?_, hA, ?_, hgs, hg3⟩
  · have h1 := hm.kept (World.grownBy_alloc W' tmp none) (by simp)
    have h2 := h1.kept hgrow (fun e => by have := hbl sb e.symm; omega)
    exact h2.kept (grown_set wa g (j * 6 + 4) _) (by simp; omega)
  · refine grInv_step (tmp := tmp) hR hvs hds (by omega) hj hv hown hgrow hat ?_ ?_
    · rw [gkUp_step, if_pos (by rw [← hx, hJ.1]), ← hy, ← hz]
    · intro j' hj' hne
      rw [gkUp_step, if_neg, List.append_nil]
      intro e
      rw [← hx, ← hJ.1] at e
      have h1 := hJ.2 j hj
      rw [e, hJ.2 j' hj'] at h1
      simp at h1
      omega
  · intro i hi
    by_cases hik : i < k
    · exact hKn i hik
    · obtain rfl : i = k := by omega
      exact ⟨j, hj, hJ.1.trans hx⟩
end Go.Proofs.Qxb6609472a
