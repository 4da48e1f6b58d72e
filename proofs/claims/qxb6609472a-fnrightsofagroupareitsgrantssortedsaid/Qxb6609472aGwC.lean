import Derived.Test.Qxb6609472aGwB
namespace Go.Proofs.Qxb6609472a
open Go.RowKit

/-- The cells of the world that is made. -/
def wcells (g0 g1 g2 l0 l1 l2 b0 b1 b2 : Nat) : Array Value := #[.slice (some ⟨g0, 0, none⟩) l0 l0, .slice (some ⟨g1, 0, none⟩) l1 l1, .slice none 0 0, .slice none 0 0, .slice (some ⟨g2, 0, none⟩) l2 l2, .slice none 0 0, .map (some b0), .map (some b1), .map none, .map none, .map (some b2), .int .i64 0, .int .i64 0, .map none, .slice none 0 0, .slice none 0 0, .slice none 0 0, .slice none 0 0, .slice none 0 0]

set_option maxRecDepth 8000 in
set_option maxHeartbeats 2000000 in
theorem newWorld_any (g0 g1 g2 l0 l1 l2 b0 b1 b2 : Nat) (w : World) :
    Calls Try.prog 17 #[.slice (some ⟨g0, 0, none⟩) l0 l0, .map (some b0), .slice (some ⟨g1, 0, none⟩) l1 l1, .map (some b1), .slice (some ⟨g2, 0, none⟩) l2 l2, .map (some b2)] w
      fun e w' => e = .returned (.pointer (some ⟨w.heap.size, 0, none⟩)) ∧ w' = w.alloc (.cells (wcells g0 g1 g2 l0 l1 l2 b0 b1 b2) 87) := by
  go_enter Try.func17, Try.ntmps17
  go_wp2_with fail
  go_ret
  exact ⟨rfl, rfl⟩

theorem flat2 (xs : List (ByteArray × ByteArray)) : ∀ i (h : i < xs.length), (xs.flatMap cells2)[i * 2]? = some (.string xs[i].1) ∧ (xs.flatMap cells2)[i * 2 + 1]? = some (.string xs[i].2) := by
  induction xs with
  | nil => intro i h; simp at h
  | cons x xs ih =>
    intro i h
    cases i with
    | zero => simp [cells2]
    | succ i =>
      have := ih i (by simpa using h)
      have e1 : (i + 1) * 2 = i * 2 + 1 + 1 := by omega
      simp only [List.flatMap_cons, cells2, List.cons_append, List.nil_append, e1, List.getElem?_cons_succ, List.getElem_cons_succ]
      exact this

theorem grRow_of {W : World} {base n₀ : Nat} {v : Value} {xs : List (ByteArray × ByteArray)} (h : W.ownsRow base 65 2 v xs.length (xs.flatMap cells2)) (hn : W.heap.size ≤ n₀) : GrRow n₀ W v xs := by
  by_cases h0 : xs = []
  · subst h0
    rcases h.2 with ⟨e, _⟩ | ⟨g, cap, cur, e, hg, hh, _⟩
    · exact .inl ⟨e, rfl⟩
    · exact .inr ⟨g, cap, e, Nat.lt_of_lt_of_le (Array.getElem?_eq_some_iff.1 hh).1 hn, fun i hi => by simp at hi⟩
  · obtain ⟨g, cap, rfl, _, hlt⟩ := h.form (List.length_pos_iff.2 h0)
    refine .inr ⟨g, cap, rfl, by omega, fun i hi => ?_⟩
    have := flat2 xs i hi
    exact ⟨(h.cellAt (i * 2) (by omega)).trans this.1, (h.cellAt (i * 2 + 1) (by omega)).trans this.2⟩

theorem gw_end {wc w3 wr : World} {g sb l2 l3 b0 b1 b2 l0 l1 g0 g1 : Nat} {s2 s3 s4 s5 : List ByteArray} (hc : Below wc.heap.size wc w3) (hi : IdxMap w3 b2 l2 s2) (hL : L4 w3 wr g sb l2 l3 s2 s3 s4 s5) (hsb : sb < wr.heap.size) :
    GwPost wc l2 l3 s2 s3 s4 s5 (.returned (.tuple #[.pointer (some ⟨wr.heap.size, 0, none⟩), .bool true])) (wr.alloc (.cells (wcells g0 g1 g l0 l1 l2 b0 b1 b2) 87)) := by
  obtain ⟨hB, ⟨fs, hmap, hseen⟩, ⟨hR, vs, hvs, hds⟩, hAp, hKn, hgs, hg3⟩ := hL
  have hnew := World.alloc_heap_new wr (.cells (wcells g0 g1 g l0 l1 l2 b0 b1 b2) 87)
  have hsz : (wr.alloc (.cells (wcells g0 g1 g l0 l1 l2 b0 b1 b2) 87)).heap.size = wr.heap.size + 1 := by simp
  have hBa := hB.alloc hB.size (.cells (wcells g0 g1 g l0 l1 l2 b0 b1 b2) 87)
  have hgw := World.grownBy_alloc wr (.cells (wcells g0 g1 g l0 l1 l2 b0 b1 b2) 87) none
  have hi2 := hi.below (idx_lt hi) hBa
  refine ⟨hc.trans (hBa.mono hc.size), .inr ⟨wr.heap.size, g, b2, l2, rfl, ⟨by omega, by omega, ?_, Nat.le_refl _, ?_, ?_, ?_, ?_, hi2, ?_⟩, hAp, hKn⟩⟩
  · exact idx_lt hi2
  · exact cell_of_row _ _ _ _ _ _ hnew
  · exact cell_of_row _ _ _ _ _ _ hnew
  · exact cell_of_row _ _ _ _ _ _ hnew
  · exact cell_of_row _ _ _ _ _ _ hnew
  · intro j hj
    exact ⟨vs j, hgw.cell (hvs j hj).1 (by simp), grRow_of ((hvs j hj).2.kept hgw (by cases h : (vs j).ownBlock <;> simp)) (Nat.le_refl _)⟩
end Go.Proofs.Qxb6609472a
