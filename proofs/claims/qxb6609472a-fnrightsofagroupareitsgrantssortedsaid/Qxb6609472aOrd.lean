import Derived.Test.Qxb6609472aStrs
import Derived.Outline
namespace Go.Proofs.Qxb6609472a
open Go.RowKit

/-- The first of three that is not nought. -/
def or3 (x y z : Int) : Int := if x = 0 then (if y = 0 then z else y) else x

theorem ret_i {k : IntKind} {a b : Int} (h : a = b) : Ending.returned (.int k a) = .returned (.int k b) := by rw [h]

theorem or_any (g : Nat) (x y z : Int) (w : World) (h0 : w.cell? ⟨g, 0, none⟩ = some (.int .i64 x)) (h1 : w.cell? ⟨g, 1, none⟩ = some (.int .i64 y)) (h2 : w.cell? ⟨g, 2, none⟩ = some (.int .i64 z)) :
    Calls Try.prog 22 #[.slice (some ⟨g, 0, none⟩) 3 3] w fun e w' => e = .returned (.int .i64 (or3 x y z)) ∧ w' = w := by
  unfold or3
  by_cases c0 : x = 0
  · rw [if_pos c0]
    subst c0
    by_cases c1 : y = 0
    · rw [if_pos c1]
      subst c1
      by_cases c2 : z = 0
      · subst c2
        go_enter Try.func22, Try.ntmps22
        go_wp2
        refine wp_loop_rounds 4 ?_
        rw [rounds_succ]
        go_wp2
        rw [rounds_succ]
        go_wp2
        rw [rounds_succ]
        go_wp2
        rw [rounds_succ]
        go_wp2
        go_ret
        exact ⟨rfl, rfl⟩
      · have e2 : (z == 0) = false := by simp [c2]
        have e2' : (z != 0) = true := by simp [c2]
        go_enter Try.func22, Try.ntmps22
        go_wp2
        refine wp_loop_rounds 4 ?_
        rw [rounds_succ]
        go_wp2
        rw [rounds_succ]
        go_wp2
        rw [rounds_succ]
        go_wp2
        go_ret
        exact ⟨rfl, rfl⟩
    · rw [if_neg c1]
      have e1' : (y != 0) = true := by simp [c1]
      go_enter Try.func22, Try.ntmps22
      go_wp2
      refine wp_loop_rounds 4 ?_
      rw [rounds_succ]
      go_wp2
      rw [rounds_succ]
      go_wp2
      go_ret
      exact ⟨rfl, rfl⟩
  · rw [if_neg c0]
    have e0' : (x != 0) = true := by simp [c0]
    go_enter Try.func22, Try.ntmps22
    go_wp2
    refine wp_loop_rounds 4 ?_
    rw [rounds_succ]
    go_wp2
    go_ret
    exact ⟨rfl, rfl⟩

/-- How two rights are compared. -/
def cmpR (x y : ByteArray × ByteArray × ByteArray) : Int := or3 (cmpS x.1 y.1) (cmpS x.2.1 y.2.1) (cmpS x.2.2 y.2.2)

set_option maxHeartbeats 1000000 in
theorem closure21 (x0 x1 x2 y0 y1 y2 : ByteArray) (w : World) :
    Calls Try.prog 21 #[.agg #[.string x0, .string x1, .string x2], .agg #[.string y0, .string y1, .string y2]] w fun e w' => e = .returned (.int .i64 (cmpR (x0, x1, x2) (y0, y1, y2))) ∧
      w' = (((w.alloc (.cells #[.string x0, .string x1, .string x2] 42)).alloc (.cells #[.string y0, .string y1, .string y2] 42)).alloc (.cells #[.int .i64 (cmpS x0 y0), .int .i64 (cmpS x1 y1), .int .i64 (cmpS x2 y2)] 3)).drew := by
  unfold cmpR
  obtain ⟨r0, hr0⟩ : ∃ r, r = cmpS x0 y0 := ⟨_, rfl⟩
  obtain ⟨r1, hr1⟩ : ∃ r, r = cmpS x1 y1 := ⟨_, rfl⟩
  obtain ⟨r2, hr2⟩ : ∃ r, r = cmpS x2 y2 := ⟨_, rfl⟩
  have C0 : Hid (∀ w : World, Calls Try.prog 23 #[.string x0, .string y0] w fun e w' => e = .returned (.int .i64 r0) ∧ w' = w) := fun w => by rw [hr0]; exact compare_str _ _ w
  have C1 : Hid (∀ w : World, Calls Try.prog 23 #[.string x1, .string y1] w fun e w' => e = .returned (.int .i64 r1) ∧ w' = w) := fun w => by rw [hr1]; exact compare_str _ _ w
  have C2 : Hid (∀ w : World, Calls Try.prog 23 #[.string x2, .string y2] w fun e w' => e = .returned (.int .i64 r2) ∧ w' = w) := fun w => by rw [hr2]; exact compare_str _ _ w
  simp only [← hr0, ← hr1, ← hr2]
  clear hr0 hr1 hr2
  go_enter Try.func21, Try.ntmps21
  go_wp2
  obtain ⟨W, hW⟩ : ∃ W, W = (w.alloc (.cells #[.string x0, .string x1, .string x2] 42)).alloc (.cells #[.string y0, .string y1, .string y2] 42) := ⟨_, rfl⟩
  have k0 : W.cell? ⟨w.heap.size, 0, none⟩ = some (.string x0) := by rw [hW, World.cell?_alloc_lt _ _ _ (by simp)]; simp
  have k1 : W.cell? ⟨w.heap.size, 1, none⟩ = some (.string x1) := by rw [hW, World.cell?_alloc_lt _ _ _ (by simp)]; simp
  have k2 : W.cell? ⟨w.heap.size, 2, none⟩ = some (.string x2) := by rw [hW, World.cell?_alloc_lt _ _ _ (by simp)]; simp
  have c0 : W.cell? ⟨w.heap.size + 1, 0, none⟩ = some (.string y0) := by rw [hW]; simp
  have c1 : W.cell? ⟨w.heap.size + 1, 1, none⟩ = some (.string y1) := by rw [hW]; simp
  have c2 : W.cell? ⟨w.heap.size + 1, 2, none⟩ = some (.string y2) := by rw [hW]; simp
  rw [← hW]
  have HW : Hid (W = (w.alloc (.cells #[.string x0, .string x1, .string x2] 42)).alloc (.cells #[.string y0, .string y1, .string y2] 42)) := hW
  clear hW
  go_region_held3 (fun w' => w'.cell? ⟨w.heap.size, 0, none⟩ = some (.string x0) ∧ w'.cell? ⟨w.heap.size, 1, none⟩ = some (.string x1) ∧ w'.cell? ⟨w.heap.size, 2, none⟩ = some (.string x2) ∧ w'.cell? ⟨w.heap.size + 1, 0, none⟩ = some (.string y0) ∧ w'.cell? ⟨w.heap.size + 1, 1, none⟩ = some (.string y1) ∧ w'.cell? ⟨w.heap.size + 1, 2, none⟩ = some (.string y2))
    (go_keep)
    (first
      | (go_at_call 22; refine (or_any _ r0 r1 r2 _ (by simp) (by simp) (by simp)).mono ?_; rintro e w' ⟨rfl, rfl⟩)
      | (go_at_call_of 23 (Value.string x0); refine (C0.out _).mono ?_; rintro e w' ⟨rfl, rfl⟩)
      | (go_at_call_of 23 (Value.string x1); refine (C1.out _).mono ?_; rintro e w' ⟨rfl, rfl⟩)
      | (go_at_call_of 23 (Value.string x2); refine (C2.out _).mono ?_; rintro e w' ⟨rfl, rfl⟩))
  go_wp2
  go_ret
  exact ⟨rfl, by rw [HW.out]⟩
end Go.Proofs.Qxb6609472a
