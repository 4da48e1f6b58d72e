/-
  THE PROOF OF 'Rows.FnRightsOfAGroupAreItsGrantsSortedSaid'. The frame follows the guide's way (howto/template/XProofs.lean; the shells of proof-skeleton.mjs) at this function's number and types; the walk stands in Qxb6609472aFiveB.
-/
import Derived.Test.Qxb6609472aRows
import Derived.Test.Qxb6609472aFrame
import Derived.Test.Qxb6609472aFiveB
namespace Go.Proofs.Qxb6609472a.fnRightsOfAGroupAreItsGrantsSorted
open Go.ChangeShapes Go.WideShapes Go.ChangeAt Go.RowKit
open Go.ChangeMaps (open_string shut_string)
set_option linter.unusedVariables false

/-! ### THE ROW's STEP -/
set_option maxRecDepth 100000 in
theorem lifted (os : Os) (started : os.Started) (H : Type) (enc : TypeId × Value → H) :
    ReturnsInHanded {} Try.checked os 5 .any (Rows.fnRightsOfAGroupAreItsGrantsSortedSpec.pre6 enc Try.prog Try.f5 Rows.fnRightsOfAGroupAreItsGrantsSortedRow.domain false) (Rows.fnRightsOfAGroupAreItsGrantsSortedSpec.post enc Try.prog Try.f5 false true false false) := by
  refine returnsInHanded_of_change (C := Try.checked) own5 started (by kernel_rfl) Try.func5
    (ChangeSpec.witness6 (enc := enc) (C := Try.checked) false ⟨#[], #[.slice none 0 0, .slice none 0 0, .slice none 0 0, .slice none 0 0, .slice none 0 0, .slice none 0 0, .int .i64 0, .string ⟨#[]⟩], []⟩ 8 (by kernel_rfl) (by kernel_rfl) (by kernel_rfl) (by kernel_rfl)) ?_
  intro W base args ds gs before hval0 hW hcnd _
  have hval : ∀ (j : Nat) t v, Try.f5.params[j]? = some t → args[j]? = some v → Value.okWide Try.prog W .any base t v := hval0
  have hW' := hW
  obtain ⟨p, q, hA0, hV, rfl, hfz, hnd⟩ := hW
  have hA : DataW.TrodAll enc Try.prog W 0 (fun _ => true) true Try.f5.params.toList args.toList ds p := hA0
  rw [Try.params5] at hA hval
  obtain ⟨v0, vs0, d0, ds0, p0, q0, hargs, rfl, rfl, h0, r0⟩ := trodAll_cons hA
  obtain ⟨v1, vs1, d1, ds1, p1, q1, rfl, rfl, rfl, h1, r1⟩ := trodAll_cons r0
  obtain ⟨v2, vs2, d2, ds2, p2, q2, rfl, rfl, rfl, h2, r2⟩ := trodAll_cons r1
  obtain ⟨v3, vs3, d3, ds3, p3, q3, rfl, rfl, rfl, h3, r3⟩ := trodAll_cons r2
  obtain ⟨v4, vs4, d4, ds4, p4, q4, rfl, rfl, rfl, h4, r4⟩ := trodAll_cons r3
  obtain ⟨v5, vs5, d5, ds5, p5, q5, rfl, rfl, rfl, h5, r5⟩ := trodAll_cons r4
  obtain ⟨v6, vs6, d6, ds6, p6, q6, rfl, rfl, rfl, h6, r6⟩ := trodAll_cons r5
  obtain ⟨v7, vs7, d7, ds7, p7, q7, rfl, rfl, rfl, h7, r7⟩ := trodAll_cons r6
  obtain ⟨rfl, rfl, rfl⟩ := trodAll_nil r7
  obtain rfl : args = #[v0, v1, v2, v3, v4, v5, v6, v7] := by cases args; simp_all
  obtain ⟨rfl, rfl⟩ := trodVars_none hV
  have k0 := h0
  obtain ⟨a0, l0, c0, s0, rfl, m0, w0, lt0⟩ := open_row (hval 0 27 v0 rfl rfl) h0
  have k1 := h1
  obtain ⟨a1, l1, c1, s1, rfl, m1, w1, lt1⟩ := open_row (hval 1 27 v1 rfl rfl) h1
  have k2 := h2
  obtain ⟨a2, l2, c2, s2, rfl, m2, w2, lt2⟩ := open_row (hval 2 27 v2 rfl rfl) h2
  have k3 := h3
  obtain ⟨a3, l3, c3, s3, rfl, m3, w3, lt3⟩ := open_row (hval 3 27 v3 rfl rfl) h3
  have k4 := h4
  obtain ⟨a4, l4, c4, s4, rfl, m4, w4, lt4⟩ := open_row (hval 4 27 v4 rfl rfl) h4
  have k5 := h5
  obtain ⟨a5, l5, c5, s5, rfl, m5, w5, lt5⟩ := open_row (hval 5 27 v5 rfl rfl) h5
  obtain ⟨kd, rfl, rfl, rfl, w6⟩ := open_int Try.underlying3 (hval 6 3 v6 rfl rfl) h6
  obtain ⟨id, rfl, rfl, rfl, w7⟩ := open_string Try.underlying9 (hval 7 9 v7 rfl rfl) h7
  clear hA0 hval0
  refine (five_any a0 a1 a2 a3 a4 a5 l0 l1 l2 l3 l4 l5 c0 c1 c2 c3 c4 c5 s0 s1 s2 s3 s4 s5 kd id W w7 (by unfold maxLen at m0; omega) (by unfold maxLen at m1; omega) (by unfold maxLen at m2; omega) (by unfold maxLen at m3; omega) (by unfold maxLen at m4; omega) (by unfold maxLen at m5; omega) w0 w1 w2 w3 w4 w5).mono fun e W' ⟨he, bel⟩ => ?_
  subst he
  exact ⟨_, rfl, _, _, _, [], _, [], hW', trodAll_mk1 (shut_bool Try.underlying4 _), (trodAll_cons_mk (Below.trod laidOut5 (by kernel_rfl) (of_decide_eq_true (by kernel_rfl)) k0 bel lt0) (trodAll_cons_mk (Below.trod laidOut5 (by kernel_rfl) (of_decide_eq_true (by kernel_rfl)) k1 bel lt1) (trodAll_cons_mk (Below.trod laidOut5 (by kernel_rfl) (of_decide_eq_true (by kernel_rfl)) k2 bel lt2) (trodAll_cons_mk (Below.trod laidOut5 (by kernel_rfl) (of_decide_eq_true (by kernel_rfl)) k3 bel lt3) (trodAll_cons_mk (Below.trod laidOut5 (by kernel_rfl) (of_decide_eq_true (by kernel_rfl)) k4 bel lt4) (trodAll_cons_mk (Below.trod laidOut5 (by kernel_rfl) (of_decide_eq_true (by kernel_rfl)) k5 bel lt5) (trodAll_cons_mk (shut_int Try.underlying3 w6) (trodAll_cons_mk (shut_string Try.underlying9 w7) trodAll_mk0)))))))), rfl, bel.frame _, fun h => by cases h⟩

theorem over : Rows.fnRightsOfAGroupAreItsGrantsSortedRow.holds Try.pinned (OpenSpec.ofChange Rows.fnRightsOfAGroupAreItsGrantsSortedSpec) :=
  OpenClaim.holds_of_wide 5 Try.f5 rfl rfl rfl rfl rfl rfl rfl ⟨rfl, rfl, rfl, rfl, rfl⟩ rfl rfl rfl rfl rfl (by kernel_rfl) Try.func5 (by kernel_rfl)
    (of_decide_eq_true (by kernel_rfl)) (by unfold Func.isWrapper; first | (rw [if_pos (by decide +kernel)]; kernel_rfl) | (rw [if_neg (by decide +kernel)]; exact ⟨rfl, rfl⟩))
    (fun os started H enc _ => lifted os started H enc)

/-- THE STATEMENT -/
theorem proved : Rows.FnRightsOfAGroupAreItsGrantsSortedSaid := over
#print axioms proved
end Go.Proofs.Qxb6609472a.fnRightsOfAGroupAreItsGrantsSorted
