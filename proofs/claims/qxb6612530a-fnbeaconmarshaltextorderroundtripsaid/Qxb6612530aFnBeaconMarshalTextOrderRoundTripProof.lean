/-
  THE PROOF OF 'Rows.FnBeaconMarshalTextOrderRoundTripSaid'. The frame follows the guide's way (howto/template/XProofs.lean; the shells of proof-skeleton.mjs) at this function's number and types; the walk stands in Qxb6612530aMain.
-/
import Derived.Test.Qxb6612530aRows
import Derived.Test.Qxb6612530aMain
import Derived.WalkKit
import Derived.ProofKit
import Derived.OpenShut
import Derived.ShutString
import Derived.ChangeOld
import Derived.Below
namespace Go.Proofs.Qxb6612530a.fnBeaconMarshalTextOrderRoundTrip
open Go.ChangeShapes Go.WideShapes Go.ChangeAt Go.RowKit
set_option linter.unusedVariables false

theorem own : ownKnob Try.prog.godebug = none := by kernel_rfl
theorem laidOut : laidOutB Try.prog = true := by kernel_rfl
theorem cells22 : Try.prog.cellsOf 22 = 32 := by kernel_rfl
theorem cells5 : Try.prog.cellsOf 5 = 1 := by kernel_rfl

theorem okWide_array {P : Program} {w : World} {r : Reach} {base : Nat} {t e : TypeId} {n : Nat} {v : Value} (ht : P.underlying t = some (.array n e)) (h : Value.okWide P w r base t v) : ∃ cs, v = .agg cs ∧ cs.size = P.cellsOf t := by
  simp only [Value.okWide, ht] at h
  obtain ⟨cs, h1, h2, _⟩ := h
  exact ⟨cs, h1, h2⟩

/-- An array of 32 bytes that came in, opened. -/
theorem open_beacon {H : Type} {enc : TypeId × Value → H} {W : World} {base : Nat} {v : Value} {d : DataW H} {p : List MemPlace} (hv : Value.okWide Try.prog W .any base 22 v) (h : DataW.Trod enc Try.prog W 0 (fun _ => true) true 22 v d p) :
    ∃ A : List Int, v = .agg (arr A) ∧ A.length = 32 ∧ Bytes A := by
  obtain ⟨cs, rfl, hsz⟩ := okWide_array Try.underlying22 hv
  rw [cells22] at hsz
  obtain ⟨fuel, hf⟩ := h
  obtain ⟨xs, m, _, _, _, hxl, hF⟩ := DataW.trod_array Try.underlying22 hf
  have one : ∀ i, i < 32 → ∃ n : Int, cs[i]? = some (.int .u8 n) ∧ 0 ≤ n ∧ n < 256 := by
    intro i hi
    have h := hF i hi
    rw [cells5, Nat.mul_one, List.getElem?_eq_getElem (by omega)] at h
    obtain ⟨n, hn, _, hw⟩ := DataW.trod_int Try.underlying5 h
    have hb := bounds_u8 hw
    refine ⟨n, ?_, by omega, by omega⟩
    have hcl : (Value.agg cs).cells.toList = cs.toList := by simp [Value.cells]
    rw [hcl] at hn
    have := congrArg (fun l => l[0]?) hn
    simpa using this
  refine ⟨cs.toList.map (fun v => intOf v), ?_, by simpa using hsz, ?_⟩
  · congr 1
    apply Array.ext_getElem?
    intro j
    by_cases hj : j < 32
    · obtain ⟨n, hn, _⟩ := one j hj
      rw [hn]
      simp [arr, hn, intOf]
    · rw [Array.getElem?_eq_none (by omega), Array.getElem?_eq_none (by simp [arr]; omega)]
  · intro i
    by_cases hi : i < 32
    · obtain ⟨n, hn, h0, h1⟩ := one i hi
      rw [List.getD_eq_getElem?_getD]
      simp [hn, intOf]
      omega
    · rw [List.getD_eq_getElem?_getD, List.getElem?_eq_none (by simp; omega)]
      simp

/-! ### THE ROW's STEP -/
set_option maxRecDepth 100000 in
theorem lifted (os : Os) (started : os.Started) (H : Type) (enc : TypeId × Value → H) :
    ReturnsInHanded {} Try.checked os 3 .any (Rows.fnBeaconMarshalTextOrderRoundTripSpec.pre6 enc Try.prog Try.f3 Rows.fnBeaconMarshalTextOrderRoundTripRow.domain false) (Rows.fnBeaconMarshalTextOrderRoundTripSpec.post enc Try.prog Try.f3 false true false false) := by
  refine returnsInHanded_of_change (C := Try.checked) own started (by kernel_rfl) Try.func3
    (ChangeSpec.witness6 (enc := enc) (C := Try.checked) false ⟨#[], #[.agg #[.int .u8 0, .int .u8 0, .int .u8 0, .int .u8 0, .int .u8 0, .int .u8 0, .int .u8 0, .int .u8 0, .int .u8 0, .int .u8 0, .int .u8 0, .int .u8 0, .int .u8 0, .int .u8 0, .int .u8 0, .int .u8 0, .int .u8 0, .int .u8 0, .int .u8 0, .int .u8 0, .int .u8 0, .int .u8 0, .int .u8 0, .int .u8 0, .int .u8 0, .int .u8 0, .int .u8 0, .int .u8 0, .int .u8 0, .int .u8 0, .int .u8 0, .int .u8 0], .agg #[.int .u8 0, .int .u8 0, .int .u8 0, .int .u8 0, .int .u8 0, .int .u8 0, .int .u8 0, .int .u8 0, .int .u8 0, .int .u8 0, .int .u8 0, .int .u8 0, .int .u8 0, .int .u8 0, .int .u8 0, .int .u8 0, .int .u8 0, .int .u8 0, .int .u8 0, .int .u8 0, .int .u8 0, .int .u8 0, .int .u8 0, .int .u8 0, .int .u8 0, .int .u8 0, .int .u8 0, .int .u8 0, .int .u8 0, .int .u8 0, .int .u8 0, .int .u8 0]], []⟩ 8 (by kernel_rfl) (by kernel_rfl) (by kernel_rfl) (by kernel_rfl)) ?_
  intro W base args ds gs before hval0 hW hcnd _
  have hval : ∀ (j : Nat) t v, Try.f3.params[j]? = some t → args[j]? = some v → Value.okWide Try.prog W .any base t v := hval0
  have hW' := hW
  obtain ⟨p, q, hA0, hV, rfl, hfz, hnd⟩ := hW
  have hA : DataW.TrodAll enc Try.prog W 0 (fun _ => true) true Try.f3.params.toList args.toList ds p := hA0
  rw [Try.params3] at hA hval
  obtain ⟨v0, vs0, d0, ds0, p0, q0, hargs, rfl, rfl, h0, r0⟩ := trodAll_cons hA
  obtain ⟨v1, vs1, d1, ds1, p1, q1, rfl, rfl, rfl, h1, r1⟩ := trodAll_cons r0
  obtain ⟨rfl, rfl, rfl⟩ := trodAll_nil r1
  obtain rfl : args = #[v0, v1] := by cases args; simp_all
  obtain ⟨rfl, rfl⟩ := trodVars_none hV
  have k0 := h0
  have lt0 : ∀ x ∈ p0, x.block < W.heap.size := by obtain ⟨m, hm⟩ := k0; exact DataW.trod_lt m _ _ _ hm
  have k1 := h1
  have lt1 : ∀ x ∈ p1, x.block < W.heap.size := by obtain ⟨m, hm⟩ := k1; exact DataW.trod_lt m _ _ _ hm
  obtain ⟨A, rfl, lA, bA⟩ := open_beacon (hval 0 22 v0 rfl rfl) h0
  obtain ⟨B, rfl, lB, bB⟩ := open_beacon (hval 1 22 v1 rfl rfl) h1
  clear hA0 hval0
  refine (main3 A B W lA lB bA bB).mono fun e W' ⟨he, bel⟩ => ?_
  subst he
  exact ⟨_, rfl, _, _, _, [], _, [], hW', trodAll_mk1 (shut_bool Try.underlying4 _), (trodAll_cons_mk (Below.trod laidOut (by kernel_rfl) (of_decide_eq_true (by kernel_rfl)) k0 bel lt0) (trodAll_cons_mk (Below.trod laidOut (by kernel_rfl) (of_decide_eq_true (by kernel_rfl)) k1 bel lt1) trodAll_mk0)), rfl, bel.frame _, fun h => by cases h⟩

theorem over : Rows.fnBeaconMarshalTextOrderRoundTripRow.holds Try.pinned (OpenSpec.ofChange Rows.fnBeaconMarshalTextOrderRoundTripSpec) :=
  OpenClaim.holds_of_wide 3 Try.f3 rfl rfl rfl rfl rfl rfl rfl ⟨rfl, rfl, rfl, rfl, rfl⟩ rfl rfl rfl rfl rfl (by kernel_rfl) Try.func3 (by kernel_rfl)
    (of_decide_eq_true (by kernel_rfl)) (by unfold Func.isWrapper; first | (rw [if_pos (by decide +kernel)]; kernel_rfl) | (rw [if_neg (by decide +kernel)]; exact ⟨rfl, rfl⟩))
    (fun os started H enc _ => lifted os started H enc)

/-- THE STATEMENT -/
theorem proved : Rows.FnBeaconMarshalTextOrderRoundTripSaid := over
#print axioms proved
end Go.Proofs.Qxb6612530a.fnBeaconMarshalTextOrderRoundTrip
