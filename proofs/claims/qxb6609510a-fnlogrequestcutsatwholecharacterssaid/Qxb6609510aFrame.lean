import Derived.Test.Qxb6609510aMain
import Derived.WalkKit
import Derived.ProofKit
import Derived.OpenShut
import Derived.ShutString
import Derived.ChangeOld
import Derived.Below
import Derived.SliceStrings
import Derived.Lib.SmallJoins
namespace Go.Proofs.Qxb6609510a
open Go.ChangeShapes Go.WideShapes Go.ChangeAt Go.RowKit
open Go.ChangeMaps (open_string shut_string)

theorem own : ownKnob Try.prog.godebug = none := by kernel_rfl
theorem laidOut : laidOutB Try.prog = true := by kernel_rfl
theorem cells24 : Try.prog.cellsOf 24 = 6 := by kernel_rfl
theorem cells9 : Try.prog.cellsOf 9 = 1 := by kernel_rfl

theorem array6 {α : Type} {cs : Array α} (h : cs.size = 6) : ∃ c0 c1 c2 c3 c4 c5, cs = #[c0, c1, c2, c3, c4, c5] := by
  obtain ⟨l⟩ := cs
  match l, h with
  | [c0, c1, c2, c3, c4, c5], _ => exact ⟨c0, c1, c2, c3, c4, c5, rfl⟩

/-- A slice of strings that came in, as the walk asks it. -/
theorem rowS_in {w : World} {x : Addr} {len cap : Nat} {ss : List ByteArray} (hl : len ≤ cap) (hz : ss.length = cap) (hc : ∀ i, i < ss.length → w.cell? (x.add i) = some (.string (ss.getD i ByteArray.empty))) (hw : ∀ s ∈ ss, s.size ≤ maxLen) : RowS w (some x) len ss := by
  intro hp
  obtain ⟨b, off, spot⟩ := x
  have hspot : spot = none := by simpa [Addr.add] using World.cell?_spot (hc 0 (by omega))
  subst hspot
  refine ⟨b, off, rfl, fun i hi => ⟨?_, ?_⟩⟩
  · have h := hc i (by omega)
    have e : (⟨b, off, none⟩ : Addr).add i = ⟨b, off + i, none⟩ := by simp [Addr.add]
    rw [e] at h
    exact h
  · have hi' : i < ss.length := by omega
    rw [List.getD_eq_getElem?_getD, List.getElem?_eq_getElem hi']
    exact hw _ (List.getElem_mem hi')

set_option maxRecDepth 100000 in
/-- The struct of six strings, opened. -/
theorem open_perm {H : Type} {enc : TypeId × Value → H} {W : World} {base : Nat} {v : Value} {d : DataW H} {p : List MemPlace} (hv : Value.okWide Try.prog W .any base 24 v) (h : DataW.Trod enc Try.prog W 0 (fun _ => true) true 24 v d p) :
    ∃ p0 p1 p2 p3 p4 p5 : ByteArray, v = .agg #[.string p0, .string p1, .string p2, .string p3, .string p4, .string p5] ∧ p4.size ≤ maxLen := by
  obtain ⟨cs, rfl, hsz⟩ := okWide_struct Try.underlying24 hv
  obtain ⟨c0, c1, c2, c3, c4, c5, rfl⟩ := array6 (hsz.trans cells24)
  obtain ⟨fuel, hf⟩ := h
  obtain ⟨xs, n, _, _, _, hxl, hF⟩ := DataW.trod_struct Try.underlying24 hf
  have hxl' : xs.length = 6 := hxl
  have six : ∀ (i : Nat) (t : TypeId) (o : Nat) (c : Value), i < 6 → (DataW.trod enc Try.prog W 0 (fun _ => true) true n t ((((Value.agg #[c0, c1, c2, c3, c4, c5]).cells.toList).drop o).take (Try.prog.cellsOf t)) = xs[i]?) → t = 9 → (((Value.agg #[c0, c1, c2, c3, c4, c5]).cells.toList).drop o).take 1 = [c] → ∃ s : ByteArray, c = .string s ∧ s.size ≤ maxLen := by
    intro i t o c hi h ht hc
    subst ht
    rw [cells9, hc, List.getElem?_eq_getElem (by omega)] at h
    obtain ⟨s, hs, _, hm⟩ := DataW.trod_string Try.underlying9 h
    simp at hs
    exact ⟨s, hs, hm⟩
  obtain ⟨p0, rfl, _⟩ := six 0 _ _ c0 (by omega) (hF 0 _ rfl) rfl rfl
  obtain ⟨p1, rfl, _⟩ := six 1 _ _ c1 (by omega) (hF 1 _ rfl) rfl rfl
  obtain ⟨p2, rfl, _⟩ := six 2 _ _ c2 (by omega) (hF 2 _ rfl) rfl rfl
  obtain ⟨p3, rfl, _⟩ := six 3 _ _ c3 (by omega) (hF 3 _ rfl) rfl rfl
  obtain ⟨p4, rfl, h4⟩ := six 4 _ _ c4 (by omega) (hF 4 _ rfl) rfl rfl
  obtain ⟨p5, rfl, _⟩ := six 5 _ _ c5 (by omega) (hF 5 _ rfl) rfl rfl
  exact ⟨p0, p1, p2, p3, p4, p5, rfl, h4⟩
end Go.Proofs.Qxb6609510a
