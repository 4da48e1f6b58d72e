import Derived.Test.Qxb6609472aFiveB
import Derived.WalkKit
import Derived.ProofKit
import Derived.OpenShut
import Derived.ShutString
import Derived.ChangeOld
import Derived.Below
import Derived.SliceStrings
import Derived.Lib.SmallJoins
namespace Go.Proofs.Qxb6609472a
open Go.ChangeShapes Go.WideShapes Go.ChangeAt Go.RowKit
open Go.ChangeMaps (open_string shut_string)

theorem own5 : ownKnob Try.prog.godebug = none := by kernel_rfl
theorem laidOut5 : laidOutB Try.prog = true := by kernel_rfl
theorem cells9' : Try.prog.cellsOf 9 = 1 := by kernel_rfl

/-- A slice of strings that came in, as the walk asks it. -/
theorem rowS_in {w : World} {x : Addr} {len cap : Nat} {ss : List ByteArray} (hl : len ≤ cap) (hz : ss.length = cap) (hc : ∀ i, i < ss.length → w.cell? (x.add i) = some (.string (ss.getD i ByteArray.empty))) (hw : ∀ s ∈ ss, s.size ≤ maxLen) : RowS w (some x) len ss := by
  intro hp
  obtain ⟨b, off, spot⟩ := x
  have hspot : spot = none := by simpa [Addr.add] using World.cell?_spot (hc 0 (by omega))
  subst hspot
  refine ⟨b, off, rfl, fun i hi => ⟨?_, ?_⟩⟩
  · have h := hc i (by omega)
    have e : (⟨b, off, none⟩ : Addr).add i = ⟨b, off + i, none⟩ := by simp [Addr.add]
    rw [e] at h
    exact h
  · have hi' : i < ss.length := by omega
    rw [List.getD_eq_getElem?_getD, List.getElem?_eq_getElem hi']
    exact hw _ (List.getElem_mem hi')

set_option maxRecDepth 100000 in
/-- A slice of strings, opened: its length is small and its cells are strings; it reads the same below. -/
theorem open_row {H : Type} {enc : TypeId × Value → H} {W : World} {base : Nat} {v : Value} {d : DataW H} {p : List MemPlace} (hv : Value.okWide Try.prog W .any base 27 v) (h : DataW.Trod enc Try.prog W 0 (fun _ => true) true 27 v d p) :
    ∃ (a : Option Addr) (len cap : Nat) (ss : List ByteArray), v = .slice a len cap ∧ len ≤ maxLen ∧ RowS W a len ss ∧ (∀ x ∈ p, x.block < W.heap.size) := by
  obtain ⟨a3, len3, cap3, rfl⟩ := okWide_slice Try.underlying27 hv
  have lt3 : ∀ x ∈ p, x.block < W.heap.size := by obtain ⟨m, hm⟩ := h; exact DataW.trod_lt m _ _ _ hm
  obtain ⟨fuel, hf⟩ := h
  rcases open_strings Try.underlying27 Try.underlying9 cells9' hf with ⟨hcs, _⟩ | ⟨x, l, c, ss, hcs, _, hl, hm, hz, _, hcell, hws⟩
  · simp [Value.cells] at hcs
    obtain ⟨rfl, rfl, rfl⟩ := hcs
    exact ⟨_, _, _, [], rfl, Nat.zero_le _, fun hp => absurd hp (by omega), lt3⟩
  · simp [Value.cells] at hcs
    obtain ⟨rfl, rfl, rfl⟩ := hcs
    exact ⟨_, _, _, ss, rfl, Nat.le_trans hl hm, rowS_in hl (by simpa using hz) hcell hws, lt3⟩
end Go.Proofs.Qxb6609472a
