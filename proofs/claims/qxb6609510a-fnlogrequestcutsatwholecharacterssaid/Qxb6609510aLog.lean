import Derived.Test.Qxb6609510aPre
import Derived.RegionTactic
import Derived.Deep.RegionHeld3
import Derived.Deep.QuietTactic
import Derived.BigQuiet
import Derived.Outline
namespace Go.Proofs.Qxb6609510a
open Go.RowKit

/-- "method", "path", "user", "permission". -/
def kMethod : ByteArray := ⟨#[109, 101, 116, 104, 111, 100]⟩
def kPath : ByteArray := ⟨#[112, 97, 116, 104]⟩
def kUser : ByteArray := ⟨#[117, 115, 101, 114]⟩
def kPerm : ByteArray := ⟨#[112, 101, 114, 109, 105, 115, 115, 105, 111, 110]⟩

theorem lt_of_cell {w : World} {b o : Nat} {v : Value} (h : w.cell? ⟨b, o, none⟩ = some v) : b < w.heap.size := by
  rcases Nat.lt_or_ge b w.heap.size with h' | h'
  · exact h'
  · simp [World.cell?, Array.getElem?_eq_none h'] at h

set_option maxHeartbeats 1000000 in
theorem logRequest_any (br bu : Nat) (m p u : ByteArray) (gs : Value) (p0 p1 p2 p3 p4 p5 : ByteArray) (w : World) (hm : m.size ≤ maxLen) (hp : p.size ≤ maxLen) (hn : p4.size ≤ maxLen)
    (h0 : w.cell? ⟨br, 0, none⟩ = some (.string m)) (h1 : w.cell? ⟨br, 1, none⟩ = some (.pointer (some ⟨bu, 0, none⟩))) (h2 : w.cell? ⟨bu, 4, none⟩ = some (.string p)) :
    Calls Try.prog 25 #[.pointer (some ⟨br, 0, none⟩), .agg #[.string u, gs], .agg #[.string p0, .string p1, .string p2, .string p3, .string p4, .string p5]] w fun e w' => ∃ g, e = .returned (.slice (some ⟨g, 0, none⟩) 8 8) ∧ Below w.heap.size w w' ∧ w.heap.size ≤ g ∧
      w'.heap[g]? = some (.cells #[.iface 9 (.string kMethod), .iface 9 (.string (cutF m)), .iface 9 (.string kPath), .iface 9 (.string (cutF p)), .iface 9 (.string kUser), .iface 9 (.string u), .iface 9 (.string kPerm), .iface 29 (.agg #[.string p0, .string p1, .string p2, .string p3, .string (cutF p4), .string p5])] 20 (0, 0)) := by
  go_enter Try.func25, Try.ntmps25
  go_wp2_with (go_at_call 32; refine (cut_any _ _ hn).mono ?_; rintro e w' ⟨rfl, rfl⟩)
  obtain ⟨W, hW⟩ : ∃ W, W = (w.alloc (.cells #[.string u, gs] 70)).alloc (.cells #[.string p0, .string p1, .string p2, .string p3, .string (cutF p4), .string p5] 29) := ⟨_, rfl⟩
  have HB : Hid (Below w.heap.size w W) := by rw [hW]; exact ((Below.refl _ _).alloc (Nat.le_refl _) _).alloc (by simp) _
  have hbr : br < w.heap.size := lt_of_cell h0
  have hbu : bu < w.heap.size := lt_of_cell h2
  have k0 := (HB.out.cell (p := ⟨br, 0, none⟩) hbr).trans h0
  have k1 := (HB.out.cell (p := ⟨br, 1, none⟩) hbr).trans h1
  have k2 := (HB.out.cell (p := ⟨bu, 4, none⟩) hbu).trans h2
  have ku : W.cell? ⟨w.heap.size, 0, none⟩ = some (.string u) := by rw [hW, World.cell?_alloc_lt _ _ _ (by simp)]; simp
  have c0 : W.cell? ⟨w.heap.size + 1, 0, none⟩ = some (.string p0) := by rw [hW]; simp
  have c1 : W.cell? ⟨w.heap.size + 1, 1, none⟩ = some (.string p1) := by rw [hW]; simp
  have c2 : W.cell? ⟨w.heap.size + 1, 2, none⟩ = some (.string p2) := by rw [hW]; simp
  have c3 : W.cell? ⟨w.heap.size + 1, 3, none⟩ = some (.string p3) := by rw [hW]; simp
  have c4 : W.cell? ⟨w.heap.size + 1, 4, none⟩ = some (.string (cutF p4)) := by rw [hW]; simp
  have c5 : W.cell? ⟨w.heap.size + 1, 5, none⟩ = some (.string p5) := by rw [hW]; simp
  have hsW : w.heap.size ≤ W.heap.size := HB.out.size
  rw [← hW]
  clear hW h0 h1 h2 hbr hbu
  go_region_held3 (fun w' => w'.cell? ⟨br, 0, none⟩ = some (.string m) ∧ w'.cell? ⟨br, 1, none⟩ = some (.pointer (some ⟨bu, 0, none⟩)) ∧ w'.cell? ⟨bu, 4, none⟩ = some (.string p) ∧ w'.cell? ⟨w.heap.size, 0, none⟩ = some (.string u) ∧
      w'.cell? ⟨w.heap.size + 1, 0, none⟩ = some (.string p0) ∧ w'.cell? ⟨w.heap.size + 1, 1, none⟩ = some (.string p1) ∧ w'.cell? ⟨w.heap.size + 1, 2, none⟩ = some (.string p2) ∧ w'.cell? ⟨w.heap.size + 1, 3, none⟩ = some (.string p3) ∧ w'.cell? ⟨w.heap.size + 1, 4, none⟩ = some (.string (cutF p4)) ∧ w'.cell? ⟨w.heap.size + 1, 5, none⟩ = some (.string p5)) (go_keep)
    ((go_at_call 32; refine (cut_any _ _ (by assumption)).mono ?_; rintro e w' ⟨rfl, rfl⟩))
  go_wp2
  go_ret
  exact ⟨W.heap.size, rfl, (HB.out.alloc hsW _).drew, hsW, heap_alloc_new W _⟩
end Go.Proofs.Qxb6609510a
