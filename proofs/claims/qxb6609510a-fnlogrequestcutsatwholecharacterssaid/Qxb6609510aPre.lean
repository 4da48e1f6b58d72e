import Derived.Test.Qxb6609510aCut
import Derived.Outline
namespace Go.Proofs.Qxb6609510a
open Go.RowKit

/-- WHAT IS TOLD OF A SLICE OF STRINGS: where it has an element, it leads to a row. -/
def RowS (w : World) (a : Option Addr) (len : Nat) (ss : List ByteArray) : Prop := 0 < len → ∃ b off, a = some ⟨b, off, none⟩ ∧ ∀ i, i < len → w.cell? ⟨b, off + i, none⟩ = some (.string (ss.getD i ByteArray.empty)) ∧ (ss.getD i ByteArray.empty).size ≤ maxLen

theorem RowS.lt {w : World} {b off len : Nat} {ss : List ByteArray} (h : ∀ i, i < len → w.cell? ⟨b, off + i, none⟩ = some (.string (ss.getD i ByteArray.empty)) ∧ (ss.getD i ByteArray.empty).size ≤ maxLen) (hp : 0 < len) : b < w.heap.size := by
  have h0 := (h 0 hp).1
  rcases Nat.lt_or_ge b w.heap.size with h' | h'
  · exact h'
  · simp [World.cell?, Array.getElem?_eq_none h'] at h0

theorem RowS.below {w w' : World} {a : Option Addr} {len : Nat} {ss : List ByteArray} (h : RowS w a len ss) (hb : Below w.heap.size w w') : RowS w' a len ss := by
  intro hp
  obtain ⟨b, off, e, hc⟩ := h hp
  exact ⟨b, off, e, fun i hi => ⟨(hb.cell (RowS.lt hc hp)).trans (hc i hi).1, (hc i hi).2⟩⟩

theorem stringsBytes_any (a : Option Addr) (len cap : Nat) (ss : List ByteArray) (w : World) (hm : len ≤ 9223372036854775807) (h : RowS w a len ss) :
    Calls Try.prog 9 #[.slice a len cap] w fun e w' => ∃ v : Int, e = .returned (.int .i64 v) ∧ 0 ≤ v ∧ v ≤ 1048577 ∧ w' = w := by
  go_enter Try.func9, Try.ntmps9
  go_wp2
  go_loop [3, 4] (fun t i => ∃ (k : Nat) (v : Int), k ≤ len ∧ i = .int .i64 k ∧ t = .int .i64 v ∧ 0 ≤ v ∧ v ≤ 1048576) (fun _ i => len - (intOf i).toNat)
  case atStart => exact ⟨0, 0, Nat.zero_le _, rfl, rfl, by omega, by omega⟩
  case round =>
    obtain ⟨k, v, hk, rfl, rfl, hv0, hv1⟩ := hrel
    by_cases hlt : k < len
    · obtain ⟨b, off, rfl, hc⟩ := h (by omega)
      obtain ⟨hck, hsz⟩ := hc k hlt
      obtain ⟨s, hs⟩ : ∃ s, s = ss.getD k ByteArray.empty := ⟨_, rfl⟩
      rw [← hs] at hck hsz
      unfold maxLen at hsz
      clear hc hs h
      by_cases h1 : 1048576 < s.size
      · go_wp2
        go_ret
        exact ⟨1048577, rfl, by omega, by omega, rfl⟩
      · by_cases h2 : 1048576 < v + (16 + s.size)
        · go_wp2
          go_ret
          exact ⟨1048577, rfl, by omega, by omega, rfl⟩
        · go_wp2
          go_round
          case rel => exact ⟨k + 1, _, by omega, by go_num, rfl, by omega, by omega⟩
          case measure => simp [intOf]; omega
    · go_wp2
      go_ret
      exact ⟨v, rfl, hv0, by omega, rfl⟩

/-- It returns some bool. -/
def RetBool (e : Ending) : Prop := ∃ v : Bool, e = .returned (.bool v)

theorem permBytes_any (p0 p1 p2 p3 p4 p5 : ByteArray) (w : World) :
    Calls Try.prog 10 #[.agg #[.string p0, .string p1, .string p2, .string p3, .string p4, .string p5]] w fun e w' => ∃ v : Int, e = .returned (.int .i64 v) ∧ Below w.heap.size w w' := by
  go_enter Try.func10, Try.ntmps10
  go_wp2
  go_ret
  exact ⟨_, rfl, (Below.refl _ _).alloc (Nat.le_refl _) _⟩

theorem permTooLong_any (p0 p1 p2 p3 p4 p5 : ByteArray) (w : World) :
    Calls Try.prog 8 #[.agg #[.string p0, .string p1, .string p2, .string p3, .string p4, .string p5]] w fun e w' => RetBool e ∧ Below w.heap.size w w' := by
  go_enter Try.func8, Try.ntmps8
  go_wp2
  all_goals go_ret
  all_goals exact ⟨⟨_, rfl⟩, (Below.refl _ _).alloc (Nat.le_refl _) _⟩

set_option maxHeartbeats 1000000 in
theorem zzBytes7_any (m p u : ByteArray) (a : Option Addr) (len cap : Nat) (ss : List ByteArray) (p0 p1 p2 p3 p4 p5 : ByteArray) (w : World) (hm : len ≤ 9223372036854775807) (hs0 : m.size ≤ 9223372036854775807) (hs1 : p.size ≤ 9223372036854775807) (hs2 : u.size ≤ 9223372036854775807) (h : RowS w a len ss) :
    Calls Try.prog 7 #[.string m, .string p, .string u, .slice a len cap, .agg #[.string p0, .string p1, .string p2, .string p3, .string p4, .string p5]] w fun e w' => RetBool e ∧ Below w.heap.size w w' := by
  have H : Hid (RowS w a len ss) := h
  clear h
  go_enter Try.func7, Try.ntmps7
  go_wp2
  all_goals first | (go_ret; exact ⟨⟨_, rfl⟩, (Below.refl _ _).alloc (Nat.le_refl _) _⟩) | skip
  obtain ⟨W, hW⟩ : ∃ W, W = w.alloc (.cells #[.string p0, .string p1, .string p2, .string p3, .string p4, .string p5] 24) := ⟨_, rfl⟩
  have HB : Hid (Below w.heap.size w W) := by rw [hW]; exact (Below.refl _ _).alloc (Nat.le_refl _) _
  have H' : Hid (RowS W a len ss) := H.out.below HB.out
  have c0 : W.cell? ⟨w.heap.size, 0, none⟩ = some (.string p0) := by rw [hW]; simp
  have c1 : W.cell? ⟨w.heap.size, 1, none⟩ = some (.string p1) := by rw [hW]; simp
  have c2 : W.cell? ⟨w.heap.size, 2, none⟩ = some (.string p2) := by rw [hW]; simp
  have c3 : W.cell? ⟨w.heap.size, 3, none⟩ = some (.string p3) := by rw [hW]; simp
  have c4 : W.cell? ⟨w.heap.size, 4, none⟩ = some (.string p4) := by rw [hW]; simp
  have c5 : W.cell? ⟨w.heap.size, 5, none⟩ = some (.string p5) := by rw [hW]; simp
  rw [← hW]
  clear hW H
  go_loop [11, 12] (fun t i => ∃ (k : Nat) (v : Int), k ≤ len ∧ i = .int .i64 k ∧ t = .int .i64 v ∧ 0 ≤ v ∧ v ≤ 1048576) (fun _ i => len - (intOf i).toNat)
  case atStart => exact ⟨0, _, Nat.zero_le _, rfl, rfl, by omega, by omega⟩
  case round =>
    obtain ⟨k, v, hk, rfl, rfl, hv0, hv1⟩ := hrel
    by_cases hlt : k < len
    · obtain ⟨b, off, rfl, hc⟩ := H'.out (by omega)
      obtain ⟨hck, hsz⟩ := hc k hlt
      obtain ⟨s, hs⟩ : ∃ s, s = ss.getD k ByteArray.empty := ⟨_, rfl⟩
      rw [← hs] at hck hsz
      unfold maxLen at hsz
      clear hc hs H'
      by_cases h1 : 1048576 < s.size
      · go_wp2
        go_ret
        exact ⟨⟨_, rfl⟩, HB.out⟩
      · by_cases h2 : 1048576 < v + s.size
        · go_wp2
          go_ret
          exact ⟨⟨_, rfl⟩, HB.out⟩
        · go_wp2
          go_round
          case rel => exact ⟨k + 1, _, by omega, by go_num, rfl, by omega, by omega⟩
          case measure => simp [intOf]; omega
    · go_wp2
      all_goals go_ret
      all_goals exact ⟨⟨_, rfl⟩, HB.out⟩
end Go.Proofs.Qxb6609510a
