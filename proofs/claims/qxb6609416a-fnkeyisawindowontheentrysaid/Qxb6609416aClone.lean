import Derived.Test.Qxb6609416aRows
import Derived.WalkKit
import Derived.WalkSpells
import Derived.Lib.SliceRun
import Derived.Below
namespace Go.Proofs.Qxb6609416a
open Go.RowKit

theorem Try.info5 : (Try.prog.info? 5).map (fun i => (i.zero, i.size, i.bytes)) = some (some (.int .u8 0), 1, 1) := by kernel_rfl

/-- 'spillB1Clone(s)', s not nil and not empty: a new row with the same bytes; nothing old has turned. -/
theorem clone_some (b off len cap : Nat) (zs : List Int) (w : World) (hl : len ≤ cap) (hm : len ≤ 1048576) (hz : zs.length = cap)
    (hc : ∀ i, i < zs.length → w.cell? ⟨b, off + i, none⟩ = some (.int .u8 (zs.getD i 0))) (hpos : 0 < len) :
    Calls Try.prog 5 #[.slice (some ⟨b, off, none⟩) len cap] w fun e w' =>
      e = .returned (.slice (some ⟨w.heap.size, 0, none⟩) len len) ∧ Below w.heap.size w w' ∧ w.heap.size < w'.heap.size ∧
      ∃ xs, w'.ownsRow w.heap.size 5 1 (.slice (some ⟨w.heap.size, 0, none⟩) len len) len xs := by
  obtain ⟨i0, hi, hz0, hz1, hz2⟩ := info_parts Try.info5
  have q22 : ∀ (w : World) (a : Option Addr) (n c n' c' : Nat), (binOp .eql 22 (.slice a n c) (.slice none n' c')).run Try.prog w = .ok (.bool a.isNone) w := fun w a n c n' c' => Lib.run_eql_slice_nil w _ _ a n c n' c' Try.underlying22
  have hb : b < w.heap.size := by
    have h0 := hc 0 (by omega)
    rcases Nat.lt_or_ge b w.heap.size with h' | h'
    · exact h'
    · simp [World.cell?, Array.getElem?_eq_none h'] at h0
  go_enter Try.func5, Try.ntmps5
  go_wp2_with (first | (at_make; refine wpList_make_full _ rfl _ _ 22 rfl w.heap.size 5 i0 (.int .u8 0) 1 Try.underlying22 hi hz0 hz1 _ _ _ _ len rfl rfl rfl rfl ?b1 ?b2 ?b3 ?_))
  case b1 => rw [hz2]; omega
  case b2 => unfold maxLen; omega
  case b3 => exact Nat.le_refl _
  intro w1 hown hgrow
  have hbel : Below w.heap.size w w1 := (Below.refl _ _).grown hgrow (Nat.le_refl _) (by intro k hk; cases hk)
  have hsz : w.heap.size < w1.heap.size := by
    rcases hown.2 with ⟨h, _⟩ | ⟨g, cap', cur, h, _, hg, _⟩
    · cases h
    · simp only [Value.slice.injEq, Option.some.injEq, Addr.mk.injEq, and_true, true_and] at h
      obtain ⟨rfl, rfl⟩ := h
      exact (Array.getElem?_eq_some_iff.1 hg).1
  go_wp2
  go_loopw [4] (fun i wr => ∃ k : Nat, k ≤ len ∧ i = .int .i64 k ∧ Below w.heap.size w wr ∧ w.heap.size < wr.heap.size ∧
      ∃ xs, wr.ownsRow w.heap.size 5 1 (.slice (some ⟨w.heap.size, 0, none⟩) len len) len xs) (fun i _ => len - (intOf i).toNat)
  case atStart => exact ⟨0, Nat.zero_le _, rfl, hbel, hsz, _, hown⟩
  case round =>
    obtain ⟨k, hk, rfl, hbr, hszr, xs, hor⟩ := hrel
    clear hown hgrow hbel hsz
    by_cases hlt : k < len
    · have hcx : wr.cell? ⟨b, off + k, none⟩ = some (.int .u8 (zs.getD k 0)) := (hbr.cell hb).trans (hc k (by omega))
      have hx1 : xs.length = len := by have := hor.1; omega
      have hcy : wr.cell? ⟨w.heap.size, k, none⟩ = some (xs[k]'(by omega)) := by rw [hor.cellAt k (by omega)]; simp [hx1, hlt]
      have hfy : wr.frozen? ⟨w.heap.size, k, none⟩ = false := hor.frozenAt k
      have hst := hor.stored k (.int .u8 (zs.getD k 0))
      have HB : Hid (Below w.heap.size w (wr.setCell ⟨w.heap.size, k, none⟩ (.int .u8 (zs.getD k 0)))) := hbr.setCell (Nat.le_refl _) _
      have HS : Hid (∃ ys, (wr.setCell ⟨w.heap.size, k, none⟩ (.int .u8 (zs.getD k 0))).ownsRow w.heap.size 5 1 (.slice (some ⟨w.heap.size, 0, none⟩) len len) len ys) := ⟨_, hst.1⟩
      clear hst hor hbr hc
      go_wp2
      go_roundw
      case rel => exact ⟨k + 1, by omega, by go_num, HB.out, by simpa [World.setCell] using hszr, HS.out⟩
      case measure => simp [intOf]; omega
    · go_wp2
      go_ret
      exact ⟨rfl, hbr, hszr, xs, hor⟩

/-- 'spillB1Clone(s)', s empty and not nil: a new row of no bytes. -/
theorem clone_empty (x : Addr) (cap : Nat) (w : World) :
    Calls Try.prog 5 #[.slice (some x) 0 cap] w fun e w' => e = .returned (.slice (some ⟨w.heap.size, 0, none⟩) 0 0) ∧ Below w.heap.size w w' := by
  obtain ⟨i0, hi, hz0, hz1, hz2⟩ := info_parts Try.info5
  have q22 : ∀ (w : World) (a : Option Addr) (n c n' c' : Nat), (binOp .eql 22 (.slice a n c) (.slice none n' c')).run Try.prog w = .ok (.bool a.isNone) w := fun w a n c n' c' => Lib.run_eql_slice_nil w _ _ a n c n' c' Try.underlying22
  go_enter Try.func5, Try.ntmps5
  go_wp2_with (first | (at_make; refine wpList_make_full _ rfl _ _ 22 rfl w.heap.size 5 i0 (.int .u8 0) 1 Try.underlying22 hi hz0 hz1 _ _ _ _ 0 rfl rfl rfl rfl ?b1 ?b2 ?b3 ?_))
  case b1 => omega
  case b2 => unfold maxLen; omega
  case b3 => exact Nat.le_refl _
  intro w1 hown hgrow
  have hbel : Below w.heap.size w w1 := (Below.refl _ _).grown hgrow (Nat.le_refl _) (by intro k hk; cases hk)
  clear hown hgrow
  go_wp2
  refine wp_loop_rounds 1 ?_
  rw [rounds_succ]
  go_wp2
  go_ret
  exact ⟨rfl, hbel⟩

/-- 'spillB1Clone(nil)': nil. -/
theorem clone_nil (w : World) :
    Calls Try.prog 5 #[.slice none 0 0] w fun e w' => e = .returned (.slice none 0 0) ∧ w' = w := by
  have q22 : ∀ (w : World) (a : Option Addr) (n c n' c' : Nat), (binOp .eql 22 (.slice a n c) (.slice none n' c')).run Try.prog w = .ok (.bool a.isNone) w := fun w a n c n' c' => Lib.run_eql_slice_nil w _ _ a n c n' c' Try.underlying22
  go_enter Try.func5, Try.ntmps5
  go_wp2
  go_ret
  exact ⟨rfl, rfl⟩
end Go.Proofs.Qxb6609416a
