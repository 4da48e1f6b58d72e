import Derived.Test.Qxb6609472aRows
import Derived.Test.Qxb6609472aPlain
import Derived.WalkKit
import Derived.WalkSpells
import Derived.Lib.SliceRun
import Derived.Below
namespace Go.Proofs.Qxb6609472a
open Go.RowKit

theorem ret_two {k : IntKind} {a b : Int} {c d : Bool} (h : a = b) (h' : c = d) : Ending.returned (.tuple #[.int k a, .bool c]) = .returned (.tuple #[.int k b, .bool d]) := by rw [h, h']
theorem cmpI_zero (x y : Int) : (cmpI x y == 0) = decide (x = y) := by
  unfold cmpI
  by_cases h1 : x < y
  · rw [if_pos h1]; have : ¬ x = y := by omega
    simp [this]
  · rw [if_neg h1]
    by_cases h2 : y < x
    · rw [if_pos h2]; have : ¬ x = y := by omega
      simp [this]
    · rw [if_neg h2]; have : x = y := by omega
      simp [this]

theorem compare_any (x y : Int) (w : World) : Calls Try.prog 26 #[.int .i32 x, .int .i32 y] w fun e w' => e = .returned (.int .i64 (cmpI x y)) ∧ w' = w := by
  unfold cmpI
  by_cases h1 : x < y
  · rw [if_pos h1]
    go_enter Try.func26, Try.ntmps26
    go_wp2
    go_ret
    exact ⟨rfl, rfl⟩
  · rw [if_neg h1]
    by_cases h2 : y < x
    · rw [if_pos h2]
      go_enter Try.func26, Try.ntmps26
      go_wp2
      go_ret
      exact ⟨rfl, rfl⟩
    · rw [if_neg h2]
      go_enter Try.func26, Try.ntmps26
      go_wp2
      go_ret
      exact ⟨rfl, rfl⟩

theorem find1_any (x t n : Int) (w : World) : Calls Try.prog 25 #[.agg #[.int .i32 x, .int .i32 t], .int .i32 n] w fun e w' => e = .returned (.int .i64 (cmpI x n)) ∧ Below w.heap.size w w' := by
  go_enter Try.func25, Try.ntmps25
  go_wp2_with (first | (go_at_call 26; refine (compare_any _ _ _).mono ?_; rintro e w' ⟨rfl, rfl⟩) | go_in)
  go_ret
  exact ⟨rfl, (Below.refl _ _).alloc (Nat.le_refl _) _⟩

set_option maxHeartbeats 400000 in
theorem bsearch_any (g len cap : Nat) (A : List Int) (n : Int) (w : World) (hl : A.length = len) (hm : len ≤ 65537) (hA : Inc A)
    (hc : ∀ i, i < len → w.cell? ⟨g, i * 2, none⟩ = some (.int .i32 (A.getD i 0)) ∧ ∃ t, w.cell? ⟨g, i * 2 + 1, none⟩ = some (.int .i32 t)) :
    Calls Try.prog 24 #[.slice (some ⟨g, 0, none⟩) len cap, .int .i32 n, .func (.func 25) #[] #[]] w fun e w' => e = .returned (.tuple #[.int .i64 (belowN A n), .bool (foundB A n)]) ∧ Below w.heap.size w w' := by
  have hA' : Hid (Inc A) := hA
  clear hA
  have hg : 0 < len → g < w.heap.size := by
    intro hp
    have h0 := (hc 0 hp).1
    rcases Nat.lt_or_ge g w.heap.size with h' | h'
    · exact h'
    · simp [World.cell?, Array.getElem?_eq_none h'] at h0
  go_enter Try.func24, Try.ntmps24
  go_wp2
  go_loopw [9, 10] (fun a b wr => ∃ i j : Nat, i ≤ j ∧ j ≤ len ∧ a = .int .i64 i ∧ b = .int .i64 j ∧ Below w.heap.size w wr ∧ (∀ k, k < i → A.getD k 0 < n) ∧ (∀ k, j ≤ k → k < len → n ≤ A.getD k 0)) (fun a b _ => (intOf b).toNat - (intOf a).toNat)
  case atStart => exact ⟨0, len, Nat.zero_le _, Nat.le_refl _, rfl, rfl, Below.refl _ _, fun k hk => absurd hk (by omega), fun k h1 h2 => absurd h1 (by omega)⟩
  case round =>
    obtain ⟨i, j, hij, hj, rfl, rfl, hbr, h1, h2⟩ := hrel
    by_cases hlt : i < j
    · have hh : (i + j) / 2 < len := by omega
      obtain ⟨hx, t, ht⟩ := hc ((i + j) / 2) hh
      have hx' := (hbr.cell (p := ⟨g, (i + j) / 2 * 2, none⟩) (hg (by omega))).trans hx
      have ht' := (hbr.cell (p := ⟨g, (i + j) / 2 * 2 + 1, none⟩) (hg (by omega))).trans ht
      obtain ⟨x, hxd⟩ : ∃ x, x = A.getD ((i + j) / 2) 0 := ⟨_, rfl⟩
      rw [← hxd] at hx'
      have HX : Hid (x = A.getD ((i + j) / 2) 0) := hxd
      have HH : Hid ((∀ k, k < i → A.getD k 0 < n) ∧ (∀ k, j ≤ k → k < len → n ≤ A.getD k 0)) := ⟨h1, h2⟩
      have HB : Hid (Below w.heap.size w wr) := hbr
      have HL : Hid (A.length = len) := hl
      clear h1 h2 hx ht hxd hbr hc hl
      by_cases hlt2 : x < n
      · have hcm : cmpI x n = -1 := by unfold cmpI; rw [if_pos hlt2]
        go_wp2_with (first | (go_at_call 25; refine (find1_any _ _ _ _).mono ?_; rintro e w2 ⟨rfl, hb2⟩) | go_in)
        go_roundw
        case rel =>
          refine ⟨(i + j) / 2 + 1, j, by omega, hj, by go_num, rfl, HB.out.trans (hb2.mono HB.out.size), ?_, HH.out.2⟩
          intro k hk
          have := inc_le hA'.out (i := k) (j := (i + j) / 2) (by omega) (by rw [HL.out]; exact hh)
          have e := HX.out
          omega
        case measure => simp [intOf]; omega
      · have hcm : 0 ≤ cmpI x n := by unfold cmpI; rw [if_neg hlt2]; split <;> omega
        go_wp2_with (first | (go_at_call 25; refine (find1_any _ _ _ _).mono ?_; rintro e w2 ⟨rfl, hb2⟩) | go_in)
        go_roundw
        case rel =>
          refine ⟨i, (i + j) / 2, by omega, by omega, rfl, by go_num, HB.out.trans (hb2.mono HB.out.size), HH.out.1, ?_⟩
          intro k hk1 hk2
          have := inc_le hA'.out (i := (i + j) / 2) (j := k) hk1 (by rw [HL.out]; exact hk2)
          have e := HX.out
          omega
        case measure => simp [intOf]; omega
    · obtain rfl : i = j := by omega
      have hbe : belowN A n = i := belowN_of A n i (by omega) h1 (fun k a b => h2 k a (by omega))
      have HF : Hid (foundB A n = decide (i < len ∧ A.getD i 0 = n)) := by unfold foundB; rw [hbe, hl]; rfl
      by_cases hi : i < len
      · obtain ⟨hx, t, ht⟩ := hc i hi
        have hx' := (hbr.cell (p := ⟨g, i * 2, none⟩) (hg (by omega))).trans hx
        have ht' := (hbr.cell (p := ⟨g, i * 2 + 1, none⟩) (hg (by omega))).trans ht
        obtain ⟨x, hxd⟩ : ∃ x, x = A.getD i 0 := ⟨_, rfl⟩
        rw [← hxd] at hx'
        have HX : Hid (x = A.getD i 0) := hxd
        have HB : Hid (Below w.heap.size w wr) := hbr
        have HE : Hid (belowN A n = i) := hbe
        clear h1 h2 hx ht hxd hbr hc hl hbe
        go_wp2_with (first | (go_at_call 25; refine (find1_any _ _ _ _).mono ?_; rintro e w2 ⟨rfl, hb2⟩) | go_in)
        go_ret2
        refine ⟨?_, HB.out.trans (hb2.mono HB.out.size)⟩
        rw [HF.out, HE.out, ← HX.out]
        exact ret_two rfl (by rw [cmpI_zero]; simp [hi])
      · go_wp2
        go_ret2
        refine ⟨?_, hbr⟩
        rw [HF.out, hbe]
        exact ret_two rfl (by simp [hi])
end Go.Proofs.Qxb6609472a
