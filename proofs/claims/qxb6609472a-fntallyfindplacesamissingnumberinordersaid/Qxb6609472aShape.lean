import Derived.Test.Qxb6609472aFind
import Derived.Deep.QuietTactic
import Derived.BigQuiet
import Derived.WalkSmall
namespace Go.Proofs.Qxb6609472a
open Go.RowKit

theorem inc_of_next {A : List Int} (h : ∀ i, i + 1 < A.length → A.getD i 0 < A.getD (i + 1) 0) : Inc A := by
  intro i j hij hj
  obtain ⟨d, rfl⟩ : ∃ d, j = i + 1 + d := ⟨j - i - 1, by omega⟩
  clear hij
  induction d with
  | zero => exact h i hj
  | succ d ih =>
    have a := ih (by omega)
    have b := h (i + 1 + d) (by omega)
    exact Int.lt_trans a b

theorem shape_parts (a0 a1 : Option Addr) (l0 c0 l1 c1 : Nat) (w : World) (hne : l1 ≠ l0) :
    Calls Try.prog 7 #[.slice a0 l0 c0, .slice a1 l1 c1] w fun e w' => e = .returned (.bool false) ∧ w' = w := by
  have h1 : ((l1 : Int) != (l0 : Int)) = true := by simp; omega
  go_enter Try.func7, Try.ntmps7
  go_wp2
  go_ret
  exact ⟨rfl, rfl⟩

set_option maxHeartbeats 400000 in
theorem shape_any (a0 a1 : Option Addr) (len c0 c1 : Nat) (A T : List Int) (w : World) (hl : A.length = len) (hm : len ≤ 65537) (h0 : Row32 w a0 len A) (h1 : Row32 w a1 len T) :
    Calls Try.prog 7 #[.slice a0 len c0, .slice a1 len c1] w fun e w' => ∃ b, e = .returned (.bool b) ∧ (b = true → Inc A) ∧ Below w.heap.size w w' := by
  have HL : Hid (A.length = len) := hl
  clear hl
  go_enter Try.func7, Try.ntmps7
  go_wp2
  go_loopw [5] (fun i wr => ∃ k : Nat, k ≤ len ∧ i = .int .i64 k ∧ Below w.heap.size w wr ∧ (∀ i, i + 1 < k → A.getD i 0 < A.getD (i + 1) 0)) (fun i _ => len - (intOf i).toNat)
  case atStart => exact ⟨0, Nat.zero_le _, rfl, Below.refl _ _, fun i hi => absurd hi (by omega)⟩
  case round =>
    obtain ⟨k, hk, rfl, hbr, hA⟩ := hrel
    by_cases hlt : k < len
    · obtain ⟨b, off, rfl, hc0⟩ := h0 (by omega)
      obtain ⟨b', off', rfl, hc1⟩ := h1 (by omega)
      have hcx : wr.cell? ⟨b, off + k, none⟩ = some (.int .i32 (A.getD k 0)) := (hbr.cell (Row32.lt hc0 (by omega))).trans (hc0 k hlt)
      have hcp : wr.cell? ⟨b, off + (k - 1), none⟩ = some (.int .i32 (A.getD (k - 1) 0)) := (hbr.cell (Row32.lt hc0 (by omega))).trans (hc0 (k - 1) (by omega))
      have hcy : wr.cell? ⟨b', off' + k, none⟩ = some (.int .i32 (T.getD k 0)) := (hbr.cell (Row32.lt hc1 (by omega))).trans (hc1 k hlt)
      obtain ⟨x, hxd⟩ : ∃ x, x = A.getD k 0 := ⟨_, rfl⟩
      obtain ⟨z, hzd⟩ : ∃ x, x = A.getD (k - 1) 0 := ⟨_, rfl⟩
      obtain ⟨y, hyd⟩ : ∃ x, x = T.getD k 0 := ⟨_, rfl⟩
      rw [← hxd] at hcx
      rw [← hyd] at hcy
      rw [← hzd] at hcp
      have HX : Hid (x = A.getD k 0) := hxd
      have HZ : Hid (z = A.getD (k - 1) 0) := hzd
      have HR : Hid (Below w.heap.size w wr ∧ (∀ i, i + 1 < k → A.getD i 0 < A.getD (i + 1) 0)) := ⟨hbr, hA⟩
      have hi1 : (k : Int) < (len : Int) := by omega
      clear hbr hA h0 h1 hc0 hc1 hxd hyd hzd
      by_cases hy : y < 1
      · go_wp2
        go_ret
        exact ⟨false, rfl, by simp, HR.out.1⟩
      · by_cases hk0 : k = 0
        · have hd : decide (0 < k) = false := by simp; omega
          have HK : Hid (k = 0) := hk0
          clear hk0
          go_wp2
          go_quiet (fail)
          go_wp2
          go_roundw
          case rel => exact ⟨k + 1, by omega, by go_num, below_drewN HR.out.1 _, fun i hi => by have := HK.out; omega⟩
          case measure => simp [intOf]; omega
        · have hd : decide (0 < k) = true := by simp; omega
          have hkp : 0 < k := by omega
          have hk1 : (k : Int) - 1 < (len : Int) := by omega
          by_cases hzx : x ≤ z
          · go_wp2
            go_quiet (fail)
            go_wp2
            go_ret
            exact ⟨false, rfl, by simp, below_drewN HR.out.1 _⟩
          · go_wp2
            go_quiet (fail)
            go_wp2
            go_roundw
            case rel =>
              refine ⟨k + 1, by omega, by go_num, below_drewN HR.out.1 _, fun i hi => ?_⟩
              by_cases e : i + 1 = k
              · subst e
                have h1 := HX.out
                have h2 := HZ.out
                simp only [Nat.add_sub_cancel] at h2
                omega
              · exact HR.out.2 i (by omega)
            case measure => simp [intOf]; omega
    · go_wp2
      go_ret
      exact ⟨true, rfl, fun _ => inc_of_next fun i hi => hA i (by have := HL.out; omega), hbr⟩
end Go.Proofs.Qxb6609472a
