import Derived.Test.Qxb6609510aRows
import Derived.WalkKit
import Derived.WalkSpells
import Derived.WalkLawsBesides
import Derived.Below
namespace Go.Proofs.Qxb6609510a
open Go.RowKit

/-- Is b a UTF-8 continuation byte? -/
def contB (b : Int) : Bool := b / 64 == 2

theorem cont_bits : ∀ n : Fin 256, (bits BinOp.and IntKind.u8 (n.val : Int) 192 == 128) = contB (n.val : Int) := by decide +kernel
theorem cont_of (b : Int) (h0 : 0 ≤ b) (h1 : b < 256) : (bits BinOp.and IntKind.u8 b 192 == 128) = contB b := by
  have := cont_bits ⟨b.toNat, by omega⟩
  simpa [Int.toNat_of_nonneg h0] using this
theorem cont_of' (b : Int) (h0 : 0 ≤ b) (h1 : b < 256) : (bits BinOp.and IntKind.u8 b 192 != 128) = !contB b := by
  rw [← cont_of b h0 h1]; rfl

theorem ret_b {a b : Bool} (h : a = b) : Ending.returned (.bool a) = .returned (.bool b) := by rw [h]

theorem runeStart_any (b : Int) (w : World) (h0 : 0 ≤ b) (h1 : b < 256) : Calls Try.prog 35 #[.int .u8 b] w fun e w' => e = .returned (.bool !(contB b)) ∧ w' = w := by
  go_enter Try.func35, Try.ntmps35
  go_wp2
  go_ret
  exact ⟨ret_b (cont_of' b h0 h1), rfl⟩

theorem isCont_any (b : Int) (w : World) (h0 : 0 ≤ b) (h1 : b < 256) : Calls Try.prog 26 #[.int .u8 b] w fun e w' => e = .returned (.bool (contB b)) ∧ w' = w := by
  go_enter Try.func26, Try.ntmps26
  go_wp2
  go_ret
  exact ⟨ret_b (cont_of b h0 h1), rfl⟩

/-- The byte at place j, as a number. -/
def byteAt (s : ByteArray) (j : Nat) : Int := ((s.data.toList.getD j 0).toNat : Int)
def mark : ByteArray := ⟨#[91, 99, 117, 116, 93]⟩
def cutTo (s : ByteArray) (n : Nat) : ByteArray := s.extract 0 n ++ mark

/-- What cut settles on. -/
def CutAt (s : ByteArray) (n : Nat) : Prop := 1021 ≤ n ∧ n ≤ 1024 ∧ (∀ j, n < j → j ≤ 1024 → contB (byteAt s j) = true) ∧ (n = 1021 ∨ contB (byteAt s n) = false)

theorem byteAt_get (s : ByteArray) (j : Nat) (h : j < s.size) : ((s[j]).toNat : Int) = byteAt s j := by
  unfold byteAt
  have h' : j < s.data.toList.length := by simpa using h
  rw [List.getD_eq_getElem?_getD, List.getElem?_eq_getElem h']
  rfl
theorem byteAt_range (s : ByteArray) (j : Nat) : 0 ≤ byteAt s j ∧ byteAt s j < 256 := by
  unfold byteAt
  have := (s.data.toList.getD j 0).toNat_lt
  omega

theorem cut_short (s : ByteArray) (w : World) (h : s.size ≤ 1024) : Calls Try.prog 32 #[.string s] w fun e w' => e = .returned (.string s) ∧ w' = w := by
  go_enter Try.func32, Try.ntmps32
  go_wp2
  go_ret
  exact ⟨rfl, rfl⟩

theorem cut_long (s : ByteArray) (w : World) (h : 1024 < s.size) (hm : s.size ≤ maxLen) : Calls Try.prog 32 #[.string s] w fun e w' => ∃ n, CutAt s n ∧ e = .returned (.string (cutTo s n)) ∧ w' = w := by
  unfold maxLen at hm
  go_enter Try.func32, Try.ntmps32
  go_wp2
  go_loop [3] (fun i => ∃ k : Nat, 1021 ≤ k ∧ k ≤ 1024 ∧ i = .int .i64 k ∧ (∀ j, k < j → j ≤ 1024 → contB (byteAt s j) = true)) (fun i => (intOf i).toNat)
  case atStart => exact ⟨1024, by omega, by omega, rfl, fun j a b => absurd a (by omega)⟩
  case round =>
    obtain ⟨k, hk1, hk2, rfl, hc⟩ := hrel
    have HC : Hid (∀ j, k < j → j ≤ 1024 → contB (byteAt s j) = true) := hc
    clear hc
    have hks : k < s.size := by omega
    have hb := byteAt_get s k hks
    have hr := byteAt_range s k
    by_cases h21 : 1021 < k
    · cases hcb : contB (byteAt s k)
      · go_wp2_with (first | (go_at_call 35; refine (runeStart_any _ _ hr.1 hr.2).mono ?_; rintro e w' ⟨rfl, rfl⟩) | go_in)
        go_ret
        exact ⟨k, ⟨hk1, hk2, HC.out, .inr hcb⟩, rfl, rfl⟩
      · have HB : Hid (contB (byteAt s k) = true) := hcb
        go_wp2_with (first | (go_at_call 35; refine (runeStart_any _ _ hr.1 hr.2).mono ?_; rintro e w' ⟨rfl, rfl⟩) | go_in)
        go_round
        case rel =>
          refine ⟨k - 1, by omega, by omega, by go_num, fun j a b => ?_⟩
          by_cases e : j = k
          · rw [e]; exact HB.out
          · exact HC.out j (by omega) b
        case measure => simp [intOf]; omega
    · have hk : k = 1021 := by omega
      clear hb hr
      go_wp2
      go_ret
      exact ⟨1021, ⟨by omega, by omega, by rw [← hk]; exact HC.out, .inl rfl⟩, rfl, rfl⟩

/-- Where cut cuts. -/
def cutN (s : ByteArray) : Nat := if contB (byteAt s 1024) then (if contB (byteAt s 1023) then (if contB (byteAt s 1022) then 1021 else 1022) else 1023) else 1024
/-- What cut answers. -/
def cutF (s : ByteArray) : ByteArray := if s.size ≤ 1024 then s else cutTo s (cutN s)

theorem cutAt_eq {s : ByteArray} {n : Nat} (h : CutAt s n) : n = cutN s := by
  obtain ⟨h1, h2, h3, h4⟩ := h
  unfold cutN
  have a : n = 1021 ∨ n = 1022 ∨ n = 1023 ∨ n = 1024 := by omega
  rcases a with rfl | rfl | rfl | rfl
  · simp [h3 1022 (by omega) (by omega), h3 1023 (by omega) (by omega), h3 1024 (by omega) (by omega)]
  · have h5 : contB (byteAt s 1022) = false := by rcases h4 with h | h; exact absurd h (by omega); exact h
    simp [h5, h3 1023 (by omega) (by omega), h3 1024 (by omega) (by omega)]
  · have h5 : contB (byteAt s 1023) = false := by rcases h4 with h | h; exact absurd h (by omega); exact h
    simp [h5, h3 1024 (by omega) (by omega)]
  · have h5 : contB (byteAt s 1024) = false := by rcases h4 with h | h; exact absurd h (by omega); exact h
    simp [h5]

theorem cutN_cutAt (s : ByteArray) : CutAt s (cutN s) := by
  unfold cutN
  split
  · split
    · split
      · rename_i a b c
        refine ⟨by omega, by omega, fun j h1 h2 => ?_, .inl rfl⟩
        have : j = 1022 ∨ j = 1023 ∨ j = 1024 := by omega
        rcases this with rfl | rfl | rfl <;> assumption
      · rename_i a b c
        refine ⟨by omega, by omega, fun j h1 h2 => ?_, .inr (by simpa using c)⟩
        have : j = 1023 ∨ j = 1024 := by omega
        rcases this with rfl | rfl <;> assumption
    · rename_i a b
      refine ⟨by omega, by omega, fun j h1 h2 => ?_, .inr (by simpa using b)⟩
      have : j = 1024 := by omega
      subst this; assumption
  · rename_i a
    exact ⟨by omega, by omega, fun j h1 h2 => absurd h1 (by omega), .inr (by simpa using a)⟩

theorem cut_any (s : ByteArray) (w : World) (hm : s.size ≤ maxLen) : Calls Try.prog 32 #[.string s] w fun e w' => e = .returned (.string (cutF s)) ∧ w' = w := by
  unfold cutF
  by_cases h : s.size ≤ 1024
  · rw [if_pos h]; exact cut_short s w h
  · rw [if_neg h]
    refine (cut_long s w (by omega) hm).mono ?_
    rintro e w' ⟨n, hn, rfl, rfl⟩
    rw [cutAt_eq hn]
    exact ⟨rfl, rfl⟩
end Go.Proofs.Qxb6609510a
