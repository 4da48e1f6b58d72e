import Derived.Test.Qxb6609510aReq
import Derived.WalkSmall
namespace Go.Proofs.Qxb6609510a
open Go.RowKit

theorem restKept_any (u : ByteArray) (p0 p1 p2 p3 p4 q4 p5 : ByteArray) (w : World) :
    Calls Try.prog 12 #[.int .i64 8, .string kMethod, .string kPath, .string kUser, .string kPerm, .string u, .agg #[.string p0, .string p1, .string p2, .string p3, .string q4, .string p5], .string u, .agg #[.string p0, .string p1, .string p2, .string p3, .string p4, .string p5]] w fun e w' =>
      e = .returned (.bool true) ∧ Below w.heap.size w w' := by
  unfold kMethod kPath kUser kPerm
  go_enter Try.func12, Try.ntmps12
  go_wp2
  go_ret
  exact ⟨rfl, ((Below.refl _ _).alloc (Nat.le_refl _) _).alloc (by simp) _⟩

theorem spec_short (s : ByteArray) (w : World) (h : s.size ≤ 1024) : Calls Try.prog 13 #[.string s, .string s] w fun e w' => e = .returned (.bool true) ∧ Below w.heap.size w w' := by
  go_enter Try.func13, Try.ntmps13
  go_wp2
  go_ret
  exact ⟨by simp, Below.refl _ _⟩

theorem spec_long (s g : ByteArray) (n : Nat) (w : World) (h : 1024 < s.size) (hm : s.size ≤ 9223372036854775807) (hn : CutAt s n) (hg : g.size = n + 5) (e1 : g.extract n (n + 5) = mark) (e2 : g.extract 0 n = s.extract 0 n) :
    Calls Try.prog 13 #[.string s, .string g] w fun e w' => e = .returned (.bool true) ∧ Below w.heap.size w w' := by
  obtain ⟨h1, h2, h3, h4⟩ := hn
  unfold mark at e1
  have HC : Hid (∀ j, n < j → j ≤ 1024 → contB (byteAt s j) = true) := h3
  have hns : n < s.size := by omega
  clear h3
  have hb := byteAt_get s n hns
  have hr := byteAt_range s n
  by_cases h21 : 1021 < n
  · have hcb : contB (byteAt s n) = false := by
      rcases h4 with h4 | h4
      · omega
      · exact h4
    clear h4
    go_enter Try.func13, Try.ntmps13
    go_wp2
    go_quiet (fail)
    go_wp2_with (first | (go_at_call 26; refine (isCont_any _ _ hr.1 hr.2).mono ?_; rintro e w' ⟨rfl, rfl⟩) | go_in)
    clear e1 e2 hg
    go_loop [6] (fun i => ∃ k : Nat, n < k ∧ k ≤ 1025 ∧ i = .int .i64 k) (fun i => 1025 - (intOf i).toNat)
    case atStart => exact ⟨n + 1, by omega, by omega, by go_num⟩
    case round =>
      obtain ⟨k, hk1, hk2, rfl⟩ := hrel
      by_cases hlt : k ≤ 1024
      · have hks : k < s.size := by omega
        have hb' := byteAt_get s k hks
        have hr' := byteAt_range s k
        have hc' := HC.out k hk1 hlt
        go_wp2_with (first | (go_at_call 26; refine (isCont_any _ _ hr'.1 hr'.2).mono ?_; rintro e w' ⟨rfl, rfl⟩) | go_in)
        go_round
        case rel => exact ⟨k + 1, by omega, by omega, by go_num⟩
        case measure => simp [intOf]; omega
      · go_wp2
        go_ret
        exact ⟨rfl, below_drewN (Below.refl _ _) _⟩
  · clear h4 hb hr
    go_enter Try.func13, Try.ntmps13
    go_wp2
    go_quiet (fail)
    go_wp2
    clear e1 e2 hg
    go_loop [6] (fun i => ∃ k : Nat, n < k ∧ k ≤ 1025 ∧ i = .int .i64 k) (fun i => 1025 - (intOf i).toNat)
    case atStart => exact ⟨n + 1, by omega, by omega, by go_num⟩
    case round =>
      obtain ⟨k, hk1, hk2, rfl⟩ := hrel
      by_cases hlt : k ≤ 1024
      · have hks : k < s.size := by omega
        have hb' := byteAt_get s k hks
        have hr' := byteAt_range s k
        have hc' := HC.out k hk1 hlt
        go_wp2_with (first | (go_at_call 26; refine (isCont_any _ _ hr'.1 hr'.2).mono ?_; rintro e w' ⟨rfl, rfl⟩) | go_in)
        go_round
        case rel => exact ⟨k + 1, by omega, by omega, by go_num⟩
        case measure => simp [intOf]; omega
      · go_wp2
        go_ret
        exact ⟨rfl, below_drewN (Below.refl _ _) _⟩

theorem mark_size : mark.size = 5 := rfl
theorem extract_size (s : ByteArray) (n : Nat) (h : n ≤ s.size) : (s.extract 0 n).size = n := by simp; omega
theorem cutTo_size (s : ByteArray) (n : Nat) (h : n ≤ s.size) : (cutTo s n).size = n + 5 := by
  unfold cutTo
  rw [ByteArray.size_append, extract_size s n h, mark_size]
theorem cutTo_tail (s : ByteArray) (n : Nat) (h : n ≤ s.size) : (cutTo s n).extract n (n + 5) = mark := by
  unfold cutTo
  exact ByteArray.extract_append_eq_right (extract_size s n h).symm (by rw [extract_size s n h, mark_size])
theorem cutTo_head (s : ByteArray) (n : Nat) (h : n ≤ s.size) : (cutTo s n).extract 0 n = s.extract 0 n := by
  unfold cutTo
  exact ByteArray.extract_append_eq_left (extract_size s n h).symm

/-- What cut answers meets zzCutAsSpecified. -/
theorem spec_any (s : ByteArray) (w : World) (hm : s.size ≤ maxLen) : Calls Try.prog 13 #[.string s, .string (cutF s)] w fun e w' => e = .returned (.bool true) ∧ Below w.heap.size w w' := by
  unfold cutF
  by_cases h : s.size ≤ 1024
  · rw [if_pos h]; exact spec_short s w h
  · rw [if_neg h]
    have hc := cutN_cutAt s
    have hn : cutN s ≤ s.size := by have := hc.2.1; omega
    exact spec_long s _ (cutN s) w (by omega) (by unfold maxLen at hm; omega) hc (cutTo_size s _ hn) (cutTo_tail s _ hn) (cutTo_head s _ hn)
end Go.Proofs.Qxb6609510a
