import Derived.Test.Qxb6609510aRuns
namespace Go.Proofs.Qxb6609510a
open Go.RowKit

theorem ret_i {k : IntKind} {a b : Int} (h : a = b) : Ending.returned (.int k a) = .returned (.int k b) := by rw [h]
theorem and224 : ∀ n : Fin 256, (bits BinOp.and IntKind.u8 (n.val : Int) 224 == 192) = decide ((n.val : Int) / 32 = 6) := by decide +kernel
theorem and240 : ∀ n : Fin 256, (bits BinOp.and IntKind.u8 (n.val : Int) 240 == 224) = decide ((n.val : Int) / 16 = 14) := by decide +kernel
theorem and248 : ∀ n : Fin 256, (bits BinOp.and IntKind.u8 (n.val : Int) 248 == 240) = decide ((n.val : Int) / 8 = 30) := by decide +kernel

theorem charLen_any (b : Int) (w : World) (h0 : 0 ≤ b) (h1 : b < 256) : Calls Try.prog 33 #[.int .u8 b] w fun e w' => e = .returned (.int .i64 (charLen b)) ∧ w' = w := by
  have e1 := and224 ⟨b.toNat, by omega⟩
  have e2 := and240 ⟨b.toNat, by omega⟩
  have e3 := and248 ⟨b.toNat, by omega⟩
  simp only [Int.toNat_of_nonneg h0] at e1 e2 e3
  unfold charLen
  by_cases c0 : b < 128
  · rw [if_pos c0]
    clear e1 e2 e3
    go_enter Try.func33, Try.ntmps33
    go_wp2
    go_ret
    exact ⟨rfl, rfl⟩
  rw [if_neg c0]
  by_cases c1 : b / 32 = 6
  · rw [if_pos c1]
    have f1 : (bits BinOp.and IntKind.u8 b 224 == 192) = true := by rw [e1]; simpa using c1
    clear e1 e2 e3 c1
    go_enter Try.func33, Try.ntmps33
    go_wp2
    go_ret
    exact ⟨rfl, rfl⟩
  rw [if_neg c1]
  have f1 : (bits BinOp.and IntKind.u8 b 224 == 192) = false := by rw [e1]; simpa using c1
  by_cases c2 : b / 16 = 14
  · rw [if_pos c2]
    have f2 : (bits BinOp.and IntKind.u8 b 240 == 224) = true := by rw [e2]; simpa using c2
    clear e1 e2 e3 c1 c2
    go_enter Try.func33, Try.ntmps33
    go_wp2
    go_ret
    exact ⟨rfl, rfl⟩
  rw [if_neg c2]
  have f2 : (bits BinOp.and IntKind.u8 b 240 == 224) = false := by rw [e2]; simpa using c2
  by_cases c3 : b / 8 = 30
  · rw [if_pos c3]
    have f3 : (bits BinOp.and IntKind.u8 b 248 == 240) = true := by rw [e3]; simpa using c3
    clear e1 e2 e3 c1 c2 c3
    go_enter Try.func33, Try.ntmps33
    go_wp2
    go_ret
    exact ⟨rfl, rfl⟩
  rw [if_neg c3]
  have f3 : (bits BinOp.and IntKind.u8 b 248 == 240) = false := by rw [e3]; simpa using c3
  clear e1 e2 e3 c1 c2 c3
  go_enter Try.func33, Try.ntmps33
  go_wp2
  go_ret
  exact ⟨rfl, rfl⟩

/-- It returns a bool, and true only of a run of whole characters. -/
def Sound (s : ByteArray) (e : Ending) : Prop := ∃ b : Bool, e = .returned (.bool b) ∧ (b = true → WF s)

set_option maxHeartbeats 400000 in
set_option maxRecDepth 4000 in
theorem wf_sound (s : ByteArray) (w : World) (hm : s.size ≤ 9223372036854775000) : Calls Try.prog 27 #[.string s] w fun e w' => Sound s e ∧ w' = w := by
  go_enter Try.func27, Try.ntmps27
  go_wp2
  go_loop [3] (fun i => ∃ ls, i = .int .i64 (sumN ls) ∧ sumN ls ≤ s.size ∧ Run (byteAt s) 0 ls) (fun i => s.size - (intOf i).toNat)
  case atStart => exact ⟨[], rfl, Nat.zero_le _, trivial⟩
  case round =>
    obtain ⟨ls, rfl, hle, hr⟩ := hrel
    have HR : Hid (Run (byteAt s) 0 ls) := hr
    clear hr
    obtain ⟨i, hi⟩ : ∃ i, i = sumN ls := ⟨_, rfl⟩
    rw [← hi] at hle ⊢
    have HI : Hid (i = sumN ls) := hi
    clear hi
    by_cases hlt : i < s.size
    · have hb := byteAt_get s i hlt
      have hbr := byteAt_range s i
      have hl4 := charLen_le (byteAt s i)
      obtain ⟨l, hl⟩ : ∃ l, l = charLen (byteAt s i) := ⟨_, rfl⟩
      have HL : Hid (l = charLen (byteAt s i)) := hl
      have hcl : ∀ w : World, Calls Try.prog 33 #[.int .u8 (byteAt s i)] w fun e w' => e = .returned (.int .i64 l) ∧ w' = w := fun w => by rw [hl]; exact charLen_any _ w hbr.1 hbr.2
      have HC : Hid (∀ w : World, Calls Try.prog 33 #[.int .u8 (byteAt s i)] w fun e w' => e = .returned (.int .i64 l) ∧ w' = w) := hcl
      rw [← hl] at hl4
      clear hl hcl
      by_cases h0 : l = 0
      · subst h0
        go_wp2_with (first | (go_at_call 33; refine (HC.out _).mono ?_; rintro e w' ⟨rfl, rfl⟩) | go_in)
        go_ret
        exact ⟨⟨false, rfl, by simp⟩, rfl⟩
      · by_cases h1 : s.size < i + l
        · go_wp2_with (first | (go_at_call 33; refine (HC.out _).mono ?_; rintro e w' ⟨rfl, rfl⟩) | go_in)
          go_ret
          exact ⟨⟨false, rfl, by simp⟩, rfl⟩
        · have hz : ((l : Int) == 0) = false := by simp [h0]
          go_wp2_with (first | (go_at_call 33; refine (HC.out _).mono ?_; rintro e w' ⟨rfl, rfl⟩) | go_in)
          clear hb hbr
          go_loop [5] (fun x => ∃ k : Nat, x = .int .i64 k ∧ 1 ≤ k ∧ k ≤ l ∧ ∀ j, 1 ≤ j → j < k → contB (byteAt s (i + j)) = true) (fun x => l - (intOf x).toNat)
          case atStart => exact ⟨1, rfl, by omega, by omega, fun j a b => absurd b (by omega)⟩
          case round =>
            obtain ⟨k, rfl, hk1, hk2, hc⟩ := hrel
            have HK : Hid (∀ j, 1 ≤ j → j < k → contB (byteAt s (i + j)) = true) := hc
            clear hc
            by_cases hkl : k < l
            · have hb := byteAt_get s (i + k) (by omega)
              have hbr := byteAt_range s (i + k)
              cases hcb : contB (byteAt s (i + k))
              · go_wp2_with (first | (go_at_call 26; refine (isCont_any _ _ hbr.1 hbr.2).mono ?_; rintro e w' ⟨rfl, rfl⟩) | go_in)
                go_ret
                exact ⟨⟨false, rfl, by simp⟩, rfl⟩
              · have HB : Hid (contB (byteAt s (i + k)) = true) := hcb
                go_wp2_with (first | (go_at_call 26; refine (isCont_any _ _ hbr.1 hbr.2).mono ?_; rintro e w' ⟨rfl, rfl⟩) | go_in)
                go_round
                case rel =>
                  refine ⟨k + 1, by go_num, by omega, by omega, fun j a b => ?_⟩
                  by_cases e : j = k
                  · rw [e]; exact HB.out
                  · exact HK.out j a (by omega)
                case measure => simp [intOf]; omega
            · obtain rfl : k = l := by omega
              go_wp2
              go_round
              case rel =>
                have e : sumN (ls ++ [k]) = i + k := by rw [sumN_append, ← HI.out]; rfl
                refine ⟨ls ++ [k], by rw [e]; go_num, by omega, ?_⟩
                rw [run_append]
                refine ⟨HR.out, ?_⟩
                rw [Nat.zero_add, ← HI.out]
                exact ⟨h0, HL.out.symm, HK.out, trivial⟩
              case measure => simp [intOf]; omega
    · go_wp2
      go_ret
      exact ⟨⟨true, rfl, fun _ => ⟨ls, HR.out, by have := HI.out; omega⟩⟩, rfl⟩

/-- What stands at a place where a character begins. -/
theorem at_char {s : ByteArray} {a b : List Nat} (hr : Run (byteAt s) 0 (a ++ b)) (hs : sumN (a ++ b) = s.size) (hlt : sumN a < s.size) : ∃ l c, b = l :: c ∧ l ≠ 0 ∧ charLen (byteAt s (sumN a)) = l ∧ (∀ k, 1 ≤ k → k < l → contB (byteAt s (sumN a + k)) = true) ∧ sumN a + l ≤ s.size := by
  rw [run_append] at hr
  rw [sumN_append] at hs
  cases b with
  | nil => simp [sumN] at hs; omega
  | cons l c =>
    have h := hr.2
    rw [Nat.zero_add] at h
    simp only [sumN] at hs
    exact ⟨l, c, rfl, h.1, h.2.1, h.2.2.1, by omega⟩

set_option maxHeartbeats 400000 in
set_option maxRecDepth 4000 in
theorem wf_complete (s : ByteArray) (w : World) (hm : s.size ≤ 9223372036854775000) (h : WF s) : Calls Try.prog 27 #[.string s] w fun e w' => e = .returned (.bool true) ∧ w' = w := by
  obtain ⟨L, hR, hS⟩ := h
  have HR : Hid (Run (byteAt s) 0 L ∧ sumN L = s.size) := ⟨hR, hS⟩
  clear hR hS
  go_enter Try.func27, Try.ntmps27
  go_wp2
  go_loop [3] (fun i => ∃ a b, i = .int .i64 (sumN a) ∧ L = a ++ b) (fun i => s.size - (intOf i).toNat)
  case atStart => exact ⟨[], L, rfl, rfl⟩
  case round =>
    obtain ⟨a, b, rfl, hab⟩ := hrel
    have hle : sumN a ≤ s.size := by have := HR.out.2; rw [hab, sumN_append] at this; omega
    have HAB : Hid (L = a ++ b) := hab
    clear hab
    obtain ⟨i, hi⟩ : ∃ i, i = sumN a := ⟨_, rfl⟩
    rw [← hi] at hle ⊢
    have HI : Hid (i = sumN a) := hi
    clear hi
    by_cases hlt : i < s.size
    · have hch := at_char (s := s) (a := a) (b := b) (by rw [← HAB.out]; exact HR.out.1) (by rw [← HAB.out]; exact HR.out.2) (by rw [← HI.out]; exact hlt)
      rw [← HI.out] at hch
      obtain ⟨l, c, hbl, h0, hcl, hct, hsz⟩ := hch
      have HBL : Hid (b = l :: c) := hbl
      have HCT : Hid (∀ k, 1 ≤ k → k < l → contB (byteAt s (i + k)) = true) := hct
      have hb := byteAt_get s i hlt
      have hbr := byteAt_range s i
      have hl4 := charLen_le (byteAt s i)
      have HC : Hid (∀ w : World, Calls Try.prog 33 #[.int .u8 (byteAt s i)] w fun e w' => e = .returned (.int .i64 l) ∧ w' = w) := fun w => by rw [← hcl]; exact charLen_any _ w hbr.1 hbr.2
      rw [hcl] at hl4
      have hz : ((l : Int) == 0) = false := by simp [h0]
      clear hbl hct hcl
      go_wp2_with (first | (go_at_call 33; refine (HC.out _).mono ?_; rintro e w' ⟨rfl, rfl⟩) | go_in)
      clear hb hbr
      go_loop [5] (fun x => ∃ k : Nat, x = .int .i64 k ∧ 1 ≤ k ∧ k ≤ l) (fun x => l - (intOf x).toNat)
      case atStart => exact ⟨1, rfl, by omega, by omega⟩
      case round =>
        obtain ⟨k, rfl, hk1, hk2⟩ := hrel
        by_cases hkl : k < l
        · have hb := byteAt_get s (i + k) (by omega)
          have hbr := byteAt_range s (i + k)
          have hcb := HCT.out k hk1 hkl
          go_wp2_with (first | (go_at_call 26; refine (isCont_any _ _ hbr.1 hbr.2).mono ?_; rintro e w' ⟨rfl, rfl⟩) | go_in)
          go_round
          case rel => exact ⟨k + 1, by go_num, by omega, by omega⟩
          case measure => simp [intOf]; omega
        · obtain rfl : k = l := by omega
          go_wp2
          go_round
          case rel =>
            have e : sumN (a ++ [k]) = i + k := by rw [sumN_append, ← HI.out]; rfl
            exact ⟨a ++ [k], c, by rw [e]; go_num, by rw [HAB.out, HBL.out]; simp⟩
          case measure => simp [intOf]; omega
    · go_wp2
      go_ret
      exact ⟨rfl, rfl⟩

theorem prefix_short (s : ByteArray) (w : World) (h : s.size ≤ 1024) : Calls Try.prog 28 #[.string s] w fun e w' => e = .returned (.string s) ∧ w' = w := by
  go_enter Try.func28, Try.ntmps28
  go_wp2
  go_ret
  exact ⟨rfl, rfl⟩

set_option maxHeartbeats 400000 in
set_option maxRecDepth 4000 in
theorem prefix_long (s : ByteArray) (w : World) (hm : s.size ≤ 9223372036854775000) (hs : 1024 < s.size) (h : WF s) : Calls Try.prog 28 #[.string s] w fun e w' => e = .returned (.string (cutTo s (cutN s))) ∧ w' = w := by
  obtain ⟨L, hR, hS⟩ := h
  have HR : Hid (Run (byteAt s) 0 L ∧ sumN L = s.size) := ⟨hR, hS⟩
  clear hR hS
  go_enter Try.func28, Try.ntmps28
  go_wp2
  go_loop [3] (fun i => ∃ a b, i = .int .i64 (sumN a) ∧ L = a ++ b ∧ sumN a ≤ 1024) (fun i => s.size - (intOf i).toNat)
  case atStart => exact ⟨[], L, rfl, rfl, by simp [sumN]⟩
  case round =>
    obtain ⟨a, b, rfl, hab, h24⟩ := hrel
    have HAB : Hid (L = a ++ b) := hab
    clear hab
    obtain ⟨i, hi⟩ : ∃ i, i = sumN a := ⟨_, rfl⟩
    rw [← hi] at h24 ⊢
    have HI : Hid (i = sumN a) := hi
    clear hi
    have hlt : i < s.size := by omega
    have hch := at_char (s := s) (a := a) (b := b) (by rw [← HAB.out]; exact HR.out.1) (by rw [← HAB.out]; exact HR.out.2) (by rw [← HI.out]; exact hlt)
    rw [← HI.out] at hch
    obtain ⟨l, c, hbl, h0, hcl, hct, hsz⟩ := hch
    have HBL : Hid (b = l :: c) := hbl
    have HCA : Hid (1024 < i + l → CutAt s i) := fun h => cutAt_of h0 hcl hct h24 h
    have hb := byteAt_get s i hlt
    have hbr := byteAt_range s i
    have hl4 := charLen_le (byteAt s i)
    have HC : Hid (∀ w : World, Calls Try.prog 33 #[.int .u8 (byteAt s i)] w fun e w' => e = .returned (.int .i64 l) ∧ w' = w) := fun w => by rw [← hcl]; exact charLen_any _ w hbr.1 hbr.2
    rw [hcl] at hl4
    have hz : ((l : Int) == 0) = false := by simp [h0]
    clear hbl hct hcl
    by_cases hout : 1024 < i + l
    · go_wp2_with (first | (go_at_call 33; refine (HC.out _).mono ?_; rintro e w' ⟨rfl, rfl⟩) | go_in)
      go_ret
      rw [← cutAt_eq (HCA.out hout)]
      exact ⟨rfl, rfl⟩
    · go_wp2_with (first | (go_at_call 33; refine (HC.out _).mono ?_; rintro e w' ⟨rfl, rfl⟩) | go_in)
      go_round
      case rel =>
        have e : sumN (a ++ [l]) = i + l := by rw [sumN_append, ← HI.out]; rfl
        exact ⟨a ++ [l], c, by rw [e]; go_num, by rw [HAB.out, HBL.out]; simp, by omega⟩
      case measure => simp [intOf]; omega

theorem prefix_any (s : ByteArray) (w : World) (hm : s.size ≤ 9223372036854775000) (h : WF s) : Calls Try.prog 28 #[.string s] w fun e w' => e = .returned (.string (cutF s)) ∧ w' = w := by
  unfold cutF
  by_cases hs : s.size ≤ 1024
  · rw [if_pos hs]; exact prefix_short s w hs
  · rw [if_neg hs]; exact prefix_long s w hm (by omega) h

/-- What cut answers meets zzWholeCharsAgree. -/
theorem agree_any (s : ByteArray) (w : World) (hm : s.size ≤ 9223372036854775000) : Calls Try.prog 15 #[.string s, .string (cutF s)] w fun e w' => e = .returned (.bool true) ∧ w' = w := by
  obtain ⟨z1, z2⟩ := cutF_size s
  have HG : Hid (WF s → WF (cutF s)) := wf_cutF s
  have HP : Hid (∀ w : World, WF s → Calls Try.prog 28 #[.string s] w fun e w' => e = .returned (.string (cutF s)) ∧ w' = w) := fun w h => prefix_any s w hm h
  obtain ⟨g, hg⟩ : ∃ g, g = cutF s := ⟨_, rfl⟩
  rw [← hg] at z1 z2 HG HP ⊢
  clear hg
  have hne : (!(decide ((1024 : Int) < (g.size : Int)) == decide ((1024 : Int) < (s.size : Int)))) = false := by
    have e : decide ((1024 : Int) < (g.size : Int)) = decide ((1024 : Int) < (s.size : Int)) := by
      rw [decide_eq_decide]; omega
    rw [e]; simp
  clear z2
  go_enter Try.func15, Try.ntmps15
  go_wp2_with fail
  refine (wf_sound s _ hm).mono ?_
  rintro e w' ⟨⟨b, rfl, hwf⟩, rfl⟩
  cases b
  · clear hwf
    go_wp2
    go_ret
    exact ⟨rfl, rfl⟩
  · have HW : Hid (WF s) := hwf rfl
    clear hwf
    go_wp2_with fail
    refine (HP.out _ HW.out).mono ?_
    rintro e w1 ⟨rfl, rfl⟩
    go_wp2_with fail
    refine (wf_complete g _ (by omega) (HG.out HW.out)).mono ?_
    rintro e w2 ⟨rfl, rfl⟩
    go_wp2
    go_ret
    exact ⟨rfl, rfl⟩
end Go.Proofs.Qxb6609510a
