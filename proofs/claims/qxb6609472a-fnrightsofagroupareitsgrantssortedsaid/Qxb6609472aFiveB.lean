import Derived.Test.Qxb6609472aFive
import Derived.Test.Qxb6609472aGw
namespace Go.Proofs.Qxb6609472a
open Go.RowKit

set_option maxRecDepth 8000 in
set_option maxHeartbeats 2000000 in
theorem five_odd (a0 a1 a2 a3 a4 a5 : Option Addr) (l0 l1 l2 l3 l4 l5 c0 c1 c2 c3 c4 c5 : Nat) (s0 s1 s2 s3 s4 s5 : List ByteArray) (kd : Int) (id : ByteArray) (w : World)
    (m0 : l0 ≤ 65536) (m1 : l1 ≤ 65536) (m2 : l2 ≤ 65536) (m3 : l3 ≤ 65536) (m4 : l4 ≤ 65536) (m5 : l5 ≤ 65536) (ho : ¬ (l4 = l3 ∧ l5 = l3))
    (r0 : RowS w a0 l0 s0) (r1 : RowS w a1 l1 s1) (r2 : RowS w a2 l2 s2) (r3 : RowS w a3 l3 s3) (r4 : RowS w a4 l4 s4) (r5 : RowS w a5 l5 s5) :
    Calls Try.prog 5 #[.slice a0 l0 c0, .slice a1 l1 c1, .slice a2 l2 c2, .slice a3 l3 c3, .slice a4 l4 c4, .slice a5 l5 c5, .int .i64 kd, .string id] w (FivePost w) := by
  have HR : Hid (RowS w a0 l0 s0 ∧ RowS w a1 l1 s1 ∧ RowS w a2 l2 s2 ∧ RowS w a3 l3 s3 ∧ RowS w a4 l4 s4 ∧ RowS w a5 l5 s5) := ⟨r0, r1, r2, r3, r4, r5⟩
  have HW : Hid (Calls Try.prog 12 #[.slice a0 l0 c0, .slice a1 l1 c1, .slice a2 l2 c2, .slice a3 l3 c3, .slice a4 l4 c4, .slice a5 l5 c5] w fun e w' => e = .returned (.tuple #[.pointer none, .bool false]) ∧ w' = w) := gw_early a0 a1 a2 a3 a4 a5 l0 l1 l2 l3 l4 l5 c0 c1 c2 c3 c4 c5 w ho
  clear r0 r1 r2 r3 r4 r5 ho
  have HB := zzBytes10_any a0 a1 a2 a3 a4 a5 l0 l1 l2 l3 l4 l5 c0 c1 c2 c3 c4 c5 s0 s1 s2 s3 s4 s5 kd id w (by omega) (by omega) (by omega) (by omega) (by omega) (by omega) HR.out.1 HR.out.2.1 HR.out.2.2.1 HR.out.2.2.2.1 HR.out.2.2.2.2.1 HR.out.2.2.2.2.2
  have n0 : ¬ (65536 : Int) < (l0 : Int) := by omega
  have n1 : ¬ (65536 : Int) < (l1 : Int) := by omega
  have n2 : ¬ (65536 : Int) < (l2 : Int) := by omega
  have n3 : ¬ (65536 : Int) < (l3 : Int) := by omega
  have n4 : ¬ (65536 : Int) < (l4 : Int) := by omega
  have n5 : ¬ (65536 : Int) < (l5 : Int) := by omega
  go_enter Try.func5, Try.ntmps5
  go_upto_region 5 with (first
    | (go_at_call 10; refine HB.mono ?_; clear HB; rintro e w' ⟨⟨v, rfl⟩, rfl⟩; cases v))
  · go_ret
    exact ⟨rfl, Below.refl _ _⟩
  · go_cut [82] from 24 to 82 (fun c wx => wx = w' ∧ ∃ b : Bool, c = .bool b)
    case first =>
      go_wp2_with (first
        | (go_at_call_of 11 (Value.slice a0 l0 c0); refine (stringsBytes_any a0 l0 c0 s0 _ (by omega) HR.out.1).mono ?_; rintro e w1 ⟨⟨t0, rfl⟩, rfl⟩)
        | (go_at_call_of 11 (Value.slice a1 l1 c1); refine (stringsBytes_any a1 l1 c1 s1 _ (by omega) HR.out.2.1).mono ?_; rintro e w1 ⟨⟨t0, rfl⟩, rfl⟩)
        | (go_at_call_of 11 (Value.slice a2 l2 c2); refine (stringsBytes_any a2 l2 c2 s2 _ (by omega) HR.out.2.2.1).mono ?_; rintro e w1 ⟨⟨t0, rfl⟩, rfl⟩)
        | (go_at_call_of 11 (Value.slice a3 l3 c3); refine (stringsBytes_any a3 l3 c3 s3 _ (by omega) HR.out.2.2.2.1).mono ?_; rintro e w1 ⟨⟨t0, rfl⟩, rfl⟩)
        | (go_at_call_of 11 (Value.slice a4 l4 c4); refine (stringsBytes_any a4 l4 c4 s4 _ (by omega) HR.out.2.2.2.2.1).mono ?_; rintro e w1 ⟨⟨t0, rfl⟩, rfl⟩)
        | (go_at_call_of 11 (Value.slice a5 l5 c5); refine (stringsBytes_any a5 l5 c5 s5 _ (by omega) HR.out.2.2.2.2.2).mono ?_; rintro e w1 ⟨⟨t0, rfl⟩, rfl⟩))
      all_goals go_meet
      all_goals exact ⟨rfl, _, rfl⟩
    case rest =>
      obtain ⟨rfl, b, rfl⟩ := hcut
      cases b with
      | true =>
        go_wp2_with fail
        go_ret
        exact ⟨rfl, Below.refl _ _⟩
      | false =>
        go_wp2_with (first
          | (go_at_call 12; refine HW.out.mono ?_; clear HW; rintro e w1 ⟨rfl, rfl⟩))
        go_ret
        exact ⟨rfl, Below.refl _ _⟩

set_option maxRecDepth 8000 in
set_option maxHeartbeats 2000000 in
theorem five_long (a0 a1 a2 a3 a4 a5 : Option Addr) (l0 l1 l2 l3 l4 l5 c0 c1 c2 c3 c4 c5 : Nat) (s0 s1 s2 s3 s4 s5 : List ByteArray) (kd : Int) (id : ByteArray) (w : World)
    (m0 : l0 ≤ 9223372036854775807) (m1 : l1 ≤ 9223372036854775807) (m2 : l2 ≤ 9223372036854775807) (m3 : l3 ≤ 9223372036854775807) (m4 : l4 ≤ 9223372036854775807) (m5 : l5 ≤ 9223372036854775807)
    (ho : ¬ (l0 ≤ 65536 ∧ l1 ≤ 65536 ∧ l2 ≤ 65536 ∧ l3 ≤ 65536 ∧ l4 ≤ 65536 ∧ l5 ≤ 65536))
    (r0 : RowS w a0 l0 s0) (r1 : RowS w a1 l1 s1) (r2 : RowS w a2 l2 s2) (r3 : RowS w a3 l3 s3) (r4 : RowS w a4 l4 s4) (r5 : RowS w a5 l5 s5) :
    Calls Try.prog 5 #[.slice a0 l0 c0, .slice a1 l1 c1, .slice a2 l2 c2, .slice a3 l3 c3, .slice a4 l4 c4, .slice a5 l5 c5, .int .i64 kd, .string id] w (FivePost w) := by
  have HB := zzBytes10_any a0 a1 a2 a3 a4 a5 l0 l1 l2 l3 l4 l5 c0 c1 c2 c3 c4 c5 s0 s1 s2 s3 s4 s5 kd id w m0 m1 m2 m3 m4 m5 r0 r1 r2 r3 r4 r5
  clear r0 r1 r2 r3 r4 r5
  have ho' : 65536 < l0 ∨ 65536 < l1 ∨ 65536 < l2 ∨ 65536 < l3 ∨ 65536 < l4 ∨ 65536 < l5 := by omega
  have HO : Hid (65536 < l0 ∨ 65536 < l1 ∨ 65536 < l2 ∨ 65536 < l3 ∨ 65536 < l4 ∨ 65536 < l5) := ho'
  clear ho ho'
  go_enter Try.func5, Try.ntmps5
  go_upto_region 3 with (first
    | (go_at_call 10; refine HB.mono ?_; clear HB; rintro e w' ⟨⟨v, rfl⟩, rfl⟩; cases v))
  · go_ret
    exact ⟨rfl, Below.refl _ _⟩
  · by_cases n0 : (65536 : Int) < (l0 : Int)
    · go_wp2_with fail
      go_ret
      exact ⟨rfl, Below.refl _ _⟩
    by_cases n1 : (65536 : Int) < (l1 : Int)
    · go_wp2_with fail
      go_ret
      exact ⟨rfl, Below.refl _ _⟩
    by_cases n2 : (65536 : Int) < (l2 : Int)
    · go_wp2_with fail
      go_ret
      exact ⟨rfl, Below.refl _ _⟩
    by_cases n3 : (65536 : Int) < (l3 : Int)
    · go_wp2_with fail
      go_ret
      exact ⟨rfl, Below.refl _ _⟩
    by_cases n4 : (65536 : Int) < (l4 : Int)
    · go_wp2_with fail
      go_ret
      exact ⟨rfl, Below.refl _ _⟩
    have n5 : (65536 : Int) < (l5 : Int) := by have := HO.out; omega
    go_wp2_with fail
    go_ret
    exact ⟨rfl, Below.refl _ _⟩

theorem gw_any (a0 a1 a2 a3 a4 a5 : Option Addr) (l0 l1 l2 l3 c0 c1 c2 c3 c4 c5 : Nat) (s0 s1 s2 s3 s4 s5 : List ByteArray) (w : World)
    (m0 : l0 ≤ 65536) (m1 : l1 ≤ 65536) (m2 : l2 ≤ 65536) (m3 : l3 ≤ 65536)
    (r0 : RowS w a0 l0 s0) (r1 : RowS w a1 l1 s1) (r2 : RowS w a2 l2 s2) (r3 : RowS w a3 l3 s3) (r4 : RowS w a4 l3 s4) (r5 : RowS w a5 l3 s5) :
    Calls Try.prog 12 #[.slice a0 l0 c0, .slice a1 l1 c1, .slice a2 l2 c2, .slice a3 l3 c3, .slice a4 l3 c4, .slice a5 l3 c5] w (GwPost w l2 l3 s2 s3 s4 s5) := by
  by_cases h : (0 < l1 ∨ 0 < l2) ∧ l0 = 0
  · obtain ⟨h, rfl⟩ := h
    refine (gw_early2 a0 a1 a2 a3 a4 a5 l1 l2 l3 c0 c1 c2 c3 c4 c5 w h).mono ?_
    rintro e w' ⟨rfl, rfl⟩
    exact ⟨Below.refl _ _, .inl rfl⟩
  · exact gw_main a0 a1 a2 a3 a4 a5 l0 l1 l2 l3 c0 c1 c2 c3 c4 c5 s0 s1 s2 s3 s4 s5 w h m0 m1 m2 m3 r0 r1 r2 r3 r4 r5

/-- The law itself. -/
theorem five_any (a0 a1 a2 a3 a4 a5 : Option Addr) (l0 l1 l2 l3 l4 l5 c0 c1 c2 c3 c4 c5 : Nat) (s0 s1 s2 s3 s4 s5 : List ByteArray) (kd : Int) (id : ByteArray) (w : World) (hid : id.size ≤ maxLen)
    (m0 : l0 ≤ 9223372036854775807) (m1 : l1 ≤ 9223372036854775807) (m2 : l2 ≤ 9223372036854775807) (m3 : l3 ≤ 9223372036854775807) (m4 : l4 ≤ 9223372036854775807) (m5 : l5 ≤ 9223372036854775807)
    (r0 : RowS w a0 l0 s0) (r1 : RowS w a1 l1 s1) (r2 : RowS w a2 l2 s2) (r3 : RowS w a3 l3 s3) (r4 : RowS w a4 l4 s4) (r5 : RowS w a5 l5 s5) :
    Calls Try.prog 5 #[.slice a0 l0 c0, .slice a1 l1 c1, .slice a2 l2 c2, .slice a3 l3 c3, .slice a4 l4 c4, .slice a5 l5 c5, .int .i64 kd, .string id] w (FivePost w) := by
  by_cases h : l0 ≤ 65536 ∧ l1 ≤ 65536 ∧ l2 ≤ 65536 ∧ l3 ≤ 65536 ∧ l4 ≤ 65536 ∧ l5 ≤ 65536
  · obtain ⟨h0, h1, h2, h3, h4, h5⟩ := h
    by_cases ho : l4 = l3 ∧ l5 = l3
    · obtain ⟨rfl, rfl⟩ := ho
      exact five_even a0 a1 a2 a3 a4 a5 l0 l1 l2 l5 c0 c1 c2 c3 c4 c5 s0 s1 s2 s3 s4 s5 kd id w hid h0 h1 h2 h3 r0 r1 r2 r3 r4 r5 (gw_any a0 a1 a2 a3 a4 a5 l0 l1 l2 l5 c0 c1 c2 c3 c4 c5 s0 s1 s2 s3 s4 s5 w h0 h1 h2 h3 r0 r1 r2 r3 r4 r5)
    · exact five_odd a0 a1 a2 a3 a4 a5 l0 l1 l2 l3 l4 l5 c0 c1 c2 c3 c4 c5 s0 s1 s2 s3 s4 s5 kd id w h0 h1 h2 h3 h4 h5 ho r0 r1 r2 r3 r4 r5
  · exact five_long a0 a1 a2 a3 a4 a5 l0 l1 l2 l3 l4 l5 c0 c1 c2 c3 c4 c5 s0 s1 s2 s3 s4 s5 kd id w m0 m1 m2 m3 m4 m5 h r0 r1 r2 r3 r4 r5
end Go.Proofs.Qxb6609472a
