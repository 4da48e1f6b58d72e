import Derived.Test.Qxb6609472aRows
import Derived.WalkKit
import Derived.WalkSpells
import Derived.WalkLawsBesides
import Derived.Below
import Derived.WalkSmall
import Derived.Deep.RegionHeld3
import Derived.Deep.QuietTactic
import Derived.BigQuiet
namespace Go.Proofs.Qxb6609472a
open Go.RowKit

/-- WHAT IS TOLD OF A SLICE OF STRINGS: where it has an element, it leads to a row. -/
def RowS (w : World) (a : Option Addr) (len : Nat) (ss : List ByteArray) : Prop := 0 < len → ∃ b off, a = some ⟨b, off, none⟩ ∧ ∀ i, i < len → w.cell? ⟨b, off + i, none⟩ = some (.string (ss.getD i ByteArray.empty)) ∧ (ss.getD i ByteArray.empty).size ≤ maxLen

theorem RowS.lt {w : World} {b off len : Nat} {ss : List ByteArray} (h : ∀ i, i < len → w.cell? ⟨b, off + i, none⟩ = some (.string (ss.getD i ByteArray.empty)) ∧ (ss.getD i ByteArray.empty).size ≤ maxLen) (hp : 0 < len) : b < w.heap.size := by
  have h0 := (h 0 hp).1
  rcases Nat.lt_or_ge b w.heap.size with h' | h'
  · exact h'
  · simp [World.cell?, Array.getElem?_eq_none h'] at h0

theorem RowS.below {w w' : World} {a : Option Addr} {len : Nat} {ss : List ByteArray} (h : RowS w a len ss) (hb : Below w.heap.size w w') : RowS w' a len ss := by
  intro hp
  obtain ⟨b, off, e, hc⟩ := h hp
  exact ⟨b, off, e, fun i hi => ⟨(hb.cell (RowS.lt hc hp)).trans (hc i hi).1, (hc i hi).2⟩⟩


/-- It returns some bool. -/
def RetBool (e : Ending) : Prop := ∃ v : Bool, e = .returned (.bool v)
/-- It returns some int. -/
def RetInt (e : Ending) : Prop := ∃ v : Int, e = .returned (.int .i64 v)

theorem stringsBytes_any (a : Option Addr) (len cap : Nat) (ss : List ByteArray) (w : World) (hm : len ≤ 9223372036854775807) (h : RowS w a len ss) :
    Calls Try.prog 11 #[.slice a len cap] w fun e w' => RetInt e ∧ w' = w := by
  have H : Hid (RowS w a len ss) := h
  clear h
  go_enter Try.func11, Try.ntmps11
  go_wp2
  go_loop [3, 4] (fun t i => ∃ (k : Nat) (v : Int), k ≤ len ∧ i = .int .i64 k ∧ t = .int .i64 v) (fun _ i => len - (intOf i).toNat)
  case atStart => exact ⟨0, 0, Nat.zero_le _, rfl, rfl⟩
  case round =>
    obtain ⟨k, v, hk, rfl, rfl⟩ := hrel
    by_cases hlt : k < len
    · obtain ⟨b, off, rfl, hc⟩ := H.out (by omega)
      obtain ⟨hck, hsz⟩ := hc k hlt
      obtain ⟨s, hs⟩ : ∃ s, s = ss.getD k ByteArray.empty := ⟨_, rfl⟩
      rw [← hs] at hck hsz
      clear hc hs H hsz
      go_wp2
      go_round
      case rel => exact ⟨k + 1, _, by omega, by go_num, rfl⟩
      case measure => simp [intOf]; omega
    · go_wp2
      go_ret
      exact ⟨⟨v, rfl⟩, rfl⟩

/-- How strings are compared. -/
def cmpS (a b : ByteArray) : Int := if Op.bytesLess a.toList b.toList = true then -1 else if (!a.toList == b.toList) = true then 1 else 0

theorem compare_str (a b : ByteArray) (w : World) : Calls Try.prog 23 #[.string a, .string b] w fun e w' => e = .returned (.int .i64 (cmpS a b)) ∧ w' = w := by
  unfold cmpS
  by_cases h1 : Op.bytesLess a.toList b.toList = true
  · rw [if_pos h1]
    go_enter Try.func23, Try.ntmps23
    go_wp2
    go_ret
    exact ⟨rfl, rfl⟩
  · rw [if_neg h1]
    have h1' : Op.bytesLess a.toList b.toList = false := by simpa using h1
    clear h1
    by_cases h2 : (!a.toList == b.toList) = true
    · rw [if_pos h2]
      go_enter Try.func23, Try.ntmps23
      go_wp2
      go_ret
      exact ⟨rfl, rfl⟩
    · rw [if_neg h2]
      have h2' : (!a.toList == b.toList) = false := by simpa using h2
      clear h2
      go_enter Try.func23, Try.ntmps23
      go_wp2
      go_ret
      exact ⟨rfl, rfl⟩

/-- What zzRightBefore answers. -/
def beforeR (r1 o1 r2 o2 : ByteArray) : Bool := Op.bytesLess r1.toList r2.toList || (r1.toList == r2.toList && Op.bytesLess o1.toList o2.toList)

theorem rightBefore_any (r1 o1 r2 o2 : ByteArray) (w : World) (h : beforeR r1 o1 r2 o2 = true) : Calls Try.prog 14 #[.string r1, .string o1, .string r2, .string o2] w fun e w' => e = .returned (.bool true) ∧ w' = w := by
  unfold beforeR at h
  by_cases h1 : Op.bytesLess r1.toList r2.toList = true
  · clear h
    go_enter Try.func14, Try.ntmps14
    go_wp2
    go_ret
    exact ⟨rfl, rfl⟩
  · have h1' : Op.bytesLess r1.toList r2.toList = false := by simpa using h1
    rw [h1'] at h
    simp at h
    obtain ⟨h2, h3⟩ := h
    clear h1
    go_enter Try.func14, Try.ntmps14
    go_wp2
    all_goals go_ret
    all_goals exact ⟨rfl, rfl⟩

set_option maxHeartbeats 4000000 in
set_option maxRecDepth 8000 in
theorem zzBytes10_any (a0 a1 a2 a3 a4 a5 : Option Addr) (n0 n1 n2 n3 n4 n5 c0 c1 c2 c3 c4 c5 : Nat) (s0 s1 s2 s3 s4 s5 : List ByteArray) (kd : Int) (sid : ByteArray) (w : World)
    (m0 : n0 ≤ 9223372036854775807) (m1 : n1 ≤ 9223372036854775807) (m2 : n2 ≤ 9223372036854775807) (m3 : n3 ≤ 9223372036854775807) (m4 : n4 ≤ 9223372036854775807) (m5 : n5 ≤ 9223372036854775807)
    (h0 : RowS w a0 n0 s0) (h1 : RowS w a1 n1 s1) (h2 : RowS w a2 n2 s2) (h3 : RowS w a3 n3 s3) (h4 : RowS w a4 n4 s4) (h5 : RowS w a5 n5 s5) :
    Calls Try.prog 10 #[.slice a0 n0 c0, .slice a1 n1 c1, .slice a2 n2 c2, .slice a3 n3 c3, .slice a4 n4 c4, .slice a5 n5 c5, .int .i64 kd, .string sid] w fun e w' => RetBool e ∧ w' = w := by
  have H0 : Hid (RowS w a0 n0 s0) := h0
  have H1 : Hid (RowS w a1 n1 s1) := h1
  have H2 : Hid (RowS w a2 n2 s2) := h2
  have H3 : Hid (RowS w a3 n3 s3) := h3
  have H4 : Hid (RowS w a4 n4 s4) := h4
  have H5 : Hid (RowS w a5 n5 s5) := h5
  clear h0 h1 h2 h3 h4 h5
  go_enter Try.func10, Try.ntmps10
  go_wp2
  all_goals first | (go_ret; exact ⟨⟨_, rfl⟩, rfl⟩) | skip
  go_loop [17, 18] (fun t x => ∃ (k : Nat) (v : Int), k ≤ n0 ∧ x = .int .i64 k ∧ t = .int .i64 v ∧ 0 ≤ v ∧ v ≤ 1048576) (fun _ x => n0 - (intOf x).toNat)
  case atStart => exact ⟨0, _, Nat.zero_le _, rfl, rfl, by omega, by omega⟩
  case round =>
    obtain ⟨k0, v0, hk0, rfl, rfl, hv0, hw0⟩ := hrel
    by_cases hlt : k0 < n0
    · obtain ⟨b, off, rfl, hc⟩ := H0.out (by omega)
      obtain ⟨hck, hsz⟩ := hc k0 hlt
      obtain ⟨s, hs⟩ : ∃ s, s = s0.getD k0 ByteArray.empty := ⟨_, rfl⟩
      rw [← hs] at hck hsz
      unfold maxLen at hsz
      clear hc hs
      by_cases g1 : 1048576 < s.size
      · go_wp2
        go_ret
        exact ⟨⟨_, rfl⟩, rfl⟩
      · by_cases g2 : 1048576 < v0 + s.size
        · go_wp2
          go_ret
          exact ⟨⟨_, rfl⟩, rfl⟩
        · go_wp2
          go_round
          case rel => exact ⟨k0 + 1, _, by omega, by go_num, rfl, by omega, by omega⟩
          case measure => simp [intOf]; omega
    · go_wp2
      all_goals first | (go_ret; exact ⟨⟨_, rfl⟩, rfl⟩) | skip
      go_loop [17, 19] (fun t x => ∃ (k : Nat) (v : Int), k ≤ n1 ∧ x = .int .i64 k ∧ t = .int .i64 v ∧ 0 ≤ v ∧ v ≤ 1048576) (fun _ x => n1 - (intOf x).toNat)
      case atStart => exact ⟨0, _, Nat.zero_le _, rfl, rfl, by omega, by omega⟩
      case round =>
        obtain ⟨k1, v1, hk1, rfl, rfl, hv1, hw1⟩ := hrel
        by_cases hlt : k1 < n1
        · obtain ⟨b, off, rfl, hc⟩ := H1.out (by omega)
          obtain ⟨hck, hsz⟩ := hc k1 hlt
          obtain ⟨s, hs⟩ : ∃ s, s = s1.getD k1 ByteArray.empty := ⟨_, rfl⟩
          rw [← hs] at hck hsz
          unfold maxLen at hsz
          clear hc hs
          by_cases g1 : 1048576 < s.size
          · go_wp2
            go_ret
            exact ⟨⟨_, rfl⟩, rfl⟩
          · by_cases g2 : 1048576 < v1 + s.size
            · go_wp2
              go_ret
              exact ⟨⟨_, rfl⟩, rfl⟩
            · go_wp2
              go_round
              case rel => exact ⟨k1 + 1, _, by omega, by go_num, rfl, by omega, by omega⟩
              case measure => simp [intOf]; omega
        · go_wp2
          all_goals first | (go_ret; exact ⟨⟨_, rfl⟩, rfl⟩) | skip
          go_loop [17, 20] (fun t x => ∃ (k : Nat) (v : Int), k ≤ n2 ∧ x = .int .i64 k ∧ t = .int .i64 v ∧ 0 ≤ v ∧ v ≤ 1048576) (fun _ x => n2 - (intOf x).toNat)
          case atStart => exact ⟨0, _, Nat.zero_le _, rfl, rfl, by omega, by omega⟩
          case round =>
            obtain ⟨k2, v2, hk2, rfl, rfl, hv2, hw2⟩ := hrel
            by_cases hlt : k2 < n2
            · obtain ⟨b, off, rfl, hc⟩ := H2.out (by omega)
              obtain ⟨hck, hsz⟩ := hc k2 hlt
              obtain ⟨s, hs⟩ : ∃ s, s = s2.getD k2 ByteArray.empty := ⟨_, rfl⟩
              rw [← hs] at hck hsz
              unfold maxLen at hsz
              clear hc hs
              by_cases g1 : 1048576 < s.size
              · go_wp2
                go_ret
                exact ⟨⟨_, rfl⟩, rfl⟩
              · by_cases g2 : 1048576 < v2 + s.size
                · go_wp2
                  go_ret
                  exact ⟨⟨_, rfl⟩, rfl⟩
                · go_wp2
                  go_round
                  case rel => exact ⟨k2 + 1, _, by omega, by go_num, rfl, by omega, by omega⟩
                  case measure => simp [intOf]; omega
            · go_wp2
              all_goals first | (go_ret; exact ⟨⟨_, rfl⟩, rfl⟩) | skip
              go_loop [17, 21] (fun t x => ∃ (k : Nat) (v : Int), k ≤ n3 ∧ x = .int .i64 k ∧ t = .int .i64 v ∧ 0 ≤ v ∧ v ≤ 1048576) (fun _ x => n3 - (intOf x).toNat)
              case atStart => exact ⟨0, _, Nat.zero_le _, rfl, rfl, by omega, by omega⟩
              case round =>
                obtain ⟨k3, v3, hk3, rfl, rfl, hv3, hw3⟩ := hrel
                by_cases hlt : k3 < n3
                · obtain ⟨b, off, rfl, hc⟩ := H3.out (by omega)
                  obtain ⟨hck, hsz⟩ := hc k3 hlt
                  obtain ⟨s, hs⟩ : ∃ s, s = s3.getD k3 ByteArray.empty := ⟨_, rfl⟩
                  rw [← hs] at hck hsz
                  unfold maxLen at hsz
                  clear hc hs
                  by_cases g1 : 1048576 < s.size
                  · go_wp2
                    go_ret
                    exact ⟨⟨_, rfl⟩, rfl⟩
                  · by_cases g2 : 1048576 < v3 + s.size
                    · go_wp2
                      go_ret
                      exact ⟨⟨_, rfl⟩, rfl⟩
                    · go_wp2
                      go_round
                      case rel => exact ⟨k3 + 1, _, by omega, by go_num, rfl, by omega, by omega⟩
                      case measure => simp [intOf]; omega
                · go_wp2
                  all_goals first | (go_ret; exact ⟨⟨_, rfl⟩, rfl⟩) | skip
                  go_loop [17, 22] (fun t x => ∃ (k : Nat) (v : Int), k ≤ n4 ∧ x = .int .i64 k ∧ t = .int .i64 v ∧ 0 ≤ v ∧ v ≤ 1048576) (fun _ x => n4 - (intOf x).toNat)
                  case atStart => exact ⟨0, _, Nat.zero_le _, rfl, rfl, by omega, by omega⟩
                  case round =>
                    obtain ⟨k4, v4, hk4, rfl, rfl, hv4, hw4⟩ := hrel
                    by_cases hlt : k4 < n4
                    · obtain ⟨b, off, rfl, hc⟩ := H4.out (by omega)
                      obtain ⟨hck, hsz⟩ := hc k4 hlt
                      obtain ⟨s, hs⟩ : ∃ s, s = s4.getD k4 ByteArray.empty := ⟨_, rfl⟩
                      rw [← hs] at hck hsz
                      unfold maxLen at hsz
                      clear hc hs
                      by_cases g1 : 1048576 < s.size
                      · go_wp2
                        go_ret
                        exact ⟨⟨_, rfl⟩, rfl⟩
                      · by_cases g2 : 1048576 < v4 + s.size
                        · go_wp2
                          go_ret
                          exact ⟨⟨_, rfl⟩, rfl⟩
                        · go_wp2
                          go_round
                          case rel => exact ⟨k4 + 1, _, by omega, by go_num, rfl, by omega, by omega⟩
                          case measure => simp [intOf]; omega
                    · go_wp2
                      all_goals first | (go_ret; exact ⟨⟨_, rfl⟩, rfl⟩) | skip
                      go_loop [17, 23] (fun t x => ∃ (k : Nat) (v : Int), k ≤ n5 ∧ x = .int .i64 k ∧ t = .int .i64 v ∧ 0 ≤ v ∧ v ≤ 1048576) (fun _ x => n5 - (intOf x).toNat)
                      case atStart => exact ⟨0, _, Nat.zero_le _, rfl, rfl, by omega, by omega⟩
                      case round =>
                        obtain ⟨k5, v5, hk5, rfl, rfl, hv5, hw5⟩ := hrel
                        by_cases hlt : k5 < n5
                        · obtain ⟨b, off, rfl, hc⟩ := H5.out (by omega)
                          obtain ⟨hck, hsz⟩ := hc k5 hlt
                          obtain ⟨s, hs⟩ : ∃ s, s = s5.getD k5 ByteArray.empty := ⟨_, rfl⟩
                          rw [← hs] at hck hsz
                          unfold maxLen at hsz
                          clear hc hs
                          by_cases g1 : 1048576 < s.size
                          · go_wp2
                            go_ret
                            exact ⟨⟨_, rfl⟩, rfl⟩
                          · by_cases g2 : 1048576 < v5 + s.size
                            · go_wp2
                              go_ret
                              exact ⟨⟨_, rfl⟩, rfl⟩
                            · go_wp2
                              go_round
                              case rel => exact ⟨k5 + 1, _, by omega, by go_num, rfl, by omega, by omega⟩
                              case measure => simp [intOf]; omega
                        · go_wp2
                          all_goals first | (go_ret; exact ⟨⟨_, rfl⟩, rfl⟩) | skip
end Go.Proofs.Qxb6609472a
