import Derived.Test.Qxb6609416aClone
import Derived.Deep.QuietTactic
import Derived.BigQuiet
import Derived.WalkSmall
namespace Go.Proofs.Qxb6609416a
open Go.RowKit

/-- What is owned stays owned where nothing that was there has turned. -/
theorem ownsRow_below {w w' : World} {base : Nat} {e : TypeId} {size : Nat} {v : Value} {n : Nat} {xs : List Value} (h : w.ownsRow base e size v n xs) (hb : Below w.heap.size w w') : w'.ownsRow base e size v n xs := by
  obtain ⟨h1, h2⟩ := h
  refine ⟨h1, ?_⟩
  rcases h2 with h2 | ⟨g, cap, cur, hv, hg, hh, r⟩
  · exact Or.inl h2
  · exact Or.inr ⟨g, cap, cur, hv, hg, by rw [hb.block g (Array.getElem?_eq_some_iff.1 hh).1]; exact hh, r⟩

/-- Too long: true at once. -/
theorem key_long (a0 a1 : Int) (a2 a3 : Bool) (a4 : Option Addr) (len cap : Nat) (w : World) (hm : len ≤ 9223372036854775807) (h : 1048576 < len) :
    Calls Try.prog 3 #[.int .i64 a0, .int .i64 a1, .bool a2, .bool a3, .slice a4 len cap] w fun e w' => e = .returned (.bool true) ∧ Below w.heap.size w w' := by
  go_enter Try.func3, Try.ntmps3
  go_wp2
  go_ret
  exact ⟨rfl, Below.refl _ _⟩

/-- The key's size is no length within the entry: true at once. -/
theorem key_off (a0 a1 : Int) (a2 a3 : Bool) (a4 : Option Addr) (len cap : Nat) (w : World) (hm : len ≤ 1048576) (h : a1 < 0 ∨ (len : Int) < a1) :
    Calls Try.prog 3 #[.int .i64 a0, .int .i64 a1, .bool a2, .bool a3, .slice a4 len cap] w fun e w' => e = .returned (.bool true) ∧ Below w.heap.size w w' := by
  rcases h with h | h
  · go_enter Try.func3, Try.ntmps3
    go_wp2
    go_ret
    exact ⟨rfl, Below.refl _ _⟩
  · have h' : ¬ a1 < 0 := by omega
    go_enter Try.func3, Try.ntmps3
    go_wp2
    go_ret
    exact ⟨rfl, Below.refl _ _⟩

/-- 'ZZkey(f, nil)' at a key of no bytes: nil. -/
theorem zzkey_nil (a0 : Int) (a2 a3 : Bool) (w : World) :
    Calls Try.prog 6 #[.agg #[.int .i64 a0, .int .i64 0, .bool a2, .bool a3], .slice none 0 0] w fun e w' => e = .returned (.slice none 0 0) ∧ Below w.heap.size w w' := by
  go_enter Try.func6, Try.ntmps6
  go_wp2
  go_ret
  exact ⟨rfl, ((Below.refl _ _).alloc (Nat.le_refl _) _).alloc (by simp) _⟩

/-- 'ZZkey(f, e)': the first ks bytes of e's own row. -/
theorem zzkey_some (a0 : Int) (ks : Nat) (a2 a3 : Bool) (g len : Nat) (w : World) (_hm : len ≤ 1048576) (_hks : ks ≤ len) :
    Calls Try.prog 6 #[.agg #[.int .i64 a0, .int .i64 ks, .bool a2, .bool a3], .slice (some ⟨g, 0, none⟩) len len] w fun e w' => e = .returned (.slice (some ⟨g, 0, none⟩) ks len) ∧ Below w.heap.size w w' := by
  go_enter Try.func6, Try.ntmps6
  go_wp2
  go_ret
  exact ⟨rfl, ((Below.refl _ _).alloc (Nat.le_refl _) _).alloc (by simp) _⟩

/-- nil. -/
theorem key_nil (a0 : Int) (a2 a3 : Bool) (w : World) :
    Calls Try.prog 3 #[.int .i64 a0, .int .i64 0, .bool a2, .bool a3, .slice none 0 0] w fun e w' => e = .returned (.bool true) ∧ Below w.heap.size w w' := by
  go_enter Try.func3, Try.ntmps3
  go_wp2_with (first | (go_at_call 5; refine (clone_nil _).mono ?_; rintro e w' ⟨rfl, rfl⟩) | (go_at_call 6; refine (zzkey_nil _ _ _ _).mono ?_; rintro e w2 ⟨rfl, hb2⟩) | go_in)
  refine wp_loop_rounds 1 ?_
  rw [rounds_succ]
  go_wp2
  go_ret
  exact ⟨rfl, ((Below.refl _ _).alloc (Nat.le_refl _) _).trans (hb2.mono (by simp))⟩

/-- Empty. -/
theorem key_empty (a0 : Int) (a2 a3 : Bool) (x : Addr) (cap : Nat) (w : World) :
    Calls Try.prog 3 #[.int .i64 a0, .int .i64 0, .bool a2, .bool a3, .slice (some x) 0 cap] w fun e w' => e = .returned (.bool true) ∧ Below w.heap.size w w' := by
  go_enter Try.func3, Try.ntmps3
  go_wp2_with (first | (go_at_call 5; refine (clone_empty _ _ _).mono ?_; rintro e w1 ⟨rfl, hb1⟩) | (go_at_call 6; refine (zzkey_some _ 0 _ _ _ 0 _ (by omega) (by omega)).mono ?_; rintro e w2 ⟨rfl, hb2⟩) | go_in)
  refine wp_loop_rounds 1 ?_
  rw [rounds_succ]
  go_wp2
  go_ret
  have := hb1.size
  exact ⟨rfl, ((hb1.alloc this _).trans (hb2.mono (by simp; omega)))⟩

set_option maxHeartbeats 400000 in
theorem key_some (a0 : Int) (ks : Nat) (a2 a3 : Bool) (b off len cap : Nat) (zs : List Int) (w : World) (hl : len ≤ cap) (hm : len ≤ 1048576) (hz : zs.length = cap)
    (hc : ∀ i, i < zs.length → w.cell? ⟨b, off + i, none⟩ = some (.int .u8 (zs.getD i 0))) (hpos : 0 < len) (hks : ks ≤ len) :
    Calls Try.prog 3 #[.int .i64 a0, .int .i64 ks, .bool a2, .bool a3, .slice (some ⟨b, off, none⟩) len cap] w fun e w' => e = .returned (.bool true) ∧ Below w.heap.size w w' := by
  have hb : b < w.heap.size := by
    have h0 := hc 0 (by omega)
    rcases Nat.lt_or_ge b w.heap.size with h' | h'
    · exact h'
    · simp [World.cell?, Array.getElem?_eq_none h'] at h0
  go_enter Try.func3, Try.ntmps3
  go_wp2_with (first | (go_at_call 5; refine (clone_some b off len cap zs _ hl hm hz hc hpos).mono ?_; rintro e w1 ⟨rfl, hb1, hs1, xs, ho1⟩) | (go_at_call 6; refine (zzkey_some _ ks _ _ _ len _ hm hks).mono ?_; rintro e w2 ⟨rfl, hb2⟩) | go_in)
  go_loopw [14] (fun i wr => ∃ k : Nat, k ≤ ks ∧ i = .int .i64 k ∧ Below w.heap.size w wr ∧ 
      ∃ xs, wr.ownsRow w.heap.size 5 1 (.slice (some ⟨w.heap.size, 0, none⟩) len len) len xs) (fun i _ => ks - (intOf i).toNat)
  case atStart =>
    have hs := hb1.size
    have e1 : Below w1.heap.size w1 w2 := ((Below.refl _ _).alloc (Nat.le_refl _) _).trans (hb2.mono (by simp))
    exact ⟨0, Nat.zero_le _, rfl, hb1.trans (e1.mono hs), xs, ownsRow_below ho1 e1⟩
  case round =>
    obtain ⟨k, hk, rfl, hbr, xs, hor⟩ := hrel
    clear ho1 hb1 hb2
    by_cases hlt : k < ks
    · have hcx : wr.cell? ⟨b, off + k, none⟩ = some (.int .u8 (zs.getD k 0)) := (hbr.cell hb).trans (hc k (by omega))
      have hx1 : xs.length = len := by have := hor.1; omega
      have hcy : wr.cell? ⟨w.heap.size, k, none⟩ = some (xs[k]'(by omega)) := by rw [hor.cellAt k (by omega)]; simp [hx1, show k < len by omega]
      have hfy : wr.frozen? ⟨w.heap.size, k, none⟩ = false := hor.frozenAt k
      clear hc
      have hi1 : (k : Int) < (len : Int) := by omega
      have hi2 : (k : Int) < (ks : Int) := by omega
      have HR : Hid (∀ v, Below w.heap.size w (wr.setCell ⟨w.heap.size, k, none⟩ v) ∧ ∃ ys, (wr.setCell ⟨w.heap.size, k, none⟩ v).ownsRow w.heap.size 5 1 (.slice (some ⟨w.heap.size, 0, none⟩) len len) len ys) :=
        fun v => ⟨hbr.setCell (Nat.le_refl _) _, _, (hor.stored k v).1⟩
      clear hor hbr
      go_wp2
      go_quiet (fail)
      go_wp2

      go_roundw
      case rel => exact ⟨k + 1, by omega, by go_num, below_drewN (HR.out _).1 _, (HR.out _).2⟩
      case measure => simp [intOf]; omega
    · go_wp2
      go_ret
      exact ⟨rfl, hbr⟩
end Go.Proofs.Qxb6609416a
