import Derived.Test.Qxb6609472aIter
import Derived.Deep.QuietTactic
import Derived.BigQuiet
namespace Go.Proofs.Qxb6609472a
open Go.RowKit Go.Shelf

theorem below_drewN {B : Nat} {w X : World} (h : Below B w X) (n : Nat) : Below B w (X.drewN n) := ⟨h.os, h.tape, h.output, h.size, h.block⟩

/-- World.Group, where the group is not there. -/
theorem group_none (bw gb G gcap mb : Nat) (s : ByteArray) (w : World) (f : Value → Option Value) (n : Nat) (hm : MapIs 9 3 w mb n f) (hs : s.size ≤ maxLen) (hf : f (.string s) = none)
    (c4 : w.cell? ⟨bw, 4, none⟩ = some (.slice (some ⟨gb, 0, none⟩) G gcap)) (c10 : w.cell? ⟨bw, 10, none⟩ = some (.map (some mb))) :
    Calls Try.prog 29 #[.pointer (some ⟨bw, 0, none⟩), .string s] w fun e w' => e = .returned (.tuple #[.pointer none, .bool false]) ∧ ∃ k, w' = w.drewN k := by
  have hl := fun W' (h : MapIs 9 3 W' mb n f) => lookup_none gb G gcap mb s W' f n h hs hf
  have HM : Hid (MapIs 9 3 w mb n f) := hm
  have HF : Hid (∀ W', MapIs 9 3 W' mb n f → Calls Try.prog 36 #[.slice (some ⟨gb, 0, none⟩) G gcap, .map (some mb), .string s] W' fun e w' => e = .returned (.tuple #[.pointer none, .bool false]) ∧ w' = W') := hl
  clear hm hf hl
  go_enter Try.func29, Try.ntmps29
  go_wp2
  go_quiet (exact Calls.quiet_of_same (HF.out _ HM.out))
  go_wp2
  go_ret2
  exact ⟨rfl, _, rfl⟩

/-- World.Group, where it is. -/
theorem group_some (bw gb G gcap mb i : Nat) (s : ByteArray) (w : World) (f : Value → Option Value) (n : Nat) (hm : MapIs 9 3 w mb n f) (hs : s.size ≤ maxLen) (hf : f (.string s) = some (.int .i64 i)) (hi : i < G)
    (c4 : w.cell? ⟨bw, 4, none⟩ = some (.slice (some ⟨gb, 0, none⟩) G gcap)) (c10 : w.cell? ⟨bw, 10, none⟩ = some (.map (some mb))) :
    Calls Try.prog 29 #[.pointer (some ⟨bw, 0, none⟩), .string s] w fun e w' => e = .returned (.tuple #[.pointer (some ⟨gb, i * 6, none⟩), .bool true]) ∧ ∃ k, w' = w.drewN k := by
  have HM : Hid (MapIs 9 3 w mb n f) := hm
  have HF : Hid (∀ W', MapIs 9 3 W' mb n f → Calls Try.prog 36 #[.slice (some ⟨gb, 0, none⟩) G gcap, .map (some mb), .string s] W' fun e w' => e = .returned (.tuple #[.pointer (some ⟨gb, i * 6, none⟩), .bool true]) ∧ w' = W') := fun W' h => lookup_some gb G gcap mb i s W' f n h hs hf hi
  clear hm hf hi
  go_enter Try.func29, Try.ntmps29
  go_wp2
  go_quiet (exact Calls.quiet_of_same (HF.out _ HM.out))
  go_wp2
  go_ret2
  exact ⟨rfl, _, rfl⟩

/-- World.positions at a kind that is no group: no map. -/
theorem positions_none (bw : Nat) (kd : Int) (w : World) (hk : kd ≠ 3) (c8 : w.cell? ⟨bw, 8, none⟩ = some (.map none)) (c9 : w.cell? ⟨bw, 9, none⟩ = some (.map none)) :
    Calls Try.prog 37 #[.pointer (some ⟨bw, 0, none⟩), .int .i64 kd] w fun e w' => e = .returned (.map none) ∧ w' = w := by
  have e3 : (kd == 3) = false := by simp [hk]
  by_cases h1 : kd = 1
  · subst h1
    go_enter Try.func37, Try.ntmps37
    go_wp2
    go_ret
    exact ⟨rfl, rfl⟩
  · have e1 : (kd == 1) = false := by simp [h1]
    by_cases h2 : kd = 2
    · subst h2
      go_enter Try.func37, Try.ntmps37
      go_wp2
      go_ret
      exact ⟨rfl, rfl⟩
    · have e2 : (kd == 2) = false := by simp [h2]
      go_enter Try.func37, Try.ntmps37
      go_wp2
      go_ret
      exact ⟨rfl, rfl⟩

theorem look_nil (w : World) {s : ByteArray} (hs : s.size ≤ maxLen) : (Instr.lookup 49 (.map none) (.string s) true).run Try.prog w = .ok (.tuple #[.int .i64 0, .bool false]) w := by
  rcases law9.find w (key9 hs) [] (by simp) with ⟨h1, _⟩ | ⟨j, e, _, h2, _⟩
  · simp [Instr.lookup, run_underlying Try.underlying49, law9.check w _ (key9 hs), h1, zero3 w, Result.andThen]
  · simp at h2

/-- World.holding at a kind that is no group: nil. -/
theorem holding_none (bw : Nat) (kd : Int) (id : ByteArray) (w : World) (hid : id.size ≤ maxLen) (hk : kd ≠ 3) (c8 : w.cell? ⟨bw, 8, none⟩ = some (.map none)) (c9 : w.cell? ⟨bw, 9, none⟩ = some (.map none)) :
    Calls Try.prog 31 #[.pointer (some ⟨bw, 0, none⟩), .agg #[.int .i64 kd, .string id]] w fun e w' => e = .returned (.pointer none) ∧ Below w.heap.size w w' := by
  have hb : bw < w.heap.size := by
    rcases Nat.lt_or_ge bw w.heap.size with h | h
    · exact h
    · simp [World.cell?, Array.getElem?_eq_none h] at c8
  have HP : Hid (∀ m, Calls Try.prog 37 #[.pointer (some ⟨bw, 0, none⟩), .int .i64 kd] ((w.alloc (.cells #[.int .i64 kd, .string id] 37)).drewN m) fun e w'' => e = .returned (.map none) ∧ ∃ k, w'' = (w.alloc (.cells #[.int .i64 kd, .string id] 37)).drewN k) := fun m => by
    have h := below_drewN ((Below.refl w.heap.size w).alloc (Nat.le_refl _) (.cells #[.int .i64 kd, .string id] 37)) m
    exact Calls.quiet_of_same (positions_none bw kd _ hk ((h.cell (p := ⟨bw, 8, none⟩) hb).trans c8) ((h.cell (p := ⟨bw, 9, none⟩) hb).trans c9))
  have hnl := fun w => look_nil w hid
  clear c8 c9 hk
  go_enter Try.func31, Try.ntmps31
  go_wp2
  go_quiet (exact HP.out _)
  go_wp2
  go_ret
  exact ⟨rfl, below_drewN ((Below.refl _ w).alloc (Nat.le_refl _) _) _⟩
end Go.Proofs.Qxb6609472a
