import Derived.Test.Qxb6609472aMap
import Derived.Outline
namespace Go.Proofs.Qxb6609472a
open Go.RowKit Go.Maps

/-- Block b is the index of the first k names. -/
def IdxMap (W : World) (b k : Nat) (names : List ByteArray) : Prop :=
  ∃ f, MapIs 9 3 W b k f ∧ (∀ s, f (.string s) = none → ∀ i, i < k → names.getD i ByteArray.empty ≠ s) ∧ (∀ s v, f (.string s) = some v → ∃ i : Nat, i < k ∧ v = .int .i64 i ∧ names.getD i ByteArray.empty = s) ∧ (∀ i : Nat, i < k → f (.string (names.getD i ByteArray.empty)) = some (.int .i64 i))

theorem run_makeMap49 (w : World) (n : Nat) : (Instr.makeMap 49 (some (.int .i64 n))).run Try.prog w = .ok (.map (some w.heap.size)) (w.alloc (.map #[] 0)) := by
  simp [Instr.makeMap, run_underlying Try.underlying49, Result.andThen]
  rfl
theorem run_makeMap38 (w : World) (n : Nat) : (Instr.makeMap 38 (some (.int .i64 n))).run Try.prog w = .ok (.map (some w.heap.size)) (w.alloc (.map #[] 0)) := by
  simp [Instr.makeMap, run_underlying Try.underlying38, Result.andThen]
  rfl

/-- What zzIndex gives. -/
def IndexPost (w : World) (len : Nat) (names : List ByteArray) (e : Ending) (w' : World) : Prop :=
  Below w.heap.size w w' ∧ ((e = .returned (.tuple #[.map none, .bool false])) ∨ ∃ b, e = .returned (.tuple #[.map (some b), .bool true]) ∧ w.heap.size ≤ b ∧ IdxMap w' b len names)

open Classical in
set_option maxHeartbeats 1000000 in
theorem index_any (a : Option Addr) (len cap : Nat) (ss : List ByteArray) (w : World) (hm : len ≤ 65536) (h : RowS w a len ss) :
    Calls Try.prog 16 #[.slice a len cap] w (IndexPost w len ss) := by
  have H : Hid (RowS w a len ss) := h
  clear h
  have hmm := run_makeMap49 w len
  go_enter Try.func16, Try.ntmps16
  go_wp2
  go_loopw [5, 6, 7] (fun i _ _ wr => ∃ k : Nat, k ≤ len ∧ i = .int .i64 k ∧ IdxMap wr w.heap.size k ss ∧ Below w.heap.size w wr)
    (fun i _ _ _ => len - (intOf i).toNat)
  case atStart => exact ⟨0, Nat.zero_le _, rfl, ⟨_, MapIs.made _ _ _, fun _ _ i hi => by omega, fun _ _ h => (by cases h), fun i hi => (by omega)⟩, (Below.refl _ _).alloc (Nat.le_refl _) _⟩
  case round =>
    obtain ⟨k, hk, rfl, ⟨f, hmap, hf0, hf1, hf2⟩, hnx⟩ := hrel
    by_cases hlt : k < len
    · obtain ⟨b, off, rfl, hc⟩ := H.out (by omega)
      obtain ⟨hck, hsz⟩ := hc k hlt
      have hck' := (hnx.cell (RowS.lt hc (by omega))).trans hck
      obtain ⟨s, hs⟩ : ∃ s, s = ss.getD k ByteArray.empty := ⟨_, rfl⟩
      rw [← hs] at hck hck' hsz
      have hlook := hmap.look9 hsz
      have HS : Hid (s = ss.getD k ByteArray.empty) := hs
      clear hs hc hck H hmm
      cases hfs : f (.string s) with
      | some v =>
        simp only [hfs, Option.getD_some, Option.isSome_some] at hlook
        obtain ⟨i, hi, rfl, hni⟩ := hf1 s v hfs
        have HH : Hid (Below w.heap.size w wr) := hnx
        clear hmap hf0 hf1 hf2 hnx hfs hni
        go_wp2
        go_ret2
        exact ⟨HH.out, .inl rfl⟩
      | none =>
        simp only [hfs, Option.getD_none, Option.isSome_none] at hlook
        obtain ⟨W', hrun, hmap', hg⟩ := hmap.store9 (f' := fun key => if key = .string s then some (.int .i64 k) else f key) (by unfold maxLen; omega) hsz (i := k) (WalkArith.wf_i64 (by omega)) (by simp) (fun key' h => by simp [h])
        have hb' : Below w.heap.size w W' := hnx.grown hg hnx.size (fun j hj => by cases hj; exact Nat.le_refl _)
        have RI : Hid (IdxMap W' w.heap.size (k + 1) ss ∧ Below w.heap.size w W') := ⟨⟨_, hmap', fun t ht i hi => by
            by_cases hts : t = s
            · subst hts; simp at ht
            · simp [hts] at ht
              by_cases hik : i = k
              · subst hik; rw [← HS.out]; exact fun e => hts e.symm
              · exact hf0 t ht i (by omega), fun t v ht => by
            by_cases hts : t = s
            · subst hts; simp at ht; exact ⟨k, by omega, ht.symm, HS.out.symm⟩
            · simp [hts] at ht
              obtain ⟨i, hi, hv, hn⟩ := hf1 t v ht
              exact ⟨i, by omega, hv, hn⟩, fun i hi => by
            by_cases hik : i = k
            · subst hik; rw [← HS.out]; simp
            · have hne : ss.getD i ByteArray.empty ≠ s := hf0 s hfs i (by omega)
              simp only [Value.string.injEq, hne, if_false]
              exact hf2 i (by omega)⟩, hb'⟩
        clear hmap hf0 hf1 hf2 hnx hfs hmap' hg hb' HS
        go_wp2
        go_roundw
        case rel => exact ⟨k + 1, by omega, by go_num, RI.out.1, RI.out.2⟩
        case measure => simp [intOf]; omega
    · have : k = len := by omega
      subst this
      have HH : Hid (IndexPost w k ss (.returned (.tuple #[.map (some w.heap.size), .bool true])) wr) := ⟨hnx, .inr ⟨_, rfl, Nat.le_refl _, f, hmap, hf0, hf1, hf2⟩⟩
      clear hmap hf0 hf1 hf2 hnx H hmm
      go_wp2
      go_ret2
      exact HH.out
end Go.Proofs.Qxb6609472a
