import Derived.Test.Qxb6612530aParse
import Derived.Deep.QuietTactic
import Derived.BigQuiet
import Derived.WalkSmall
namespace Go.Proofs.Qxb6612530a
open Go.RowKit

theorem cmp_lt {f g : Nat → Int} {d i : Nat} (h : f i < g i) : cmpFrom f g (d + 1) i = -1 := by simp [cmpFrom, h]
theorem cmp_gt {f g : Nat → Int} {d i : Nat} (h : g i < f i) : cmpFrom f g (d + 1) i = 1 := by
  have : ¬ f i < g i := by omega
  simp [cmpFrom, h, this]
theorem cmp_eq {f g : Nat → Int} {d i : Nat} (h1 : ¬ f i < g i) (h2 : ¬ g i < f i) : cmpFrom f g (d + 1) i = cmpFrom f g d (i + 1) := by simp [cmpFrom, h1, h2]

set_option maxHeartbeats 1000000 in
theorem cmpBytes_any (g G g' G' : Nat) (f f' : Nat → Int) (w : World) (h : ∀ j, j < 64 → w.cell? ⟨g, j, none⟩ = some (.int .u8 (f j))) (h' : ∀ j, j < 64 → w.cell? ⟨g', j, none⟩ = some (.int .u8 (f' j))) (hg : g < w.heap.size) (hg' : g' < w.heap.size) :
    Calls Try.prog 7 #[.slice (some ⟨g, 0, none⟩) 64 G, .slice (some ⟨g', 0, none⟩) 64 G'] w fun e w' => e = .returned (.int .i64 (cmpFrom f f' 64 0)) ∧ Below w.heap.size w w' := by
  have H : Hid (∀ j, j < 64 → w.cell? ⟨g, j, none⟩ = some (.int .u8 (f j))) := h
  have H' : Hid (∀ j, j < 64 → w.cell? ⟨g', j, none⟩ = some (.int .u8 (f' j))) := h'
  clear h h'
  go_enter Try.func7, Try.ntmps7
  go_wp2
  go_loopw [5] (fun i wr => ∃ k : Nat, k ≤ 64 ∧ i = .int .i64 k ∧ Below w.heap.size w wr ∧ cmpFrom f f' 64 0 = cmpFrom f f' (64 - k) k) (fun i _ => 64 - (intOf i).toNat)
  case atStart => exact ⟨0, by omega, rfl, Below.refl _ _, rfl⟩
  case round =>
    obtain ⟨k, hk, rfl, hbr, hcm⟩ := hrel
    have HC : Hid (cmpFrom f f' 64 0 = cmpFrom f f' (64 - k) k) := hcm
    have HB : Hid (Below w.heap.size w wr) := hbr
    clear hcm
    by_cases hlt : k < 64
    · have hx : wr.cell? ⟨g, k, none⟩ = some (.int .u8 (f k)) := (hbr.cell hg).trans (H.out k hlt)
      have hy : wr.cell? ⟨g', k, none⟩ = some (.int .u8 (f' k)) := (hbr.cell hg').trans (H'.out k hlt)
      have e64 : 64 - k = (63 - k) + 1 := by omega
      have HE : Hid (64 - k = (63 - k) + 1) := e64
      have hi1 : (k : Int) < 64 := by omega
      obtain ⟨x, hxd⟩ : ∃ x, x = f k := ⟨_, rfl⟩
      obtain ⟨y, hyd⟩ : ∃ y, y = f' k := ⟨_, rfl⟩
      rw [← hxd] at hx
      rw [← hyd] at hy
      have HX : Hid (x = f k ∧ y = f' k) := ⟨hxd, hyd⟩
      clear hxd hyd e64 hbr
      by_cases c1 : x < y
      · go_wp2
        go_quiet (fail)
        go_wp2
        go_ret
        refine ⟨?_, below_drewN HB.out _⟩
        rw [HC.out, HE.out, cmp_lt (by rw [← HX.out.1, ← HX.out.2]; exact c1)]
        rfl
      · by_cases c2 : y < x
        · go_wp2
          go_quiet (fail)
          go_wp2
          go_quiet (fail)
          go_wp2
          go_ret
          refine ⟨?_, below_drewN (below_drewN HB.out _) _⟩
          rw [HC.out, HE.out, cmp_gt (by rw [← HX.out.1, ← HX.out.2]; exact c2)]
          rfl
        · go_wp2
          go_quiet (fail)
          go_wp2
          go_quiet (fail)
          go_wp2
          go_roundw
          case rel =>
            refine ⟨k + 1, by omega, by go_num, below_drewN HB.out _, ?_⟩
            rw [HC.out, HE.out, cmp_eq (by rw [← HX.out.1, ← HX.out.2]; omega) (by rw [← HX.out.1, ← HX.out.2]; omega)]
            rw [show 64 - (k + 1) = 63 - k by omega]
          case measure => simp [intOf]; omega
    · obtain rfl : k = 64 := by omega
      go_wp2
      go_ret
      exact ⟨by rw [HC.out]; rfl, hbr⟩

set_option maxHeartbeats 1000000 in
theorem cmp32_any (A B : List Int) (w : World) (hA : A.length = 32) (hB : B.length = 32) :
    Calls Try.prog 8 #[.agg (arr A), .agg (arr B)] w fun e w' => e = .returned (.int .i64 (cmpFrom (fun j => A.getD j 0) (fun j => B.getD j 0) 32 0)) ∧ Below w.heap.size w w' := by
  have HL : Hid (A.length = 32 ∧ B.length = 32) := ⟨hA, hB⟩
  obtain ⟨f, hf⟩ : ∃ f, f = (fun j => A.getD j 0) := ⟨_, rfl⟩
  obtain ⟨f', hf'⟩ : ∃ f, f = (fun j => B.getD j 0) := ⟨_, rfl⟩
  have HF : Hid (f = (fun j => A.getD j 0) ∧ f' = (fun j => B.getD j 0)) := ⟨hf, hf'⟩
  rw [← hf, ← hf']
  clear hA hB hf hf'
  go_enter Try.func8, Try.ntmps8
  go_wp2
  obtain ⟨W, hW⟩ : ∃ W, W = (w.alloc (.cells (arr A) 22)).alloc (.cells (arr B) 22) := ⟨_, rfl⟩
  have HB0 : Hid (Below w.heap.size w W) := by rw [hW]; exact ((Below.refl _ _).alloc (Nat.le_refl _) _).alloc (by simp) _
  have H : Hid (∀ j, j < 32 → W.cell? ⟨w.heap.size, j, none⟩ = some (.int .u8 (f j))) := fun j hj => by
    rw [hW, HF.out.1]
    exact ((arr_row A HL.out.1 w 22).below ((Below.refl (w.heap.size + 1) (w.alloc (.cells (arr A) 22))).alloc (by simp) _) (by omega)) j hj
  have H' : Hid (∀ j, j < 32 → W.cell? ⟨w.heap.size + 1, j, none⟩ = some (.int .u8 (f' j))) := fun j hj => by
    rw [hW, HF.out.2]
    have := arr_row B HL.out.2 (w.alloc (.cells (arr A) 22)) 22 j hj
    simpa using this
  have hs : W.heap.size = w.heap.size + 2 := by rw [hW]; simp
  rw [← hW]
  clear hW
  go_loopw [5] (fun i wr => ∃ k : Nat, k ≤ 32 ∧ i = .int .i64 k ∧ Below W.heap.size W wr ∧ cmpFrom f f' 32 0 = cmpFrom f f' (32 - k) k) (fun i _ => 32 - (intOf i).toNat)
  case atStart => exact ⟨0, by omega, rfl, Below.refl _ _, rfl⟩
  case round =>
    obtain ⟨k, hk, rfl, hbr, hcm⟩ := hrel
    have HC : Hid (cmpFrom f f' 32 0 = cmpFrom f f' (32 - k) k) := hcm
    have HB : Hid (Below w.heap.size w wr) := HB0.out.trans (hbr.mono (by omega))
    have HBW : Hid (Below W.heap.size W wr) := hbr
    clear hcm
    by_cases hlt : k < 32
    · have hx : wr.cell? ⟨w.heap.size, k, none⟩ = some (.int .u8 (f k)) := (hbr.cell (by show w.heap.size < _; omega)).trans (H.out k hlt)
      have hy : wr.cell? ⟨w.heap.size + 1, k, none⟩ = some (.int .u8 (f' k)) := (hbr.cell (by show w.heap.size + 1 < _; omega)).trans (H'.out k hlt)
      have HE : Hid (32 - k = (31 - k) + 1) := by show _ = _; omega
      have hi1 : (k : Int) < 32 := by omega
      obtain ⟨x, hxd⟩ : ∃ x, x = f k := ⟨_, rfl⟩
      obtain ⟨y, hyd⟩ : ∃ y, y = f' k := ⟨_, rfl⟩
      rw [← hxd] at hx
      rw [← hyd] at hy
      have HX : Hid (x = f k ∧ y = f' k) := ⟨hxd, hyd⟩
      clear hxd hyd hbr hs
      by_cases c1 : x < y
      · go_wp2
        go_quiet (fail)
        go_wp2
        go_ret
        refine ⟨?_, below_drewN HB.out _⟩
        rw [HC.out, HE.out, cmp_lt (by rw [← HX.out.1, ← HX.out.2]; exact c1)]
        rfl
      · by_cases c2 : y < x
        · go_wp2
          go_quiet (fail)
          go_wp2
          go_quiet (fail)
          go_wp2
          go_ret
          refine ⟨?_, below_drewN (below_drewN HB.out _) _⟩
          rw [HC.out, HE.out, cmp_gt (by rw [← HX.out.1, ← HX.out.2]; exact c2)]
          rfl
        · go_wp2
          go_quiet (fail)
          go_wp2
          go_quiet (fail)
          go_wp2
          go_roundw
          case rel =>
            refine ⟨k + 1, by omega, by go_num, below_drewN HBW.out _, ?_⟩
            rw [HC.out, HE.out, cmp_eq (by rw [← HX.out.1, ← HX.out.2]; omega) (by rw [← HX.out.1, ← HX.out.2]; omega)]
            rw [show 32 - (k + 1) = 31 - k by omega]
          case measure => simp [intOf]; omega
    · obtain rfl : k = 32 := by omega
      go_wp2
      go_ret
      exact ⟨by rw [HC.out]; rfl, HB.out⟩
end Go.Proofs.Qxb6612530a
