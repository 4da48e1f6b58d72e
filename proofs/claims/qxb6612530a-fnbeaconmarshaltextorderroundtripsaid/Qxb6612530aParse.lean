import Derived.Test.Qxb6612530aEnc
import Derived.Deep.MidRow
namespace Go.Proofs.Qxb6612530a
open Go.RowKit

theorem text_cell {w : World} {g G : Nat} {A : List Int} (h : TextOf w g G A) (j : Nat) (hj : j < 64) : w.cell? ⟨g, j, none⟩ = some (.int .u8 (encAt A j)) := by
  obtain ⟨ys, ho, hy⟩ := h
  rw [ho.cellAt j (by omega), hy j hj]
theorem text_lt {w : World} {g G : Nat} {A : List Int} (h : TextOf w g G A) : g < w.heap.size := by
  have h0 := text_cell h 0 (by omega)
  rcases Nat.lt_or_ge g w.heap.size with h' | h'
  · exact h'
  · simp [World.cell?, Array.getElem?_eq_none h'] at h0

/-- The state behind k rounds. -/
def Parsed (w wr : World) (A : List Int) (k : Nat) : Prop :=
  Below w.heap.size w wr ∧ wr.heap.size = w.heap.size + 2 ∧ (∃ z, wr.heap[w.heap.size]? = some (.cells z 22 (0, 0)) ∧ z.size = 32) ∧
  ∃ cs, wr.heap[w.heap.size + 1]? = some (.cells cs 22 (0, 0)) ∧ cs.size = 32 ∧ ∀ j, j < k → cs[j]? = some (.int .u8 (A.getD j 0))

theorem Try.size22 : (Try.prog.info? 22).map (·.size) = some 32 := by kernel_rfl
theorem arr_size {A : List Int} (h : A.length = 32) : (arr A).size = 32 := by simp [arr, h]
theorem arr_eq {A : List Int} {cs : Array Value} (hl : A.length = 32) (hs : cs.size = 32) (h : ∀ j, j < 32 → cs[j]? = some (.int .u8 (A.getD j 0))) : cs = arr A := by
  apply Array.ext_getElem?
  intro j
  by_cases hj : j < 32
  · rw [h j hj]
    simp [arr, show j < A.length by omega]
  · rw [Array.getElem?_eq_none (by omega), Array.getElem?_eq_none (by rw [arr_size hl]; omega)]

theorem parsed_step {w wr : World} {A : List Int} {k : Nat} {u : Int} (h : Parsed w wr A k) (_hk : k < 32) (hu : u = A.getD k 0) : Parsed w (wr.setCell ⟨w.heap.size + 1, k, none⟩ (.int .u8 u)) A (k + 1) := by
  obtain ⟨hb, hs, ⟨z, hz, hzs⟩, cs, hc, hcs, he⟩ := h
  refine ⟨hb.setCell (by simp) _, by simpa [World.setCell] using hs, ⟨z, (heap_setCell_other wr _ _ _ (by simp)).trans hz, hzs⟩, _, heap_setCell_same wr _ k cs 22 _ hc, by simpa using hcs, fun j hj => ?_⟩
  by_cases e : j = k
  · subst e
    rw [Array.getElem?_setIfInBounds_self_of_lt (by omega), hu]
  · rw [Array.getElem?_setIfInBounds_ne (fun h => e h.symm)]
    exact he j (by omega)

theorem below_setCells {B b : Nat} {w : World} : ∀ {wr : World}, Below B w wr → B ≤ b → ∀ (vs : List Value) (o : Nat), Below B w (wr.setCells b o vs) := by
  intro wr h hb vs
  induction vs generalizing wr with
  | nil => intro o; exact h
  | cons v vs ih => intro o; exact ih (h.setCell hb _) (o + 1)

set_option maxHeartbeats 1000000 in
set_option maxRecDepth 4000 in
theorem parse_any (g G : Nat) (A : List Int) (w : World) (hl : A.length = 32) (hA : Bytes A) (ht : TextOf w g G A) :
    Calls Try.prog 6 #[.slice (some ⟨g, 0, none⟩) 64 G] w fun e w' => e = .returned (.tuple #[.agg (arr A), .bool true]) ∧ Below w.heap.size w w' := by
  have HA : Hid (Bytes A) := hA
  have HL : Hid (A.length = 32) := hl
  have HT : Hid (TextOf w g G A) := ht
  have hgl := text_lt ht
  clear hA hl ht
  go_enter Try.func6, Try.ntmps6
  go_wp2
  go_loopw [5] (fun i wr => ∃ k : Nat, k ≤ 32 ∧ i = .int .i64 k ∧ Parsed w wr A k) (fun i _ => 32 - (intOf i).toNat)
  case atStart =>
    refine ⟨0, by omega, rfl, ((Below.refl _ _).alloc (Nat.le_refl _) _).alloc (by simp) _, by simp, ⟨_, heap_alloc2_old w _ _, rfl⟩, _, heap_alloc2_new w _ _, rfl, fun j h => absurd h (by omega)⟩
  case round =>
    obtain ⟨k, hk, rfl, hP⟩ := hrel
    have HP : Hid (Parsed w wr A k) := hP
    by_cases hlt : k < 32
    · obtain ⟨hbr, hsr, _, cs, hcs, hcz, _⟩ := hP
      have hr := HA.out k
      have h0 : wr.cell? ⟨g, 2 * k, none⟩ = some (.int .u8 (encAt A (2 * k))) := (hbr.cell hgl).trans (text_cell HT.out _ (by omega))
      have h1 : wr.cell? ⟨g, 2 * k + 1, none⟩ = some (.int .u8 (encAt A (2 * k + 1))) := (hbr.cell hgl).trans (text_cell HT.out _ (by omega))
      rw [encAt_even] at h0
      rw [encAt_odd] at h1
      obtain ⟨x, hxd⟩ : ∃ x, x = A.getD k 0 := ⟨_, rfl⟩
      rw [← hxd] at h0 h1 hr
      have HX : Hid (x = A.getD k 0) := hxd
      obtain ⟨hr0, hr1⟩ := hr
      obtain ⟨v0, hg0⟩ : ∃ v, wr.cell? ⟨w.heap.size + 1, k, none⟩ = some v := ⟨_, (cell_of_row wr _ k cs 22 (0, 0) hcs).trans (Array.getElem?_eq_getElem (by omega))⟩
      have hf0 : wr.frozen? ⟨w.heap.size + 1, k, none⟩ = false := frozen_of_row wr _ k cs 22 hcs
      have d0 : 0 ≤ x / 16 := by omega
      have d1 : x / 16 < 16 := by omega
      have d2 : 0 ≤ x % 16 := by omega
      have d3 : x % 16 < 16 := by omega
      clear hbr hsr hcs hcz hxd
      go_wp2_with (first | (go_at_call 14; refine (hexValue_any _ _ (by omega) (by omega)).mono ?_; rintro e w' ⟨rfl, rfl⟩) | go_in)
      go_roundw
      case rel => exact ⟨k + 1, by omega, by go_num, parsed_step HP.out hlt (by have := HX.out; omega)⟩
      case measure => simp [intOf]; omega
    · obtain rfl : k = 32 := by omega
      obtain ⟨hbr, hsr, ⟨z, hz, hzs⟩, cs, hcs, hcz, hce⟩ := hP
      have ecs : cs = arr A := arr_eq HL.out hcz hce
      have hsz : (Try.prog.info? 22).map (·.size) = some (arr A).size := by rw [arr_size HL.out]; exact Try.size22
      rw [ecs] at hcs
      have hth : wr.there w.heap.size 0 (arr A).size := by
        intro j hj
        rw [arr_size HL.out] at hj
        rw [Nat.zero_add, cell_of_row wr _ j z 22 (0, 0) hz, Array.getElem?_eq_getElem (by omega)]
        exact ⟨rfl, frozen_of_row wr _ j z 22 hz⟩
      have hone : (arr A).all (·.oneCell') = true := all_oneCell_toArray (ints_oneCell .u8 A)
      have HB : Hid (Below w.heap.size w (wr.setCells w.heap.size 0 (arr A).toList)) := below_setCells hbr (Nat.le_refl _) _ _
      have HRg : Hid ((wr.setCells w.heap.size 0 (arr A).toList).rangeAt w.heap.size 0 (arr A).toList) := World.rangeAt_setCells_same wr _ 0 _ (by simpa using hth)
      have HZ : Hid ((Try.prog.info? 22).map (·.size) = some (arr A).toList.length) := by show _ = _; rw [Array.length_toList]; exact hsz
      clear hz hzs hce hcz ecs hbr hsr HP
      go_wp2_with (first
        | (refine wpList_load_row rfl 22 (.tmp 4) rfl (w.heap.size + 1) rfl 22 (arr A) (0, 0) _ hcs Try.underlying22 rfl hsz ?_)
        | (refine wpList_store_mid rfl 22 (.tmp 2) (.tmp 43) rfl w.heap.size 0 (arr A) rfl rfl hth hsz hone ?_))
      have hlv := run_loadVar_mid (P := Try.prog) (wr.setCells w.heap.size 0 (arr A).toList) w.heap.size 0 22 (arr A).toList _ HRg.out Try.underlying22 rfl HZ.out
      rw [Array.toArray_toList] at hlv
      exact bodyPost_ret (v := .tuple #[.agg (arr A), .bool true]) (by simp [results, Try.results6, asAddr, hlv]) rfl ⟨rfl, HB.out⟩
end Go.Proofs.Qxb6612530a
