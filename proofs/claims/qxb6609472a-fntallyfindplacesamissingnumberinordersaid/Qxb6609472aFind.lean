import Derived.Test.Qxb6609472aSearch
import Derived.RegionTactic
namespace Go.Proofs.Qxb6609472a
open Go.RowKit

theorem find_any (g len cap : Nat) (A : List Int) (n : Int) (w : World) (hl : A.length = len) (hm : len ≤ 65537) (hA : Inc A)
    (hc : ∀ i, i < len → w.cell? ⟨g, i * 2, none⟩ = some (.int .i32 (A.getD i 0)) ∧ ∃ t, w.cell? ⟨g, i * 2 + 1, none⟩ = some (.int .i32 t)) :
    Calls Try.prog 15 #[.slice (some ⟨g, 0, none⟩) len cap, .int .i32 n] w fun e w' => e = .returned (.tuple #[.int .i64 (belowN A n), .bool (foundB A n)]) ∧ Below w.heap.size w w' := by
  have H := bsearch_any g len cap A n w hl hm hA hc
  have HC : Hid (Calls Try.prog 24 #[.slice (some ⟨g, 0, none⟩) len cap, .int .i32 n, .func (.func 25) #[] #[]] w fun e w' => e = .returned (.tuple #[.int .i64 (belowN A n), .bool (foundB A n)]) ∧ Below w.heap.size w w') := H
  clear H hc hA hl
  go_enter Try.func15, Try.ntmps15
  go_wp2_with (first | (go_at_call 24; refine HC.out.mono ?_; rintro e w2 ⟨rfl, hb2⟩) | go_in)
  go_ret2
  exact ⟨rfl, hb2⟩

/-- WHAT IS TOLD OF A SLICE OF int32: where it has an element, it leads to a row. -/
def Row32 (w : World) (a : Option Addr) (len : Nat) (zs : List Int) : Prop := 0 < len → ∃ b off, a = some ⟨b, off, none⟩ ∧ ∀ i, i < len → w.cell? ⟨b, off + i, none⟩ = some (.int .i32 (zs.getD i 0))

theorem Row32.lt {w : World} {b off len : Nat} {zs : List Int} (h : ∀ i, i < len → w.cell? ⟨b, off + i, none⟩ = some (.int .i32 (zs.getD i 0))) (hp : 0 < len) : b < w.heap.size := by
  have h0 := h 0 hp
  rcases Nat.lt_or_ge b w.heap.size with h' | h'
  · exact h'
  · simp [World.cell?, Array.getElem?_eq_none h'] at h0

theorem Try.info47 : (Try.prog.info? 47).map (fun i => (i.zero, i.size, i.bytes)) = some (some (.agg #[.int .i32 0, .int .i32 0]), 2, 8) := by kernel_rfl

/-- The pairs stored so far. -/
def Pairs (w : World) (g k : Nat) (A : List Int) : Prop := ∀ i, i < k → w.cell? ⟨g, i * 2, none⟩ = some (.int .i32 (A.getD i 0)) ∧ ∃ t, w.cell? ⟨g, i * 2 + 1, none⟩ = some (.int .i32 t)

theorem sc_same {w : World} {b o : Nat} {v u : Value} (h : w.cell? ⟨b, o, none⟩ = some u) : (w.setCell ⟨b, o, none⟩ v).cell? ⟨b, o, none⟩ = some v := World.cell?_setCell_same w _ v h
theorem sc_off {w : World} {b o o' : Nat} {v : Value} (h : o ≠ o') : (w.setCell ⟨b, o, none⟩ v).cell? ⟨b, o', none⟩ = w.cell? ⟨b, o', none⟩ := World.cell?_setCell_other w _ _ v (fun e => h (congrArg Addr.off e))

/-- One pair more. -/
theorem pairs_step {w wr : World} {g len k : Nat} {A : List Int} {xs : List Value} {x y : Int} {p0 p1 : Value} (hb : Below g w wr) (ho : wr.ownsRow g 47 2 (.slice (some ⟨g, 0, none⟩) len len) len xs) (hp : Pairs wr g k A)
    (hx : x = A.getD k 0) (h0 : wr.cell? ⟨g, k * 2, none⟩ = some p0) (h1 : wr.cell? ⟨g, k * 2 + 1, none⟩ = some p1) :
    Below g w ((wr.setCell ⟨g, k * 2, none⟩ (.int .i32 x)).setCell ⟨g, k * 2 + 1, none⟩ (.int .i32 y)).drew ∧
    (∃ ys, ((wr.setCell ⟨g, k * 2, none⟩ (.int .i32 x)).setCell ⟨g, k * 2 + 1, none⟩ (.int .i32 y)).drew.ownsRow g 47 2 (.slice (some ⟨g, 0, none⟩) len len) len ys) ∧
    Pairs ((wr.setCell ⟨g, k * 2, none⟩ (.int .i32 x)).setCell ⟨g, k * 2 + 1, none⟩ (.int .i32 y)).drew g (k + 1) A := by
  refine ⟨((hb.setCell (Nat.le_refl _) _).setCell (Nat.le_refl _) _).drew, ⟨_, ((ho.stored _ _).1.stored _ _).1⟩, ?_⟩
  intro i hi
  have hd : ∀ (W : World) (a : Addr), W.drew.cell? a = W.cell? a := fun W a => rfl
  simp only [hd]
  by_cases hik : i = k
  · subst hik
    refine ⟨?_, y, ?_⟩
    · rw [sc_off (by omega), sc_same h0, hx]
    · refine sc_same (u := p1) ?_
      rw [sc_off (by omega), h1]
  · obtain ⟨q0, t, q1⟩ := hp i (by omega)
    refine ⟨?_, t, ?_⟩
    · rw [sc_off (by omega), sc_off (by omega), q0]
    · rw [sc_off (by omega), sc_off (by omega), q1]

set_option maxHeartbeats 400000 in
theorem zzfind_any (a0 a1 : Option Addr) (len c0 c1 : Nat) (A T : List Int) (n : Int) (w : World) (hl : A.length = len) (hm : len ≤ 65537) (hA : Inc A) (h0 : Row32 w a0 len A) (h1 : Row32 w a1 len T) :
    Calls Try.prog 8 #[.slice a0 len c0, .slice a1 len c1, .int .i32 n] w fun e w' => e = .returned (.tuple #[.int .i64 (belowN A n), .bool (foundB A n)]) ∧ Below w.heap.size w w' := by
  obtain ⟨i0, hi, hz0, hz1, hz2⟩ := info_parts Try.info47
  have HL : Hid (A.length = len) := hl
  have HA : Hid (Inc A) := hA
  clear hl hA
  go_enter Try.func8, Try.ntmps8
  go_wp2_with (first | (at_make; refine wpList_make_full _ rfl _ _ 45 rfl w.heap.size 47 i0 (.agg #[.int .i32 0, .int .i32 0]) 2 Try.underlying45 hi hz0 hz1 _ _ _ _ len rfl rfl rfl rfl ?b1 ?b2 ?b3 ?_))
  case b1 => rw [hz2]; omega
  case b2 => unfold maxLen; omega
  case b3 => exact Nat.le_refl _
  intro w1 hown hgrow
  have hbel : Below w.heap.size w w1 := (Below.refl _ _).grown hgrow (Nat.le_refl _) (by intro k hk; cases hk)
  go_wp2
  go_loopw [9] (fun i wr => ∃ k : Nat, k ≤ len ∧ i = .int .i64 k ∧ Below w.heap.size w wr ∧
      (∃ xs, wr.ownsRow w.heap.size 47 2 (.slice (some ⟨w.heap.size, 0, none⟩) len len) len xs) ∧
      Pairs wr w.heap.size k A) (fun i _ => len - (intOf i).toNat)
  case atStart => exact ⟨0, Nat.zero_le _, rfl, hbel, ⟨_, hown⟩, fun i hi => absurd hi (by omega)⟩
  case round =>
    obtain ⟨k, hk, rfl, hbr, ⟨xs, hor⟩, hcs⟩ := hrel
    clear hown hgrow hbel
    by_cases hlt : k < len
    · obtain ⟨b, off, rfl, hc0⟩ := h0 (by omega)
      obtain ⟨b', off', rfl, hc1⟩ := h1 (by omega)
      have hx1 : xs.length = len * 2 := hor.1
      have hcx : wr.cell? ⟨b, off + k, none⟩ = some (.int .i32 (A.getD k 0)) := (hbr.cell (Row32.lt hc0 (by omega))).trans (hc0 k hlt)
      have hcy : wr.cell? ⟨b', off' + k, none⟩ = some (.int .i32 (T.getD k 0)) := (hbr.cell (Row32.lt hc1 (by omega))).trans (hc1 k hlt)
      obtain ⟨p0, hg0⟩ : ∃ v, wr.cell? ⟨w.heap.size, k * 2, none⟩ = some v := ⟨_, (hor.cellAt (k * 2) (by omega)).trans (List.getElem?_eq_getElem (by omega))⟩
      obtain ⟨p1, hg1⟩ : ∃ v, wr.cell? ⟨w.heap.size, k * 2 + 1, none⟩ = some v := ⟨_, (hor.cellAt (k * 2 + 1) (by omega)).trans (List.getElem?_eq_getElem (by omega))⟩
      have hf0 : wr.frozen? ⟨w.heap.size, k * 2, none⟩ = false := hor.frozenAt _
      have hf1 : wr.frozen? ⟨w.heap.size, k * 2 + 1, none⟩ = false := hor.frozenAt _
      have hi1 : (k : Int) < (len : Int) := by omega
      obtain ⟨x, hxd⟩ : ∃ x, x = A.getD k 0 := ⟨_, rfl⟩
      obtain ⟨y, hyd⟩ : ∃ x, x = T.getD k 0 := ⟨_, rfl⟩
      rw [← hxd] at hcx
      rw [← hyd] at hcy
      have HX : Hid (x = A.getD k 0) := hxd
      have HR : Hid (Below w.heap.size w wr ∧ wr.ownsRow w.heap.size 47 2 (.slice (some ⟨w.heap.size, 0, none⟩) len len) len xs ∧ Pairs wr w.heap.size k A) := ⟨hbr, hor, hcs⟩
      clear hbr hor hcs h0 h1 hc0 hc1 hxd hyd hx1
      go_wp2
      go_region
      all_goals go_wp2
      go_roundw
      case rel =>
        have R := pairs_step (x := x) (y := y) HR.out.1 HR.out.2.1 HR.out.2.2 HX.out hg0 hg1
        exact ⟨k + 1, by omega, by go_num, R.1, R.2.1, R.2.2⟩
      case measure => simp [intOf]; omega
    · obtain rfl : k = len := by omega
      have HC : Hid (Calls Try.prog 15 #[.slice (some ⟨w.heap.size, 0, none⟩) k k, .int .i32 n] wr fun e w' => e = .returned (.tuple #[.int .i64 (belowN A n), .bool (foundB A n)]) ∧ Below wr.heap.size wr w') :=
        find_any w.heap.size k k A n wr HL.out hm HA.out hcs
      have hs := hbr.size
      clear hcs hor h0 h1
      go_wp2_with (first | (go_at_call 15; refine HC.out.mono ?_; rintro e w2 ⟨rfl, hb2⟩) | go_in)
      go_ret2
      exact ⟨rfl, hbr.trans (hb2.mono hs)⟩
end Go.Proofs.Qxb6609472a
