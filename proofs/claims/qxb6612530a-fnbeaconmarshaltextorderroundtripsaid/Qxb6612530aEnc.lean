import Derived.Test.Qxb6612530aRows
import Derived.Test.Qxb6612530aHexp
import Derived.WalkKit
import Derived.WalkSpells
import Derived.WalkLawsBesides
import Derived.Below
import Derived.WalkSmall
import Derived.Lib.AppendZeros
namespace Go.Proofs.Qxb6612530a
open Go.RowKit

theorem ret_i {k : IntKind} {a b : Int} (h : a = b) : Ending.returned (.int k a) = .returned (.int k b) := by rw [h]

theorem hexValue_any (n : Int) (w : World) (h0 : 0 ≤ n) (h1 : n < 16) : Calls Try.prog 14 #[.int .u8 (hexd n)] w fun e w' => e = .returned (.int .i64 n) ∧ w' = w := by
  unfold hexd
  by_cases h : n < 10
  · rw [if_pos h]
    go_enter Try.func14, Try.ntmps14
    go_wp2
    go_ret
    exact ⟨ret_i (by omega), rfl⟩
  · rw [if_neg h]
    go_enter Try.func14, Try.ntmps14
    go_wp2
    go_ret
    exact ⟨ret_i (by omega), rfl⟩

theorem Try.info5 : (Try.prog.info? 5).map (fun i => (i.zero, i.size, i.bytes)) = some (some (.int .u8 0), 1, 1) := by kernel_rfl

/-- 'slices.Grow(nil, 64)': no element, room for 64 bytes in a new row. -/
theorem grow_nil (w : World) : Calls Try.prog 17 #[.slice none 0 0, .int .i64 64] w fun e w' => ∃ G, 64 ≤ G ∧ G ≤ maxLen ∧ e = .returned (.slice (some ⟨w.heap.size, 0, none⟩) 0 G) ∧ Below w.heap.size w w' ∧ w'.heap.size = w.heap.size + 1 ∧ ∃ xs, w'.ownsRow w.heap.size 5 1 (.slice (some ⟨w.heap.size, 0, none⟩) 64 G) 64 xs := by
  have hG := Go.grownCap_ge w 64 0 5
  have hG2 := Go.grownCap_le_maxLen w 64 0 5 (by unfold maxLen; omega)
  have hb : Try.t5.bytes = 1 := by kernel_rfl
  have hn : Builtin.nextslicecap 64 0 = 64 := by kernel_rfl
  go_enter Try.func17, Try.ntmps17
  go_wp2
  go_ret
  have hsz : (Builtin.zeroCells #[Value.int .u8 0] 64 ++ Builtin.zeroCells #[Value.int .u8 0] (grownCap w 64 0 5 - 64)).size = grownCap w 64 0 5 := by
    rw [Array.size_append, size_zeroCells, size_zeroCells]
    simp
    omega
  refine ⟨grownCap w 64 0 5, hG, hG2, rfl, ((Below.refl _ _).alloc (Nat.le_refl _) _).drew, by simp, (Builtin.zeroCells #[Value.int .u8 0] 64 ++ Builtin.zeroCells #[Value.int .u8 0] (grownCap w 64 0 5 - 64)).toList.take (64 * 1), ?_⟩
  refine ⟨?_, .inr ⟨w.heap.size, grownCap w 64 0 5, _, rfl, Nat.le_refl _, heap_alloc_new w _, hG, hG2, ?_, rfl⟩⟩
  · rw [List.length_take, Array.length_toList, hsz]; omega
  · exact hsz.trans (Nat.mul_one _).symm

/-- 32 bytes lie in block b. -/
def RowB (w : World) (b : Nat) (A : List Int) : Prop := ∀ i, i < 32 → w.cell? ⟨b, i, none⟩ = some (.int .u8 (A.getD i 0))

theorem RowB.lt {w : World} {b : Nat} {A : List Int} (h : RowB w b A) : b < w.heap.size := by
  have h0 := h 0 (by omega)
  rcases Nat.lt_or_ge b w.heap.size with h' | h'
  · exact h'
  · simp [World.cell?, Array.getElem?_eq_none h'] at h0
theorem RowB.below {w w' : World} {B b : Nat} {A : List Int} (h : RowB w b A) (hb : Below B w w') (hB : b < B) : RowB w' b A := fun i hi => (hb.cell (p := ⟨b, i, none⟩) hB).trans (h i hi)

theorem tab_get (n : Nat) (h : n < tab.size) : ((tab[n]).toNat : Int) = hexd (n : Int) := by
  have h' : n < 16 := h
  have e := tab_at ⟨n, h'⟩
  rw [← e]
  have hl : n < tab.data.toList.length := h'
  show _ = ((tab.data.toList.getD n 0).toNat : Int)
  rw [List.getD_eq_getElem?_getD, List.getElem?_eq_getElem hl]
  rfl
theorem tab_int (y : Int) (h0 : 0 ≤ y) (h : y.toNat < tab.size) : ((tab[y.toNat]).toNat : Int) = hexd y := by
  rw [tab_get y.toNat h, Int.toNat_of_nonneg h0]

/-- Two digits more. -/
theorem enc_step {w wr : World} {g G k : Nat} {ys : List Value} {A : List Int} {u0 u1 : Int} (R : Below g w wr ∧ wr.heap.size = w.heap.size ∧ wr.ownsRow g 5 1 (.slice (some ⟨g, 0, none⟩) 64 G) 64 ys ∧ (∀ j, j < 2 * k → ys[j]? = some (.int .u8 (encAt A j))) ∧ ys.length = 64)
    (hk : k < 32) (h0 : u0 = encAt A (2 * k)) (h1 : u1 = encAt A (2 * k + 1)) :
    Below g w ((wr.setCell ⟨g, 2 * k, none⟩ (.int .u8 u0)).setCell ⟨g, 2 * k + 1, none⟩ (.int .u8 u1)) ∧ ((wr.setCell ⟨g, 2 * k, none⟩ (.int .u8 u0)).setCell ⟨g, 2 * k + 1, none⟩ (.int .u8 u1)).heap.size = w.heap.size ∧
    ∃ ys, ((wr.setCell ⟨g, 2 * k, none⟩ (.int .u8 u0)).setCell ⟨g, 2 * k + 1, none⟩ (.int .u8 u1)).ownsRow g 5 1 (.slice (some ⟨g, 0, none⟩) 64 G) 64 ys ∧ ∀ j, j < 2 * (k + 1) → ys[j]? = some (.int .u8 (encAt A j)) := by
  obtain ⟨hb, hs, ho, hy, hl⟩ := R
  refine ⟨(hb.setCell (Nat.le_refl _) _).setCell (Nat.le_refl _) _, by simpa [World.setCell] using hs, _, ((ho.stored _ _).1.stored _ _).1, fun j hj => ?_⟩
  by_cases e1 : j = 2 * k + 1
  · subst e1
    rw [List.getElem?_set_self (by simp; omega), h1]
  · rw [List.getElem?_set_ne (fun e => e1 e.symm)]
    by_cases e0 : j = 2 * k
    · subst e0
      rw [List.getElem?_set_self (by omega), h0]
    · rw [List.getElem?_set_ne (fun e => e0 e.symm)]
      exact hy j (by omega)

set_option maxHeartbeats 400000 in
theorem encode_any (b g G : Nat) (A : List Int) (xs : List Value) (w : World) (hA : Bytes A) (hb : RowB w b A) (hbg : b < g) (hown : w.ownsRow g 5 1 (.slice (some ⟨g, 0, none⟩) 64 G) 64 xs) :
    Calls Try.prog 18 #[.slice (some ⟨g, 0, none⟩) 64 G, .slice (some ⟨b, 0, none⟩) 32 32] w fun e w' => e = .returned (.int .i64 64) ∧ Below g w w' ∧ w'.heap.size = w.heap.size ∧ ∃ ys, w'.ownsRow g 5 1 (.slice (some ⟨g, 0, none⟩) 64 G) 64 ys ∧ ∀ j, j < 64 → ys[j]? = some (.int .u8 (encAt A j)) := by
  have HA : Hid (Bytes A) := hA
  have HR : Hid (RowB w b A) := hb
  have HO : Hid (w.ownsRow g 5 1 (.slice (some ⟨g, 0, none⟩) 64 G) 64 xs) := hown
  clear hA hb hown
  go_enter Try.func18, Try.ntmps18
  go_wp2
  go_loopw [5, 10] (fun j i wr => ∃ k : Nat, k ≤ 32 ∧ i = .int .i64 k ∧ j = .int .i64 ((2 * k : Nat) : Int) ∧ Below g w wr ∧ wr.heap.size = w.heap.size ∧ ∃ ys, wr.ownsRow g 5 1 (.slice (some ⟨g, 0, none⟩) 64 G) 64 ys ∧ ∀ j, j < 2 * k → ys[j]? = some (.int .u8 (encAt A j))) (fun _ i _ => 32 - (intOf i).toNat)
  case atStart => exact ⟨0, by omega, rfl, rfl, Below.refl _ _, rfl, xs, HO.out, fun j h => absurd h (by omega)⟩
  case round =>
    obtain ⟨k, hk, rfl, rfl, hbr, hsr, ys, hor, hys⟩ := hrel
    by_cases hlt : k < 32
    · have hx : wr.cell? ⟨b, k, none⟩ = some (.int .u8 (A.getD k 0)) := HR.out.below hbr hbg k hlt
      have hr := HA.out k
      have hyl : ys.length = 64 := hor.1
      obtain ⟨v0, hg0⟩ : ∃ v, wr.cell? ⟨g, 2 * k, none⟩ = some v := ⟨_, (hor.cellAt (2 * k) (by omega)).trans (List.getElem?_eq_getElem (by omega))⟩
      obtain ⟨v1, hg1⟩ : ∃ v, wr.cell? ⟨g, 2 * k + 1, none⟩ = some v := ⟨_, (hor.cellAt (2 * k + 1) (by omega)).trans (List.getElem?_eq_getElem (by omega))⟩
      have hf0 : wr.frozen? ⟨g, 2 * k, none⟩ = false := hor.frozenAt _
      have hf1 : wr.frozen? ⟨g, 2 * k + 1, none⟩ = false := hor.frozenAt _
      obtain ⟨x, hxd⟩ : ∃ x, x = A.getD k 0 := ⟨_, rfl⟩
      rw [← hxd] at hx hr
      obtain ⟨hr0, hr1⟩ := hr
      have HX : Hid (x = A.getD k 0) := hxd
      have HRR : Hid (Below g w wr ∧ wr.heap.size = w.heap.size ∧ wr.ownsRow g 5 1 (.slice (some ⟨g, 0, none⟩) 64 G) 64 ys ∧ (∀ j, j < 2 * k → ys[j]? = some (.int .u8 (encAt A j))) ∧ ys.length = 64) := ⟨hbr, hsr, hor, hys, hyl⟩
      clear hbr hsr hor hys hyl hxd
      go_wp2
      go_roundw
      case rel =>
        have q0 := tab_int (x / 16) (by omega) (by show _ < 16; omega)
        have q1 := tab_int (x % 16) (by omega) (by show _ < 16; omega)
        have R := enc_step HRR.out hlt (q0.trans (by rw [encAt_even, ← HX.out])) (q1.trans (by rw [encAt_odd, ← HX.out]))
        exact ⟨k + 1, by omega, by go_num, by go_num, R.1, R.2.1, R.2.2⟩
      case measure => simp [intOf]; omega
    · obtain rfl : k = 32 := by omega
      go_wp2
      go_ret
      exact ⟨rfl, hbr, hsr, ys, hor, hys⟩

/-- What a text of A is: 64 digits in a row of its own. -/
def TextOf (w : World) (g G : Nat) (A : List Int) : Prop := ∃ ys, w.ownsRow g 5 1 (.slice (some ⟨g, 0, none⟩) 64 G) 64 ys ∧ ∀ j, j < 64 → ys[j]? = some (.int .u8 (encAt A j))

theorem appendEncode_any (b : Nat) (A : List Int) (w : World) (hA : Bytes A) (hb : RowB w b A) :
    Calls Try.prog 13 #[.slice none 0 0, .slice (some ⟨b, 0, none⟩) 32 32] w fun e w' => ∃ g G, 64 ≤ G ∧ G ≤ maxLen ∧ e = .returned (.slice (some ⟨g, 0, none⟩) 64 G) ∧ Below w.heap.size w w' ∧ w.heap.size ≤ g ∧ TextOf w' g G A := by
  have HA : Hid (Bytes A) := hA
  have HR : Hid (RowB w b A) := hb
  clear hA hb
  go_enter Try.func13, Try.ntmps13
  go_wp2_with (first | (go_at_call 16; go_in))
  refine (grow_nil w).mono ?_
  rintro e w1 ⟨G, hG, hG2, rfl, hb1, hs1, xs, ho⟩
  have HO : Hid (w1.ownsRow w.heap.size 5 1 (.slice (some ⟨w.heap.size, 0, none⟩) 64 G) 64 xs) := ho
  have HB1 : Hid (Below w.heap.size w w1) := hb1
  have hG3 : G ≤ 9223372036854775807 := by unfold maxLen at hG2; omega
  clear ho hb1 hs1
  go_wp2_with fail
  refine (encode_any b w.heap.size G A xs w1 HA.out (HR.out.below HB1.out HR.out.lt) HR.out.lt HO.out).mono ?_
  rintro e w2 ⟨rfl, hb2, hs2, htx⟩
  have HT : Hid (TextOf w2 w.heap.size G A) := htx
  clear htx hs2
  go_wp2
  go_ret
  exact ⟨w.heap.size, G, hG, hG2, rfl, HB1.out.trans hb2, Nat.le_refl _, HT.out⟩

/-- A's cells, as an array's value has them. -/
def arr (A : List Int) : Array Value := (A.map (Value.int .u8)).toArray
theorem arr_row (A : List Int) (hA : A.length = 32) (w : World) (t : TypeId) : RowB (w.alloc (.cells (arr A) t)) w.heap.size A := by
  intro i hi
  rw [World.cell?_alloc_new]
  simp [arr, show i < A.length by omega]

theorem marshal_any (A : List Int) (w : World) (hl : A.length = 32) (hA : Bytes A) :
    Calls Try.prog 5 #[.agg (arr A)] w fun e w' => ∃ g G, 64 ≤ G ∧ G ≤ maxLen ∧ e = .returned (.tuple #[.slice (some ⟨g, 0, none⟩) 64 G, .nilIface]) ∧ Below w.heap.size w w' ∧ w.heap.size < g ∧ TextOf w' g G A := by
  have HA : Hid (Bytes A) := hA
  have HL : Hid (A.length = 32) := hl
  clear hA hl
  go_enter Try.func5, Try.ntmps5
  go_wp2_with fail
  refine (appendEncode_any w.heap.size A _ HA.out (arr_row A HL.out w 27)).mono ?_
  rintro e w1 ⟨g, G, hG, hG2, rfl, hb1, hg, htx⟩
  have HT : Hid (TextOf w1 g G A) := htx
  have hg' : w.heap.size < g := by simp at hg; omega
  clear htx hg
  go_wp2
  go_ret2
  exact ⟨g, G, hG, hG2, rfl, ((Below.refl _ _).alloc (Nat.le_refl _) _).trans (hb1.mono (by simp)), hg', HT.out⟩
end Go.Proofs.Qxb6612530a
