import Derived.Test.Qxb6609472aTally
import Derived.Test.Qxb6609472aPlain2
namespace Go.Proofs.Qxb6609472a
open Go.RowKit

/-- The cells of 'numbers[:m]'. -/
theorem cells_upto {w : World} {g l m : Nat} {A : List Int} (hA : A.length = l) (h : Row32 w (some ⟨g, 0, none⟩) l A) (hm : m ≤ l) {ao : Option Addr} (hao : ao = some ⟨g, 0, none⟩) : ∀ ad, ao = some ad → ∀ t u, ((A.take m).map (Value.int .i32))[t]? = some u → w.cell? (ad.add t) = some u := by
  intro ad had t u hu
  have ht : t < m ∧ t < l := by
    have := (List.getElem?_eq_some_iff.1 hu).1
    simp [hA] at this
    omega
  rw [hao] at had
  obtain rfl := Option.some.inj had
  obtain ⟨b, off, hbo, hc⟩ := h (by omega)
  simp only [Option.some.injEq, Addr.mk.injEq, and_true] at hbo
  obtain ⟨rfl, rfl⟩ := hbo
  rw [Addr.add_lit, hc t ht.2]
  have e : ((A.take m).map (Value.int .i32))[t]? = some (.int .i32 (A.getD t 0)) := by
    simp [ht.1, show t < A.length by omega]
  rw [e] at hu
  exact hu

/-- The cells of 'numbers[m:]'. -/
theorem cells_on {w : World} {g l m : Nat} {A : List Int} (hA : A.length = l) (h : Row32 w (some ⟨g, 0, none⟩) l A) {ao : Option Addr} (hao : ¬ l = m → ao = some ⟨g, 0 + m, none⟩) : ∀ ad, ao = some ad → ∀ t u, ((A.drop m).map (Value.int .i32))[t]? = some u → w.cell? (ad.add t) = some u := by
  by_cases h0 : 0 < l
  · obtain ⟨b, off, hbo, hc⟩ := h h0
    simp only [Option.some.injEq, Addr.mk.injEq, and_true] at hbo
    obtain ⟨rfl, rfl⟩ := hbo
    exact cells_from hA (Nat.le_refl _) hc hao
  · intro ad _ t u hu
    have := (List.getElem?_eq_some_iff.1 hu).1
    simp [hA] at this
    omega

/-- What an append asks of its source, in every later world. -/
def Src (w6 : World) (X : List Value) (Q : Option Addr → Prop) : Prop :=
  ∀ (W : World), Below w6.heap.size w6 W → ∀ ao : Option Addr, Q ao → ∀ ad, ao = some ad → ∀ t u, X[t]? = some u → W.cell? (ad.add t) = some u

/-- A row that the call owns, as the contracts ask it. -/
theorem row32_own {w : World} {base g len cap : Nat} {xs : List Value} {A : List Int} (h : w.ownsRow base 21 1 (.slice (some ⟨g, 0, none⟩) len cap) len xs) (hx : xs = A.map (Value.int .i32)) (hl : A.length = len) : Row32 w (some ⟨g, 0, none⟩) len A := by
  intro _
  refine ⟨g, 0, rfl, fun i hi => ?_⟩
  rw [Nat.zero_add, h.cellAt i (by omega), hx]
  have : i < A.length := by omega
  simp [this]

theorem own_lt {w : World} {base g len cap : Nat} {xs : List Value} (h : w.ownsRow base 21 1 (.slice (some ⟨g, 0, none⟩) len cap) len xs) : g < w.heap.size := by
  rcases h.2 with ⟨h, _⟩ | ⟨g, cap', cur, h, _, hg, _⟩
  · cases h
  · simp only [Value.slice.injEq, Option.some.injEq, Addr.mk.injEq, and_true, true_and] at h
    obtain ⟨rfl, rfl⟩ := h
    exact (Array.getElem?_eq_some_iff.1 hg).1

theorem put_cells (A : List Int) (m : Nat) (n : Int) : ((A.take m).map (Value.int .i32) ++ [.int .i32 n]) ++ (A.drop m).map (Value.int .i32) = (put A m n).map (Value.int .i32) := by simp [put]

theorem one_new (w : World) (v : Value) : ∀ t u, [v][t]? = some u → (w.alloc (.cells #[v] 21)).cell? ((⟨w.heap.size, 0, none⟩ : Addr).add t) = some u := by
  intro t u hu
  match t, hu with
  | 0, hu => simp at hu; subst hu; simp [Addr.add]

/-- More than 65,536 of either: true at once. -/
theorem tally3_long (a0 a1 : Option Addr) (l0 c0 l1 c1 : Nat) (n : Int) (w : World) (h0 : l0 ≤ 9223372036854775807) (h1 : l1 ≤ 9223372036854775807) (h : 65536 < l0 ∨ 65536 < l1) :
    Calls Try.prog 4 #[.slice a0 l0 c0, .slice a1 l1 c1, .int .i32 n] w fun e w' => e = .returned (.bool true) ∧ Below w.heap.size w w' := by
  by_cases h2 : 65536 < l0
  · by_cases h3 : 1048576 < l0
    · go_enter Try.func4, Try.ntmps4
      go_wp2
      go_ret
      exact ⟨rfl, Below.refl _ _⟩
    · by_cases h4 : 1048576 < l1
      · go_enter Try.func4, Try.ntmps4
        go_wp2
        go_ret
        exact ⟨rfl, Below.refl _ _⟩
      · by_cases h5 : 1048576 < l0 + l1
        · go_enter Try.func4, Try.ntmps4
          go_wp2
          go_ret
          exact ⟨rfl, Below.refl _ _⟩
        · go_enter Try.func4, Try.ntmps4
          go_wp2
          go_ret
          exact ⟨rfl, Below.refl _ _⟩
  · have h3 : 65536 < l1 := by omega
    by_cases h4 : 1048576 < l1
    · go_enter Try.func4, Try.ntmps4
      go_wp2
      go_ret
      exact ⟨rfl, Below.refl _ _⟩
    · by_cases h5 : 1048576 < l0 + l1
      · go_enter Try.func4, Try.ntmps4
        go_wp2
        go_ret
        exact ⟨rfl, Below.refl _ _⟩
      · go_enter Try.func4, Try.ntmps4
        go_wp2
        go_ret
        exact ⟨rfl, Below.refl _ _⟩

/-- The two lengths part: true. -/
theorem tally3_parts (a0 a1 : Option Addr) (l0 c0 l1 c1 : Nat) (n : Int) (w : World) (h0 : l0 ≤ 65536) (h1 : l1 ≤ 65536) (h : l1 ≠ l0) :
    Calls Try.prog 4 #[.slice a0 l0 c0, .slice a1 l1 c1, .int .i32 n] w fun e w' => e = .returned (.bool true) ∧ Below w.heap.size w w' := by
  go_enter Try.func4, Try.ntmps4
  go_wp2_with (go_at_call 9; go_in)
  refine (shape_parts a0 a1 l0 c0 l1 c1 _ h).mono ?_
  rintro e w' ⟨rfl, rfl⟩
  go_wp2
  go_ret
  exact ⟨rfl, Below.refl _ _⟩

set_option maxHeartbeats 1000000 in
set_option maxRecDepth 4000 in
theorem tally3_main (b0 b1 : Addr) (len l1 c0 c1 : Nat) (A T : List Int) (n : Int) (w : World) (HE : Hid (l1 = len)) (HL : Hid (A.length = len ∧ T.length = len)) (hm : len ≤ 65536) (hm' : l1 ≤ 65536) (H0 : Hid (Row32 w (some b0) len A)) (H1 : Hid (Row32 w (some b1) len T)) :
    Calls Try.prog 4 #[.slice (some b0) len c0, .slice (some b1) l1 c1, .int .i32 n] w fun e w' => e = .returned (.bool true) ∧ Below w.heap.size w w' := by
  have q22 : ∀ (w : World) (a : Option Addr) (n c n' c' : Nat), (binOp .neq 22 (.slice a n c) (.slice none n' c')).run Try.prog w = .ok (.bool (!a.isNone)) w := fun w a n c n' c' => run_neq_slice_nil_any w _ _ a n c n' c' Try.underlying22
  go_enter Try.func4, Try.ntmps4
  go_wp2_with (go_at_call 9; go_in)
  obtain rfl := HE.out
  refine (shape_any (some b0) (some b1) l1 c0 c1 A T _ HL.out.1 (by omega) H0.out H1.out).mono ?_
  rintro e w1 ⟨b, rfl, hA, hb1⟩
  have hs1 := hb1.size
  have hR0 := H0.out.below hb1
  have hR1 := H1.out.below hb1
  clear H0 H1 HE
  cases b
  · go_wp2
    go_ret
    exact ⟨rfl, hb1⟩
  · have HA : Hid (Inc A) := hA rfl
    clear hA
    obtain ⟨i0, hi, hz0, hz1, hz2⟩ := info_parts Try.info21
    go_wp2_with (first | (at_make; refine wpList_make_full _ rfl _ _ 22 rfl w1.heap.size 21 i0 (.int .i32 0) 1 Try.underlying22 hi hz0 hz1 _ _ _ _ l1 rfl rfl rfl rfl ?b1 ?b2 ?b3 ?_))
    case b1 => rw [hz2]; omega
    case b2 => unfold maxLen; omega
    case b3 => exact Nat.le_refl _
    intro w2 hown hgrow
    have hb2 : Below w1.heap.size w1 w2 := (Below.refl _ _).grown hgrow (Nat.le_refl _) (by intro k hk; cases hk)
    obtain ⟨hs2, cur, hg2, hcur⟩ := own_block hown
    have hR0 := hR0.below hb2
    clear hown hgrow hi hz0 hz1 hz2
    obtain ⟨w3, hcp, hR0', hb3, hs3⟩ := copy_whole (c := c0) HL.out.1 hR0 hg2 hcur
    have hb3' := hb2.trans hb3
    have hR1 := hR1.below hb3'
    have hs3' : w1.heap.size < w3.heap.size := by omega
    have H0 : Hid (Row32 w3 (some ⟨w1.heap.size, 0, none⟩) l1 A) := hR0'
    have HB3 : Hid (Below w1.heap.size w1 w3) := hb3'
    clear hg2 hcur hR0 hb3 hs3 hR0' hb3' hs2 hb2
    obtain ⟨i0, hi, hz0, hz1, hz2⟩ := info_parts Try.info21
    go_wp2_with (first | (at_make; refine wpList_make_full _ rfl _ _ 22 rfl w3.heap.size 21 i0 (.int .i32 0) 1 Try.underlying22 hi hz0 hz1 _ _ _ _ l1 rfl rfl rfl rfl ?e1 ?e2 ?e3 ?_))
    case e1 => rw [hz2]; omega
    case e2 => unfold maxLen; omega
    case e3 => exact Nat.le_refl _
    clear hcp
    intro w4 hown hgrow
    have hb4 : Below w3.heap.size w3 w4 := (Below.refl _ _).grown hgrow (Nat.le_refl _) (by intro k hk; cases hk)
    obtain ⟨hs4, cur, hg4, hcur⟩ := own_block hown
    have hR1' := hR1.below hb4
    obtain ⟨w5, hcp, hR1'', hb5, hs5⟩ := copy_whole (c := c1) HL.out.2 hR1' hg4 hcur
    have HB5 : Hid (Below w3.heap.size w3 w5) := hb4.trans hb5
    have H0' : Hid (Row32 w5 (some ⟨w1.heap.size, 0, none⟩) l1 A) := H0.out.below HB5.out
    have H1' : Hid (Row32 w5 (some ⟨w3.heap.size, 0, none⟩) l1 T) := hR1''
    have hs5' : w3.heap.size < w5.heap.size := by omega
    clear hown hgrow hi hz0 hz1 hz2 hb4 hg4 hcur hR1 hR1' hR1'' hb5 H0 hs4 hs5
    go_wp2_with fail
    refine (zzfind_any _ _ l1 _ _ A T n _ HL.out.1 (by omega) HA.out H0'.out H1'.out).mono ?_
    rintro e w6 ⟨rfl, hb6⟩
    have H0 : Hid (Row32 w6 (some ⟨w1.heap.size, 0, none⟩) l1 A) := H0'.out.below hb6
    have H1 : Hid (Row32 w6 (some ⟨w3.heap.size, 0, none⟩) l1 T) := H1'.out.below hb6
    have HB6 : Hid (Below w.heap.size w w6) := hb1.trans ((HB3.out.trans ((HB5.out.trans (hb6.mono (by omega))).mono (by omega))).mono hs1)
    have hle := belowN_le A n
    rw [HL.out.1] at hle
    have HF : Hid (foundB A n = decide (belowN A n < l1 ∧ A.getD (belowN A n) 0 = n)) := by unfold foundB; rw [HL.out.1]; rfl
    have hs6 := hb6.size
    have hg0 : w1.heap.size < w6.heap.size := by omega
    have hg1 : w3.heap.size < w6.heap.size := by omega
    obtain ⟨g0, hg0d⟩ : ∃ g, g = w1.heap.size := ⟨_, rfl⟩
    obtain ⟨g1, hg1d⟩ : ∃ g, g = w3.heap.size := ⟨_, rfl⟩
    obtain ⟨m, hmd⟩ : ∃ m, m = belowN A n := ⟨_, rfl⟩
    rw [← hmd] at hle HF ⊢
    rw [← hg0d] at hg0 H0 ⊢
    rw [← hg1d] at hg1 H1 ⊢
    have HM : Hid (m = belowN A n) := hmd
    clear hcp H0' H1' hb6 HB5 HB3 hb1 hs5' hs3' hs1 hs6 hg0d hg1d hmd hR0 hR1
    clear w2 w4 w5
    by_cases hf : foundB A n = true
    · have HF' := HF.out
      rw [hf] at HF' ⊢
      have hF2 := of_decide_eq_true HF'.symm
      obtain ⟨hF3, hF4⟩ := hF2
      obtain ⟨b, off, hbo, hc⟩ := H0.out (by omega)
      simp only [Option.some.injEq, Addr.mk.injEq, and_true] at hbo
      obtain ⟨rfl, rfl⟩ := hbo
      have hck := hc m hF3
      simp only [Nat.zero_add] at hck
      rw [hF4] at hck
      clear hc HF' hF4 hf
      go_wp2
      go_ret
      exact ⟨ret_bool (by simp), HB6.out⟩
    · have hf' : foundB A n = false := by simpa using hf
      have HNF : Hid (foundB A n = false) := hf'
      rw [hf']
      clear hf hf'
      by_cases hml : m = l1
      · subst hml
        obtain ⟨i0, hi, hz0, hz1, hz2⟩ := info_parts Try.info21
        have hb2' : i0.bytes * (m + 1) ≤ 281474976710656 := by rw [hz2]; omega
        have hb3' : m + 1 ≤ maxLen := by unfold maxLen; omega
        obtain ⟨X1, hX1⟩ : ∃ X, X = (A.take m).map (Value.int .i32) := ⟨_, rfl⟩
        obtain ⟨X2, hX2⟩ : ∃ X, X = (A.drop m).map (Value.int .i32) := ⟨_, rfl⟩
        obtain ⟨Y1, hY1⟩ : ∃ X, X = (T.take m).map (Value.int .i32) := ⟨_, rfl⟩
        obtain ⟨Y2, hY2⟩ : ∃ X, X = (T.drop m).map (Value.int .i32) := ⟨_, rfl⟩
        have HX : Hid (((X1 ++ [.int .i32 n]) ++ X2 = (put A m n).map (Value.int .i32)) ∧ ((Y1 ++ [.int .i32 1]) ++ Y2 = (put T m 1).map (Value.int .i32))) := by
          rw [hX1, hX2, hY1, hY2]; exact ⟨put_cells _ _ _, put_cells _ _ _⟩
        have HN : Hid (X1.length = m * 1 ∧ X2.length = 0 * 1 ∧ Y1.length = m * 1 ∧ Y2.length = 0 * 1) := by
          have := HL.out.1
          have := HL.out.2
          refine ⟨?_, ?_, ?_, ?_⟩ <;> simp only [hX1, hX2, hY1, hY2, List.length_map, List.length_take, List.length_drop] <;> omega
        have HO : Hid ((∀ u ∈ X1, u.oneCell' = true) ∧ (∀ u ∈ X2, u.oneCell' = true) ∧ (∀ u ∈ Y1, u.oneCell' = true) ∧ (∀ u ∈ Y2, u.oneCell' = true)) := by
          refine ⟨?_, ?_, ?_, ?_⟩ <;> simp only [hX1, hX2, hY1, hY2] <;> exact ints_oneCell _ _
        have C1 : Src w6 X1 (fun ao => ao = some ⟨g0, 0, none⟩) := by
          intro W hW ao hao; rw [hX1]; exact cells_upto HL.out.1 (H0.out.below hW) hle hao
        have C2 : Src w6 X2 (fun ao => ¬ m = m → ao = some ⟨g0, 0 + m, none⟩) := by
          intro W hW ao hao; rw [hX2]; exact cells_on HL.out.1 (H0.out.below hW) hao
        have D1 : Src w6 Y1 (fun ao => ao = some ⟨g1, 0, none⟩) := by
          intro W hW ao hao; rw [hY1]; exact cells_upto HL.out.2 (H1.out.below hW) hle hao
        have D2 : Src w6 Y2 (fun ao => ¬ m = m → ao = some ⟨g1, 0 + m, none⟩) := by
          intro W hW ao hao; rw [hY2]; exact cells_on HL.out.2 (H1.out.below hW) hao
        clear hX1 hX2 hY1 hY2
        go_wp2_with (at_make; refine wpList_make_own _ rfl _ _ 22 rfl w6.heap.size 21 i0 (.int .i32 0) 1 Try.underlying22 hi hz0 hz1 _ _ _ (m + 1) rfl rfl (by omega) hb2' hb3' (Nat.le_refl _) ?_)
        intro w7 hown7 hgrow7
        have hb7 : Below w6.heap.size w6 w7 := (Below.refl _ _).grown hgrow7 (Nat.le_refl _) (by intro k hk; cases hk)
        have hs7 : w6.heap.size < w7.heap.size := own_lt hown7
        go_wp2_with (at_builtin; refine wpList_append_fits_any _ rfl (.tmp 83) (.tmp 86) 22 rfl w6.heap.size 21 i0 1 Try.underlying22 hi hz1 w6.heap.size 0 (m + 1) [] rfl hown7 _ m _ X1 rfl HN.out.1 (by intro h; cases h) (C1 _ hb7 _ rfl) HO.out.1 (by omega) ?_)
        intro w8 hown8 hgrow8
        have hb8 : Below w6.heap.size w6 w8 := hb7.grown hgrow8 (by omega) (by intro k hk; cases hk; exact Nat.le_refl _)
        have hs8 : w6.heap.size < w8.heap.size := Nat.lt_of_lt_of_le hs7 hgrow8.size
        clear hown7 hgrow7 hgrow8 hb7 hs7 C1
        go_wp2_with (at_builtin; refine wpList_append_fits _ rfl (.tmp 88) (.tmp 90) 22 rfl w6.heap.size 21 i0 1 Try.underlying22 hi hz1 w6.heap.size m (m + 1) _ rfl (hown8.alloc _) ⟨w8.heap.size, 0, none⟩ 1 1 [.int .i32 n] rfl rfl (one_new w8 _) (ints_oneCell .i32 [n]) (by omega) ?_)
        intro w9 hown9 hgrow9
        have hb9 : Below w6.heap.size w6 w9 := (hb8.alloc (by omega) _).grown hgrow9 (by simp; omega) (by intro k hk; cases hk; exact Nat.le_refl _)
        have hs9 : w6.heap.size < w9.heap.size := own_lt hown9
        clear hown8 hgrow9 hb8 hs8
        go_wp2_with (at_builtin; refine wpList_append_fits_any _ rfl (.tmp 92) (.tmp 95) 22 rfl w6.heap.size 21 i0 1 Try.underlying22 hi hz1 w6.heap.size (m + 1) (m + 1) _ rfl hown9 _ 0 _ X2 rfl HN.out.2.1 (by intro h; first | cases h | (split at h <;> cases h)) (C2 _ hb9 _ (by intro h; exact absurd trivial h)) HO.out.2.1 (by omega) ?_)
        intro w10 hown10 hgrow10
        have e10 : (m + 1) = m + 1 := by omega
        have hb10 : Below w6.heap.size w6 w10 := hb9.grown hgrow10 (by omega) (by intro k hk; cases hk; exact Nat.le_refl _)
        have hs10 : w6.heap.size < w10.heap.size := own_lt hown10
        have HR10 : Hid (Row32 w10 (some ⟨w6.heap.size, 0, none⟩) (m + 1) (put A m n)) := by
          refine row32_own (by first | exact hown10 | (rw [e10] at hown10; exact hown10)) (by simpa using HX.out.1) (by rw [put_length _ _ _ (by have := HL.out.1; omega), HL.out.1])
        clear hown9 hgrow10 hb9 hs9 hown10 C2
        go_wp2_with (at_make; refine wpList_make_own _ rfl _ _ 22 rfl w10.heap.size 21 i0 (.int .i32 0) 1 Try.underlying22 hi hz0 hz1 _ _ _ (m + 1) rfl rfl (by omega) hb2' hb3' (Nat.le_refl _) ?_)
        intro w11 hown11 hgrow11
        have hb11 : Below w10.heap.size w10 w11 := (Below.refl _ _).grown hgrow11 (Nat.le_refl _) (by intro k hk; cases hk)
        have hs11 : w10.heap.size < w11.heap.size := own_lt hown11
        go_wp2_with (at_builtin; refine wpList_append_fits_any _ rfl (.tmp 101) (.tmp 104) 22 rfl w10.heap.size 21 i0 1 Try.underlying22 hi hz1 w10.heap.size 0 (m + 1) [] rfl hown11 _ m _ Y1 rfl HN.out.2.2.1 (by intro h; cases h) (D1 _ (hb10.trans (hb11.mono (by omega))) _ rfl) HO.out.2.2.1 (by omega) ?_)
        intro w12 hown12 hgrow12
        have hb12 : Below w10.heap.size w10 w12 := hb11.grown hgrow12 (by omega) (by intro k hk; cases hk; exact Nat.le_refl _)
        have hs12 : w10.heap.size < w12.heap.size := Nat.lt_of_lt_of_le hs11 hgrow12.size
        clear hown11 hgrow11 hgrow12 hb11 hs11 D1
        go_wp2_with (at_builtin; refine wpList_append_fits _ rfl (.tmp 106) (.tmp 107) 22 rfl w10.heap.size 21 i0 1 Try.underlying22 hi hz1 w10.heap.size m (m + 1) _ rfl (hown12.alloc _) ⟨w12.heap.size, 0, none⟩ 1 1 [.int .i32 1] rfl rfl (one_new w12 _) (ints_oneCell .i32 [1]) (by omega) ?_)
        intro w13 hown13 hgrow13
        have hb13 : Below w10.heap.size w10 w13 := (hb12.alloc (by omega) _).grown hgrow13 (by simp; omega) (by intro k hk; cases hk; exact Nat.le_refl _)
        have hs13 : w10.heap.size < w13.heap.size := own_lt hown13
        clear hown12 hgrow13 hb12 hs12
        go_wp2_with (at_builtin; refine wpList_append_fits_any _ rfl (.tmp 109) (.tmp 112) 22 rfl w10.heap.size 21 i0 1 Try.underlying22 hi hz1 w10.heap.size (m + 1) (m + 1) _ rfl hown13 _ 0 _ Y2 rfl HN.out.2.2.2 (by intro h; first | cases h | (split at h <;> cases h)) (D2 _ (hb10.trans (hb13.mono (by omega))) _ (by intro h; exact absurd trivial h)) HO.out.2.2.2 (by omega) ?_)
        intro w14 hown14 hgrow14
        have hb14 : Below w10.heap.size w10 w14 := hb13.grown hgrow14 (by omega) (by intro k hk; cases hk; exact Nat.le_refl _)
        have HB14 : Hid (Below w.heap.size w w14) := HB6.out.trans ((hb10.trans (hb14.mono (by omega))).mono HB6.out.size)
        have HR14 : Hid (Row32 w14 (some ⟨w10.heap.size, 0, none⟩) (m + 1) (put T m 1)) := by
          refine row32_own (by first | exact hown14 | (rw [e10] at hown14; exact hown14)) (by simpa using HX.out.2) (by rw [put_length _ _ _ (by have := HL.out.2; omega), HL.out.2])
        have HR10' : Hid (Row32 w14 (some ⟨w6.heap.size, 0, none⟩) (m + 1) (put A m n)) := HR10.out.below hb14
        have HP := put_inc A n HA.out HNF.out
        rw [← HM.out] at HP
        have HPH : Hid (Inc (put A m n) ∧ belowN (put A m n) n = m ∧ foundB (put A m n) n = true) := HP
        have HPL : Hid ((put A m n).length = m + 1) := by show _ = _; rw [put_length _ _ _ (by have := HL.out.1; omega), HL.out.1]
        obtain ⟨G, hG⟩ : ∃ G, G = w6.heap.size := ⟨_, rfl⟩
        obtain ⟨G', hG'⟩ : ∃ G, G = w10.heap.size := ⟨_, rfl⟩
        rw [← hG] at HR10' ⊢
        rw [← hG'] at HR14 ⊢
        clear hown13 hgrow14 hb13 hs13 hown14 D2 HP hb14 hb10 hs10 HR10 HX HN HO hi hz0 hz1 hz2 hb2' hb3' H0 H1 hg0 hg1 hG hG' e10 HB6 HA HNF HM HF HL
        go_wp2
        go_loopw [13] (fun i wr => ∃ k : Nat, 1 ≤ k ∧ k ≤ m + 1 ∧ i = .int .i64 k ∧ Below w14.heap.size w14 wr) (fun i _ => m + 1 - (intOf i).toNat)
        case atStart => exact ⟨1, Nat.le_refl _, by omega, rfl, Below.refl _ _⟩
        case round =>
          obtain ⟨k, hk1, hk2, rfl, hbr⟩ := hrel
          by_cases hlt : k < m + 1
          · obtain ⟨b, off, hbo, hc⟩ := (HR10'.out.below hbr) (by omega)
            simp only [Option.some.injEq, Addr.mk.injEq, and_true] at hbo
            obtain ⟨rfl, rfl⟩ := hbo
            have hc1 := hc k hlt
            have hc0 := hc (k - 1) (by omega)
            simp only [Nat.zero_add] at hc1 hc0
            have hxy := HPH.out.1 (k - 1) k (by omega) (by rw [HPL.out]; exact hlt)
            obtain ⟨x, hxd⟩ : ∃ x, x = (put A m n).getD k 0 := ⟨_, rfl⟩
            obtain ⟨y, hyd⟩ : ∃ x, x = (put A m n).getD (k - 1) 0 := ⟨_, rfl⟩
            rw [← hxd] at hc1 hxy
            rw [← hyd] at hc0 hxy
            have HBR : Hid (Below w14.heap.size w14 wr) := hbr
            have hi1 : (k : Int) < (m : Int) + 1 := by omega
            have hi2 : (1 : Int) ≤ (k : Int) := by omega
            clear hc hxd hyd hbr
            go_wp2
            go_quiet (fail)
            go_wp2
            go_roundw
            case rel => exact ⟨k + 1, by omega, by omega, by go_num, below_drewN HBR.out _⟩
            case measure => simp [intOf]; omega
          · have HC : Hid (Calls Try.prog 8 #[.slice (some ⟨G, 0, none⟩) (m + 1) (m + 1), .slice (some ⟨G', 0, none⟩) (m + 1) (m + 1), .int .i32 n] wr fun e w' => e = .returned (.tuple #[.int .i64 m, .bool true]) ∧ Below wr.heap.size wr w') := by
              have h := zzfind_any (some ⟨G, 0, none⟩) (some ⟨G', 0, none⟩) (m + 1) (m + 1) (m + 1) (put A m n) (put T m 1) n wr HPL.out (by omega) HPH.out.1 (HR10'.out.below hbr) (HR14.out.below hbr)
              rw [HPH.out.2.1, HPH.out.2.2] at h
              exact h
            have hs := hbr.size
            have HBR : Hid (Below w14.heap.size w14 wr) := hbr
            clear hbr
            go_wp2_with fail
            refine HC.out.mono ?_
            rintro e wz ⟨rfl, hbz⟩
            have hs' := HB14.out.size
            go_wp2
            go_ret
            exact ⟨ret_bool (by simp), HB14.out.trans ((HBR.out.trans (hbz.mono hs)).mono hs')⟩
      · have hne : ¬ l1 = m := fun e => hml e.symm
        clear hml
        obtain ⟨i0, hi, hz0, hz1, hz2⟩ := info_parts Try.info21
        have hb2' : i0.bytes * (l1 + 1) ≤ 281474976710656 := by rw [hz2]; omega
        have hb3' : l1 + 1 ≤ maxLen := by unfold maxLen; omega
        obtain ⟨X1, hX1⟩ : ∃ X, X = (A.take m).map (Value.int .i32) := ⟨_, rfl⟩
        obtain ⟨X2, hX2⟩ : ∃ X, X = (A.drop m).map (Value.int .i32) := ⟨_, rfl⟩
        obtain ⟨Y1, hY1⟩ : ∃ X, X = (T.take m).map (Value.int .i32) := ⟨_, rfl⟩
        obtain ⟨Y2, hY2⟩ : ∃ X, X = (T.drop m).map (Value.int .i32) := ⟨_, rfl⟩
        have HX : Hid (((X1 ++ [.int .i32 n]) ++ X2 = (put A m n).map (Value.int .i32)) ∧ ((Y1 ++ [.int .i32 1]) ++ Y2 = (put T m 1).map (Value.int .i32))) := by
          rw [hX1, hX2, hY1, hY2]; exact ⟨put_cells _ _ _, put_cells _ _ _⟩
        have HN : Hid (X1.length = m * 1 ∧ X2.length = (l1 - m) * 1 ∧ Y1.length = m * 1 ∧ Y2.length = (l1 - m) * 1) := by
          have := HL.out.1
          have := HL.out.2
          refine ⟨?_, ?_, ?_, ?_⟩ <;> simp only [hX1, hX2, hY1, hY2, List.length_map, List.length_take, List.length_drop] <;> omega
        have HO : Hid ((∀ u ∈ X1, u.oneCell' = true) ∧ (∀ u ∈ X2, u.oneCell' = true) ∧ (∀ u ∈ Y1, u.oneCell' = true) ∧ (∀ u ∈ Y2, u.oneCell' = true)) := by
          refine ⟨?_, ?_, ?_, ?_⟩ <;> simp only [hX1, hX2, hY1, hY2] <;> exact ints_oneCell _ _
        have C1 : Src w6 X1 (fun ao => ao = some ⟨g0, 0, none⟩) := by
          intro W hW ao hao; rw [hX1]; exact cells_upto HL.out.1 (H0.out.below hW) hle hao
        have C2 : Src w6 X2 (fun ao => ¬ l1 = m → ao = some ⟨g0, 0 + m, none⟩) := by
          intro W hW ao hao; rw [hX2]; exact cells_on HL.out.1 (H0.out.below hW) hao
        have D1 : Src w6 Y1 (fun ao => ao = some ⟨g1, 0, none⟩) := by
          intro W hW ao hao; rw [hY1]; exact cells_upto HL.out.2 (H1.out.below hW) hle hao
        have D2 : Src w6 Y2 (fun ao => ¬ l1 = m → ao = some ⟨g1, 0 + m, none⟩) := by
          intro W hW ao hao; rw [hY2]; exact cells_on HL.out.2 (H1.out.below hW) hao
        clear hX1 hX2 hY1 hY2
        go_wp2_with (at_make; refine wpList_make_own _ rfl _ _ 22 rfl w6.heap.size 21 i0 (.int .i32 0) 1 Try.underlying22 hi hz0 hz1 _ _ _ (l1 + 1) rfl rfl (by omega) hb2' hb3' (Nat.le_refl _) ?_)
        intro w7 hown7 hgrow7
        have hb7 : Below w6.heap.size w6 w7 := (Below.refl _ _).grown hgrow7 (Nat.le_refl _) (by intro k hk; cases hk)
        have hs7 : w6.heap.size < w7.heap.size := own_lt hown7
        go_wp2_with (at_builtin; refine wpList_append_fits_any _ rfl (.tmp 83) (.tmp 86) 22 rfl w6.heap.size 21 i0 1 Try.underlying22 hi hz1 w6.heap.size 0 (l1 + 1) [] rfl hown7 _ m _ X1 rfl HN.out.1 (by intro h; cases h) (C1 _ hb7 _ rfl) HO.out.1 (by omega) ?_)
        intro w8 hown8 hgrow8
        have hb8 : Below w6.heap.size w6 w8 := hb7.grown hgrow8 (by omega) (by intro k hk; cases hk; exact Nat.le_refl _)
        have hs8 : w6.heap.size < w8.heap.size := Nat.lt_of_lt_of_le hs7 hgrow8.size
        clear hown7 hgrow7 hgrow8 hb7 hs7 C1
        go_wp2_with (at_builtin; refine wpList_append_fits _ rfl (.tmp 88) (.tmp 90) 22 rfl w6.heap.size 21 i0 1 Try.underlying22 hi hz1 w6.heap.size m (l1 + 1) _ rfl (hown8.alloc _) ⟨w8.heap.size, 0, none⟩ 1 1 [.int .i32 n] rfl rfl (one_new w8 _) (ints_oneCell .i32 [n]) (by omega) ?_)
        intro w9 hown9 hgrow9
        have hb9 : Below w6.heap.size w6 w9 := (hb8.alloc (by omega) _).grown hgrow9 (by simp; omega) (by intro k hk; cases hk; exact Nat.le_refl _)
        have hs9 : w6.heap.size < w9.heap.size := own_lt hown9
        clear hown8 hgrow9 hb8 hs8
        go_wp2_with (at_builtin; refine wpList_append_fits_any _ rfl (.tmp 92) (.tmp 95) 22 rfl w6.heap.size 21 i0 1 Try.underlying22 hi hz1 w6.heap.size (m + 1) (l1 + 1) _ rfl hown9 _ (l1 - m) _ X2 rfl HN.out.2.1 (by intro h; first | cases h | (split at h <;> cases h)) (C2 _ hb9 _ (by intro h; first | rfl | simp)) HO.out.2.1 (by omega) ?_)
        intro w10 hown10 hgrow10
        have e10 : (m + 1 + (l1 - m)) = l1 + 1 := by omega
        have hb10 : Below w6.heap.size w6 w10 := hb9.grown hgrow10 (by omega) (by intro k hk; cases hk; exact Nat.le_refl _)
        have hs10 : w6.heap.size < w10.heap.size := own_lt hown10
        have HR10 : Hid (Row32 w10 (some ⟨w6.heap.size, 0, none⟩) (l1 + 1) (put A m n)) := by
          refine row32_own (by first | exact hown10 | (rw [e10] at hown10; exact hown10)) (by simpa using HX.out.1) (by rw [put_length _ _ _ (by have := HL.out.1; omega), HL.out.1])
        clear hown9 hgrow10 hb9 hs9 hown10 C2
        rw [e10]
        go_wp2_with (at_make; refine wpList_make_own _ rfl _ _ 22 rfl w10.heap.size 21 i0 (.int .i32 0) 1 Try.underlying22 hi hz0 hz1 _ _ _ (l1 + 1) rfl rfl (by omega) hb2' hb3' (Nat.le_refl _) ?_)
        intro w11 hown11 hgrow11
        have hb11 : Below w10.heap.size w10 w11 := (Below.refl _ _).grown hgrow11 (Nat.le_refl _) (by intro k hk; cases hk)
        have hs11 : w10.heap.size < w11.heap.size := own_lt hown11
        go_wp2_with (at_builtin; refine wpList_append_fits_any _ rfl (.tmp 101) (.tmp 104) 22 rfl w10.heap.size 21 i0 1 Try.underlying22 hi hz1 w10.heap.size 0 (l1 + 1) [] rfl hown11 _ m _ Y1 rfl HN.out.2.2.1 (by intro h; cases h) (D1 _ (hb10.trans (hb11.mono (by omega))) _ rfl) HO.out.2.2.1 (by omega) ?_)
        intro w12 hown12 hgrow12
        have hb12 : Below w10.heap.size w10 w12 := hb11.grown hgrow12 (by omega) (by intro k hk; cases hk; exact Nat.le_refl _)
        have hs12 : w10.heap.size < w12.heap.size := Nat.lt_of_lt_of_le hs11 hgrow12.size
        clear hown11 hgrow11 hgrow12 hb11 hs11 D1
        go_wp2_with (at_builtin; refine wpList_append_fits _ rfl (.tmp 106) (.tmp 107) 22 rfl w10.heap.size 21 i0 1 Try.underlying22 hi hz1 w10.heap.size m (l1 + 1) _ rfl (hown12.alloc _) ⟨w12.heap.size, 0, none⟩ 1 1 [.int .i32 1] rfl rfl (one_new w12 _) (ints_oneCell .i32 [1]) (by omega) ?_)
        intro w13 hown13 hgrow13
        have hb13 : Below w10.heap.size w10 w13 := (hb12.alloc (by omega) _).grown hgrow13 (by simp; omega) (by intro k hk; cases hk; exact Nat.le_refl _)
        have hs13 : w10.heap.size < w13.heap.size := own_lt hown13
        clear hown12 hgrow13 hb12 hs12
        go_wp2_with (at_builtin; refine wpList_append_fits_any _ rfl (.tmp 109) (.tmp 112) 22 rfl w10.heap.size 21 i0 1 Try.underlying22 hi hz1 w10.heap.size (m + 1) (l1 + 1) _ rfl hown13 _ (l1 - m) _ Y2 rfl HN.out.2.2.2 (by intro h; first | cases h | (split at h <;> cases h)) (D2 _ (hb10.trans (hb13.mono (by omega))) _ (by intro h; first | rfl | simp)) HO.out.2.2.2 (by omega) ?_)
        intro w14 hown14 hgrow14
        have hb14 : Below w10.heap.size w10 w14 := hb13.grown hgrow14 (by omega) (by intro k hk; cases hk; exact Nat.le_refl _)
        have HB14 : Hid (Below w.heap.size w w14) := HB6.out.trans ((hb10.trans (hb14.mono (by omega))).mono HB6.out.size)
        have HR14 : Hid (Row32 w14 (some ⟨w10.heap.size, 0, none⟩) (l1 + 1) (put T m 1)) := by
          refine row32_own (by first | exact hown14 | (rw [e10] at hown14; exact hown14)) (by simpa using HX.out.2) (by rw [put_length _ _ _ (by have := HL.out.2; omega), HL.out.2])
        have HR10' : Hid (Row32 w14 (some ⟨w6.heap.size, 0, none⟩) (l1 + 1) (put A m n)) := HR10.out.below hb14
        have HP := put_inc A n HA.out HNF.out
        rw [← HM.out] at HP
        have HPH : Hid (Inc (put A m n) ∧ belowN (put A m n) n = m ∧ foundB (put A m n) n = true) := HP
        have HPL : Hid ((put A m n).length = l1 + 1) := by show _ = _; rw [put_length _ _ _ (by have := HL.out.1; omega), HL.out.1]
        obtain ⟨G, hG⟩ : ∃ G, G = w6.heap.size := ⟨_, rfl⟩
        obtain ⟨G', hG'⟩ : ∃ G, G = w10.heap.size := ⟨_, rfl⟩
        rw [← hG] at HR10' ⊢
        rw [← hG'] at HR14 ⊢
        clear hown13 hgrow14 hb13 hs13 hown14 D2 HP hb14 hb10 hs10 HR10 HX HN HO hi hz0 hz1 hz2 hb2' hb3' H0 H1 hg0 hg1 hG hG' e10 HB6 HA HNF HM HF HL
        go_wp2
        go_loopw [13] (fun i wr => ∃ k : Nat, 1 ≤ k ∧ k ≤ l1 + 1 ∧ i = .int .i64 k ∧ Below w14.heap.size w14 wr) (fun i _ => l1 + 1 - (intOf i).toNat)
        case atStart => exact ⟨1, Nat.le_refl _, by omega, rfl, Below.refl _ _⟩
        case round =>
          obtain ⟨k, hk1, hk2, rfl, hbr⟩ := hrel
          by_cases hlt : k < l1 + 1
          · obtain ⟨b, off, hbo, hc⟩ := (HR10'.out.below hbr) (by omega)
            simp only [Option.some.injEq, Addr.mk.injEq, and_true] at hbo
            obtain ⟨rfl, rfl⟩ := hbo
            have hc1 := hc k hlt
            have hc0 := hc (k - 1) (by omega)
            simp only [Nat.zero_add] at hc1 hc0
            have hxy := HPH.out.1 (k - 1) k (by omega) (by rw [HPL.out]; exact hlt)
            obtain ⟨x, hxd⟩ : ∃ x, x = (put A m n).getD k 0 := ⟨_, rfl⟩
            obtain ⟨y, hyd⟩ : ∃ x, x = (put A m n).getD (k - 1) 0 := ⟨_, rfl⟩
            rw [← hxd] at hc1 hxy
            rw [← hyd] at hc0 hxy
            have HBR : Hid (Below w14.heap.size w14 wr) := hbr
            have hi1 : (k : Int) < (l1 : Int) + 1 := by omega
            have hi2 : (1 : Int) ≤ (k : Int) := by omega
            clear hc hxd hyd hbr
            go_wp2
            go_quiet (fail)
            go_wp2
            go_roundw
            case rel => exact ⟨k + 1, by omega, by omega, by go_num, below_drewN HBR.out _⟩
            case measure => simp [intOf]; omega
          · have HC : Hid (Calls Try.prog 8 #[.slice (some ⟨G, 0, none⟩) (l1 + 1) (l1 + 1), .slice (some ⟨G', 0, none⟩) (l1 + 1) (l1 + 1), .int .i32 n] wr fun e w' => e = .returned (.tuple #[.int .i64 m, .bool true]) ∧ Below wr.heap.size wr w') := by
              have h := zzfind_any (some ⟨G, 0, none⟩) (some ⟨G', 0, none⟩) (l1 + 1) (l1 + 1) (l1 + 1) (put A m n) (put T m 1) n wr HPL.out (by omega) HPH.out.1 (HR10'.out.below hbr) (HR14.out.below hbr)
              rw [HPH.out.2.1, HPH.out.2.2] at h
              exact h
            have hs := hbr.size
            have HBR : Hid (Below w14.heap.size w14 wr) := hbr
            clear hbr
            go_wp2_with fail
            refine HC.out.mono ?_
            rintro e wz ⟨rfl, hbz⟩
            have hs' := HB14.out.size
            go_wp2
            go_ret
            exact ⟨ret_bool (by simp), HB14.out.trans ((HBR.out.trans (hbz.mono hs)).mono hs')⟩

set_option maxHeartbeats 2000000 in
set_option maxRecDepth 4000 in
/-- No element. -/
theorem tally3_zero (a0 a1 : Option Addr) (c0 c1 : Nat) (n : Int) (w : World) :
    Calls Try.prog 4 #[.slice a0 0 c0, .slice a1 0 c1, .int .i32 n] w fun e w' => e = .returned (.bool true) ∧ Below w.heap.size w w' := by
  have q22 : ∀ (w : World) (a : Option Addr) (n c n' c' : Nat), (binOp .neq 22 (.slice a n c) (.slice none n' c')).run Try.prog w = .ok (.bool (!a.isNone)) w := fun w a n c n' c' => run_neq_slice_nil_any w _ _ a n c n' c' Try.underlying22
  have hmk := make_zero
  have hcp := copy_zero
  rcases a0 with _ | x0 <;> rcases a1 with _ | x1
  all_goals
    go_enter Try.func4, Try.ntmps4
    go_wp2_with (go_at_call 9; go_in)
    refine (shape_any _ _ 0 c0 c1 [] [] _ rfl (by omega) (row32_zero _ _ _) (row32_zero _ _ _)).mono ?_
    rintro e w1 ⟨b, rfl, hA, hb1⟩
    have HA : Hid (Inc []) := fun i j _ h => absurd h (by simp)
    clear hA
    have hs1 := hb1.size
    cases b
    · go_wp2
      go_ret
      exact ⟨rfl, hb1⟩
    · go_wp2_with fail
      refine (zzfind_any _ _ 0 _ _ [] [] n _ rfl (by omega) HA.out (row32_zero _ _ _) (row32_zero _ _ _)).mono ?_
      rintro e w6 ⟨rfl, hb6⟩
      rw [belowN_nil, foundB_nil]
      have HB6 : Hid (Below w.heap.size w w6) := by
        refine hb1.trans (Below.mono (Below.trans ?_ (hb6.mono ?_)) hs1)
        · first
          | exact Below.refl _ _
          | exact (Below.refl _ _).alloc (Nat.le_refl _) _
          | exact ((Below.refl _ _).alloc (Nat.le_refl _) _).alloc (by simp) _
        · first
          | exact Nat.le_refl _
          | (simp; done)
          | (simp; omega)
      clear hb6 hb1 hs1 hmk hcp
      obtain ⟨i0, hi, hz0, hz1, hz2⟩ := info_parts Try.info21
      have hb2' : i0.bytes * 1 ≤ 281474976710656 := by rw [hz2]; omega
      have hb3' : 1 ≤ maxLen := by unfold maxLen; omega
      go_wp2_with (at_make; refine wpList_make_own _ rfl _ _ 22 rfl w6.heap.size 21 i0 (.int .i32 0) 1 Try.underlying22 hi hz0 hz1 _ _ _ 1 rfl rfl (by omega) hb2' hb3' (Nat.le_refl _) ?_)
      intro w7 hown7 hgrow7
      have hb7 : Below w6.heap.size w6 w7 := (Below.refl _ _).grown hgrow7 (Nat.le_refl _) (by intro k hk; cases hk)
      have hs7 : w6.heap.size < w7.heap.size := own_lt hown7
      go_wp2_with (at_builtin; refine wpList_append_fits _ rfl (.tmp 88) (.tmp 90) 22 rfl w6.heap.size 21 i0 1 Try.underlying22 hi hz1 w6.heap.size 0 1 [] rfl (hown7.alloc _) ⟨w7.heap.size, 0, none⟩ 1 1 [.int .i32 n] rfl rfl (one_new w7 _) (ints_oneCell .i32 [n]) (by omega) ?_)
      intro w9 hown9 hgrow9
      have hb9 : Below w6.heap.size w6 w9 := (hb7.alloc (by omega) _).grown hgrow9 (by simp; omega) (by intro k hk; cases hk; exact Nat.le_refl _)
      have hs9 : w6.heap.size < w9.heap.size := own_lt hown9
      have HR9 : Hid (Row32 w9 (some ⟨w6.heap.size, 0, none⟩) 1 [n]) := row32_own hown9 rfl rfl
      clear hown7 hgrow7 hgrow9 hb7 hs7 hown9
      go_wp2_with (at_make; refine wpList_make_own _ rfl _ _ 22 rfl w9.heap.size 21 i0 (.int .i32 0) 1 Try.underlying22 hi hz0 hz1 _ _ _ 1 rfl rfl (by omega) hb2' hb3' (Nat.le_refl _) ?_)
      intro w11 hown11 hgrow11
      have hb11 : Below w9.heap.size w9 w11 := (Below.refl _ _).grown hgrow11 (Nat.le_refl _) (by intro k hk; cases hk)
      have hs11 : w9.heap.size < w11.heap.size := own_lt hown11
      go_wp2_with (at_builtin; refine wpList_append_fits _ rfl (.tmp 106) (.tmp 107) 22 rfl w9.heap.size 21 i0 1 Try.underlying22 hi hz1 w9.heap.size 0 1 [] rfl (hown11.alloc _) ⟨w11.heap.size, 0, none⟩ 1 1 [.int .i32 1] rfl rfl (one_new w11 _) (ints_oneCell .i32 [1]) (by omega) ?_)
      intro w13 hown13 hgrow13
      have hb13 : Below w9.heap.size w9 w13 := (hb11.alloc (by omega) _).grown hgrow13 (by simp; omega) (by intro k hk; cases hk; exact Nat.le_refl _)
      have HR13 : Hid (Row32 w13 (some ⟨w9.heap.size, 0, none⟩) 1 [1]) := row32_own hown13 rfl rfl
      have HR9' : Hid (Row32 w13 (some ⟨w6.heap.size, 0, none⟩) 1 [n]) := HR9.out.below hb13
      have HB13 : Hid (Below w.heap.size w w13) := HB6.out.trans ((hb9.trans (hb13.mono (by omega))).mono HB6.out.size)
      have hs' := HB13.out.size
      clear hown11 hgrow11 hgrow13 hb11 hs11 hown13 hb9 hb13 hs9 HR9
      go_wp2
      refine wp_loop_rounds 1 ?_
      rw [rounds_succ]
      go_wp2_with fail
      have HP := put_inc [] n HA.out (foundB_nil n)
      rw [belowN_nil] at HP
      have h8 := zzfind_any (some ⟨w6.heap.size, 0, none⟩) (some ⟨w9.heap.size, 0, none⟩) 1 1 1 [n] [1] n w13 rfl (by omega) HP.1 HR9'.out HR13.out
      have e1 : belowN [n] n = 0 := HP.2.1
      have e2 : foundB [n] n = true := HP.2.2
      rw [e1, e2] at h8
      refine h8.mono ?_
      rintro e wz ⟨rfl, hbz⟩
      clear h8 HP e1 e2
      go_wp2
      go_ret
      exact ⟨ret_bool rfl, HB13.out.trans (hbz.mono hs')⟩
end Go.Proofs.Qxb6609472a
