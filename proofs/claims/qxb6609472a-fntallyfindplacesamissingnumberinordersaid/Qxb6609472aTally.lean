import Derived.Test.Qxb6609472aShape
import Derived.Laws.CopyOwn
namespace Go.Proofs.Qxb6609472a
open Go.RowKit

theorem ret_bool {b : Bool} (h : b = true) : Ending.returned (.bool b) = .returned (.bool true) := by rw [h]
theorem Try.info21 : (Try.prog.info? 21).map (fun i => (i.zero, i.size, i.bytes)) = some (some (.int .i32 0), 1, 4) := by kernel_rfl
theorem Try.size21 : (Try.prog.info? 21).map (·.size) = some 1 := by kernel_rfl

/-- The block of a row that was just made. -/
theorem own_block {w : World} {base g n : Nat} {e : TypeId} {xs : List Value} (h : w.ownsRow base e 1 (.slice (some ⟨g, 0, none⟩) n n) n xs) : g < w.heap.size ∧ ∃ cur : List Value, w.heap[g]? = some (.cells cur.toArray e (0, 0)) ∧ cur.length = n := by
  rcases h.2 with ⟨h', _⟩ | ⟨g', cap', cur, h', _, hg, _, _, hcs, _⟩
  · cases h'
  · simp only [Value.slice.injEq, Option.some.injEq, Addr.mk.injEq, and_true, true_and] at h'
    obtain ⟨rfl, rfl⟩ := h'
    exact ⟨(Array.getElem?_eq_some_iff.1 hg).1, cur.toList, by simpa using hg, by simpa using hcs⟩

theorem splice_all {α : Type} (L cs : List α) (h : cs.length = L.length) : splice L 0 cs = cs := by
  unfold splice
  rw [List.drop_eq_nil_of_le (by omega)]
  simp

/-- What a row that was copied into reads. -/
theorem row32_of_block {w : World} {g len : Nat} {A : List Int} (hl : A.length = len) (hg : w.heap[g]? = some (.cells (A.map (Value.int .i32)).toArray 21 (0, 0))) : Row32 w (some ⟨g, 0, none⟩) len A := by
  intro _
  refine ⟨g, 0, rfl, fun i hi => ?_⟩
  rw [Nat.zero_add, cell_of_row w g i _ 21 (0, 0) hg]
  have : i < A.length := by omega
  simp [this]

theorem Row32.below {w w' : World} {a : Option Addr} {len : Nat} {A : List Int} (h : Row32 w a len A) (hb : Below w.heap.size w w') : Row32 w' a len A := by
  intro hp
  obtain ⟨b, off, e, hc⟩ := h hp
  exact ⟨b, off, e, fun i hi => (hb.cell (Row32.lt hc hp)).trans (hc i hi)⟩

/-- What the copy asks of its source. -/
theorem row32_src {w : World} {a : Option Addr} {len : Nat} {A : List Int} (hl : A.length = len) (h : Row32 w a len A) (g off : Nat) (hp : 0 < (A.map (Value.int .i32)).length) :
    some (⟨g, off, none⟩ : Addr) = some ⟨g, off, none⟩ ∧ ∃ ad, a = some ad ∧ ∀ j v, (A.map (Value.int .i32))[j]? = some v → w.cell? (ad.add j) = some v := by
  refine ⟨rfl, ?_⟩
  simp only [List.length_map] at hp
  obtain ⟨b, o, rfl, hc⟩ := h (by omega)
  refine ⟨_, rfl, fun j v hj => ?_⟩
  obtain ⟨hjl, rfl⟩ := List.getElem?_eq_some_iff.1 hj
  simp only [List.length_map] at hjl
  have e : (⟨b, o, none⟩ : Addr).add j = ⟨b, o + j, none⟩ := by simp [Addr.add]
  rw [e, hc j (by omega)]
  simp [hjl]

theorem ints_one (A : List Int) : ∀ v ∈ A.map (Value.int .i32), v.oneCell' = true := by
  intro v hv
  obtain ⟨x, _, rfl⟩ := List.mem_map.1 hv
  rfl

/-- 'copy(zzc, xs)' into a row that was just made at xs's own length: zzc holds xs. -/
theorem copy_whole {w : World} {g len c : Nat} {a : Option Addr} {A : List Int} {cur : List Value} (hl : A.length = len) (h : Row32 w a len A) (hg : w.heap[g]? = some (.cells cur.toArray 21 (0, 0))) (hc : cur.length = len) :
    ∃ w', (∀ ty, (Builtin.copy_ #[22, 22] ty #[.slice (some ⟨g, 0, none⟩) len len, .slice a len c]).run Try.prog w = .ok (.int .i64 len) w') ∧ Row32 w' (some ⟨g, 0, none⟩) len A ∧ Below g w w' ∧ w'.heap.size = w.heap.size := by
  by_cases h0 : len = 0
  · subst h0
    refine ⟨w, fun ty => ?_, fun hp => absurd hp (by omega), Below.refl _ _, rfl⟩
    exact run_copy_none (P := Try.prog) w 22 22 ty 21 _ _ 0 0 0 c Try.underlying22 Try.size21 rfl
  · obtain ⟨b, rfl, hsrc⟩ := (row32_src hl h g 0 (by simp; omega)).2
    have hr := fun ty => run_copy_row (P := Try.prog) w 22 22 ty 21 g 0 len len b len c cur.toArray 21 (A.map (Value.int .i32)) Try.underlying22 Try.size21 hg (by simp [hl]) hsrc (by simp; omega) (ints_one A)
    have e : (cur.toArray.toList.take 0 ++ A.map (Value.int .i32) ++ cur.toArray.toList.drop (0 + (A.map (Value.int .i32)).length)) = A.map (Value.int .i32) := by
      simp
      omega
    rw [e] at hr
    have hgl : (goInt (A.map (Value.int .i32)).length : Value) = .int .i64 len := by simp [goInt, hl]
    rw [hgl] at hr
    refine ⟨_, hr, row32_of_block hl (setRow_heap w g _ _ 21 _ hg), below_setRow (Below.refl _ _) (Nat.le_refl _) _, by simp [World.setRow]⟩

/-- More than 65,536 of either: true at once. -/
theorem tally2_long (a0 a1 : Option Addr) (l0 c0 l1 c1 : Nat) (n : Int) (w : World) (h0 : l0 ≤ 9223372036854775807) (h1 : l1 ≤ 9223372036854775807) (h : 65536 < l0 ∨ 65536 < l1) :
    Calls Try.prog 3 #[.slice a0 l0 c0, .slice a1 l1 c1, .int .i32 n] w fun e w' => e = .returned (.bool true) ∧ Below w.heap.size w w' := by
  by_cases h2 : 65536 < l0
  · by_cases h3 : 1048576 < l0
    · go_enter Try.func3, Try.ntmps3
      go_wp2
      go_ret
      exact ⟨rfl, Below.refl _ _⟩
    · by_cases h4 : 1048576 < l1
      · go_enter Try.func3, Try.ntmps3
        go_wp2
        go_ret
        exact ⟨rfl, Below.refl _ _⟩
      · by_cases h5 : 1048576 < l0 + l1
        · go_enter Try.func3, Try.ntmps3
          go_wp2
          go_ret
          exact ⟨rfl, Below.refl _ _⟩
        · go_enter Try.func3, Try.ntmps3
          go_wp2
          go_ret
          exact ⟨rfl, Below.refl _ _⟩
  · have h3 : 65536 < l1 := by omega
    by_cases h4 : 1048576 < l1
    · go_enter Try.func3, Try.ntmps3
      go_wp2
      go_ret
      exact ⟨rfl, Below.refl _ _⟩
    · by_cases h5 : 1048576 < l0 + l1
      · go_enter Try.func3, Try.ntmps3
        go_wp2
        go_ret
        exact ⟨rfl, Below.refl _ _⟩
      · go_enter Try.func3, Try.ntmps3
        go_wp2
        go_ret
        exact ⟨rfl, Below.refl _ _⟩

/-- The two lengths part: true. -/
theorem tally2_parts (a0 a1 : Option Addr) (l0 c0 l1 c1 : Nat) (n : Int) (w : World) (h0 : l0 ≤ 65536) (h1 : l1 ≤ 65536) (h : l1 ≠ l0) :
    Calls Try.prog 3 #[.slice a0 l0 c0, .slice a1 l1 c1, .int .i32 n] w fun e w' => e = .returned (.bool true) ∧ Below w.heap.size w w' := by
  go_enter Try.func3, Try.ntmps3
  go_wp2_with (go_at_call 6; go_in)
  refine (shape_parts a0 a1 l0 c0 l1 c1 _ h).mono ?_
  rintro e w' ⟨rfl, rfl⟩
  go_wp2
  go_ret
  exact ⟨rfl, Below.refl _ _⟩

set_option maxHeartbeats 1000000 in
theorem tally2_main (b0 b1 : Addr) (len l1 c0 c1 : Nat) (A T : List Int) (n : Int) (w : World) (HE : Hid (l1 = len)) (HL : Hid (A.length = len ∧ T.length = len)) (hm : len ≤ 65536) (hm' : l1 ≤ 65536) (H0 : Hid (Row32 w (some b0) len A)) (H1 : Hid (Row32 w (some b1) len T)) :
    Calls Try.prog 3 #[.slice (some b0) len c0, .slice (some b1) l1 c1, .int .i32 n] w fun e w' => e = .returned (.bool true) ∧ Below w.heap.size w w' := by
  have q22 : ∀ (w : World) (a : Option Addr) (n c n' c' : Nat), (binOp .neq 22 (.slice a n c) (.slice none n' c')).run Try.prog w = .ok (.bool (!a.isNone)) w := fun w a n c n' c' => run_neq_slice_nil_any w _ _ a n c n' c' Try.underlying22
  go_enter Try.func3, Try.ntmps3
  go_wp2_with (go_at_call 6; go_in)
  obtain rfl := HE.out
  refine (shape_any (some b0) (some b1) l1 c0 c1 A T _ HL.out.1 (by omega) H0.out H1.out).mono ?_
  rintro e w1 ⟨b, rfl, hA, hb1⟩
  have hs1 := hb1.size
  have hR0 := H0.out.below hb1
  have hR1 := H1.out.below hb1
  clear H0 H1 HE
  cases b
  · go_wp2
    go_ret
    exact ⟨rfl, hb1⟩
  · have HA : Hid (Inc A) := hA rfl
    clear hA
    obtain ⟨i0, hi, hz0, hz1, hz2⟩ := info_parts Try.info21
    go_wp2_with (first | (at_make; refine wpList_make_full _ rfl _ _ 22 rfl w1.heap.size 21 i0 (.int .i32 0) 1 Try.underlying22 hi hz0 hz1 _ _ _ _ l1 rfl rfl rfl rfl ?b1 ?b2 ?b3 ?_))
    case b1 => rw [hz2]; omega
    case b2 => unfold maxLen; omega
    case b3 => exact Nat.le_refl _
    intro w2 hown hgrow
    have hb2 : Below w1.heap.size w1 w2 := (Below.refl _ _).grown hgrow (Nat.le_refl _) (by intro k hk; cases hk)
    obtain ⟨hs2, cur, hg2, hcur⟩ := own_block hown
    have hR0 := hR0.below hb2
    clear hown hgrow hi hz0 hz1 hz2
    obtain ⟨w3, hcp, hR0', hb3, hs3⟩ := copy_whole (c := c0) HL.out.1 hR0 hg2 hcur
    have hb3' := hb2.trans hb3
    have hR1 := hR1.below hb3'
    have hs3' : w1.heap.size < w3.heap.size := by omega
    have H0 : Hid (Row32 w3 (some ⟨w1.heap.size, 0, none⟩) l1 A) := hR0'
    have HB3 : Hid (Below w1.heap.size w1 w3) := hb3'
    clear hg2 hcur hR0 hb3 hs3 hR0' hb3' hs2 hb2
    obtain ⟨i0, hi, hz0, hz1, hz2⟩ := info_parts Try.info21
    go_wp2_with (first | (at_make; refine wpList_make_full _ rfl _ _ 22 rfl w3.heap.size 21 i0 (.int .i32 0) 1 Try.underlying22 hi hz0 hz1 _ _ _ _ l1 rfl rfl rfl rfl ?e1 ?e2 ?e3 ?_))
    case e1 => rw [hz2]; omega
    case e2 => unfold maxLen; omega
    case e3 => exact Nat.le_refl _
    clear hcp
    intro w4 hown hgrow
    have hb4 : Below w3.heap.size w3 w4 := (Below.refl _ _).grown hgrow (Nat.le_refl _) (by intro k hk; cases hk)
    obtain ⟨hs4, cur, hg4, hcur⟩ := own_block hown
    have hR1' := hR1.below hb4
    obtain ⟨w5, hcp, hR1'', hb5, hs5⟩ := copy_whole (c := c1) HL.out.2 hR1' hg4 hcur
    have HB5 : Hid (Below w3.heap.size w3 w5) := hb4.trans hb5
    have H0' : Hid (Row32 w5 (some ⟨w1.heap.size, 0, none⟩) l1 A) := H0.out.below HB5.out
    have H1' : Hid (Row32 w5 (some ⟨w3.heap.size, 0, none⟩) l1 T) := hR1''
    have hs5' : w3.heap.size < w5.heap.size := by omega
    clear hown hgrow hi hz0 hz1 hz2 hb4 hg4 hcur hR1 hR1' hR1'' hb5 H0 hs4 hs5
    go_wp2_with fail
    refine (zzfind_any _ _ l1 _ _ A T n _ HL.out.1 (by omega) HA.out H0'.out H1'.out).mono ?_
    rintro e w6 ⟨rfl, hb6⟩
    have hR := H0'.out.below hb6
    have HB6 : Hid (Below w.heap.size w w6) := hb1.trans ((HB3.out.trans ((HB5.out.trans (hb6.mono (by omega))).mono (by omega))).mono hs1)
    have hle := belowN_le A n
    rw [HL.out.1] at hle
    have HF : Hid (foundB A n = decide (belowN A n < l1 ∧ A.getD (belowN A n) 0 = n)) := by unfold foundB; rw [HL.out.1]; rfl
    clear hcp H0' H1' hb6 HB5 HB3 hb1 hs5' hs3' hs1
    go_wp2
    go_loop [11, 12] (fun c i => ∃ k : Nat, k ≤ l1 ∧ i = .int .i64 k ∧ c = .int .i64 (belowN (A.take k) n)) (fun _ i => l1 - (intOf i).toNat)
    case atStart => exact ⟨0, Nat.zero_le _, rfl, rfl⟩
    case round =>
      obtain ⟨k, hk, rfl, rfl⟩ := hrel
      have hbk : belowN (A.take k) n ≤ k := Nat.le_trans (belowN_le _ _) (by simp; omega)
      by_cases hlt : k < l1
      · obtain ⟨b, off, hbo, hc⟩ := hR (by omega)
        simp only [Option.some.injEq, Addr.mk.injEq, and_true] at hbo
        obtain ⟨rfl, rfl⟩ := hbo
        have hck := hc k hlt
        simp only [Nat.zero_add] at hck
        obtain ⟨x, hxd⟩ : ∃ x, x = A.getD k 0 := ⟨_, rfl⟩
        rw [← hxd] at hck
        have HS : Hid (belowN (A.take (k + 1)) n = belowN (A.take k) n + if x < n then 1 else 0) := by rw [hxd]; exact belowN_take_succ A n k (by rw [HL.out.1]; exact hlt)
        obtain ⟨m, hmd⟩ : ∃ m, m = belowN (A.take k) n := ⟨_, rfl⟩
        rw [← hmd] at hbk HS ⊢
        clear hc hxd hmd hR hle
        by_cases hxn : x < n
        · go_wp2
          go_round
          case rel => exact ⟨k + 1, by omega, by go_num, by rw [HS.out, if_pos hxn]; go_num⟩
          case measure => simp [intOf]; omega
        · go_wp2
          go_round
          case rel => exact ⟨k + 1, by omega, by go_num, by rw [HS.out, if_neg hxn]; go_num⟩
          case measure => simp [intOf]; omega
      · obtain rfl : k = l1 := by omega
        have htk : A.take k = A := List.take_of_length_le (by rw [HL.out.1]; exact Nat.le_refl _)
        rw [htk] at hbk ⊢
        obtain ⟨m, hmd⟩ : ∃ m, m = belowN A n := ⟨_, rfl⟩
        rw [← hmd] at HF hbk hle ⊢
        clear hmd htk
        by_cases hmk : m < k
        · obtain ⟨b, off, hbo, hc⟩ := hR (by omega)
          simp only [Option.some.injEq, Addr.mk.injEq, and_true] at hbo
          obtain ⟨rfl, rfl⟩ := hbo
          have hck := hc m hmk
          simp only [Nat.zero_add] at hck
          obtain ⟨x, hxd⟩ : ∃ x, x = A.getD m 0 := ⟨_, rfl⟩
          rw [← hxd] at hck
          have HF' : Hid (foundB A n = decide (x = n)) := by show foundB A n = _; rw [HF.out, ← hxd]; simp [hmk]
          clear hc hxd hR
          go_wp2
          go_ret
          refine ⟨?_, HB6.out⟩
          rw [HF'.out]
          exact ret_bool (by by_cases e : x = n <;> simp [e])
        · have HF' : Hid (foundB A n = false) := by show foundB A n = _; rw [HF.out]; simp [hmk]
          go_wp2
          go_ret
          refine ⟨?_, HB6.out⟩
          rw [HF'.out]
          exact ret_bool rfl

theorem row32_zero (w : World) (a : Option Addr) (A : List Int) : Row32 w a 0 A := fun hp => absurd hp (by omega)
theorem belowN_nil (n : Int) : belowN [] n = 0 := rfl
theorem foundB_nil (n : Int) : foundB [] n = false := rfl

/-- 'make([]int32, 0)', 'copy' of nothing: what the walk is told of them. -/
theorem make_zero (w : World) : (Instr.makeSlice 22 (.int .i64 0) (.int .i64 0)).run Try.prog w = .ok (.slice (some ⟨w.heap.size, 0, none⟩) 0 0) (w.alloc (.cells #[] 21)) := by
  obtain ⟨i0, hi, hz0, hz1, hz2⟩ := info_parts Try.info21
  have h := run_make (P := Try.prog) w 22 21 i0 (.int .i32 0) Try.underlying22 hi hz0 .i64 .i64 0 0 (by omega) (by omega) (by omega) (by omega)
  rw [h]
  simp [madeCells, Array.range_zero']
theorem copy_zero (w : World) (ty : TypeId) (d a : Option Addr) (dc sc : Nat) : (Builtin.copy_ #[22, 22] ty #[.slice d 0 dc, .slice a 0 sc]).run Try.prog w = .ok (.int .i64 0) w :=
  run_copy_none (P := Try.prog) w 22 22 ty 21 d a 0 dc 0 sc Try.underlying22 Try.size21 rfl

set_option maxHeartbeats 1000000 in
/-- No element. -/
theorem tally2_zero (a0 a1 : Option Addr) (c0 c1 : Nat) (n : Int) (w : World) :
    Calls Try.prog 3 #[.slice a0 0 c0, .slice a1 0 c1, .int .i32 n] w fun e w' => e = .returned (.bool true) ∧ Below w.heap.size w w' := by
  have q22 : ∀ (w : World) (a : Option Addr) (n c n' c' : Nat), (binOp .neq 22 (.slice a n c) (.slice none n' c')).run Try.prog w = .ok (.bool (!a.isNone)) w := fun w a n c n' c' => run_neq_slice_nil_any w _ _ a n c n' c' Try.underlying22
  have hmk := make_zero
  have hcp := copy_zero
  rcases a0 with _ | x0 <;> rcases a1 with _ | x1
  all_goals
    go_enter Try.func3, Try.ntmps3
    go_wp2_with (go_at_call 6; go_in)
    refine (shape_any _ _ 0 c0 c1 [] [] _ rfl (by omega) (row32_zero _ _ _) (row32_zero _ _ _)).mono ?_
    rintro e w1 ⟨b, rfl, hA, hb1⟩
    have HA : Hid (Inc []) := fun i j _ h => absurd h (by simp)
    clear hA
    have hs1 := hb1.size
    cases b
    · go_wp2
      go_ret
      exact ⟨rfl, hb1⟩
    · go_wp2_with fail
      refine (zzfind_any _ _ 0 _ _ [] [] n _ rfl (by omega) HA.out (row32_zero _ _ _) (row32_zero _ _ _)).mono ?_
      rintro e w6 ⟨rfl, hb6⟩
      rw [belowN_nil, foundB_nil]
      go_wp2
      refine wp_loop_rounds 1 ?_
      rw [rounds_succ]
      go_wp2
      go_ret
      refine ⟨ret_bool rfl, hb1.trans (Below.mono (Below.trans ?_ (hb6.mono ?_)) hs1)⟩
      · first
        | exact Below.refl _ _
        | exact (Below.refl _ _).alloc (Nat.le_refl _) _
        | exact ((Below.refl _ _).alloc (Nat.le_refl _) _).alloc (by simp) _
      · first
        | exact Nat.le_refl _
        | (simp; done)
        | (simp; omega)

/-- A row that came in, as the contracts ask it. -/
theorem row32_in {w : World} {x : Addr} {len cap : Nat} {zs : List Int} (hl : len ≤ cap) (hz : zs.length = cap) (hc : ∀ i, i < zs.length → w.cell? (x.add i) = some (.int .i32 (zs.getD i 0))) : (zs.take len).length = len ∧ Row32 w (some x) len (zs.take len) := by
  refine ⟨by simp; omega, fun hp => ?_⟩
  obtain ⟨b, off, spot⟩ := x
  have hspot : spot = none := by simpa [Addr.add] using World.cell?_spot (hc 0 (by omega))
  subst hspot
  refine ⟨b, off, rfl, fun i hi => ?_⟩
  have h := hc i (by omega)
  have e : (⟨b, off, none⟩ : Addr).add i = ⟨b, off + i, none⟩ := by simp [Addr.add]
  rw [e] at h
  rw [h]
  simp [hi]
end Go.Proofs.Qxb6609472a
