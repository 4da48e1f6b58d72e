import Derived.Test.Qxb6609510aSpec
import Derived.Laws.CopyOwn
namespace Go.Proofs.Qxb6609510a
open Go.RowKit

/-- Six strings lie in block b. -/
def PermAt (w : World) (b : Nat) (p0 p1 p2 p3 p4 p5 : ByteArray) : Prop :=
  w.cell? ⟨b, 0, none⟩ = some (.string p0) ∧ w.cell? ⟨b, 1, none⟩ = some (.string p1) ∧ w.cell? ⟨b, 2, none⟩ = some (.string p2) ∧ w.cell? ⟨b, 3, none⟩ = some (.string p3) ∧ w.cell? ⟨b, 4, none⟩ = some (.string p4) ∧ w.cell? ⟨b, 5, none⟩ = some (.string p5)
theorem PermAt.below {w w' : World} {b : Nat} {p0 p1 p2 p3 p4 p5 : ByteArray} (h : PermAt w b p0 p1 p2 p3 p4 p5) (hb : Below w.heap.size w w') : PermAt w' b p0 p1 p2 p3 p4 p5 := by
  have hl := lt_of_cell h.1
  obtain ⟨h0, h1, h2, h3, h4, h5⟩ := h
  exact ⟨(hb.cell (p := ⟨b, 0, none⟩) hl).trans h0, (hb.cell (p := ⟨b, 1, none⟩) hl).trans h1, (hb.cell (p := ⟨b, 2, none⟩) hl).trans h2, (hb.cell (p := ⟨b, 3, none⟩) hl).trans h3, (hb.cell (p := ⟨b, 4, none⟩) hl).trans h4, (hb.cell (p := ⟨b, 5, none⟩) hl).trans h5⟩
theorem PermAt.new (w : World) (t : TypeId) (p0 p1 p2 p3 p4 p5 : ByteArray) : PermAt (w.alloc (.cells #[.string p0, .string p1, .string p2, .string p3, .string p4, .string p5] t)) w.heap.size p0 p1 p2 p3 p4 p5 := by
  refine ⟨?_, ?_, ?_, ?_, ?_, ?_⟩ <;> exact cell_new rfl

theorem Try.info9 : (Try.prog.info? 9).map (fun i => (i.zero, i.size, i.bytes)) = some (some (.string ⟨#[]⟩), 1, 16) := by kernel_rfl
theorem Try.size9 : (Try.prog.info? 9).map (·.size) = some 1 := by kernel_rfl

/-- The block of a row that was just made. -/
theorem own_block {w : World} {base g n : Nat} {e : TypeId} {xs : List Value} (h : w.ownsRow base e 1 (.slice (some ⟨g, 0, none⟩) n n) n xs) : g < w.heap.size ∧ ∃ cur : List Value, w.heap[g]? = some (.cells cur.toArray e (0, 0)) ∧ cur.length = n := by
  rcases h.2 with ⟨h', _⟩ | ⟨g', cap', cur, h', _, hg, _, _, hcs, _⟩
  · cases h'
  · simp only [Value.slice.injEq, Option.some.injEq, Addr.mk.injEq, and_true, true_and] at h'
    obtain ⟨rfl, rfl⟩ := h'
    exact ⟨(Array.getElem?_eq_some_iff.1 hg).1, cur.toList, by simpa using hg, by simpa using hcs⟩

/-- 'copy(zzc, groups)' into a row that was just made at its own length. -/
theorem copyS_whole {w : World} {g len c : Nat} {a : Option Addr} {ss : List ByteArray} {cur : List Value} (h : RowS w a len ss) (hg : w.heap[g]? = some (.cells cur.toArray 9 (0, 0))) (hc : cur.length = len) :
    ∃ w', (∀ ty, (Builtin.copy_ #[22, 22] ty #[.slice (some ⟨g, 0, none⟩) len len, .slice a len c]).run Try.prog w = .ok (.int .i64 len) w') ∧ Below g w w' ∧ w'.heap.size = w.heap.size := by
  by_cases h0 : len = 0
  · subst h0
    refine ⟨w, fun ty => ?_, Below.refl _ _, rfl⟩
    exact run_copy_none (P := Try.prog) w 22 22 ty 9 _ _ 0 0 0 c Try.underlying22 Try.size9 rfl
  · obtain ⟨b, o, rfl, hsrc⟩ := h (by omega)
    have hl : ((List.range len).map fun i => Value.string (ss.getD i ByteArray.empty)).length = len := by simp
    have hr := fun ty => run_copy_row (P := Try.prog) w 22 22 ty 9 g 0 len len ⟨b, o, none⟩ len c cur.toArray 9 ((List.range len).map fun i => Value.string (ss.getD i ByteArray.empty)) Try.underlying22 Try.size9 hg (by rw [hl]; exact (Nat.min_self len).symm)
      (by
        intro j v hj
        obtain ⟨hjl, rfl⟩ := List.getElem?_eq_some_iff.1 hj
        rw [hl] at hjl
        rw [Addr.add_lit, (hsrc j hjl).1]
        simp) (by rw [hl]; simp; omega) (by
        intro v hv
        obtain ⟨x, _, rfl⟩ := List.mem_map.1 hv
        rfl)
    have hgl : (goInt ((List.range len).map fun i => Value.string (ss.getD i ByteArray.empty)).length : Value) = .int .i64 len := by rw [hl]; rfl
    rw [hgl] at hr
    exact ⟨_, hr, below_setRow (Below.refl _ _) (Nat.le_refl _) _, by simp [World.setRow]⟩

set_option maxHeartbeats 1000000 in
set_option maxRecDepth 4000 in
theorem main3 (m p u : ByteArray) (a : Option Addr) (len cap : Nat) (ss : List ByteArray) (p0 p1 p2 p3 p4 p5 : ByteArray) (w : World) (hs0 : m.size ≤ 9223372036854775807) (hs1 : p.size ≤ 9223372036854775807) (hs2 : u.size ≤ 9223372036854775807) (hn : p4.size ≤ 9223372036854775807)
    (hm : len ≤ 9223372036854775807) (h : RowS w a len ss) :
    Calls Try.prog 3 #[.string m, .string p, .string u, .slice a len cap, .agg #[.string p0, .string p1, .string p2, .string p3, .string p4, .string p5]] w fun e w' => e = .returned (.bool true) ∧ Below w.heap.size w w' := by
  have H : Hid (RowS w a len ss) := h
  clear h
  go_enter Try.func3, Try.ntmps3
  go_wp2_with fail
  have hb0 : Below w.heap.size w (w.alloc (.cells #[.string p0, .string p1, .string p2, .string p3, .string p4, .string p5] 24)) := (Below.refl _ _).alloc (Nat.le_refl _) _
  refine (zzBytes7_any m p u a len cap ss p0 p1 p2 p3 p4 p5 _ hm hs0 hs1 hs2 (H.out.below hb0)).mono ?_
  rintro e w1 ⟨⟨b1, rfl⟩, hb1⟩
  have HB1 : Hid (Below w.heap.size w w1) := hb0.trans (hb1.mono (by simp))
  obtain ⟨c0, c1, c2, c3, c4, c5⟩ := (PermAt.new w 24 p0 p1 p2 p3 p4 p5).below hb1
  clear hb0 hb1
  cases b1
  · go_wp2
    go_ret
    exact ⟨rfl, HB1.out⟩
  by_cases l0 : 65536 < m.size
  · go_wp2
    go_ret
    exact ⟨rfl, HB1.out⟩
  by_cases l1 : 65536 < p.size
  · go_wp2
    go_ret
    exact ⟨rfl, HB1.out⟩
  by_cases l2 : 65536 < u.size
  · go_wp2
    go_ret
    exact ⟨rfl, HB1.out⟩
  by_cases l3 : 65536 < len
  · go_wp2
    go_ret
    exact ⟨rfl, HB1.out⟩
  go_wp2_with fail
  refine (permTooLong_any p0 p1 p2 p3 p4 p5 _).mono ?_
  rintro e w2 ⟨⟨b2, rfl⟩, hb2⟩
  have HB2 : Hid (Below w.heap.size w w2) := HB1.out.trans (hb2.mono HB1.out.size)
  obtain ⟨d0, d1, d2, d3, d4, d5⟩ := PermAt.below ⟨c0, c1, c2, c3, c4, c5⟩ hb2
  clear c0 c1 c2 c3 c4 c5 hb2 HB1
  cases b2
  · go_wp2
    have R2 : Hid (RowS w2.drew a len ss) := H.out.below HB2.out.drew
    go_region_held3 (fun w' => w'.cell? ⟨w.heap.size, 0, none⟩ = some (.string p0) ∧ w'.cell? ⟨w.heap.size, 1, none⟩ = some (.string p1) ∧ w'.cell? ⟨w.heap.size, 2, none⟩ = some (.string p2) ∧ w'.cell? ⟨w.heap.size, 3, none⟩ = some (.string p3) ∧ w'.cell? ⟨w.heap.size, 4, none⟩ = some (.string p4) ∧ w'.cell? ⟨w.heap.size, 5, none⟩ = some (.string p5))
      (first | go_keep | exact PermAt.below (by assumption) hb3)
      (first
        | (go_at_call 9; refine (stringsBytes_any a len cap ss _ hm R2.out).mono ?_; rintro e w' ⟨v9, rfl, hv0, hv1, rfl⟩)
        | (go_at_call 10; refine (permBytes_any p0 p1 p2 p3 p4 p5 _).mono ?_; rintro e w3 ⟨v10, rfl, hb3⟩))
    have HB3 : Hid (Below w.heap.size w w3) := HB2.out.drew.trans (hb3.mono HB2.out.size)
    have q22 : ∀ (w : World) (a : Option Addr) (n c n' c' : Nat), (binOp .neq 22 (.slice a n c) (.slice none n' c')).run Try.prog w = .ok (.bool (!a.isNone)) w := fun w a n c n' c' => run_neq_slice_nil_any w _ _ a n c n' c' Try.underlying22
    have R3 : Hid (RowS w3 a len ss) := R2.out.below hb3
    obtain ⟨e0, e1, e2, e3, e4, e5⟩ := PermAt.below (w := w2.drew) ⟨d0, d1, d2, d3, d4, d5⟩ hb3
    clear d0 d1 d2 d3 d4 d5 hb3 HB2 R2
    rcases a with _ | x
    · go_wp2_with fail
      · go_ret
        exact ⟨rfl, HB3.out⟩
      · refine (zzLog_any m p u _ len _ p0 p1 p2 p3 p4 p5 _ (by unfold maxLen; omega) (by unfold maxLen; omega) (by unfold maxLen; omega)).mono ?_
        rintro e w5 ⟨rfl, hb5⟩
        obtain ⟨f0, f1, f2, f3, f4, f5⟩ := PermAt.below (w := w3) ⟨e0, e1, e2, e3, e4, e5⟩ hb5
        have HB5 : Hid (Below w.heap.size w w5) := HB3.out.trans (hb5.mono HB3.out.size)
        have hz : w.heap.size < w5.heap.size := lt_of_cell f0
        clear hb5 HB3
        go_wp2_with fail
        refine (restKept_any u p0 p1 p2 p3 p4 (cutF p4) p5 _).mono ?_
        rintro e w6 ⟨rfl, hb6⟩
        have g4 : w6.cell? ⟨w.heap.size, 4, none⟩ = some (.string p4) := (hb6.cell (p := ⟨w.heap.size, 4, none⟩) (by simp; omega)).trans ((cell_old hz).trans f4)
        have v4 : w6.cell? ⟨w5.heap.size, 4, none⟩ = some (.string (cutF p4)) := (hb6.cell (p := ⟨w5.heap.size, 4, none⟩) (by simp)).trans (cell_new rfl)
        have HB6 : Hid (Below w.heap.size w w6) := HB5.out.trans (((Below.refl w5.heap.size w5).alloc (Nat.le_refl _) _ |>.trans (hb6.mono (by simp))).mono (by omega))
        have hz6 : w5.heap.size < w6.heap.size := by have := hb6.size; simp at this; omega
        clear f0 f1 f2 f3 f4 f5 hb6 HB5
        go_wp2_with fail
        refine (spec_any m _ (by unfold maxLen; omega)).mono ?_
        rintro e w7 ⟨rfl, hb7⟩
        have g4' := (hb7.cell (p := ⟨w.heap.size, 4, none⟩) (by simp; omega)).trans g4
        have v4' := (hb7.cell (p := ⟨w5.heap.size, 4, none⟩) hz6).trans v4
        have HB7 : Hid (Below w.heap.size w w7) := HB6.out.trans (hb7.mono HB6.out.size)
        have hz7 : w5.heap.size < w7.heap.size := Nat.lt_of_lt_of_le hz6 hb7.size
        clear g4 v4 hb7 HB6 hz6
        go_wp2_with fail
        refine (spec_any p _ (by unfold maxLen; omega)).mono ?_
        rintro e w8 ⟨rfl, hb8⟩
        have g4 := (hb8.cell (p := ⟨w.heap.size, 4, none⟩) (by simp; omega)).trans g4'
        have v4 := (hb8.cell (p := ⟨w5.heap.size, 4, none⟩) hz7).trans v4'
        have HB8 : Hid (Below w.heap.size w w8) := HB7.out.trans (hb8.mono HB7.out.size)
        clear g4' v4' hb8 HB7 hz7
        go_wp2_with fail
        refine (spec_any p4 _ (by unfold maxLen; omega)).mono ?_
        rintro e w9 ⟨rfl, hb9⟩
        have HB9 : Hid (Below w.heap.size w w9) := HB8.out.trans (hb9.mono HB8.out.size)
        clear g4 v4 hb9 HB8
        go_wp2
        go_ret
        exact ⟨rfl, HB9.out⟩
    · obtain ⟨i0, hi, hz0, hz1, hz2⟩ := info_parts Try.info9
      have hbb : i0.bytes * len ≤ 281474976710656 := by rw [hz2]; omega
      have hbm : len ≤ maxLen := by unfold maxLen; omega
      go_wp2_with (at_make; refine wpList_make_full _ rfl _ _ 22 rfl w3.heap.size 9 i0 (.string ⟨#[]⟩) 1 Try.underlying22 hi hz0 hz1 _ _ _ _ len rfl rfl rfl rfl hbb hbm (Nat.le_refl _) ?_)
      · go_ret
        exact ⟨rfl, HB3.out⟩
      · intro w4 hown hgrow
        have hb4 : Below w3.heap.size w3 w4 := (Below.refl _ _).grown hgrow (Nat.le_refl _) (by intro k hk; cases hk)
        obtain ⟨hs4, cur, hg4, hcur⟩ := own_block hown
        obtain ⟨w4', hcp, hb4', hs4'⟩ := copyS_whole (c := cap) (R3.out.below hb4) hg4 hcur
        have hbx : Below w3.heap.size w3 w4' := hb4.trans hb4'
        have HB4 : Hid (Below w.heap.size w w4') := HB3.out.trans (hbx.mono HB3.out.size)
        obtain ⟨e0, e1, e2, e3, e4, e5⟩ := PermAt.below (w := w3) ⟨e0, e1, e2, e3, e4, e5⟩ hbx
        clear hown hgrow hi hz0 hz1 hz2 hbb hbm hb4 hg4 hcur hb4' hs4' hbx HB3 R3 hs4
        go_wp2_with fail
        refine (zzLog_any m p u _ len _ p0 p1 p2 p3 p4 p5 _ (by unfold maxLen; omega) (by unfold maxLen; omega) (by unfold maxLen; omega)).mono ?_
        rintro e w5 ⟨rfl, hb5⟩
        obtain ⟨f0, f1, f2, f3, f4, f5⟩ := PermAt.below (w := w4') ⟨e0, e1, e2, e3, e4, e5⟩ hb5
        have HB5 : Hid (Below w.heap.size w w5) := HB4.out.trans (hb5.mono HB4.out.size)
        have hz : w.heap.size < w5.heap.size := lt_of_cell f0
        clear hb5 HB4
        go_wp2_with fail
        refine (restKept_any u p0 p1 p2 p3 p4 (cutF p4) p5 _).mono ?_
        rintro e w6 ⟨rfl, hb6⟩
        have g4 : w6.cell? ⟨w.heap.size, 4, none⟩ = some (.string p4) := (hb6.cell (p := ⟨w.heap.size, 4, none⟩) (by simp; omega)).trans ((cell_old hz).trans f4)
        have v4 : w6.cell? ⟨w5.heap.size, 4, none⟩ = some (.string (cutF p4)) := (hb6.cell (p := ⟨w5.heap.size, 4, none⟩) (by simp)).trans (cell_new rfl)
        have HB6 : Hid (Below w.heap.size w w6) := HB5.out.trans (((Below.refl w5.heap.size w5).alloc (Nat.le_refl _) _ |>.trans (hb6.mono (by simp))).mono (by omega))
        have hz6 : w5.heap.size < w6.heap.size := by have := hb6.size; simp at this; omega
        clear f0 f1 f2 f3 f4 f5 hb6 HB5
        go_wp2_with fail
        refine (spec_any m _ (by unfold maxLen; omega)).mono ?_
        rintro e w7 ⟨rfl, hb7⟩
        have g4' := (hb7.cell (p := ⟨w.heap.size, 4, none⟩) (by simp; omega)).trans g4
        have v4' := (hb7.cell (p := ⟨w5.heap.size, 4, none⟩) hz6).trans v4
        have HB7 : Hid (Below w.heap.size w w7) := HB6.out.trans (hb7.mono HB6.out.size)
        have hz7 : w5.heap.size < w7.heap.size := Nat.lt_of_lt_of_le hz6 hb7.size
        clear g4 v4 hb7 HB6 hz6
        go_wp2_with fail
        refine (spec_any p _ (by unfold maxLen; omega)).mono ?_
        rintro e w8 ⟨rfl, hb8⟩
        have g4 := (hb8.cell (p := ⟨w.heap.size, 4, none⟩) (by simp; omega)).trans g4'
        have v4 := (hb8.cell (p := ⟨w5.heap.size, 4, none⟩) hz7).trans v4'
        have HB8 : Hid (Below w.heap.size w w8) := HB7.out.trans (hb8.mono HB7.out.size)
        clear g4' v4' hb8 HB7 hz7
        go_wp2_with fail
        refine (spec_any p4 _ (by unfold maxLen; omega)).mono ?_
        rintro e w9 ⟨rfl, hb9⟩
        have HB9 : Hid (Below w.heap.size w w9) := HB8.out.trans (hb9.mono HB8.out.size)
        clear g4 v4 hb9 HB8
        go_wp2
        go_ret
        exact ⟨rfl, HB9.out⟩
  · go_wp2
    go_ret
    exact ⟨rfl, HB2.out⟩
end Go.Proofs.Qxb6609510a
