import Derived.Test.Qxb6609510aMain
import Derived.Test.Qxb6609510aChars
namespace Go.Proofs.Qxb6609510a
open Go.RowKit

/-- It returns a bool, and false only where the fifth string is short. -/
def TooLong (p4 : ByteArray) (e : Ending) : Prop := ∃ v : Bool, e = .returned (.bool v) ∧ (v = false → p4.size ≤ 65536)

theorem permTooLong_told (p0 p1 p2 p3 p4 p5 : ByteArray) (w : World) :
    Calls Try.prog 8 #[.agg #[.string p0, .string p1, .string p2, .string p3, .string p4, .string p5]] w fun e w' => TooLong p4 e ∧ Below w.heap.size w w' := by
  by_cases h : p4.size ≤ 65536
  · refine (permTooLong_any p0 p1 p2 p3 p4 p5 w).mono ?_
    rintro e w' ⟨⟨v, rfl⟩, hb⟩
    exact ⟨⟨v, rfl, fun _ => h⟩, hb⟩
  · have h' : 65536 < p4.size := by omega
    go_enter Try.func8, Try.ntmps8
    go_wp2
    all_goals go_ret
    all_goals exact ⟨⟨true, by first | rfl | simp, by simp⟩, (Below.refl _ _).alloc (Nat.le_refl _) _⟩

theorem agree_below (s : ByteArray) (w : World) (hm : s.size ≤ 9223372036854775000) : Calls Try.prog 15 #[.string s, .string (cutF s)] w fun e w' => e = .returned (.bool true) ∧ Below w.heap.size w w' := by
  refine (agree_any s w hm).mono ?_
  rintro e w' ⟨rfl, rfl⟩
  exact ⟨rfl, Below.refl _ _⟩

set_option maxHeartbeats 1000000 in
theorem zzBytes14_any (m p u : ByteArray) (a : Option Addr) (len cap : Nat) (ss : List ByteArray) (p0 p1 p2 p3 p4 p5 : ByteArray) (w : World) (hm : len ≤ 9223372036854775807) (hs0 : m.size ≤ 9223372036854775807) (hs1 : p.size ≤ 9223372036854775807) (hs2 : u.size ≤ 9223372036854775807) (h : RowS w a len ss) :
    Calls Try.prog 14 #[.string m, .string p, .string u, .slice a len cap, .agg #[.string p0, .string p1, .string p2, .string p3, .string p4, .string p5]] w fun e w' => RetBool e ∧ Below w.heap.size w w' := by
  have H : Hid (RowS w a len ss) := h
  clear h
  go_enter Try.func14, Try.ntmps14
  go_wp2
  all_goals first | (go_ret; exact ⟨⟨_, rfl⟩, (Below.refl _ _).alloc (Nat.le_refl _) _⟩) | skip
  obtain ⟨W, hW⟩ : ∃ W, W = w.alloc (.cells #[.string p0, .string p1, .string p2, .string p3, .string p4, .string p5] 24) := ⟨_, rfl⟩
  have HB : Hid (Below w.heap.size w W) := by rw [hW]; exact (Below.refl _ _).alloc (Nat.le_refl _) _
  have H' : Hid (RowS W a len ss) := H.out.below HB.out
  have c0 : W.cell? ⟨w.heap.size, 0, none⟩ = some (.string p0) := by rw [hW]; simp
  have c1 : W.cell? ⟨w.heap.size, 1, none⟩ = some (.string p1) := by rw [hW]; simp
  have c2 : W.cell? ⟨w.heap.size, 2, none⟩ = some (.string p2) := by rw [hW]; simp
  have c3 : W.cell? ⟨w.heap.size, 3, none⟩ = some (.string p3) := by rw [hW]; simp
  have c4 : W.cell? ⟨w.heap.size, 4, none⟩ = some (.string p4) := by rw [hW]; simp
  have c5 : W.cell? ⟨w.heap.size, 5, none⟩ = some (.string p5) := by rw [hW]; simp
  rw [← hW]
  clear hW H
  go_loop [11, 12] (fun t i => ∃ (k : Nat) (v : Int), k ≤ len ∧ i = .int .i64 k ∧ t = .int .i64 v ∧ 0 ≤ v ∧ v ≤ 1048576) (fun _ i => len - (intOf i).toNat)
  case atStart => exact ⟨0, _, Nat.zero_le _, rfl, rfl, by omega, by omega⟩
  case round =>
    obtain ⟨k, v, hk, rfl, rfl, hv0, hv1⟩ := hrel
    by_cases hlt : k < len
    · obtain ⟨b, off, rfl, hc⟩ := H'.out (by omega)
      obtain ⟨hck, hsz⟩ := hc k hlt
      obtain ⟨s, hs⟩ : ∃ s, s = ss.getD k ByteArray.empty := ⟨_, rfl⟩
      rw [← hs] at hck hsz
      unfold maxLen at hsz
      clear hc hs H'
      by_cases h1 : 1048576 < s.size
      · go_wp2
        go_ret
        exact ⟨⟨_, rfl⟩, HB.out⟩
      · by_cases h2 : 1048576 < v + s.size
        · go_wp2
          go_ret
          exact ⟨⟨_, rfl⟩, HB.out⟩
        · go_wp2
          go_round
          case rel => exact ⟨k + 1, _, by omega, by go_num, rfl, by omega, by omega⟩
          case measure => simp [intOf]; omega
    · go_wp2
      all_goals go_ret
      all_goals exact ⟨⟨_, rfl⟩, HB.out⟩
set_option maxHeartbeats 1000000 in
set_option maxRecDepth 4000 in
theorem main4 (m p u : ByteArray) (a : Option Addr) (len cap : Nat) (ss : List ByteArray) (p0 p1 p2 p3 p4 p5 : ByteArray) (w : World) (hs0 : m.size ≤ 9223372036854775807) (hs1 : p.size ≤ 9223372036854775807) (hs2 : u.size ≤ 9223372036854775807) (hn : p4.size ≤ 9223372036854775807)
    (hm : len ≤ 9223372036854775807) (h : RowS w a len ss) :
    Calls Try.prog 4 #[.string m, .string p, .string u, .slice a len cap, .agg #[.string p0, .string p1, .string p2, .string p3, .string p4, .string p5]] w fun e w' => e = .returned (.bool true) ∧ Below w.heap.size w w' := by
  have H : Hid (RowS w a len ss) := h
  clear h
  go_enter Try.func4, Try.ntmps4
  go_wp2_with fail
  have hb0 : Below w.heap.size w (w.alloc (.cells #[.string p0, .string p1, .string p2, .string p3, .string p4, .string p5] 24)) := (Below.refl _ _).alloc (Nat.le_refl _) _
  refine (zzBytes14_any m p u a len cap ss p0 p1 p2 p3 p4 p5 _ hm hs0 hs1 hs2 (H.out.below hb0)).mono ?_
  rintro e w1 ⟨⟨b1, rfl⟩, hb1⟩
  have HB1 : Hid (Below w.heap.size w w1) := hb0.trans (hb1.mono (by simp))
  obtain ⟨c0, c1, c2, c3, c4, c5⟩ := (PermAt.new w 24 p0 p1 p2 p3 p4 p5).below hb1
  clear hb0 hb1
  cases b1
  · go_wp2
    go_ret
    exact ⟨rfl, HB1.out⟩
  by_cases l0 : 65536 < m.size
  · go_wp2
    go_ret
    exact ⟨rfl, HB1.out⟩
  by_cases l1 : 65536 < p.size
  · go_wp2
    go_ret
    exact ⟨rfl, HB1.out⟩
  by_cases l2 : 65536 < u.size
  · go_wp2
    go_ret
    exact ⟨rfl, HB1.out⟩
  by_cases l3 : 65536 < len
  · go_wp2
    go_ret
    exact ⟨rfl, HB1.out⟩
  go_wp2_with fail
  refine (permTooLong_told p0 p1 p2 p3 p4 p5 _).mono ?_
  rintro e w2 ⟨⟨b2, rfl, hp4⟩, hb2⟩
  have HB2 : Hid (Below w.heap.size w w2) := HB1.out.trans (hb2.mono HB1.out.size)
  obtain ⟨d0, d1, d2, d3, d4, d5⟩ := PermAt.below ⟨c0, c1, c2, c3, c4, c5⟩ hb2
  clear c0 c1 c2 c3 c4 c5 hb2 HB1
  cases b2
  · have l4 : p4.size ≤ 65536 := hp4 rfl
    clear hp4
    go_wp2
    have R2 : Hid (RowS w2.drew a len ss) := H.out.below HB2.out.drew
    go_region_held3 (fun w' => w'.cell? ⟨w.heap.size, 0, none⟩ = some (.string p0) ∧ w'.cell? ⟨w.heap.size, 1, none⟩ = some (.string p1) ∧ w'.cell? ⟨w.heap.size, 2, none⟩ = some (.string p2) ∧ w'.cell? ⟨w.heap.size, 3, none⟩ = some (.string p3) ∧ w'.cell? ⟨w.heap.size, 4, none⟩ = some (.string p4) ∧ w'.cell? ⟨w.heap.size, 5, none⟩ = some (.string p5))
      (first | go_keep | exact PermAt.below (by assumption) hb3)
      (first
        | (go_at_call 9; refine (stringsBytes_any a len cap ss _ hm R2.out).mono ?_; rintro e w' ⟨v9, rfl, hv0, hv1, rfl⟩)
        | (go_at_call 10; refine (permBytes_any p0 p1 p2 p3 p4 p5 _).mono ?_; rintro e w3 ⟨v10, rfl, hb3⟩))
    have HB3 : Hid (Below w.heap.size w w3) := HB2.out.drew.trans (hb3.mono HB2.out.size)
    have q22 : ∀ (w : World) (a : Option Addr) (n c n' c' : Nat), (binOp .neq 22 (.slice a n c) (.slice none n' c')).run Try.prog w = .ok (.bool (!a.isNone)) w := fun w a n c n' c' => run_neq_slice_nil_any w _ _ a n c n' c' Try.underlying22
    have R3 : Hid (RowS w3 a len ss) := R2.out.below hb3
    obtain ⟨e0, e1, e2, e3, e4, e5⟩ := PermAt.below (w := w2.drew) ⟨d0, d1, d2, d3, d4, d5⟩ hb3
    clear d0 d1 d2 d3 d4 d5 hb3 HB2 R2
    rcases a with _ | x
    · go_wp2_with fail
      · go_ret
        exact ⟨rfl, HB3.out⟩
      · refine (zzLog_any m p u _ len _ p0 p1 p2 p3 p4 p5 _ (by unfold maxLen; omega) (by unfold maxLen; omega) (by unfold maxLen; omega)).mono ?_
        rintro e w5 ⟨rfl, hb5⟩
        obtain ⟨f0, f1, f2, f3, f4, f5⟩ := PermAt.below (w := w3) ⟨e0, e1, e2, e3, e4, e5⟩ hb5
        have HB5 : Hid (Below w.heap.size w w5) := HB3.out.trans (hb5.mono HB3.out.size)
        have hz : w.heap.size < w5.heap.size := lt_of_cell f0
        clear hb5 HB3
        go_wp2_with fail
        refine (restKept_any u p0 p1 p2 p3 p4 (cutF p4) p5 _).mono ?_
        rintro e w6 ⟨rfl, hb6⟩
        have g4 : w6.cell? ⟨w.heap.size, 4, none⟩ = some (.string p4) := (hb6.cell (p := ⟨w.heap.size, 4, none⟩) (by simp; omega)).trans ((cell_old hz).trans f4)
        have v4 : w6.cell? ⟨w5.heap.size, 4, none⟩ = some (.string (cutF p4)) := (hb6.cell (p := ⟨w5.heap.size, 4, none⟩) (by simp)).trans (cell_new rfl)
        have HB6 : Hid (Below w.heap.size w w6) := HB5.out.trans (((Below.refl w5.heap.size w5).alloc (Nat.le_refl _) _ |>.trans (hb6.mono (by simp))).mono (by omega))
        have hz6 : w5.heap.size < w6.heap.size := by have := hb6.size; simp at this; omega
        clear f0 f1 f2 f3 f4 f5 hb6 HB5
        go_wp2_with fail
        refine (agree_below m _ (by omega)).mono ?_
        rintro e w7 ⟨rfl, hb7⟩
        have g4' := (hb7.cell (p := ⟨w.heap.size, 4, none⟩) (by simp; omega)).trans g4
        have v4' := (hb7.cell (p := ⟨w5.heap.size, 4, none⟩) hz6).trans v4
        have HB7 : Hid (Below w.heap.size w w7) := HB6.out.trans (hb7.mono HB6.out.size)
        have hz7 : w5.heap.size < w7.heap.size := Nat.lt_of_lt_of_le hz6 hb7.size
        clear g4 v4 hb7 HB6 hz6
        go_wp2_with fail
        refine (agree_below p _ (by omega)).mono ?_
        rintro e w8 ⟨rfl, hb8⟩
        have g4 := (hb8.cell (p := ⟨w.heap.size, 4, none⟩) (by simp; omega)).trans g4'
        have v4 := (hb8.cell (p := ⟨w5.heap.size, 4, none⟩) hz7).trans v4'
        have HB8 : Hid (Below w.heap.size w w8) := HB7.out.trans (hb8.mono HB7.out.size)
        clear g4' v4' hb8 HB7 hz7
        go_wp2_with fail
        refine (agree_below p4 _ (by omega)).mono ?_
        rintro e w9 ⟨rfl, hb9⟩
        have HB9 : Hid (Below w.heap.size w w9) := HB8.out.trans (hb9.mono HB8.out.size)
        clear g4 v4 hb9 HB8
        go_wp2
        go_ret
        exact ⟨rfl, HB9.out⟩
    · obtain ⟨i0, hi, hz0, hz1, hz2⟩ := info_parts Try.info9
      have hbb : i0.bytes * len ≤ 281474976710656 := by rw [hz2]; omega
      have hbm : len ≤ maxLen := by unfold maxLen; omega
      go_wp2_with (at_make; refine wpList_make_full _ rfl _ _ 22 rfl w3.heap.size 9 i0 (.string ⟨#[]⟩) 1 Try.underlying22 hi hz0 hz1 _ _ _ _ len rfl rfl rfl rfl hbb hbm (Nat.le_refl _) ?_)
      · go_ret
        exact ⟨rfl, HB3.out⟩
      · intro w4 hown hgrow
        have hb4 : Below w3.heap.size w3 w4 := (Below.refl _ _).grown hgrow (Nat.le_refl _) (by intro k hk; cases hk)
        obtain ⟨hs4, cur, hg4, hcur⟩ := own_block hown
        obtain ⟨w4', hcp, hb4', hs4'⟩ := copyS_whole (c := cap) (R3.out.below hb4) hg4 hcur
        have hbx : Below w3.heap.size w3 w4' := hb4.trans hb4'
        have HB4 : Hid (Below w.heap.size w w4') := HB3.out.trans (hbx.mono HB3.out.size)
        obtain ⟨e0, e1, e2, e3, e4, e5⟩ := PermAt.below (w := w3) ⟨e0, e1, e2, e3, e4, e5⟩ hbx
        clear hown hgrow hi hz0 hz1 hz2 hbb hbm hb4 hg4 hcur hb4' hs4' hbx HB3 R3 hs4
        go_wp2_with fail
        refine (zzLog_any m p u _ len _ p0 p1 p2 p3 p4 p5 _ (by unfold maxLen; omega) (by unfold maxLen; omega) (by unfold maxLen; omega)).mono ?_
        rintro e w5 ⟨rfl, hb5⟩
        obtain ⟨f0, f1, f2, f3, f4, f5⟩ := PermAt.below (w := w4') ⟨e0, e1, e2, e3, e4, e5⟩ hb5
        have HB5 : Hid (Below w.heap.size w w5) := HB4.out.trans (hb5.mono HB4.out.size)
        have hz : w.heap.size < w5.heap.size := lt_of_cell f0
        clear hb5 HB4
        go_wp2_with fail
        refine (restKept_any u p0 p1 p2 p3 p4 (cutF p4) p5 _).mono ?_
        rintro e w6 ⟨rfl, hb6⟩
        have g4 : w6.cell? ⟨w.heap.size, 4, none⟩ = some (.string p4) := (hb6.cell (p := ⟨w.heap.size, 4, none⟩) (by simp; omega)).trans ((cell_old hz).trans f4)
        have v4 : w6.cell? ⟨w5.heap.size, 4, none⟩ = some (.string (cutF p4)) := (hb6.cell (p := ⟨w5.heap.size, 4, none⟩) (by simp)).trans (cell_new rfl)
        have HB6 : Hid (Below w.heap.size w w6) := HB5.out.trans (((Below.refl w5.heap.size w5).alloc (Nat.le_refl _) _ |>.trans (hb6.mono (by simp))).mono (by omega))
        have hz6 : w5.heap.size < w6.heap.size := by have := hb6.size; simp at this; omega
        clear f0 f1 f2 f3 f4 f5 hb6 HB5
        go_wp2_with fail
        refine (agree_below m _ (by omega)).mono ?_
        rintro e w7 ⟨rfl, hb7⟩
        have g4' := (hb7.cell (p := ⟨w.heap.size, 4, none⟩) (by simp; omega)).trans g4
        have v4' := (hb7.cell (p := ⟨w5.heap.size, 4, none⟩) hz6).trans v4
        have HB7 : Hid (Below w.heap.size w w7) := HB6.out.trans (hb7.mono HB6.out.size)
        have hz7 : w5.heap.size < w7.heap.size := Nat.lt_of_lt_of_le hz6 hb7.size
        clear g4 v4 hb7 HB6 hz6
        go_wp2_with fail
        refine (agree_below p _ (by omega)).mono ?_
        rintro e w8 ⟨rfl, hb8⟩
        have g4 := (hb8.cell (p := ⟨w.heap.size, 4, none⟩) (by simp; omega)).trans g4'
        have v4 := (hb8.cell (p := ⟨w5.heap.size, 4, none⟩) hz7).trans v4'
        have HB8 : Hid (Below w.heap.size w w8) := HB7.out.trans (hb8.mono HB7.out.size)
        clear g4' v4' hb8 HB7 hz7
        go_wp2_with fail
        refine (agree_below p4 _ (by omega)).mono ?_
        rintro e w9 ⟨rfl, hb9⟩
        have HB9 : Hid (Below w.heap.size w w9) := HB8.out.trans (hb9.mono HB8.out.size)
        clear g4 v4 hb9 HB8
        go_wp2
        go_ret
        exact ⟨rfl, HB9.out⟩
  · clear hp4
    go_wp2
    go_ret
    exact ⟨rfl, HB2.out⟩
end Go.Proofs.Qxb6609510a
