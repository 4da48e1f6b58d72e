import Derived.Test.Qxb6609472aGwC
import Derived.Deep.RegionLaw
namespace Go.Proofs.Qxb6609472a
open Go.RowKit

set_option maxRecDepth 8000 in
set_option maxHeartbeats 2000000 in
theorem gw_main (a0 a1 a2 a3 a4 a5 : Option Addr) (l0 l1 l2 l3 c0 c1 c2 c3 c4 c5 : Nat) (s0 s1 s2 s3 s4 s5 : List ByteArray) (w : World) (h : ¬ ((0 < l1 ∨ 0 < l2) ∧ l0 = 0))
    (m0 : l0 ≤ 65536) (m1 : l1 ≤ 65536) (m2 : l2 ≤ 65536) (m3 : l3 ≤ 65536)
    (r0 : RowS w a0 l0 s0) (r1 : RowS w a1 l1 s1) (r2 : RowS w a2 l2 s2) (r3 : RowS w a3 l3 s3) (r4 : RowS w a4 l3 s4) (r5 : RowS w a5 l3 s5) :
    Calls Try.prog 12 #[.slice a0 l0 c0, .slice a1 l1 c1, .slice a2 l2 c2, .slice a3 l3 c3, .slice a4 l3 c4, .slice a5 l3 c5] w (GwPost w l2 l3 s2 s3 s4 s5) := by
  have HR : Hid (RowS w a0 l0 s0 ∧ RowS w a1 l1 s1 ∧ RowS w a2 l2 s2 ∧ RowS w a3 l3 s3 ∧ RowS w a4 l3 s4 ∧ RowS w a5 l3 s5) := ⟨r0, r1, r2, r3, r4, r5⟩
  clear r0 r1 r2 r3 r4 r5
  obtain ⟨io, hio, hio0, hio1, hio2⟩ := info_parts info54
  obtain ⟨ir, hir, hir0, hir1, hir2⟩ := info_parts info57
  obtain ⟨ig, hig, hig0, hig1, hig2⟩ := info_parts info63
  obtain ⟨i65, hi65, hi65z, hi65s, hi65b⟩ := info_parts info65
  go_enter Try.func12, Try.ntmps12
  go_upto_region 3 with fail
  go_cut [57] from 45 to 57 (fun c wx => c = .bool false ∧ wx = w)
  case first =>
    by_cases h1 : 0 < l1
    · have h1' : (0 : Int) < (l1 : Int) := by omega
      have h0' : ((l0 : Int) == 0) = false := by simp; omega
      go_wp2_with fail
      go_meet
      exact ⟨rfl, rfl⟩
    · have h1' : ¬ (0 : Int) < (l1 : Int) := by omega
      by_cases h2 : 0 < l2
      · have h2' : (0 : Int) < (l2 : Int) := by omega
        have h0' : ((l0 : Int) == 0) = false := by simp; omega
        go_wp2_with fail
        go_meet
        exact ⟨rfl, rfl⟩
      · have h2' : ¬ (0 : Int) < (l2 : Int) := by omega
        go_wp2_with fail
        go_meet
        exact ⟨rfl, rfl⟩
  case rest =>
    obtain ⟨rfl, rfl⟩ := hcut
    go_wp2_with (first
      | (go_at_call_of 16 (Value.slice a0 l0 c0); refine (index_any a0 l0 c0 s0 _ m0 HR.out.1).mono ?_; rintro e w1 ⟨hb1, (rfl | ⟨b0, rfl, hl0, i0⟩)⟩))
    · go_ret2
      exact ⟨hb1, .inl rfl⟩
    · have HB1 : Hid (Below wc.heap.size wc w1 ∧ IdxMap w1 b0 l0 s0) := ⟨hb1, i0⟩
      have q1 : RowS w1 a1 l1 s1 := HR.out.2.1.below hb1
      clear hb1 i0
      refine (index_any a1 l1 c1 s1 _ m1 q1).mono ?_
      clear q1
      rintro e w2 ⟨hb2, (rfl | ⟨b1, rfl, hl1, i1⟩)⟩
      · go_wp2_with fail
        go_ret2
        exact ⟨HB1.out.1.trans (hb2.mono HB1.out.1.size), .inl rfl⟩
      · have HB2 : Hid (Below wc.heap.size wc w2 ∧ (IdxMap w2 b0 l0 s0 ∧ b0 < w2.heap.size) ∧ IdxMap w2 b1 l1 s1) := ⟨HB1.out.1.trans (hb2.mono HB1.out.1.size), ⟨HB1.out.2.below (idx_lt HB1.out.2) hb2, Nat.lt_of_lt_of_le (idx_lt HB1.out.2) hb2.size⟩, i1⟩
        have q2 : RowS w2 a2 l2 s2 := HR.out.2.2.1.below HB2.out.1
        clear hb2 i1 HB1 hl0 hl1
        go_wp2_with (first
          | (go_at_call_of 16 (Value.slice a2 l2 c2); refine (index_any a2 l2 c2 s2 _ m2 q2).mono ?_; rintro e w3 ⟨hb3, (rfl | ⟨b2, rfl, hl2, i2⟩)⟩)
          | (at_make; refine wpList_make_full _ rfl _ _ 52 rfl w3.heap.size 54 io _ 3 Try.underlying52 hio hio0 hio1 _ _ _ _ l0 rfl rfl rfl rfl (by rw [hio2]; omega) (by unfold maxLen; omega) (Nat.le_refl _) ?_; intro w4 hown4 hgrow4))
        · go_ret2
          exact ⟨HB2.out.1.trans (hb3.mono HB2.out.1.size), .inl rfl⟩
        · have HB3 : Hid (Below wc.heap.size wc w3 ∧ IdxMap w3 b0 l0 s0 ∧ IdxMap w3 b1 l1 s1 ∧ IdxMap w3 b2 l2 s2) := ⟨HB2.out.1.trans (hb3.mono HB2.out.1.size), HB2.out.2.1.1.below HB2.out.2.1.2 hb3, HB2.out.2.2.below (idx_lt HB2.out.2.2) hb3, i2⟩
          have HW4 : Hid (Below w3.heap.size w3 w4 ∧ Rw w4 w3.heap.size 54 3 l0) := ⟨(Below.refl _ _).grown hgrow4 (Nat.le_refl _) (by intro k hk; cases hk), ⟨_, hown4⟩⟩
          clear hb3 i2 HB2 hl2 q2 hown4 hgrow4
          go_wp2_with fail
          go_loopw [19] (fun i wr => ∃ k : Nat, k ≤ l0 ∧ i = .int .i64 k ∧ Below w3.heap.size w3 wr ∧ Rw wr w3.heap.size 54 3 l0) (fun i _ => l0 - (intOf i).toNat)
          case atStart => exact ⟨0, Nat.zero_le _, rfl, HW4.out⟩
          case round =>
            obtain ⟨k, hk, rfl, hB, hRw⟩ := hrel
            by_cases hlt : k < l0
            · obtain ⟨b, off, rfl, hc⟩ := HR.out.1 (by omega)
              obtain ⟨hck, hsz⟩ := hc k hlt
              have hck' := ((HB3.out.1.trans (hB.mono HB3.out.1.size)).cell (RowS.lt hc (by omega))).trans hck
              obtain ⟨s, hs⟩ : ∃ s, s = s0.getD k ByteArray.empty := ⟨_, rfl⟩
              rw [← hs] at hck'
              obtain ⟨⟨p0, d0⟩, f0⟩ := hRw.cell (show k * 3 < l0 * 3 by omega)
              obtain ⟨⟨p1, d1⟩, f1⟩ := hRw.cell (show k * 3 + 1 < l0 * 3 by omega)
              obtain ⟨⟨p2, d2⟩, f2⟩ := hRw.cell (show k * 3 + 2 < l0 * 3 by omega)
              have hi1 : (k : Int) < (l0 : Int) := by omega
              have HX : Hid (Below w3.heap.size w3 wr ∧ Rw wr w3.heap.size 54 3 l0) := ⟨hB, hRw⟩
              clear hB hRw hc hck hsz hs HW4
              go_wp2_with fail
              go_region
              all_goals go_wp2_with fail
              go_roundw
              case rel => exact ⟨k + 1, by omega, by go_num, (((HX.out.1.setCell (Nat.le_refl _) _).setCell (Nat.le_refl _) _).setCell (Nat.le_refl _) _).drew, (((HX.out.2.set _ _).set _ _).set _ _).drew⟩
              case measure => simp [intOf]; omega
            · obtain rfl : l0 = k := by omega
              have HB5 : Hid (Below w3.heap.size w3 wr) := hB
              clear hB hRw HW4 hk hlt
              obtain ⟨w5, hw5⟩ : ∃ w5, w5 = wr := ⟨_, rfl⟩
              rw [← hw5] at HB5 ⊢
              clear hw5
              go_wp2_with (first
                | (at_make; refine wpList_make_full _ rfl _ _ 55 rfl w5.heap.size 57 ir _ 5 Try.underlying55 hir hir0 hir1 _ _ _ _ l1 rfl rfl rfl rfl (by rw [hir2]; omega) (by unfold maxLen; omega) (Nat.le_refl _) ?_; intro w6 hown6 hgrow6))
              have HW6 : Hid (Below w3.heap.size w3 w6 ∧ Rw w6 w5.heap.size 57 5 l1) := ⟨HB5.out.grown hgrow6 HB5.out.size (by intro k hk; cases hk), ⟨_, hown6⟩⟩
              clear hown6 hgrow6
              go_wp2_with fail
              go_loopw [21] (fun i wr => ∃ k : Nat, k ≤ l1 ∧ i = .int .i64 k ∧ Below w3.heap.size w3 wr ∧ Rw wr w5.heap.size 57 5 l1) (fun i _ => l1 - (intOf i).toNat)
              case atStart => exact ⟨0, Nat.zero_le _, rfl, HW6.out⟩
              case round =>
                obtain ⟨k, hk, rfl, hB, hRw⟩ := hrel
                have hle : w3.heap.size ≤ w5.heap.size := HB5.out.size
                by_cases hlt : k < l1
                · obtain ⟨b, off, rfl, hc⟩ := HR.out.2.1 (by omega)
                  obtain ⟨bz, oz, rfl, hz⟩ := HR.out.1 (by omega)
                  have hbb := HB3.out.1.trans (hB.mono HB3.out.1.size)
                  have hck' := (hbb.cell (RowS.lt hc (by omega))).trans (hc k hlt).1
                  have hcz := (hbb.cell (RowS.lt hz (by omega))).trans (hz 0 (by omega)).1
                  obtain ⟨s, hs⟩ : ∃ s, s = s1.getD k ByteArray.empty := ⟨_, rfl⟩
                  rw [← hs] at hck'
                  obtain ⟨z, hzz⟩ : ∃ s, s = s0.getD 0 ByteArray.empty := ⟨_, rfl⟩
                  rw [← hzz] at hcz
                  obtain ⟨⟨p0, d0⟩, f0⟩ := hRw.cell (show k * 5 < l1 * 5 by omega)
                  obtain ⟨⟨p1, d1⟩, f1⟩ := hRw.cell (show k * 5 + 1 < l1 * 5 by omega)
                  obtain ⟨⟨p2, d2⟩, f2⟩ := hRw.cell (show k * 5 + 2 < l1 * 5 by omega)
                  obtain ⟨⟨p3, d3⟩, f3⟩ := hRw.cell (show k * 5 + 3 < l1 * 5 by omega)
                  obtain ⟨⟨p4, d4⟩, f4⟩ := hRw.cell (show k * 5 + 4 < l1 * 5 by omega)
                  have hi1 : (k : Int) < (l1 : Int) := by omega
                  have hi0 : (0 : Int) < (l0 : Int) := by omega
                  simp only [Nat.add_zero] at hcz
                  have HX : Hid (Below w3.heap.size w3 wr ∧ Rw wr w5.heap.size 57 5 l1) := ⟨hB, hRw⟩
                  clear hB hRw hc hz hbb hs hzz HW6
                  go_wp2_with fail
                  go_region
                  all_goals go_wp2_with fail
                  go_roundw
                  case rel => exact ⟨k + 1, by omega, by go_num, (((((HX.out.1.setCell hle _).setCell hle _).setCell hle _).setCell hle _).setCell hle _).drew, (((((HX.out.2.set _ _).set _ _).set _ _).set _ _).set _ _).drew⟩
                  case measure => simp [intOf]; omega
                · obtain rfl : l1 = k := by omega
                  have HB7 : Hid (Below w3.heap.size w3 wr) := hB
                  clear hB hRw HW6 hk hlt hle HB5
                  obtain ⟨w7, hw7⟩ : ∃ w7, w7 = wr := ⟨_, rfl⟩
                  rw [← hw7] at HB7 ⊢
                  clear hw7
                  go_wp2_with (first
                    | (at_make; refine wpList_make_full _ rfl _ _ 58 rfl w7.heap.size 63 ig _ 6 Try.underlying58 hig hig0 hig1 _ _ _ _ l2 rfl rfl rfl rfl (by rw [hig2]; omega) (by unfold maxLen; omega) (Nat.le_refl _) ?_; intro w8 hown8 hgrow8))
                  have HW8 : Hid (Below w3.heap.size w3 w8 ∧ Rw w8 w7.heap.size 63 6 l2) := ⟨HB7.out.grown hgrow8 HB7.out.size (by intro k hk; cases hk), ⟨_, hown8⟩⟩
                  clear hown8 hgrow8
                  go_wp2_with fail
                  go_loopw [23] (fun i wr => ∃ k : Nat, k ≤ l2 ∧ i = .int .i64 k ∧ Below w3.heap.size w3 wr ∧ Rw wr w7.heap.size 63 6 l2 ∧ Gz wr w7.heap.size k) (fun i _ => l2 - (intOf i).toNat)
                  case atStart => exact ⟨0, Nat.zero_le _, rfl, HW8.out.1, HW8.out.2, fun j hj => absurd hj (by omega)⟩
                  case round =>
                    obtain ⟨k, hk, rfl, hB, hRw, hGz⟩ := hrel
                    have hle : w3.heap.size ≤ w7.heap.size := HB7.out.size
                    by_cases hlt : k < l2
                    · obtain ⟨b, off, rfl, hc⟩ := HR.out.2.2.1 (by omega)
                      obtain ⟨bz, oz, rfl, hz⟩ := HR.out.1 (by omega)
                      have hbb := HB3.out.1.trans (hB.mono HB3.out.1.size)
                      have hck' := (hbb.cell (RowS.lt hc (by omega))).trans (hc k hlt).1
                      have hcz := (hbb.cell (RowS.lt hz (by omega))).trans (hz 0 (by omega)).1
                      obtain ⟨s, hs⟩ : ∃ s, s = s2.getD k ByteArray.empty := ⟨_, rfl⟩
                      rw [← hs] at hck'
                      obtain ⟨z, hzz⟩ : ∃ s, s = s0.getD 0 ByteArray.empty := ⟨_, rfl⟩
                      rw [← hzz] at hcz
                      obtain ⟨⟨p0, d0⟩, f0⟩ := hRw.cell (show k * 6 < l2 * 6 by omega)
                      obtain ⟨⟨p1, d1⟩, f1⟩ := hRw.cell (show k * 6 + 1 < l2 * 6 by omega)
                      obtain ⟨⟨p2, d2⟩, f2⟩ := hRw.cell (show k * 6 + 2 < l2 * 6 by omega)
                      obtain ⟨⟨p3, d3⟩, f3⟩ := hRw.cell (show k * 6 + 3 < l2 * 6 by omega)
                      obtain ⟨⟨p4, d4⟩, f4⟩ := hRw.cell (show k * 6 + 4 < l2 * 6 by omega)
                      obtain ⟨⟨p5, d5⟩, f5⟩ := hRw.cell (show k * 6 + 5 < l2 * 6 by omega)
                      have hi1 : (k : Int) < (l2 : Int) := by omega
                      have hi0 : (0 : Int) < (l0 : Int) := by omega
                      simp only [Nat.add_zero] at hcz
                      have HX : Hid (Below w3.heap.size w3 wr ∧ Rw wr w7.heap.size 63 6 l2 ∧ Gz wr w7.heap.size k) := ⟨hB, hRw, hGz⟩
                      clear hB hRw hGz hc hz hbb hs hzz HW8
                      go_wp2_with fail
                      go_region
                      all_goals go_wp2_with fail
                      go_roundw
                      case rel => exact ⟨k + 1, by omega, by go_num, ((((((HX.out.1.setCell hle _).setCell hle _).setCell hle _).setCell hle _).setCell hle _).setCell hle _).drew, ((((((HX.out.2.1.set _ _).set _ _).set _ _).set _ _).set _ _).set _ _).drew, gz_step HX.out.2.2 d4⟩
                      case measure => simp [intOf]; omega
                    · obtain rfl : l2 = k := by omega
                      have HB9 : Hid (Below w3.heap.size w3 wr ∧ Rw wr w7.heap.size 63 6 l2 ∧ Gz wr w7.heap.size l2) := ⟨hB, hRw, hGz⟩
                      have hlt7 : w7.heap.size < wr.heap.size := rw_lt hRw
                      clear hB hRw hGz HW8 hk hlt hle
                      obtain ⟨w9, hw9⟩ : ∃ w9, w9 = wr := ⟨_, rfl⟩
                      rw [← hw9] at HB9 hlt7 ⊢
                      clear hw9
                      have hmm := run_makeMap38 w9 l3
                      go_wp2_with fail
                      have H10 : Hid (L4 w3 (w9.alloc (.map #[] 0)) w7.heap.size w9.heap.size l2 0 s2 s3 s4 s5) := l4_start HB9.out.1 HB9.out.2.1 HB9.out.2.2 hlt7 HB7.out.size
                      go_loopw [25] (fun i wr => ∃ k : Nat, k ≤ l3 ∧ i = .int .i64 k ∧ L4 w3 wr w7.heap.size w9.heap.size l2 k s2 s3 s4 s5) (fun i _ => l3 - (intOf i).toNat)
                      case atStart => exact ⟨0, Nat.zero_le _, rfl, H10.out⟩
                      case round =>
                        obtain ⟨k, hk, rfl, hL⟩ := hrel
                        by_cases hlt : k < l3
                        · obtain ⟨hB, ⟨fs, hmap, hseen⟩, hG, hAp, hKn, hgs, hg3⟩ := hL
                          obtain ⟨bx3, o3, rfl, hc3⟩ := HR.out.2.2.2.1 (by omega)
                          obtain ⟨bx4, o4, rfl, hc4⟩ := HR.out.2.2.2.2.1 (by omega)
                          obtain ⟨bx5, o5, rfl, hc5⟩ := HR.out.2.2.2.2.2 (by omega)
                          have hbb := HB3.out.1.trans (hB.mono HB3.out.1.size)
                          have k3 := (hbb.cell (RowS.lt hc3 (by omega))).trans (hc3 k hlt).1
                          have k4 := (hbb.cell (RowS.lt hc4 (by omega))).trans (hc4 k hlt).1
                          have k5 := (hbb.cell (RowS.lt hc5 (by omega))).trans (hc5 k hlt).1
                          have z3 := (hc3 k hlt).2
                          have z4 := (hc4 k hlt).2
                          have z5 := (hc5 k hlt).2
                          obtain ⟨x, hx⟩ : ∃ s, s = s3.getD k ByteArray.empty := ⟨_, rfl⟩
                          obtain ⟨y, hy⟩ : ∃ s, s = s4.getD k ByteArray.empty := ⟨_, rfl⟩
                          obtain ⟨z, hz⟩ : ∃ s, s = s5.getD k ByteArray.empty := ⟨_, rfl⟩
                          rw [← hx] at k3 z3
                          rw [← hy] at k4 z4
                          rw [← hz] at k5 z5
                          obtain ⟨f0, im0, _⟩ := HB3.out.2.1
                          obtain ⟨f1, im1, _⟩ := HB3.out.2.2.1
                          obtain ⟨f2, im2, _, hf21, hf22⟩ := HB3.out.2.2.2
                          have L2 := (im2.below im2.lt hB).look9 z3
                          have L1 := (im1.below im1.lt hB).look9 z4
                          have L0 := (im0.below im0.lt hB).look9 z5
                          obtain ⟨v1, hv1⟩ : ∃ v, v = (f1 (.string y)).getD (.int .i64 0) := ⟨_, rfl⟩
                          obtain ⟨v0, hv0⟩ : ∃ v, v = (f0 (.string z)).getD (.int .i64 0) := ⟨_, rfl⟩
                          obtain ⟨p1, hp1⟩ : ∃ p, p = (f1 (.string y)).isSome := ⟨_, rfl⟩
                          obtain ⟨p0, hp0⟩ : ∃ p, p = (f0 (.string z)).isSome := ⟨_, rfl⟩
                          rw [← hv1, ← hp1] at L1
                          rw [← hv0, ← hp0] at L0
                          have HF : Hid (GwPost wc l2 l3 s2 s3 s4 s5 (.returned (.tuple #[.pointer none, .bool false])) wr) := ⟨hbb, .inl rfl⟩
                          have HI : Hid ((MapIs 40 4 wr w9.heap.size k fs ∧ Seen fs s3 s4 s5 k) ∧ GrInv wr w7.heap.size (w9.heap.size + 1) l2 (gkUp s2 s3 s4 s5 k) ∧ Apart s3 s4 s5 k ∧ (∀ i, i < k → ∃ j, j < l2 ∧ s2.getD j ByteArray.empty = s3.getD i ByteArray.empty) ∧ w7.heap.size < w9.heap.size ∧ w3.heap.size ≤ w7.heap.size ∧ Below w3.heap.size w3 wr) := ⟨⟨hmap, hseen⟩, hG, hAp, hKn, hgs, hg3, hB⟩
                          have HN : Hid (x = s3.getD k ByteArray.empty ∧ y = s4.getD k ByteArray.empty ∧ z = s5.getD k ByteArray.empty ∧ x.size ≤ maxLen ∧ y.size ≤ maxLen ∧ z.size ≤ maxLen) := ⟨hx, hy, hz, z3, z4, z5⟩
                          have lt4 : bx4 < wc.heap.size := RowS.lt hc4 (by omega)
                          have lt5 : bx5 < wc.heap.size := RowS.lt hc5 (by omega)
                          have hs9 : wc.heap.size ≤ w9.heap.size := by have := HB3.out.1.size; have := HB7.out.size; omega
                          clear hv1 hv0 hp1 hp0 im0 im1 im2 hx hy hz z3 z4 z5 hc3 hc4 hc5 hbb hmap hseen hG hAp hKn hB hgs hg3 hmm H10 HB9
                          have hk3 : (k : Int) < (l3 : Int) := by omega
                          have q3 : (wr.alloc (.cells #[.string { data := #[] }, .string { data := #[] }, .string { data := #[] }] 40)).cell? ⟨bx3, o3 + k, none⟩ = some (.string x) := (World.grownBy_alloc wr _ none).cell k3 (by simp)
                          have q4 : (wr.alloc (.cells #[.string { data := #[] }, .string { data := #[] }, .string { data := #[] }] 40)).cell? ⟨bx4, o4 + k, none⟩ = some (.string y) := (World.grownBy_alloc wr _ none).cell k4 (by simp)
                          have q5 : (wr.alloc (.cells #[.string { data := #[] }, .string { data := #[] }, .string { data := #[] }] 40)).cell? ⟨bx5, o5 + k, none⟩ = some (.string z) := (World.grownBy_alloc wr _ none).cell k5 (by simp)
                          cases hf2 : f2 (.string x) with
                          | none =>
                            simp only [hf2, Option.getD_none, Option.isSome_none] at L2
                            clear hf21 hf22 hf2
                            go_wp2_with fail
                            go_ret2
                            exact HF.out
                          | some v =>
                            simp only [hf2, Option.getD_some, Option.isSome_some] at L2
                            obtain ⟨j, hj, rfl, hnj⟩ := hf21 x v hf2
                            have HJ : Hid (s2.getD j ByteArray.empty = x ∧ ∀ i : Nat, i < l2 → f2 (.string (s2.getD i ByteArray.empty)) = some (.int .i64 i)) := ⟨hnj, hf22⟩
                            clear hf21 hf22 hnj
                            cases p1 with
                            | false =>
                              go_wp2_with fail
                              go_ret2
                              exact HF.out
                            | true =>
                              cases p0 with
                              | false =>
                                go_wp2_with fail
                                go_ret2
                                exact HF.out
                              | true =>
                                have hbK : Below w3.heap.size w3 (wr.alloc (.cells #[.string x, .string y, .string z] 40)).drew := (HI.out.2.2.2.2.2.2.alloc HI.out.2.2.2.2.2.2.size _).drew
                                have hmK0 : MapIs 40 4 (wr.alloc (.cells #[.string x, .string y, .string z] 40)) w9.heap.size k fs := HI.out.1.1.kept (World.grownBy_alloc wr _ none) (by simp)
                                have hmK : MapIs 40 4 (wr.alloc (.cells #[.string x, .string y, .string z] 40)).drew w9.heap.size k fs := hmK0
                                have hlk := hmK.look40 HN.out.2.2.2.1 HN.out.2.2.2.2.1 HN.out.2.2.2.2.2
                                cases hfk : fs (.agg #[.string x, .string y, .string z]) with
                                | some v =>
                                  obtain rfl := HI.out.1.2.2 x y z v hfk
                                  simp only [hfk, Option.getD_some] at hlk
                                  have HF2 : Hid (GwPost wc l2 l3 s2 s3 s4 s5 (.returned (.tuple #[.pointer none, .bool false])) (wr.alloc (.cells #[.string x, .string y, .string z] 40)).drew) := ⟨HB3.out.1.trans (hbK.mono HB3.out.1.size), .inl rfl⟩
                                  clear hmK hmK0 hbK hfk
                                  go_wp2_with fail
                                  go_region
                                  all_goals go_wp2_with fail
                                  go_ret2
                                  exact HF2.out
                                | none =>
                                  simp only [hfk, Option.getD_none] at hlk
                                  obtain ⟨W', fs', hrun, hm', hs', hg'⟩ := seen_step hmK HI.out.1.2 (by omega) HN.out.1 HN.out.2.1 HN.out.2.2.1 HN.out.2.2.2.1 HN.out.2.2.2.2.1 HN.out.2.2.2.2.2
                                  have hAp' : Apart s3 s4 s5 (k + 1) := apart_step HI.out.1.2 HI.out.2.2.1 (by rw [← HN.out.1, ← HN.out.2.1, ← HN.out.2.2.1]; exact hfk)
                                  have hgs := HI.out.2.2.2.2.1
                                  have hG1 : GrInv (wr.alloc (.cells #[.string x, .string y, .string z] 40)) w7.heap.size (w9.heap.size + 1) l2 (gkUp s2 s3 s4 s5 k) := grInv_kept HI.out.2.1 (World.grownBy_alloc wr _ none) (by simp) (by simp)
                                  have hG2 : GrInv (wr.alloc (.cells #[.string x, .string y, .string z] 40)).drew w7.heap.size (w9.heap.size + 1) l2 (gkUp s2 s3 s4 s5 k) := hG1
                                  have hG' : GrInv W' w7.heap.size (w9.heap.size + 1) l2 (gkUp s2 s3 s4 s5 k) := grInv_kept hG2 hg' (by simp; omega) (fun b hb => by simp; omega)
                                  have hbW : Below w3.heap.size w3 W' := hbK.grown hg' hbK.size (fun b hb => by cases hb; have := HB7.out.size; omega)
                                  have k4' : W'.cell? ⟨bx4, o4 + k, none⟩ = some (.string y) := hg'.cell (show (wr.alloc (.cells #[.string x, .string y, .string z] 40)).drew.cell? ⟨bx4, o4 + k, none⟩ = _ from (World.grownBy_alloc wr _ none).cell k4 (by simp)) (by simp; omega)
                                  have k5' : W'.cell? ⟨bx5, o5 + k, none⟩ = some (.string z) := hg'.cell (show (wr.alloc (.cells #[.string x, .string y, .string z] 40)).drew.cell? ⟨bx5, o5 + k, none⟩ = _ from (World.grownBy_alloc wr _ none).cell k5 (by simp)) (by simp; omega)
                                  obtain ⟨hRw, vs, hvs, hds⟩ := hG'
                                  obtain ⟨cj, hoj⟩ := hvs j hj
                                  obtain ⟨_, fj⟩ := hRw.cell (show j * 6 + 4 < l2 * 6 by omega)
                                  have hji : (j : Int) < (l2 : Int) := by omega
                                  have HZ : Hid (MapIs 40 4 W' w9.heap.size (k + 1) fs' ∧ Seen fs' s3 s4 s5 (k + 1) ∧ Apart s3 s4 s5 (k + 1) ∧ Rw W' w7.heap.size 63 6 l2 ∧ (∀ j, j < l2 → W'.cell? ⟨w7.heap.size, j * 6 + 4, none⟩ = some (vs j) ∧ W'.ownsRow (w9.heap.size + 1) 65 2 (vs j) (gkUp s2 s3 s4 s5 k j).length ((gkUp s2 s3 s4 s5 k j).flatMap cells2)) ∧ (∀ i j, i < l2 → j < l2 → i ≠ j → (vs i).ownBlock = none ∨ (vs i).ownBlock ≠ (vs j).ownBlock) ∧ Below w3.heap.size w3 W') := ⟨hm', hs', hAp', hRw, hvs, hds, hbW⟩
                                  obtain ⟨vj, hvj⟩ : ∃ v, v = vs j := ⟨_, rfl⟩
                                  rw [← hvj] at cj hoj
                                  have HV : Hid (vj = vs j) := hvj
                                  have HO : Hid (W'.ownsRow (w9.heap.size + 1) 65 2 vj (gkUp s2 s3 s4 s5 k j).length ((gkUp s2 s3 s4 s5 k j).flatMap cells2)) := hoj
                                  clear hvj hoj hm' hs' hAp' hG1 hG2 hRw hvs hds hg' hbW hmK hmK0 hbK hfk
                                  go_wp2_with fail
                                  go_region
                                  all_goals go_wp2_with fail
                                  have hszW : w9.heap.size < W'.heap.size := HZ.out.1.lt
                                  have hN : (gkUp s2 s3 s4 s5 k j).length ≤ k := gkUp_len
                                  have hjb : j * 6 + 4 < l2 * 6 := by omega
                                  have hbx4 : bx4 < W'.heap.size := by omega
                                  have hbx5 : bx5 < W'.heap.size := by omega
                                  have hne : vj.ownBlock ≠ some w7.heap.size := own_ne HO.out (by omega)
                                  have hH7 : w7.heap.size < W'.heap.size := by omega
                                  have HK : Hid ((∀ i, i < k → ∃ j, j < l2 ∧ s2.getD j ByteArray.empty = s3.getD i ByteArray.empty) ∧ w3.heap.size ≤ w7.heap.size) := ⟨HI.out.2.2.2.1, HI.out.2.2.2.2.2.1⟩
                                  clear HI HF q3 q4 q5 L0 L1 L2 hlk hrun
                                  have ca : (W'.alloc (.cells #[.string y, .string z] 65)).cell? ⟨w7.heap.size, j * 6 + 4, none⟩ = some vj := (World.grownBy_alloc W' _ none).cell cj (by simp)
                                  have fa : (W'.alloc (.cells #[.string y, .string z] 65)).frozen? ⟨w7.heap.size, j * 6 + 4, none⟩ = false := ((World.grownBy_alloc W' _ none).frozen_far _ hH7 (by simp)).trans fj
                                  have ha7 : w7.heap.size < (W'.alloc (.cells #[.string y, .string z] 65)).heap.size := by simp; omega
                                  go_region_law
                                    (first
                                      | (refine step_append_lies _ rfl _ _ 60 rfl (w9.heap.size + 1) 65 i65 _ 2 32 Try.underlying60 hi65 hi65z hi65s hi65b rfl (by decide) vj _ _ rfl (HO.out.alloc _) ⟨W'.heap.size, 0, none⟩ 1 1 (cells2 (y, z)) rfl rfl (two_new _ _ _) (by simp [Value.oneCell', cells2]) (by decide) (by unfold maxLen; omega) (by omega) (by simp; omega) (W'.heap.size + 1) (by simp) ?_; intro g' cap' wa hown hgrow hat hlt'; have cw : wa.cell? ⟨w7.heap.size, j * 6 + 4, none⟩ = some vj := hgrow.cell ca (fun e => hne e.symm); have fw : wa.frozen? ⟨w7.heap.size, j * 6 + 4, none⟩ = false := (hgrow.frozen_far _ ha7 (fun e => hne e.symm)).trans fa; have hgrow2 : (W'.alloc (.cells #[.string y, .string z] 65)).grownBy wa vj.ownBlock := ⟨hgrow.os, hgrow.tape, hgrow.output, hgrow.size, hgrow.block⟩; clear hgrow))
                                  all_goals go_wp2_with fail
                                  all_goals go_roundw
                                  iterate 8 (case rel => exact ⟨k + 1, by omega, by go_num, l4_step HZ.out HV.out hj HJ.out ⟨HN.out.1, HN.out.2.1, HN.out.2.2.1⟩ HK.out.1 hgs HK.out.2 hown hgrow2 hat⟩)
                                  all_goals (simp [intOf]; omega)
                        · obtain rfl : l3 = k := by omega
                          have HL : Hid (L4 w3 wr w7.heap.size w9.heap.size l2 l3 s2 s3 s4 s5) := hL
                          have hsbr : w9.heap.size < wr.heap.size := by
                            obtain ⟨fs, hm, _⟩ := hL.2.1
                            exact hm.lt
                          clear hL
                          go_wp2_with fail
                          refine (newWorld_any _ _ _ _ _ _ _ _ _ _).mono ?_
                          rintro e w' ⟨rfl, rfl⟩
                          go_wp2_with fail
                          go_ret2
                          exact gw_end HB3.out.1 HB3.out.2.2.2 HL.out hsbr
end Go.Proofs.Qxb6609472a
