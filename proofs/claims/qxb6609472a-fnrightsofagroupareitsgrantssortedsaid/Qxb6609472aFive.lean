import Derived.Test.Qxb6609472aLaw
import Derived.Deep.CutRange
namespace Go.Proofs.Qxb6609472a
open Go.RowKit

/-- What holds behind the gathering of the keys. -/
def FiveRel (w2 wx : World) (L : Nat) (gg rr oo : List ByteArray) (kd : Int) (id : ByteArray) (c : Value) : Prop :=
  c = .int .i64 ((if kd = 3 then cnt gg id L else 0 : Nat) : Int) ∧ Below w2.heap.size w2 wx ∧ ∃ n fs, MapIs 40 4 wx w2.heap.size n fs ∧ ∀ i, kd = 3 → i < L → gg.getD i ByteArray.empty = id → fs (keyV ByteArray.empty (rr.getD i ByteArray.empty) (oo.getD i ByteArray.empty)) = some (.bool true)
/-- When k grants have been looked at. -/
def HeldInv (w2 wx : World) (k : Nat) (gg rr oo : List ByteArray) (id : ByteArray) (c : Value) : Prop :=
  c = .int .i64 (cnt gg id k : Int) ∧ Below w2.heap.size w2 wx ∧ ∃ fs, MapIs 40 4 wx w2.heap.size (cnt gg id k) fs ∧ ∀ i, i < k → gg.getD i ByteArray.empty = id → fs (keyV ByteArray.empty (rr.getD i ByteArray.empty) (oo.getD i ByteArray.empty)) = some (.bool true)
theorem heldInv_start (w2 : World) (gg rr oo : List ByteArray) (id : ByteArray) : HeldInv w2 (w2.alloc (.map #[] 0)) 0 gg rr oo id (.int .i64 0) :=
  ⟨rfl, (Below.refl _ _).alloc (Nat.le_refl _) _, _, MapIs.made 40 4 w2, fun i hi => by omega⟩
theorem HeldInv.rel {w2 wx : World} {L : Nat} {gg rr oo : List ByteArray} {id : ByteArray} {c : Value} (h : HeldInv w2 wx L gg rr oo id c) : FiveRel w2 wx L gg rr oo 3 id c := by
  obtain ⟨h1, h2, fs, h3, h4⟩ := h
  exact ⟨by simpa using h1, h2, _, fs, h3, fun i _ => h4 i⟩

theorem held_miss {w2 wr : World} {k : Nat} {gg rr oo : List ByteArray} {id : ByteArray} {fs : Value → Option Value} (hB : Below w2.heap.size w2 wr) (hm : MapIs 40 4 wr w2.heap.size (cnt gg id k) fs)
    (hf : ∀ i, i < k → gg.getD i ByteArray.empty = id → fs (keyV ByteArray.empty (rr.getD i ByteArray.empty) (oo.getD i ByteArray.empty)) = some (.bool true)) (hn : gg.getD k ByteArray.empty ≠ id) :
    HeldInv w2 wr (k + 1) gg rr oo id (.int .i64 (cnt gg id k : Int)) := by
  have e : cnt gg id (k + 1) = cnt gg id k := by rw [cnt_succ, if_neg hn, Nat.add_zero]
  refine ⟨by rw [e], hB, fs, by rw [e]; exact hm, fun i hi hg => ?_⟩
  by_cases hik : i < k
  · exact hf i hik hg
  · obtain rfl : i = k := by omega
    exact absurd hg hn
open Classical in
theorem held_hit {w2 wr : World} {k : Nat} {gg rr oo : List ByteArray} {id y z : ByteArray} {fs : Value → Option Value} (hB : Below w2.heap.size w2 wr) (hm : MapIs 40 4 wr w2.heap.size (cnt gg id k) fs)
    (hf : ∀ i, i < k → gg.getD i ByteArray.empty = id → fs (keyV ByteArray.empty (rr.getD i ByteArray.empty) (oo.getD i ByteArray.empty)) = some (.bool true)) (hk : k < 65536) (hg : gg.getD k ByteArray.empty = id)
    (hy : y = rr.getD k ByteArray.empty) (hz : z = oo.getD k ByteArray.empty) (zy : y.size ≤ maxLen) (zz : z.size ≤ maxLen) :
    ∃ W', (Instr.mapUpdate 38 (.map (some w2.heap.size)) (.agg #[.string { data := #[] }, .string y, .string z]) (.bool true)).run Try.prog wr.drew = .ok () W' ∧ HeldInv w2 W' (k + 1) gg rr oo id (.int .i64 ((cnt gg id k : Int) + 1)) := by
  have hm' : MapIs 40 4 wr.drew w2.heap.size (cnt gg id k) fs := hm
  have hcl := cnt_le gg id k
  obtain ⟨W', hrun, hm2, hgr⟩ := hm'.store40 (x := ByteArray.empty) (f' := fun key => if key = .agg #[.string ByteArray.empty, .string y, .string z] then some (.bool true) else fs key) (by unfold maxLen; omega) (Nat.zero_le _) zy zz (by simp) (fun key' h => by simp [h])
  have e : cnt gg id (k + 1) = cnt gg id k + 1 := by rw [cnt_succ, if_pos hg]
  refine ⟨W', hrun, by rw [e]; simp, hB.drew.grown hgr hB.drew.size (fun b hb => by cases hb; exact Nat.le_refl _), _, by rw [e]; exact hm2, fun i hi h => ?_⟩
  by_cases hik : i < k
  · have := hf i hik h
    simp only [this]
    split <;> rfl
  · obtain rfl : i = k := by omega
    rw [← hy, ← hz]
    simp [keyV]

theorem rowR_lt {w : World} {g o : Nat} {v : Value} (h : w.cell? ⟨g, o, none⟩ = some v) : g < w.heap.size := by
  rcases Nat.lt_or_ge g w.heap.size with h' | h'
  · exact h'
  · simp [World.cell?, Array.getElem?_eq_none h'] at h

def FivePost (w : World) (e : Ending) (w' : World) : Prop := e = .returned (.bool true) ∧ Below w.heap.size w w'

set_option maxRecDepth 8000 in
set_option maxHeartbeats 2000000 in
theorem five_even (a0 a1 a2 a3 a4 a5 : Option Addr) (l0 l1 l2 l3 c0 c1 c2 c3 c4 c5 : Nat) (s0 s1 s2 s3 s4 s5 : List ByteArray) (kd : Int) (id : ByteArray) (w : World) (hid : id.size ≤ maxLen)
    (m0 : l0 ≤ 65536) (m1 : l1 ≤ 65536) (m2 : l2 ≤ 65536) (m3 : l3 ≤ 65536)
    (r0 : RowS w a0 l0 s0) (r1 : RowS w a1 l1 s1) (r2 : RowS w a2 l2 s2) (r3 : RowS w a3 l3 s3) (r4 : RowS w a4 l3 s4) (r5 : RowS w a5 l3 s5)
    (hgw : Calls Try.prog 12 #[.slice a0 l0 c0, .slice a1 l1 c1, .slice a2 l2 c2, .slice a3 l3 c3, .slice a4 l3 c4, .slice a5 l3 c5] w (GwPost w l2 l3 s2 s3 s4 s5)) :
    Calls Try.prog 5 #[.slice a0 l0 c0, .slice a1 l1 c1, .slice a2 l2 c2, .slice a3 l3 c3, .slice a4 l3 c4, .slice a5 l3 c5, .int .i64 kd, .string id] w (FivePost w) := by
  have HW : Hid (Calls Try.prog 12 #[.slice a0 l0 c0, .slice a1 l1 c1, .slice a2 l2 c2, .slice a3 l3 c3, .slice a4 l3 c4, .slice a5 l3 c5] w (GwPost w l2 l3 s2 s3 s4 s5)) := hgw
  have HR : Hid (RowS w a0 l0 s0 ∧ RowS w a1 l1 s1 ∧ RowS w a2 l2 s2 ∧ RowS w a3 l3 s3 ∧ RowS w a4 l3 s4 ∧ RowS w a5 l3 s5) := ⟨r0, r1, r2, r3, r4, r5⟩
  clear r0 r1 r2 r3 r4 r5 hgw
  have HB := zzBytes10_any a0 a1 a2 a3 a4 a5 l0 l1 l2 l3 l3 l3 c0 c1 c2 c3 c4 c5 s0 s1 s2 s3 s4 s5 kd id w (by omega) (by omega) (by omega) (by omega) (by omega) (by omega) HR.out.1 HR.out.2.1 HR.out.2.2.1 HR.out.2.2.2.1 HR.out.2.2.2.2.1 HR.out.2.2.2.2.2
  have n0 : ¬ (65536 : Int) < (l0 : Int) := by omega
  have n1 : ¬ (65536 : Int) < (l1 : Int) := by omega
  have n2 : ¬ (65536 : Int) < (l2 : Int) := by omega
  have n3 : ¬ (65536 : Int) < (l3 : Int) := by omega
  go_enter Try.func5, Try.ntmps5
  go_upto_region 5 with (first
    | (go_at_call 10; refine HB.mono ?_; clear HB; rintro e w' ⟨⟨v, rfl⟩, rfl⟩; cases v))
  · go_ret
    exact ⟨rfl, Below.refl _ _⟩
  · go_cut [82] from 24 to 82 (fun c wx => wx = w' ∧ ∃ b : Bool, c = .bool b)
    case first =>
      go_wp2_with (first
        | (go_at_call_of 11 (Value.slice a0 l0 c0); refine (stringsBytes_any a0 l0 c0 s0 _ (by omega) HR.out.1).mono ?_; rintro e w1 ⟨⟨t0, rfl⟩, rfl⟩)
        | (go_at_call_of 11 (Value.slice a1 l1 c1); refine (stringsBytes_any a1 l1 c1 s1 _ (by omega) HR.out.2.1).mono ?_; rintro e w1 ⟨⟨t0, rfl⟩, rfl⟩)
        | (go_at_call_of 11 (Value.slice a2 l2 c2); refine (stringsBytes_any a2 l2 c2 s2 _ (by omega) HR.out.2.2.1).mono ?_; rintro e w1 ⟨⟨t0, rfl⟩, rfl⟩)
        | (go_at_call_of 11 (Value.slice a3 l3 c3); refine (stringsBytes_any a3 l3 c3 s3 _ (by omega) HR.out.2.2.2.1).mono ?_; rintro e w1 ⟨⟨t0, rfl⟩, rfl⟩)
        | (go_at_call_of 11 (Value.slice a4 l3 c4); refine (stringsBytes_any a4 l3 c4 s4 _ (by omega) HR.out.2.2.2.2.1).mono ?_; rintro e w1 ⟨⟨t0, rfl⟩, rfl⟩)
        | (go_at_call_of 11 (Value.slice a5 l3 c5); refine (stringsBytes_any a5 l3 c5 s5 _ (by omega) HR.out.2.2.2.2.2).mono ?_; rintro e w1 ⟨⟨t0, rfl⟩, rfl⟩))
      all_goals go_meet
      all_goals exact ⟨rfl, _, rfl⟩
    case rest =>
      obtain ⟨rfl, b, rfl⟩ := hcut
      cases b with
      | true =>
        go_wp2_with fail
        go_ret
        exact ⟨rfl, Below.refl _ _⟩
      | false =>
        go_wp2_with (first
          | (go_at_call 12; refine HW.out.mono ?_; clear HW; rintro e w1 ⟨hb1, (rfl | ⟨bw, gb, mb, gcap, rfl, hg, hap, hkn⟩)⟩))
        · go_ret
          exact ⟨rfl, hb1⟩
        · have HR2 := rights_any w1 bw gb mb l2 gcap s2 (gkUp s2 s3 s4 s5 l3) kd id hid hg (fun j _ => Nat.le_trans gkUp_len m3)
          refine HR2.mono ?_
          clear HR2 hg
          rintro e w2 ⟨xs, ys, a, cap, hgv, hlx, hp, hs, rfl, hrow, hb2⟩
          have HL : Hid (GotLaw s3 s4 s5 l3 kd id ys ∧ RowR w2 a ys ∧ Below wc.heap.size wc w2) := ⟨got_law hkn hap hgv hp hs, hrow, hb1.trans (hb2.mono hb1.size)⟩
          have hyl : ys.length ≤ 65536 := by rw [hp.length_eq]; exact hlx
          clear hgv hlx hp hs hrow hb1 hb2 hap hkn
          have hmm := run_makeMap38 w2 l3
          go_upto_if 104 with fail
          go_cut [21] from 103 to 128 (fun c wx => FiveRel w2 wx l3 s3 s4 s5 kd id c)
          case first =>
            by_cases hk : kd = 3
            · subst hk
              go_wp2_with fail
              go_loopw [21, 22] (fun c i wr => ∃ k : Nat, k ≤ l3 ∧ i = .int .i64 k ∧ HeldInv w2 wr k s3 s4 s5 id c) (fun _ i _ => l3 - (intOf i).toNat)
              case atStart => exact ⟨0, Nat.zero_le _, rfl, heldInv_start ..⟩
              case round =>
                obtain ⟨k, hk, rfl, rfl, hB, fs, hmap, hfs⟩ := hrel
                by_cases hlt : k < l3
                · obtain ⟨bx3, o3, rfl, hc3⟩ := HR.out.2.2.2.1 (by omega)
                  obtain ⟨bx4, o4, rfl, hc4⟩ := HR.out.2.2.2.2.1 (by omega)
                  obtain ⟨bx5, o5, rfl, hc5⟩ := HR.out.2.2.2.2.2 (by omega)
                  have hbb := HL.out.2.2.trans (hB.mono HL.out.2.2.size)
                  have k3 := (hbb.cell (RowS.lt hc3 (by omega))).trans (hc3 k hlt).1
                  have k4 := (hbb.cell (RowS.lt hc4 (by omega))).trans (hc4 k hlt).1
                  have k5 := (hbb.cell (RowS.lt hc5 (by omega))).trans (hc5 k hlt).1
                  have z4 := (hc4 k hlt).2
                  have z5 := (hc5 k hlt).2
                  obtain ⟨x, hx⟩ : ∃ s, s = s3.getD k ByteArray.empty := ⟨_, rfl⟩
                  obtain ⟨y, hy⟩ : ∃ s, s = s4.getD k ByteArray.empty := ⟨_, rfl⟩
                  obtain ⟨z, hz⟩ : ∃ s, s = s5.getD k ByteArray.empty := ⟨_, rfl⟩
                  rw [← hx] at k3
                  rw [← hy] at k4 z4
                  rw [← hz] at k5 z5
                  have hk3 : (k : Int) < (l3 : Int) := by omega
                  have hcl : cnt s3 id k ≤ k := cnt_le _ _ _
                  have HI : Hid (Below w2.heap.size w2 wr ∧ MapIs 40 4 wr w2.heap.size (cnt s3 id k) fs ∧ (∀ i, i < k → s3.getD i ByteArray.empty = id → fs (keyV ByteArray.empty (s4.getD i ByteArray.empty) (s5.getD i ByteArray.empty)) = some (.bool true))) := ⟨hB, hmap, hfs⟩
                  have HN : Hid (x = s3.getD k ByteArray.empty ∧ y = s4.getD k ByteArray.empty ∧ z = s5.getD k ByteArray.empty ∧ y.size ≤ maxLen ∧ z.size ≤ maxLen) := ⟨hx, hy, hz, z4, z5⟩
                  clear hx hy hz z4 z5 hc3 hc4 hc5 hbb hB hmap hfs hmm
                  by_cases hxi : x = id
                  · have hxt : (x.toList == id.toList) = true := by rw [hxi]; simp
                    obtain ⟨W', hrun, hinv⟩ := held_hit HI.out.1 HI.out.2.1 HI.out.2.2 (by omega) (HN.out.1.symm.trans hxi) HN.out.2.1 HN.out.2.2.1 HN.out.2.2.2.1 HN.out.2.2.2.2
                    have HV : Hid (HeldInv w2 W' (k + 1) s3 s4 s5 id (.int .i64 ((cnt s3 id k : Int) + 1))) := hinv
                    clear hinv hxi
                    go_wp2_with fail
                    go_region
                    all_goals go_wp2_with fail
                    go_roundw
                    case rel => exact ⟨k + 1, by omega, by go_num, HV.out⟩
                    case measure => simp [intOf]; omega
                  · have hxt : (x.toList == id.toList) = false := by simpa using fun e => hxi (toList_inj e)
                    have HV : Hid (HeldInv w2 wr (k + 1) s3 s4 s5 id (.int .i64 (cnt s3 id k : Int))) := held_miss HI.out.1 HI.out.2.1 HI.out.2.2 (fun e => hxi (HN.out.1.trans e))
                    clear hxi
                    go_wp2_with fail
                    go_roundw
                    case rel => exact ⟨k + 1, by omega, by go_num, HV.out⟩
                    case measure => simp [intOf]; omega
                · obtain rfl : l3 = k := by omega
                  have HI : Hid (HeldInv w2 wr l3 s3 s4 s5 id (.int .i64 (cnt s3 id l3))) := ⟨rfl, hB, fs, hmap, hfs⟩
                  clear hB hmap hfs hmm
                  go_wp2_with fail
                  go_meet
                  exact HI.out.rel
            · have hk' : (kd == 3) = false := by simpa using hk
              go_wp2_with fail
              go_meet
              exact ⟨by simp [hk], (Below.refl _ _).alloc (Nat.le_refl _) _, 0, _, MapIs.made 40 4 w2, fun i h => absurd h hk⟩
          case rest =>
            obtain ⟨hc21, hB, n, fs, hmap, hfs⟩ := hcut
            rw [← HL.out.1.1] at hc21
            subst hc21
            obtain ⟨w5, hw5⟩ : ∃ x, x = wc := ⟨_, rfl⟩
            rw [← hw5] at hB hmap ⊢
            clear hw5
            have HM : Hid ((Below w2.heap.size w2 w5 ∧ MapIs 40 4 w5 w2.heap.size n fs) ∧ ∀ i, kd = 3 → i < l3 → s3.getD i ByteArray.empty = id → fs (keyV ByteArray.empty (s4.getD i ByteArray.empty) (s5.getD i ByteArray.empty)) = some (.bool true)) := ⟨⟨hB, hmap⟩, hfs⟩
            clear hB hmap hfs hmm
            have hyi : ((ys.length : Int) != (ys.length : Int)) = false := by simp
            go_wp2_with fail
            go_loopw [23] (fun i wr => ∃ k : Nat, k ≤ ys.length ∧ i = .int .i64 k ∧ Below w2.heap.size w2 wr ∧ MapIs 40 4 wr w2.heap.size n fs) (fun i _ => ys.length - (intOf i).toNat)
            case atStart => exact ⟨0, Nat.zero_le _, rfl, HM.out.1⟩
            case round =>
              obtain ⟨k, hk, rfl, hB, hmap⟩ := hrel
              by_cases hlt : k < ys.length
              · obtain ⟨g, rfl, hc⟩ := HL.out.2.1 (by omega)
                have hg : g < w2.heap.size := rowR_lt (hc k hlt).1
                have d0 := (hB.cell (p := ⟨g, k * 3, none⟩) hg).trans (hc k hlt).1
                have d1 := (hB.cell (p := ⟨g, k * 3 + 1, none⟩) hg).trans (hc k hlt).2.1
                have d2 := (hB.cell (p := ⟨g, k * 3 + 2, none⟩) hg).trans (hc k hlt).2.2
                obtain ⟨h22, i, hi, hgi, hri, hoi⟩ := HL.out.1.2.1 k hlt
                rw [h22] at d2
                obtain ⟨y, hy⟩ : ∃ y, y = ys[k].1 := ⟨_, rfl⟩
                obtain ⟨z, hz⟩ : ∃ z, z = ys[k].2.1 := ⟨_, rfl⟩
                rw [← hy] at d0 hri
                rw [← hz] at d1 hoi
                have hkd : kd = 3 := by
                  have := HL.out.1.1
                  by_cases hkd : kd = 3
                  · exact hkd
                  · rw [if_neg hkd] at this; omega
                have hfk : fs (.agg #[.string { data := #[] }, .string y, .string z]) = some (.bool true) := by
                  rw [hri, hoi]
                  exact HM.out.2 i hkd hi hgi
                have zy : y.size ≤ maxLen := by
                  obtain ⟨_, _, _, h4⟩ := HR.out.2.2.2.2.1 (by omega)
                  rw [hri]; exact (h4 i hi).2
                have zz : z.size ≤ maxLen := by
                  obtain ⟨_, _, _, h5⟩ := HR.out.2.2.2.2.2 (by omega)
                  rw [hoi]; exact (h5 i hi).2
                have hki : (k : Int) < (ys.length : Int) := by omega
                have HX : Hid (Below w2.heap.size w2 wr ∧ MapIs 40 4 wr w2.heap.size n fs) := ⟨hB, hmap⟩
                have hmd : MapIs 40 4 wr.drew w2.heap.size n fs := hmap
                have hlk : (Instr.lookup 38 (.map (some w2.heap.size)) (.agg #[.string { data := #[] }, .string y, .string z]) false).run Try.prog wr.drew = .ok (.bool true) wr.drew := by
                  have h := hmd.look40 (x := { data := #[] }) (Nat.zero_le _) zy zz
                  rw [hfk] at h
                  exact h
                rcases Nat.eq_zero_or_pos k with hk0 | hk0
                · subst hk0
                  clear hri hoi hgi hi h22 hB hmap zy zz hmd hfk hy hz hc
                  go_wp2_with fail
                  go_region
                  all_goals go_wp2_with fail
                  go_quiet (fail)
                  go_wp2_with fail
                  go_roundw
                  case rel => exact ⟨0 + 1, by omega, by go_num, below_drewN HX.out.1 _, HX.out.2.below HX.out.2.lt (below_drewN (Below.refl _ _) _)⟩
                  case measure => simp [intOf]; omega
                · obtain ⟨m, hm⟩ : ∃ m, m = k - 1 := ⟨_, rfl⟩
                  have hmk : m + 1 = k := by omega
                  have e0 := (hB.cell (p := ⟨g, m * 3, none⟩) hg).trans (hc m (by omega)).1
                  have e1 := (hB.cell (p := ⟨g, m * 3 + 1, none⟩) hg).trans (hc m (by omega)).2.1
                  have hbf := HL.out.1.2.2 m (by omega)
                  simp only [hmk] at hbf
                  obtain ⟨y0, hy0⟩ : ∃ y, y = ys[m].1 := ⟨_, rfl⟩
                  obtain ⟨z0, hz0⟩ : ∃ z, z = ys[m].2.1 := ⟨_, rfl⟩
                  rw [← hy0] at e0 hbf
                  rw [← hz0] at e1 hbf
                  rw [← hy, ← hz] at hbf
                  have HQ : Hid (∀ w, Calls Try.prog 14 #[.string y0, .string z0, .string y, .string z] w fun e w' => e = .returned (.bool true) ∧ w' = w) := fun w => rightBefore_any y0 z0 y z w hbf
                  have hsub : (k : Int) - 1 = (m : Int) := by omega
                  have hpos : (0 : Int) < (k : Int) := by omega
                  have hmi : (m : Int) < (ys.length : Int) := by omega
                  have hwm : IntKind.i64.wrap (m : Int) = (m : Int) := by rw [IntKind.wrap_i64]; omega
                  clear hri hoi hgi hi h22 hB hmap zy zz hmd hfk hbf hy0 hz0 hy hz hc hm hmk
                  go_wp2_with fail
                  go_region
                  all_goals go_wp2_with fail
                  obtain ⟨wx, hwx⟩ : ∃ wx, wx = wr.drew := ⟨_, rfl⟩
                  have x0 : wx.cell? ⟨g, k * 3, none⟩ = some (.string y) := by rw [hwx]; exact d0
                  have x1 : wx.cell? ⟨g, k * 3 + 1, none⟩ = some (.string z) := by rw [hwx]; exact d1
                  have x2 : wx.cell? ⟨g, m * 3, none⟩ = some (.string y0) := by rw [hwx]; exact e0
                  have x3 : wx.cell? ⟨g, m * 3 + 1, none⟩ = some (.string z0) := by rw [hwx]; exact e1
                  have HY : Hid (Below w2.heap.size w2 wx ∧ MapIs 40 4 wx w2.heap.size n fs) := by rw [hwx]; exact ⟨HX.out.1.drew, HX.out.2⟩
                  rw [← hwx]
                  clear hwx d0 d1 d2 e0 e1 hlk HX
                  go_quiet (exact Calls.quiet_of_same (HQ.out _))
                  go_wp2_with fail
                  go_roundw
                  case rel => exact ⟨k + 1, by omega, by go_num, below_drewN HY.out.1 _, HY.out.2.below HY.out.2.lt (below_drewN (Below.refl _ _) _)⟩
                  case measure => simp [intOf]; omega
              · obtain rfl : ys.length = k := by omega
                have HF : Hid (Below w2.heap.size w2 wr) := hB
                clear hB hmap
                go_wp2_with fail
                go_ret
                exact ⟨rfl, HL.out.2.2.trans (HF.out.mono HL.out.2.2.size)⟩
end Go.Proofs.Qxb6609472a
