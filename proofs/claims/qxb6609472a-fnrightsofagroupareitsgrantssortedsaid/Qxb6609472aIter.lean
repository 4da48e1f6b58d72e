import Derived.Test.Qxb6609472aSeq
import Derived.Test.Qxb6609472aIdx
namespace Go.Proofs.Qxb6609472a
open Go.RowKit Go.Shelf

attribute [local go_sem] Oper.semAt_some

theorem room_none {F : Fence} (hd : F.depth = none) (k : Nat) : F.room k := fun d h => by rw [hd] at h; cases h
theorem yield_deep {F : Fence} (hd : F.depth = none) {m : Nat} (m' : Nat) {P : Program} {l : Nat} {args : Array Value} {W : World} {R : Ending → World → Prop} (h : YieldAt F m P l args W R) : YieldAt F m' P l args W R := by
  obtain ⟨fn, tmps, assign, body, hy, hR⟩ := h
  exact ⟨fn, tmps, assign, body, hy, hR.1, fun c cs _ => hR.2 c cs (room_none hd _)⟩

/-- A group's grants, as its field holds them. -/
def GrRow (n₀ : Nat) (W : World) (v : Value) (xs : List (ByteArray × ByteArray)) : Prop :=
  (v = .slice none 0 0 ∧ xs = []) ∨ ∃ b cap, v = .slice (some ⟨b, 0, none⟩) xs.length cap ∧ b < n₀ ∧ ∀ i (h : i < xs.length), W.cell? ⟨b, i * 2, none⟩ = some (.string xs[i].1) ∧ W.cell? ⟨b, i * 2 + 1, none⟩ = some (.string xs[i].2)
theorem GrRow.below {n₀ : Nat} {W W' : World} {v : Value} {xs : List (ByteArray × ByteArray)} (h : GrRow n₀ W v xs) (hb : Below n₀ W W') : GrRow n₀ W' v xs := by
  rcases h with h | ⟨b, cap, e, hlt, hc⟩
  · exact .inl h
  · exact .inr ⟨b, cap, e, hlt, fun i hi => ⟨(hb.cell (p := ⟨b, i * 2, none⟩) hlt).trans (hc i hi).1, (hb.cell (p := ⟨b, i * 2 + 1, none⟩) hlt).trans (hc i hi).2⟩⟩

/-- What has come when k grants have been yielded. -/
def uptoR (xs : List (ByteArray × ByteArray)) (grp : ByteArray) (k : Nat) : List R3 := (xs.take k).map fun g => (g.1, g.2, grp)
theorem uptoR_succ {xs : List (ByteArray × ByteArray)} {grp : ByteArray} {k : Nat} (h : k < xs.length) : uptoR xs grp (k + 1) = uptoR xs grp k ++ [(xs[k].1, xs[k].2, grp)] := by
  unfold uptoR
  rw [List.take_add_one, List.getElem?_eq_getElem h, List.map_append]
  rfl
theorem uptoR_length {xs : List (ByteArray × ByteArray)} {grp : ByteArray} {k : Nat} (h : k ≤ xs.length) : (uptoR xs grp k).length = k := by
  simp [uptoR]; omega

set_option maxRecDepth 100000 in
set_option maxHeartbeats 2000000 in
theorem yieldGrants_in (F : Fence) (hd : F.depth = none) (n : Nat) (h30 : F.fn 30) (hro : F.round = none) (l n₀ N : Nat) (J Jx : List R3 → World → Prop) (B : Nat) (hJ : AbidesFrom B J)
    (hY : ∀ m pre x W, J pre W → pre.length < N → YieldAt F m Try.prog l #[aggR x] W fun e W' => (e = .returned (.bool true) ∧ J (pre ++ [x]) W' ∧ Below n₀ W W') ∨ (e = .returned (.bool false) ∧ Jx (pre ++ [x]) W'))
    (gb go : Nat) (grp : ByteArray) (v : Value) (xs : List (ByteArray × ByteArray)) (W : World) (hn0 : n₀ ≤ W.heap.size) (hc : W.cell? ⟨gb, go + 4, none⟩ = some v) (hrow : GrRow n₀ W v xs) (hN : xs.length ≤ N) (hmx : xs.length ≤ 65536) (h0 : J [] W) :
    CallsIn F n Try.prog 30 #[.pointer (some ⟨gb, go, none⟩), .string grp, .func (.yield l) #[] #[]] W fun e W' =>
      (e = .returned (.bool true) ∧ J (uptoR xs grp xs.length) W') ∨ (e = .returned (.bool false) ∧ ∃ q, Jx q W') := by
  have hdd : ∀ k : Nat, (F.depth.isSome = true → 1 ≤ k) := fun k h => by rw [hd] at h; cases h
  rcases hrow with ⟨rfl, rfl⟩ | ⟨b, cap, rfl, hb, hcs⟩
  · refine callsIn_of_wp Try.func30 rfl h30 ?_ hro
    simp only [Try.ntmps30, List.size_toArray, List.length_cons, List.length_nil, Nat.reduceAdd, Nat.reduceSub, Array.replicate_succ, Array.replicate_zero, List.push_toArray, List.append_toArray, List.nil_append, List.cons_append]
    gi_wp2
    gi_loopw [14] (fun i wr => i = .int .i64 0 ∧ J [] wr) (fun _ _ => 0)
    case atStart => exact ⟨rfl, h0⟩
    case round =>
      obtain ⟨rfl, hJs⟩ := hrel
      gi_wp2
      go_ret
      exact .inl ⟨rfl, hJs⟩
  · refine callsIn_of_wp Try.func30 rfl h30 ?_ hro
    simp only [Try.ntmps30, List.size_toArray, List.length_cons, List.length_nil, Nat.reduceAdd, Nat.reduceSub, Array.replicate_succ, Array.replicate_zero, List.push_toArray, List.append_toArray, List.nil_append, List.cons_append]
    obtain ⟨len, hlen⟩ : ∃ len, len = xs.length := ⟨_, rfl⟩
    have HL : Hid (len = xs.length) := hlen
    rw [← hlen] at hmx hN ⊢
    gi_wp2
    gi_loopw [14] (fun i wr => ∃ k : Nat, k ≤ len ∧ i = .int .i64 k ∧ J (uptoR xs grp k) wr ∧ Below n₀ W wr) (fun i _ => len - (intOf i).toNat)
    case atStart => exact ⟨0, Nat.zero_le _, rfl, h0, Below.refl _ _⟩
    case round =>
      obtain ⟨k, hk, rfl, hJs, hB⟩ := hrel
      by_cases hlt : k < len
      · obtain ⟨c0, c1⟩ := hcs k (by omega)
        have c0' := (hB.cell (p := ⟨b, k * 2, none⟩) hb).trans c0
        have c1' := (hB.cell (p := ⟨b, k * 2 + 1, none⟩) hb).trans c1
        obtain ⟨x0, hx0⟩ : ∃ x, x = xs[k].1 := ⟨_, rfl⟩
        obtain ⟨x1, hx1⟩ : ∃ x, x = xs[k].2 := ⟨_, rfl⟩
        have hup : uptoR xs grp (k + 1) = uptoR xs grp k ++ [(x0, x1, grp)] := by rw [uptoR_succ (by omega), hx0, hx1]
        rw [← hx0] at c0 c0'
        rw [← hx1] at c1 c1'
        clear hx0 hx1
        obtain ⟨wA, hwA⟩ : ∃ wA, wA = wr.alloc (.cells #[.string x0, .string x1] 65) := ⟨_, rfl⟩
        have hJA : J (uptoR xs grp k) wA := by rw [hwA]; exact hJ _ _ _ none hJs (World.grownBy_alloc _ _ _) (fun r e => by cases e)
        have hBA : Below n₀ wr wA := by rw [hwA]; exact (Below.refl _ _).alloc (by have := hB.size; omega) _
        obtain ⟨fn, tmps, assign, body, hy, hR⟩ := hY (n - 1) (uptoR xs grp k) (x0, x1, grp) wA hJA (by rw [uptoR_length (by omega)]; omega)
        simp only [aggR] at hy
        rw [hwA] at hy hR hBA
        have hB' : Hid (Below n₀ W (wr.alloc (.cells #[.string x0, .string x1] 65))) := hB.trans hBA
        clear hwA hJA hB hBA hJs c0 c1 hY hJ hc hcs h0
        gi_wp2_with ((try refine ⟨hdd _, ?_⟩); refine hR.mono ?_; clear hR; rintro e W2 (⟨rfl, hJ2, hb2⟩ | ⟨rfl, hx2⟩))
        · exact ⟨⟨k + 1, by omega, by go_num, by rw [hup]; exact hJ2, hB'.out.trans hb2⟩, by simp [intOf]; omega⟩
        · go_ret
          exact .inr ⟨rfl, _, hx2⟩
      · have : k = len := by omega
        subst this
        gi_wp2
        go_ret
        exact .inl ⟨rfl, hJs⟩

/-- The world of groups, as its struct and its blocks hold it. -/
structure GrpW (n₀ : Nat) (W : World) (bw gb mb G gcap : Nat) (names : List ByteArray) (gs : Nat → List (ByteArray × ByteArray)) : Prop where
  hbw : bw < n₀
  hgb : gb < n₀
  hmb : mb < n₀
  hn : n₀ ≤ W.heap.size
  c4 : W.cell? ⟨bw, 4, none⟩ = some (.slice (some ⟨gb, 0, none⟩) G gcap)
  c8 : W.cell? ⟨bw, 8, none⟩ = some (.map none)
  c9 : W.cell? ⟨bw, 9, none⟩ = some (.map none)
  c10 : W.cell? ⟨bw, 10, none⟩ = some (.map (some mb))
  idx : IdxMap W mb G names
  gr : ∀ j, j < G → ∃ v, W.cell? ⟨gb, j * 6 + 4, none⟩ = some v ∧ GrRow n₀ W v (gs j)
theorem IdxMap.below {W W' : World} {b k B : Nat} {names : List ByteArray} (h : IdxMap W b k names) (hB : b < B) (hb : Below B W W') : IdxMap W' b k names := by
  obtain ⟨f, hm, h1, h2⟩ := h
  exact ⟨f, hm.below hB hb, h1, h2⟩
theorem GrpW.below {n₀ : Nat} {W W' : World} {bw gb mb G gcap : Nat} {names : List ByteArray} {gs : Nat → List (ByteArray × ByteArray)} (h : GrpW n₀ W bw gb mb G gcap names gs) (hb : Below n₀ W W') : GrpW n₀ W' bw gb mb G gcap names gs where
  hbw := h.hbw
  hgb := h.hgb
  hmb := h.hmb
  hn := Nat.le_trans h.hn hb.size
  c4 := (hb.cell (p := ⟨bw, 4, none⟩) h.hbw).trans h.c4
  c8 := (hb.cell (p := ⟨bw, 8, none⟩) h.hbw).trans h.c8
  c9 := (hb.cell (p := ⟨bw, 9, none⟩) h.hbw).trans h.c9
  c10 := (hb.cell (p := ⟨bw, 10, none⟩) h.hbw).trans h.c10
  idx := h.idx.below h.hmb hb
  gr := fun j hj => by
    obtain ⟨v, hv, hr⟩ := h.gr j hj
    exact ⟨v, (hb.cell (p := ⟨gb, j * 6 + 4, none⟩) h.hgb).trans hv, hr.below hb⟩

/-- lookup[Group], plain. -/
theorem lookup_none (gb G gcap mb : Nat) (s : ByteArray) (w : World) (f : Value → Option Value) (n : Nat) (hm : MapIs 9 3 w mb n f) (hs : s.size ≤ maxLen) (hf : f (.string s) = none) :
    Calls Try.prog 36 #[.slice (some ⟨gb, 0, none⟩) G gcap, .map (some mb), .string s] w fun e w' => e = .returned (.tuple #[.pointer none, .bool false]) ∧ w' = w := by
  have hl := hm.look9 hs
  simp only [hf, Option.getD_none, Option.isSome_none] at hl
  clear hm hf
  go_enter Try.func36, Try.ntmps36
  go_wp2
  go_ret2
  exact ⟨rfl, rfl⟩
theorem lookup_some (gb G gcap mb i : Nat) (s : ByteArray) (w : World) (f : Value → Option Value) (n : Nat) (hm : MapIs 9 3 w mb n f) (hs : s.size ≤ maxLen) (hf : f (.string s) = some (.int .i64 i)) (hi : i < G) :
    Calls Try.prog 36 #[.slice (some ⟨gb, 0, none⟩) G gcap, .map (some mb), .string s] w fun e w' => e = .returned (.tuple #[.pointer (some ⟨gb, i * 6, none⟩), .bool true]) ∧ w' = w := by
  have hl := hm.look9 hs
  simp only [hf, Option.getD_some, Option.isSome_some] at hl
  clear hm hf
  go_enter Try.func36, Try.ntmps36
  go_wp2
  go_ret2
  exact ⟨rfl, rfl⟩
end Go.Proofs.Qxb6609472a
