import Derived.Test.Qxb6612530aCmp
import Derived.Stop.BytesEq
import Derived.Deep.RegionHeld3
namespace Go.Proofs.Qxb6612530a
open Go.RowKit
open Extern.Stop (cell)

theorem Try.sz5 (w : World) : (sizeOf 5).run Try.prog w = .ok 1 w := by kernel_rfl

theorem arr_bytes (A : List Int) (hA : Bytes A) : arr A = ((A.map fun z => UInt8.ofNat z.toNat).map cell).toArray := by
  unfold arr
  rw [List.map_map]
  congr 1
  apply List.map_congr_left
  intro z hz
  obtain ⟨i, hi, rfl⟩ := List.getElem_of_mem hz
  have h := hA i
  rw [List.getD_eq_getElem?_getD, List.getElem?_eq_getElem hi] at h
  simp at h
  show Value.int .u8 A[i] = .int .u8 ((UInt8.ofNat A[i].toNat).toNat : Int)
  have e : (UInt8.ofNat A[i].toNat).toNat = A[i].toNat := by simp; omega
  rw [e, Int.toNat_of_nonneg h.1]

theorem eq_self (A : List Int) (hA : Bytes A) (hl : A.length = 32) (w : World) : (Op.equalIn 10000 22 (.agg (arr A)) (.agg (arr A))).run Try.prog w = .ok true w := by
  rw [arr_bytes A hA]
  have h := run_equalIn_bytes (P := Try.prog) w 9998 22 5 32 Try.underlying22 Try.underlying5 Try.sz5 (A.map fun z => UInt8.ofNat z.toNat) (A.map fun z => UInt8.ofNat z.toNat) (by simpa using hl) (by simpa using hl)
  rw [show (10000 : Nat) = 9998 + 2 from rfl, h]
  simp

theorem ret_b {b : Bool} (h : b = true) : Ending.returned (.bool b) = .returned (.bool true) := by rw [h]
theorem lt_of_blk {w : World} {b : Nat} {o : Obj} (h : w.heap[b]? = some o) : b < w.heap.size := (Array.getElem?_eq_some_iff.1 h).1
theorem TextOf.below {w w' : World} {g G : Nat} {A : List Int} (h : TextOf w g G A) (hb : Below w.heap.size w w') : TextOf w' g G A := by
  obtain ⟨ys, ⟨h1, h2⟩, hy⟩ := h
  refine ⟨ys, ⟨h1, ?_⟩, hy⟩
  rcases h2 with h2 | ⟨g, cap, cur, hv, hg, hh, r⟩
  · exact Or.inl h2
  · exact Or.inr ⟨g, cap, cur, hv, hg, by rw [hb.block g (Array.getElem?_eq_some_iff.1 hh).1]; exact hh, r⟩

theorem one_arr (A : List Int) : (arr A).all (·.oneCell') = true := all_oneCell_toArray (ints_oneCell .u8 A)
theorem setCells_size (b : Nat) : ∀ (vs : List Value) (o : Nat) (w : World), (w.setCells b o vs).heap.size = w.heap.size := by
  intro vs
  induction vs with
  | nil => intro o w; rfl
  | cons v vs ih => intro o w; exact (ih (o + 1) _).trans (by simp [World.setCell])
/-- A whole array stored into a block that was just made. -/
theorem wpList_store_new {P : Program} {ops : Array Oper} {rest : List Oper} {op : Oper} {a : Act} {w : World} {Q : Exit → Act → World → Prop} (hgd : op.guard = none) (ty : TypeId) (x y : Operand) (ho : op.op = .store ty x y)
    (w5 : World) (Z : Array Value) (hw : w = w5.alloc (.cells Z 22)) (cells : Array Value) (hx : a.eval x = .pointer (some ⟨w5.heap.size, 0, none⟩)) (hy : a.eval y = .agg cells) (hZ : Z.size = cells.size) (hi : (P.info? ty).map (·.size) = some cells.size) (h1 : cells.all (·.oneCell') = true)
    (h : ∀ w', Below w5.heap.size w5 w' → w'.rangeAt w5.heap.size 0 cells.toList → w5.heap.size < w'.heap.size → wpList P ops Q rest (a.put op.dst undef) w') : wpList P ops Q (op :: rest) a w := by
  subst hw
  have ht : (w5.alloc (.cells Z 22)).there w5.heap.size 0 cells.size := by
    intro j hj
    rw [Nat.zero_add, World.cell?_alloc_new, Array.getElem?_eq_getElem (by omega)]
    exact ⟨rfl, by simp⟩
  refine wpList_store_mid hgd ty x y ho w5.heap.size 0 cells hx hy ht hi h1 ?_
  refine h _ (below_setCells ((Below.refl _ _).alloc (Nat.le_refl _) _) (Nat.le_refl _) _ _) (World.rangeAt_setCells_same _ _ 0 _ (by simpa using ht)) ?_
  rw [setCells_size, World.size_alloc]
  omega
/-- A whole array loaded, under a guard that says yes. -/
theorem wpList_load_if {P : Program} {ops : Array Oper} {rest : List Oper} {op : Oper} {a : Act} {w : World} {Q : Exit → Act → World → Prop} (hw : Region.wanted op (yielded ops a.tmps) = true) (ty : TypeId) (x : Operand) (ho : op.op = .load ty x)
    (b : Nat) (cs : Array Value) (d : TypeDesc) (hx : a.eval x = .pointer (some ⟨b, 0, none⟩)) (hc : w.rangeAt b 0 cs.toList) (hu : P.underlying ty = some d) (hd : d.isRow = true) (hi : (P.info? ty).map (·.size) = some cs.size)
    (h : wpList P ops Q rest (a.put op.dst (.agg cs)) w) : wpList P ops Q (op :: rest) a w := by
  refine wpList_step fun K hK => ?_
  rw [if_pos hw]
  refine wp_load_mid ty x ho b 0 hx cs.toList d hc hu hd (by rw [Array.length_toList]; exact hi) ?_
  rw [Array.toArray_toList]
  exact hK _ _ h
theorem range_of_block {w : World} {b : Nat} {cs : Array Value} {t : TypeId} (h : w.heap[b]? = some (.cells cs t (0, 0))) : w.rangeAt b 0 cs.toList := fun j v hv => by
  rw [Nat.zero_add, cell_of_row w b j cs t (0, 0) h]
  simpa using hv
theorem range_below {w w' : World} {b : Nat} {cs : List Value} (h : w.rangeAt b 0 cs) (hb : Below w.heap.size w w') (hlt : b < w.heap.size) : w'.rangeAt b 0 cs := fun j v hv => (hb.cell (p := ⟨b, 0 + j, none⟩) hlt).trans (h j v hv)

/-- One operation of a drawn region taken first, the slot that it writes named. -/
theorem take_at {P : Program} {md : Region.Mode} {ops : Array Oper} {Q : Exit → Act → World → Prop} {S : World → Prop} {oi : Oper} {fuel : Nat} {listed : Array Bool} {a : Act} {w : World} (i : Nat) (d : Option Tmp) (v : Value) (hi : ops[i]? = some oi) (hd : oi.dst = d)
    (hs : Region.noSelect ops = true) (hf : Region.free md ops listed i = true) (hr : (Region.ready md ops listed).contains i = true)
    (hQ : ∀ c a w, Q (.panic c) (a.put d v) w → Q (.panic c) a w) (hy : YieldsIf P ops S oi v a) (hS : S w)
    (h : wpAnyH P md ops Q S fuel (listed.setIfInBounds i true) (a.put d v) w) : wpAnyH P md ops Q S (fuel + 1) listed a w := by
  subst hd
  exact wpAnyH_take hi hs hf hr hQ hy hS h

set_option maxHeartbeats 1000000 in
set_option maxRecDepth 4000 in
theorem main3 (A B : List Int) (w : World) (hA : A.length = 32) (hB : B.length = 32) (bA : Bytes A) (bB : Bytes B) :
    Calls Try.prog 3 #[.agg (arr A), .agg (arr B)] w fun e w' => e = .returned (.bool true) ∧ Below w.heap.size w w' := by
  have HA : Hid (A.length = 32 ∧ Bytes A) := ⟨hA, bA⟩
  have HB : Hid (B.length = 32 ∧ Bytes B) := ⟨hB, bB⟩
  have eA := eq_self A bA hA
  have eB := eq_self B bB hB
  have szA : (Try.prog.info? 22).map (·.size) = some (arr A).size := by rw [arr_size hA]; exact Try.size22
  have szB : (Try.prog.info? 22).map (·.size) = some (arr B).size := by rw [arr_size hB]; exact Try.size22
  clear hA hB bA bB
  go_enter Try.func3, Try.ntmps3
  go_wp2_with (refine wpList_load_row rfl 22 (.tmp 2) rfl w.heap.size rfl 22 (arr A) (0, 0) _ (heap_alloc2_old w _ _) Try.underlying22 rfl szA ?_)
  refine (marshal_any A _ HA.out.1 HA.out.2).mono ?_
  rintro e w1 ⟨g, G, hG, hG2, rfl, hb1, hg, htA⟩
  have bA1 : w1.heap[w.heap.size]? = some (.cells (arr A) 22 (0, 0)) := (hb1.block _ (by rw [World.size_alloc, World.size_alloc]; omega)).trans (heap_alloc2_old w _ _)
  have bB1 : w1.heap[w.heap.size + 1]? = some (.cells (arr B) 22 (0, 0)) := (hb1.block _ (by rw [World.size_alloc, World.size_alloc]; omega)).trans (heap_alloc2_new w _ _)
  have HB1 : Hid (Below w.heap.size w w1) := (((Below.refl _ _).alloc (Nat.le_refl _) _).alloc (by simp) _).trans (hb1.mono (by rw [World.size_alloc, World.size_alloc]; omega))
  have HTA : Hid (TextOf w1 g G A) := htA
  have hgA : w.heap.size + 1 < g := by simp at hg; omega
  clear hb1 hg htA
  go_wp2_with (refine wpList_load_row rfl 22 (.tmp 3) rfl (w.heap.size + 1) rfl 22 (arr B) (0, 0) _ bB1 Try.underlying22 rfl szB ?_)
  refine (marshal_any B _ HB.out.1 HB.out.2).mono ?_
  rintro e w2 ⟨g', G', hG', hG2', rfl, hb2, hg', htB⟩
  have bA2 : w2.heap[w.heap.size]? = some (.cells (arr A) 22 (0, 0)) := (hb2.block _ (lt_of_blk bA1)).trans bA1
  have bB2 : w2.heap[w.heap.size + 1]? = some (.cells (arr B) 22 (0, 0)) := (hb2.block _ (lt_of_blk bB1)).trans bB1
  have HB2 : Hid (Below w.heap.size w w2) := HB1.out.trans (hb2.mono HB1.out.size)
  have HTA2 : Hid (TextOf w2 g G A) := HTA.out.below hb2
  have HTB2 : Hid (TextOf w2 g' G' B) := htB
  clear hb2 hg' htB HTA HB1 bA1 bB1
  go_wp2_with fail
  refine (parse_any g G A _ HA.out.1 HA.out.2 HTA2.out).mono ?_
  rintro e w3 ⟨rfl, hb3⟩
  have bA3 : w3.heap[w.heap.size]? = some (.cells (arr A) 22 (0, 0)) := (hb3.block _ (lt_of_blk bA2)).trans bA2
  have bB3 : w3.heap[w.heap.size + 1]? = some (.cells (arr B) 22 (0, 0)) := (hb3.block _ (lt_of_blk bB2)).trans bB2
  have HB3 : Hid (Below w.heap.size w w3) := HB2.out.trans (hb3.mono HB2.out.size)
  have HTA3 : Hid (TextOf w3 g G A) := HTA2.out.below hb3
  have HTB3 : Hid (TextOf w3 g' G' B) := HTB2.out.below hb3
  clear hb3 HTA2 HTB2 HB2 bA2 bB2
  go_wp2_with (refine wpList_store_new rfl 22 (.tmp 9) (.tmp 32) rfl w3 _ rfl (arr A) rfl rfl (by rw [arr_size HA.out.1]; rfl) szA (one_arr A) ?_; intro w4 hb4 hr4 hs4)
  refine (parse_any g' G' B _ HB.out.1 HB.out.2 (HTB3.out.below hb4)).mono ?_
  rintro e w5 ⟨rfl, hb5⟩
  have hbx : Below w3.heap.size w3 w5 := hb4.trans (hb5.mono (by omega))
  have bA5 : w5.heap[w.heap.size]? = some (.cells (arr A) 22 (0, 0)) := (hbx.block _ (lt_of_blk bA3)).trans bA3
  have bB5 : w5.heap[w.heap.size + 1]? = some (.cells (arr B) 22 (0, 0)) := (hbx.block _ (lt_of_blk bB3)).trans bB3
  have HB5 : Hid (Below w.heap.size w w5) := HB3.out.trans (hbx.mono HB3.out.size)
  have HTA5 : Hid (TextOf w5 g G A) := HTA3.out.below hbx
  have HTB5 : Hid (TextOf w5 g' G' B) := HTB3.out.below hbx
  have hr5 : w5.rangeAt w3.heap.size 0 (arr A).toList := range_below hr4 hb5 hs4
  have hs5 : w3.heap.size < w5.heap.size := Nat.lt_of_lt_of_le hs4 hb5.size
  clear hb5 hbx hb4 hr4 hs4 HTA3 HTB3 HB3 bA3 bB3
  go_wp2_with (first
    | (refine wpList_store_new rfl 22 (.tmp 11) (.tmp 37) rfl w5 _ rfl (arr B) rfl rfl (by rw [arr_size HB.out.1]; rfl) szB (one_arr B) ?_; intro w6 hb6 hr6 hs6)
    | (refine wpList_load_if rfl 22 (.tmp 9) rfl w3.heap.size (arr A) _ rfl (range_below hr5 hb6 hs5) Try.underlying22 rfl szA ?_)
    | (refine wpList_load_if rfl 22 (.tmp 2) rfl w.heap.size (arr A) _ rfl (range_below (range_of_block bA5) hb6 (lt_of_blk bA5)) Try.underlying22 rfl szA ?_)
    | (refine wpList_load_if rfl 22 (.tmp 11) rfl w5.heap.size (arr B) _ rfl hr6 Try.underlying22 rfl szB ?_)
    | (refine wpList_load_if rfl 22 (.tmp 3) rfl (w.heap.size + 1) (arr B) _ rfl (range_below (range_of_block bB5) hb6 (lt_of_blk bB5)) Try.underlying22 rfl szB ?_))
  obtain ⟨LA, hLA⟩ : ∃ L, L = A.map (Value.int .u8) := ⟨_, rfl⟩
  obtain ⟨LB, hLB⟩ : ∃ L, L = B.map (Value.int .u8) := ⟨_, rfl⟩
  have rA : w6.rangeAt w.heap.size 0 LA := by rw [hLA]; exact range_below (range_of_block bA5) hb6 (lt_of_blk bA5)
  have rB : w6.rangeAt (w.heap.size + 1) 0 LB := by rw [hLB]; exact range_below (range_of_block bB5) hb6 (lt_of_blk bB5)
  have HC8 : Hid (∀ w : World, Calls Try.prog 8 #[.agg LA.toArray, .agg LB.toArray] w fun e w' => e = .returned (.int .i64 (cmpFrom (encAt A) (encAt B) 64 0)) ∧ Below w.heap.size w w') := fun w => by
    have h := cmp32_any A B w HA.out.1 HB.out.1
    rw [← cmp_enc A B HA.out.2 HB.out.2 32 0] at h
    rw [hLA, hLB]
    exact h
  have HC7 : Hid (∀ W : World, Below w5.heap.size w5 W → Calls Try.prog 7 #[.slice (some ⟨g, 0, none⟩) 64 G, .slice (some ⟨g', 0, none⟩) 64 G'] W fun e w' => e = .returned (.int .i64 (cmpFrom (encAt A) (encAt B) 64 0)) ∧ Below W.heap.size W w') := fun W hW =>
    cmpBytes_any g G g' G' (encAt A) (encAt B) W (text_cell (HTA5.out.below hW)) (text_cell (HTB5.out.below hW)) (text_lt (HTA5.out.below hW)) (text_lt (HTB5.out.below hW))
  have HB6 : Hid (Below w.heap.size w w6) := HB5.out.trans (hb6.mono HB5.out.size)
  have HB6' : Hid (Below w5.heap.size w5 w6.drew) := hb6.drew
  have lA : LA.length = 32 := by rw [hLA]; simpa using HA.out.1
  have lB : LB.length = 32 := by rw [hLB]; simpa using HB.out.1
  have oA : ∀ v ∈ LA, v.oneCell' = true := by rw [hLA]; exact ints_oneCell _ _
  have oB : ∀ v ∈ LB, v.oneCell' = true := by rw [hLB]; exact ints_oneCell _ _
  have hu := Try.underlying22
  have hiA : (Try.prog.info? 22).map (·.size) = some LA.length := by rw [lA]; exact Try.size22
  have hiB : (Try.prog.info? 22).map (·.size) = some LB.length := by rw [lB]; exact Try.size22
  have hw6 : w.heap.size + 1 < w6.heap.size := by have := lt_of_blk bB5; omega
  obtain ⟨c, hc⟩ : ∃ c, c = cmpFrom (encAt A) (encAt B) 64 0 := ⟨_, rfl⟩
  rw [← hc] at HC7 HC8
  clear hLA hLB hr5 hs5 hr6 hs6 bA5 bB5 HTA5 HTB5 hb6 eA eB szA szB hG hG2 hG' hG2' hgA HB5 hc
  refine wp_region_held_drew (S := fun w' => w'.rangeAt w.heap.size 0 LA ∧ w'.rangeAt (w.heap.size + 1) 0 LB) (by kernel_rfl) ⟨rA, rB⟩ (fun hHeld => ?_)
  refine take_at 3 (some 58) (.agg LA.toArray) rfl rfl (by kernel_rfl) (by kernel_rfl) (by kernel_rfl) (fun _ _ _ h => h) (yieldsIf_load_mid (by rfl) 22 (.tmp 2) rfl w.heap.size 0 rfl LA _ (fun w hS => hS.1) Try.underlying22 rfl hiA) hHeld ?_
  simp only [Act.put, List.setIfInBounds_toArray, List.set_cons_zero, List.set_cons_succ]
  refine take_at 4 (some 59) (.agg LB.toArray) rfl rfl (by kernel_rfl) (by kernel_rfl) (by kernel_rfl) (fun _ _ _ h => h) (yieldsIf_load_mid (by rfl) 22 (.tmp 3) rfl (w.heap.size + 1) 0 rfl LB _ (fun w hS => hS.2) Try.underlying22 rfl hiB) hHeld ?_
  simp only [Act.put, List.setIfInBounds_toArray, List.set_cons_zero, List.set_cons_succ]
  refine take_at 0 (some 55) (.slice (some ⟨g, 0, none⟩) 64 G) rfl rfl (by kernel_rfl) (by kernel_rfl) (by kernel_rfl) (fun _ _ _ h => h) (Or.inl ⟨by rfl, fun w hS => by rfl⟩) hHeld ?_
  simp only [Act.put, List.setIfInBounds_toArray, List.set_cons_zero, List.set_cons_succ]
  refine take_at 1 (some 56) (.slice (some ⟨g', 0, none⟩) 64 G') rfl rfl (by kernel_rfl) (by kernel_rfl) (by kernel_rfl) (fun _ _ _ h => h) (Or.inl ⟨by rfl, fun w hS => by rfl⟩) hHeld ?_
  simp only [Act.put, List.setIfInBounds_toArray, List.set_cons_zero, List.set_cons_succ]
  refine wpAnyH_ready (rs := [2]) (by kernel_rfl) (by simp) ?_
  refine AllReadyH.cons rfl (fun K hK => ?_) AllReadyH.nil
  go_simp
  go_wp2_with (go_at_call 7; refine (HC7.out _ HB6'.out).mono ?_; rintro e w7 ⟨rfl, hb7⟩)
  have s7A : w7.rangeAt w.heap.size 0 LA := range_below (w := w6.drew) rA hb7 (by show _ < w6.heap.size; omega)
  have s7B : w7.rangeAt (w.heap.size + 1) 0 LB := range_below (w := w6.drew) rB hb7 hw6
  have hw7 : w.heap.size + 1 < w7.heap.size := Nat.lt_of_lt_of_le hw6 hb7.size
  have HB7 : Hid (Below w.heap.size w w7) := HB6.out.drew.trans (hb7.mono HB6.out.size)
  refine hK.out _ _ ⟨s7A, s7B⟩ (fun hHeld7 => ?_)
  clear hK K hHeld rA rB hb7 HB6 HB6' HC7
  refine wpAnyH_ready (rs := [5]) (by kernel_rfl) (by simp) ?_
  refine AllReadyH.cons rfl (fun K hK => ?_) AllReadyH.nil
  go_simp
  go_wp2_with (go_at_call 8; refine (HC8.out _).mono ?_; rintro e w8 ⟨rfl, hb8⟩)
  have s8A : w8.rangeAt w.heap.size 0 LA := range_below s7A hb8 (by omega)
  have s8B : w8.rangeAt (w.heap.size + 1) 0 LB := range_below s7B hb8 hw7
  have HB8 : Hid (Below w.heap.size w w8) := HB7.out.trans (hb8.mono HB7.out.size)
  refine hK.out _ _ ⟨s8A, s8B⟩ (fun hHeld8 => ?_)
  clear hK K hHeld7 s7A s7B hb8 HB7 HC8
  refine take_at 6 (some 61) (.bool (c == c)) rfl rfl (by kernel_rfl) (by kernel_rfl) (by kernel_rfl) (fun _ _ _ h => h) (Or.inl ⟨by rfl, fun w hS => by go_simp⟩) hHeld8 ?_
  simp only [Act.put, List.setIfInBounds_toArray, List.set_cons_zero, List.set_cons_succ]
  refine take_at 7 (some 4) (.bool (c == c)) rfl rfl (by kernel_rfl) (by kernel_rfl) (by kernel_rfl) (fun _ _ _ h => h) (Or.inl ⟨by rfl, fun w hS => by rfl⟩) hHeld8 ?_
  simp only [Act.put, List.setIfInBounds_toArray, List.set_cons_zero, List.set_cons_succ]
  refine wpAnyH_done (by kernel_rfl) ?_ _
  go_wp2
  go_ret
  exact ⟨ret_b (by simp), HB8.out⟩
end Go.Proofs.Qxb6612530a
