import Derived.Test.Qxb6609472aHeld
import Derived.Test.Qxb6609472aSort
namespace Go.Proofs.Qxb6609472a
open Go.RowKit Go.Shelf

attribute [local go_sem] Oper.semAt_some

theorem grown_of_below {w w' : World} (h : Below w.heap.size w w') : w.grownBy w' none := ⟨h.os, h.tape, h.output, h.size, fun k hk _ => h.block k hk⟩

/-- What the iterator comes to. -/
def SeqPost (xs : List R3) (J Jx : List R3 → World → Prop) (e : Ending) (W' : World) : Prop :=
  (∃ v, e = .returned v) ∧ ((∃ ys, ys = xs ∧ J ys W') ∨ (∃ pre, True ∧ Jx pre W'))

set_option maxHeartbeats 1000000 in
/-- No group's kind: nothing comes. -/
theorem held_other (n l Bs Bw bw : Nat) (kd : Int) (id : ByteArray) (J Jx : List R3 → World → Prop) (W : World) (hJ : AbidesFrom W.heap.size J) (hk : kd ≠ 3) (hid : id.size ≤ maxLen)
    (s0 : W.cell? ⟨Bs, 0, none⟩ = some (.int .i64 kd)) (s1 : W.cell? ⟨Bs, 1, none⟩ = some (.string id)) (b0 : W.cell? ⟨Bw, 0, none⟩ = some (.pointer (some ⟨bw, 0, none⟩)))
    (c8 : W.cell? ⟨bw, 8, none⟩ = some (.map none)) (c9 : W.cell? ⟨bw, 9, none⟩ = some (.map none)) (h0 : J [] W) :
    CallsIn Fence.wide n Try.prog 28 #[.func (.yield l) #[] #[], .pointer (some ⟨Bs, 0, none⟩), .pointer (some ⟨Bw, 0, none⟩)] W (SeqPost [] J Jx) := by
  have e3 : (kd == 3) = false := by simp [hk]
  have HH : Hid (Calls Try.prog 31 #[.pointer (some ⟨bw, 0, none⟩), .agg #[.int .i64 kd, .string id]] W fun e w' => e = .returned (.pointer none) ∧ J [] w') := (holding_none bw kd id W hid hk c8 c9).mono fun e w' h => ⟨h.1, hJ _ _ _ none h0 (grown_of_below h.2) (fun r e => by cases e)⟩
  clear c8 c9 h0 hJ hk
  refine callsIn_of_wp Try.func28 rfl trivial ?_ rfl
  simp only [Try.ntmps28, List.size_toArray, List.length_cons, List.length_nil, Nat.reduceAdd, Nat.reduceSub, Array.replicate_succ, Array.replicate_zero, List.push_toArray, List.append_toArray, List.nil_append, List.cons_append]
  gi_wp2_with (refine ⟨trivial, fun h => (by cases h), ?_⟩; gi_at_call 31; refine (callsIn_wide.2 HH.out).mono ?_; rintro e w' ⟨rfl, hJ'⟩)
  go_end0
  exact ⟨⟨_, rfl⟩, .inl ⟨_, rfl, hJ'⟩⟩

set_option maxHeartbeats 1000000 in
/-- No such group: nothing comes. -/
theorem held_none (n l Bs Bw bw gb mb G gcap k : Nat) (id : ByteArray) (f : Value → Option Value) (J Jx : List R3 → World → Prop) (W : World) (hJ : AbidesFrom W.heap.size J) (hid : id.size ≤ maxLen)
    (s0 : W.cell? ⟨Bs, 0, none⟩ = some (.int .i64 3)) (s1 : W.cell? ⟨Bs, 1, none⟩ = some (.string id)) (b0 : W.cell? ⟨Bw, 0, none⟩ = some (.pointer (some ⟨bw, 0, none⟩)))
    (c4 : W.cell? ⟨bw, 4, none⟩ = some (.slice (some ⟨gb, 0, none⟩) G gcap)) (c10 : W.cell? ⟨bw, 10, none⟩ = some (.map (some mb))) (hm : MapIs 9 3 W mb k f) (hf : f (.string id) = none) (h0 : J [] W) :
    CallsIn Fence.wide n Try.prog 28 #[.func (.yield l) #[] #[], .pointer (some ⟨Bs, 0, none⟩), .pointer (some ⟨Bw, 0, none⟩)] W (SeqPost [] J Jx) := by
  have HH : Hid (Calls Try.prog 29 #[.pointer (some ⟨bw, 0, none⟩), .string id] W fun e w' => e = .returned (.tuple #[.pointer none, .bool false]) ∧ J [] w') := (group_none bw gb G gcap mb id W f k hm hid hf c4 c10).mono fun e w' h => ⟨h.1, by obtain ⟨k, rfl⟩ := h.2; exact hJ _ _ _ none h0 (grown_of_below (below_drewN (Below.refl _ W) k)) (fun r e => by cases e)⟩
  clear c4 c10 h0 hJ hf hm
  refine callsIn_of_wp Try.func28 rfl trivial ?_ rfl
  simp only [Try.ntmps28, List.size_toArray, List.length_cons, List.length_nil, Nat.reduceAdd, Nat.reduceSub, Array.replicate_succ, Array.replicate_zero, List.push_toArray, List.append_toArray, List.nil_append, List.cons_append]
  gi_wp2_with (refine ⟨trivial, fun h => (by cases h), ?_⟩; gi_at_call 29; refine (callsIn_wide.2 HH.out).mono ?_; rintro e w' ⟨rfl, hJ'⟩)
  go_end0
  exact ⟨⟨_, rfl⟩, .inl ⟨_, rfl, hJ'⟩⟩

set_option maxHeartbeats 1000000 in
/-- The group is there: its grants come, in order. -/
theorem held_some (n l Bs Bw bw gb mb G gcap k j n₀ : Nat) (id : ByteArray) (f : Value → Option Value) (v : Value) (xs : List (ByteArray × ByteArray)) (J Jx : List R3 → World → Prop) (W : World) (hJ : AbidesFrom W.heap.size J) (hid : id.size ≤ maxLen)
    (hY : ∀ pre x W, J pre W → pre.length < xs.length → YieldAt Fence.wide (n - 1) Try.prog l #[aggR x] W fun e W' => (e = .returned (.bool true) ∧ J (pre ++ [x]) W' ∧ Below n₀ W W') ∨ (e = .returned (.bool false) ∧ Jx (pre ++ [x]) W'))
    (s0 : W.cell? ⟨Bs, 0, none⟩ = some (.int .i64 3)) (s1 : W.cell? ⟨Bs, 1, none⟩ = some (.string id)) (b0 : W.cell? ⟨Bw, 0, none⟩ = some (.pointer (some ⟨bw, 0, none⟩)))
    (c4 : W.cell? ⟨bw, 4, none⟩ = some (.slice (some ⟨gb, 0, none⟩) G gcap)) (c10 : W.cell? ⟨bw, 10, none⟩ = some (.map (some mb))) (hm : MapIs 9 3 W mb k f) (hf : f (.string id) = some (.int .i64 j)) (hj : j < G)
    (hn0 : n₀ ≤ W.heap.size) (hc : W.cell? ⟨gb, j * 6 + 4, none⟩ = some v) (hrow : GrRow n₀ W v xs) (hmx : xs.length ≤ 65536) (h0 : J [] W) :
    CallsIn Fence.wide n Try.prog 28 #[.func (.yield l) #[] #[], .pointer (some ⟨Bs, 0, none⟩), .pointer (some ⟨Bw, 0, none⟩)] W (SeqPost (uptoR xs ByteArray.empty xs.length) J Jx) := by
  have HH : Hid (Calls Try.prog 29 #[.pointer (some ⟨bw, 0, none⟩), .string id] W fun e w' => e = .returned (.tuple #[.pointer (some ⟨gb, j * 6, none⟩), .bool true]) ∧
      CallsIn Fence.wide (n - 1) Try.prog 30 #[.pointer (some ⟨gb, j * 6, none⟩), .string ByteArray.empty, .func (.yield l) #[] #[]] w' fun e W' => (e = .returned (.bool true) ∧ J (uptoR xs ByteArray.empty xs.length) W') ∨ (e = .returned (.bool false) ∧ ∃ q, Jx q W')) :=
    (group_some bw gb G gcap mb j id W f k hm hid hf hj c4 c10).mono fun e w' h => ⟨h.1, by
      obtain ⟨m, rfl⟩ := h.2
      exact yieldGrants_in Fence.wide rfl (n - 1) trivial rfl l n₀ xs.length J Jx W.heap.size hJ (fun m pre x W hj hl => yield_deep rfl m (hY pre x W hj hl)) gb (j * 6) ByteArray.empty v xs _ hn0 hc hrow (Nat.le_refl _) hmx (hJ _ _ _ none h0 (grown_of_below (below_drewN (Below.refl _ W) m)) (fun r e => by cases e))⟩
  clear c4 c10 h0 hJ hf hm hY hc hrow hn0
  have ee : (ByteArray.empty) = { data := #[] } := rfl
  refine callsIn_of_wp Try.func28 rfl trivial ?_ rfl
  simp only [Try.ntmps28, List.size_toArray, List.length_cons, List.length_nil, Nat.reduceAdd, Nat.reduceSub, Array.replicate_succ, Array.replicate_zero, List.push_toArray, List.append_toArray, List.nil_append, List.cons_append]
  gi_wp2_with (first
    | (refine ⟨trivial, fun h => (by cases h), ?_⟩; gi_at_call 29; refine (callsIn_wide.2 HH.out).mono ?_; rintro e w' ⟨rfl, hC⟩)
    | (refine ⟨trivial, fun h => (by cases h), ?_⟩; gi_at_call 30; refine hC.mono ?_; rintro e W' (⟨rfl, hJ'⟩ | ⟨rfl, q, hx⟩)))
  · go_end0
    exact ⟨⟨_, rfl⟩, .inl ⟨_, rfl, hJ'⟩⟩
  · go_end0
    exact ⟨⟨_, rfl⟩, .inr ⟨_, trivial, hx⟩⟩
end Go.Proofs.Qxb6609472a
