import Derived.Test.Qxb6609472aOrd
import Derived.RangeFuncNested
import Derived.RangeFuncBound
import Derived.RangeFuncCalls
import Derived.RangeFuncLeaves
import Derived.Shelf.Abstract
import Derived.WalkKit
import Derived.OwnWalkIn
import Derived.TacticsInMore
import Derived.LoopNIn
import Derived.LoopIn
import Derived.Maps.AppendAt
namespace Go.Proofs.Qxb6609472a
open Go.RowKit Go.Shelf

attribute [local go_sem] Oper.semAt_some

/-- A right, as the walk holds it: role, organisation, group. -/
abbrev R3 := ByteArray × ByteArray × ByteArray
def cellsR (x : R3) : List Value := [.string x.1, .string x.2.1, .string x.2.2]
def aggR (x : R3) : Value := .agg #[.string x.1, .string x.2.1, .string x.2.2]

theorem info42 : (Try.prog.info? 42).map (fun i => (i.zero, i.size, i.bytes)) = some (some (.agg #[.string ByteArray.empty, .string ByteArray.empty, .string ByteArray.empty]), 3, 48) := by kernel_rfl

/-- A block of three cells that the call laid. -/
def Box3 (W : World) (B : Nat) (t : TypeId) (a b c : Value) : Prop := W.heap[B]? = some (.cells #[a, b, c] t (0, 0))
theorem Box3.lt {W : World} {B : Nat} {t : TypeId} {a b c : Value} (h : Box3 W B t a b c) : B < W.heap.size := (Array.getElem?_eq_some_iff.1 h).1
theorem Box3.cell0 {W : World} {B : Nat} {t : TypeId} {a b c : Value} (h : Box3 W B t a b c) : W.cell? ⟨B, 0, none⟩ = some a := by simp [World.cell?, show W.heap[B]? = _ from h]
theorem Box3.cell1 {W : World} {B : Nat} {t : TypeId} {a b c : Value} (h : Box3 W B t a b c) : W.cell? ⟨B, 1, none⟩ = some b := by simp [World.cell?, show W.heap[B]? = _ from h]
theorem Box3.cell2 {W : World} {B : Nat} {t : TypeId} {a b c : Value} (h : Box3 W B t a b c) : W.cell? ⟨B, 2, none⟩ = some c := by simp [World.cell?, show W.heap[B]? = _ from h]
theorem Box3.kept {W W' : World} {row : Option Nat} {B : Nat} {t : TypeId} {a b c : Value} (h : Box3 W B t a b c) (hg : W.grownBy W' row) (hne : some B ≠ row) : Box3 W' B t a b c := (hg.block B h.lt hne).trans h
theorem box3_own {β : Type} (B : Nat) (t : TypeId) (a b c : Value) : Own (fun (_ : β) W => Box3 W B t a b c) := fun s X Y row hs hg hrow =>
  hs.kept hg (fun e' => by obtain ⟨o, ho, hc⟩ := hrow B e'.symm; rw [show X.heap[B]? = _ from hs] at ho; cases ho; cases hc)
theorem Box3.new (W : World) (t : TypeId) (a b c : Value) : Box3 (W.alloc (.cells #[a, b, c] t)) W.heap.size t a b c := World.alloc_heap_new W _

theorem three_new (W : World) (t : TypeId) (a b c : Value) : ∀ (j : Nat) (u : Value), [a, b, c][j]? = some u → (W.alloc (.cells #[a, b, c] t)).cell? ((⟨W.heap.size, 0, none⟩ : Addr).add j) = some u := by
  intro j u h
  have hb := Box3.new W t a b c
  match j, h with
  | 0, h => simp at h; subst h; exact hb.cell0
  | 1, h => simp at h; subst h; exact hb.cell1
  | 2, h => simp at h; subst h; exact hb.cell2
  | n + 3, h => simp at h

set_option maxRecDepth 100000 in
set_option maxHeartbeats 2000000 in
/-- slices.AppendSeq(nil, seq), over any iterator of rights that gives xs. -/
theorem appendSeq_in (F : Fence) (n : Nat) (h27 : F.fn 27) (hro : F.round = none) (hn : 2 ≤ n) (g : Nat) (lb : Array Value) (hFg : F.fn g) (eg : ∀ args w, (callFunc g args).run Try.prog w = .ok (.enter g args) w)
    (xs : List R3) (Sp : List R3 → Prop) (hlen : xs.length ≤ maxLen) (hbytes : xs.length * 48 ≤ 140737488355328) (w : World)
    (hseq : SeqStopsK F (n - 1) Try.prog g lb (fun x : R3 => #[aggR x]) (Below w.heap.size) (fun ys => ys = xs) Sp xs.length w) :
    CallsIn F n Try.prog 27 #[.slice none 0 0, .func (.func g) #[] lb] w fun e w' => ∃ v, e = .returned v ∧ w'.ownsRow w.heap.size 42 3 v xs.length (xs.flatMap cellsR) ∧ (v = .slice none 0 0 ↔ xs = []) ∧ Below w.heap.size w w' := by
  have h1 : 1 ≤ n := by omega
  obtain ⟨i0, hi, hz0, hz1, hz2⟩ := info_parts info42
  refine callsIn_of_wp_marks Try.func27 rfl h27 ?_ hro
  simp only [Try.ntmps27, List.size_toArray, List.length_cons, List.length_nil, Nat.reduceAdd, Nat.reduceSub, Array.replicate_succ, Array.replicate_zero, List.push_toArray, List.append_toArray, List.nil_append, List.cons_append]
  gi_wp2
  have bO := Boxed.new w 33 (.slice none 0 0)
  have hB0 : Below w.heap.size w (w.alloc (.cells #[.slice none 0 0] 33)) := (Below.refl _ w).alloc (Nat.le_refl _) _
  have hsz : (w.alloc (.cells #[.slice none 0 0] 33)).heap.size = w.heap.size + 1 := by simp
  obtain ⟨W0, hW0⟩ : ∃ W0, w.alloc (.cells #[.slice none 0 0] 33) = W0 := ⟨_, rfl⟩
  rw [hW0] at bO hB0 hsz ⊢
  clear hW0
  refine wpIn_rangeFunc_ownH hro h1 (gf := g) (lb := lb) rfl hFg eg hseq belowK_t (belowK_b (by omega)) hB0 (fun _ => rfl)
    (fun pre W => (∃ v, Boxed W w.heap.size 33 v ∧ W.ownsRow w.heap.size 42 3 v pre.length (pre.flatMap cellsR) ∧ (v = .slice none 0 0 ↔ pre = [])) ∧ Below w.heap.size w W)
    (fun _ _ _ => False)
    (OwnFrom.and (Own.from (holdsRow_own w.heap.size w.heap.size 33 42 3 (fun pre => pre.length) (fun pre => pre.flatMap cellsR) (fun pre v => v = .slice none 0 0 ↔ pre = [])) _) (ownFrom_below (Nat.le_refl _) (by omega)))
    (fun _ _ _ _ _ hs _ _ => hs)
    ⟨⟨_, bO, World.ownsRow_nil _ _ _ _, by simp⟩, hB0⟩
    (fun x a' W => ∃ Bx, w.heap.size < Bx ∧ Box3 W Bx 42 (.string x.1) (.string x.2.1) (.string x.2.2) ∧ a' = { tmps := #[.slice none 0 0, .func (.func g) #[] lb, .pointer (some ⟨w.heap.size, 0, none⟩), undef, .slice none 0 0, .pointer (some ⟨Bx, 0, none⟩), .func (.func g) #[] lb, aggR x, undef, undef, undef, undef, undef], defers := [] })
    (fun x a' _ X Y row hs hg hr => by obtain ⟨Bx, h1, h2, h3⟩ := hs; exact ⟨Bx, h1, box3_own (β := Unit) Bx 42 _ _ _ () X Y row h2 hg (fun r e => (hr r e).2), h3⟩)
    ?assign ?body ?done ?stop
  case assign =>
    rintro l pre x W K ⟨⟨v, hv, hrow, hnil⟩, hB1⟩ hK
    simp only [aggR] at hK ⊢
    gi_wp2
    exact hK _ _ ((KeepsOthers.alloc _ _).from _) ((Below.refl _ W).alloc hB1.size _) ⟨⟨v, hv.alloc _, hrow.alloc _, hnil⟩, hB1.alloc hB1.size _⟩ ⟨W.heap.size, hv.lt, Box3.new W 42 _ _ _, rfl⟩
  case body =>
    rintro l pre x a' W hl ⟨r, hr⟩ ⟨⟨v, hv, hrow, hnil⟩, hB⟩ ⟨Bx, hBx, bX, rfl⟩ hlt
    have hc := hv.cell
    have x0 := bX.cell0
    have x1 := bX.cell1
    have x2 := bX.cell2
    gi_wp2_with (gi_at_builtin; refine wpListIn_append_own _ rfl _ _ 33 rfl w.heap.size 42 i0 _ 3 48 Try.underlying33 hi hz0 hz1 hz2 rfl (by decide) _ _ _ rfl (hrow.alloc _) ⟨W.heap.size, 0, none⟩ 1 1 (cellsR x) rfl rfl (three_new _ _ _ _ _) (by simp [Value.oneCell', cellsR]) (by omega) (by omega) (by have := hB.size; simp; omega) ?_; intro v' w1 hown' hgrow _; obtain ⟨g', cap', rfl⟩ := ownsRow_succ hown'; obtain ⟨hv1, hv2, hr2, hk2, hb2⟩ := hv.appended (by decide) hrow hB.size (Nat.le_refl _) hown' hgrow; have hc1 := hv1.cell; have hf1 := hv1.frozen)
    exact ⟨hk2.from _, hb2, ⟨_, hv2, by simpa using hr2, by simp⟩, hB.trans hb2⟩
  case done =>
    rintro D ys W hD rfl ⟨⟨v, hv, hrow, hnil⟩, hB⟩ hK
    have hc := hv.cell
    gi_wp2
    refine ⟨by simp, .inl ⟨_, _, rfl, run_takeDeferred hK, ?_⟩⟩
    exact ⟨_, results_tmp rfl _ _ _, v, rfl, ownsRow_putObj hrow _ hK rfl, hnil, hB.trans (belowK_b (w := w) (Nat.le_refl _) W D _ _ (by omega) hK rfl rfl)⟩
  case stop =>
    rintro D c pre W _ _ h _
    exact h.elim

set_option maxHeartbeats 1000000 in
/-- slices.Collect(seq). -/
theorem collect_in (F : Fence) (n : Nat) (h18 : F.fn 18) (h27 : F.fn 27) (hro : F.round = none) (hn : 3 ≤ n) (g : Nat) (lb : Array Value) (hFg : F.fn g) (eg : ∀ args w, (callFunc g args).run Try.prog w = .ok (.enter g args) w)
    (xs : List R3) (Sp : List R3 → Prop) (hlen : xs.length ≤ maxLen) (hbytes : xs.length * 48 ≤ 140737488355328) (w : World)
    (hseq : SeqStopsK F (n - 1 - 1) Try.prog g lb (fun x : R3 => #[aggR x]) (Below w.heap.size) (fun ys => ys = xs) Sp xs.length w) :
    CallsIn F n Try.prog 18 #[.func (.func g) #[] lb] w fun e w' => ∃ v, e = .returned v ∧ w'.ownsRow w.heap.size 42 3 v xs.length (xs.flatMap cellsR) ∧ (v = .slice none 0 0 ↔ xs = []) ∧ Below w.heap.size w w' := by
  have h1 : 1 ≤ n := by omega
  refine callsIn_of_wp Try.func18 rfl h18 ?_ hro
  simp only [Try.ntmps18, List.size_toArray, List.length_cons, List.length_nil, Nat.reduceAdd, Nat.reduceSub, Array.replicate_succ, Array.replicate_zero, List.push_toArray, List.append_toArray, List.nil_append, List.cons_append]
  gi_wp2_with (gi_at_call 27; refine (appendSeq_in F (n - 1) h27 hro (by omega) g lb hFg eg xs Sp hlen hbytes _ hseq).mono ?_; rintro e w' ⟨v, rfl, hrow, hnil, hb⟩)
  go_ret
  exact ⟨v, rfl, hrow, hnil, hb⟩
end Go.Proofs.Qxb6609472a
