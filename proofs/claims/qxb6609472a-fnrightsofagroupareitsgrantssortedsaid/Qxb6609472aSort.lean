import Derived.Test.Qxb6609472aSeq
import Derived.Sort.Walk0
import Derived.Shelf.SlSortCmp.NoneTotal
import Derived.Shelf.Lay
import Derived.Ground.SlsfProg
namespace Go.Proofs.Qxb6609472a
open Go.RowKit Go.Shelf Go.Lib Go.Sort

shelf_lay_g SlLaysF0.n6 Slsf 6 at Try 20 as sortR

theorem bl_irrefl (x : List UInt8) : Op.bytesLess x x = false := by rw [bytesLess_eq]; exact swo_ltStr.irrefl x
theorem bl_trans {x y z : List UInt8} (h1 : Op.bytesLess x y = true) (h2 : Op.bytesLess y z = true) : Op.bytesLess x z = true := by rw [bytesLess_eq] at *; exact swo_ltStr.trans x y z h1 h2
theorem bl_tri {x y : List UInt8} (h1 : Op.bytesLess x y = false) (h2 : Op.bytesLess y x = false) : x = y := by
  rw [bytesLess_eq] at h1 h2
  simp at h1 h2
  exact List.le_antisymm h2 h1

/-- The lexical order on three strings. -/
def lexR (x y : R3) : Bool := Op.bytesLess x.1.toList y.1.toList || (x.1.toList == y.1.toList && (Op.bytesLess x.2.1.toList y.2.1.toList || (x.2.1.toList == y.2.1.toList && Op.bytesLess x.2.2.toList y.2.2.toList)))

theorem cmpS_cases (a b : ByteArray) : (cmpS a b = -1 ∧ Op.bytesLess a.toList b.toList = true) ∨ (cmpS a b = 1 ∧ Op.bytesLess a.toList b.toList = false ∧ (a.toList == b.toList) = false) ∨ (cmpS a b = 0 ∧ Op.bytesLess a.toList b.toList = false ∧ (a.toList == b.toList) = true) := by
  unfold cmpS
  cases h : Op.bytesLess a.toList b.toList
  · cases h2 : (a.toList == b.toList) <;> simp
  · simp

theorem ltR_eq (x y : R3) : ltOf cmpR x y = lexR x y := by
  unfold ltOf cmpR lexR or3
  rcases cmpS_cases x.1 y.1 with ⟨e1, h1⟩ | ⟨e1, h1, q1⟩ | ⟨e1, h1, q1⟩
  · simp [e1, h1]
  · simp only [e1, h1, q1]; simp
  · simp only [e1, h1, q1]
    rcases cmpS_cases x.2.1 y.2.1 with ⟨e2, h2⟩ | ⟨e2, h2, q2⟩ | ⟨e2, h2, q2⟩
    · simp [e2, h2]
    · simp only [e2, h2, q2]; simp
    · simp only [e2, h2, q2]
      rcases cmpS_cases x.2.2 y.2.2 with ⟨e3, h3⟩ | ⟨e3, h3, q3⟩ | ⟨e3, h3, q3⟩ <;> simp [e3, h3]

theorem bl_asym {x y : List UInt8} (h : Op.bytesLess x y = true) : Op.bytesLess y x = false := by
  cases h2 : Op.bytesLess y x
  · rfl
  · have := bl_trans h h2; rw [bl_irrefl] at this; cases this

theorem lex_trans {x y z : R3} (h1 : lexR x y = true) (h2 : lexR y z = true) : lexR x z = true := by
  simp only [lexR, Bool.or_eq_true, Bool.and_eq_true, beq_iff_eq] at *
  rcases h1 with h1 | ⟨e1, h1⟩ <;> rcases h2 with h2 | ⟨e2, h2⟩
  · exact .inl (bl_trans h1 h2)
  · rw [← e2]; exact .inl h1
  · rw [e1]; exact .inl h2
  · refine .inr ⟨e1.trans e2, ?_⟩
    rcases h1 with h1 | ⟨e3, h1⟩ <;> rcases h2 with h2 | ⟨e4, h2⟩
    · exact .inl (bl_trans h1 h2)
    · rw [← e4]; exact .inl h1
    · rw [e3]; exact .inl h2
    · exact .inr ⟨e3.trans e4, bl_trans h1 h2⟩
theorem lex_irrefl (x : R3) : lexR x x = false := by simp [lexR, bl_irrefl]
theorem toList_inj {a b : ByteArray} (h : a.toList = b.toList) : a = b := by
  rw [Lib.toList_data, Lib.toList_data] at h
  exact ByteArray.ext (by simpa using h)
theorem lex_tri {x y : R3} (h1 : lexR x y = false) (h2 : lexR y x = false) : x = y := by
  simp only [lexR, Bool.or_eq_false_iff, Bool.and_eq_false_iff] at h1 h2
  have e1 := bl_tri h1.1 h2.1
  rw [e1] at h1 h2
  simp at h1 h2
  have e2 := bl_tri h1.2.1 h2.2.1
  rw [e2] at h1 h2
  simp at h1 h2
  have e3 := bl_tri h1.2.2 h2.2.2
  exact Prod.ext (toList_inj e1) (Prod.ext (toList_inj e2) (toList_inj e3))

theorem swoR : SWO (ltOf cmpR) where
  irrefl x := by rw [ltR_eq]; exact lex_irrefl x
  trans x y z h1 h2 := by rw [ltR_eq] at *; exact lex_trans h1 h2
  ntrans x y z h1 h2 := by
    rw [ltR_eq] at *
    cases h3 : lexR x z
    · rfl
    · cases h4 : lexR y x
      · rw [lex_tri h1 h4] at h3; rw [h2] at h3; cases h3
      · rw [lex_trans h4 h3] at h2; cases h2

theorem grow3 (W : World) (a b c : Obj) : (((W.alloc a).alloc b).alloc c).drew = grow (W.drewN 1) #[a, b, c] := by
  rw [alloc_eq_grow, alloc_eq_grow, alloc_eq_grow, grow_grow, grow_grow]; rfl

theorem cmpLays21 (blk off size : Nat) (w : World) : CmpLays Try.prog 21 #[] cellsR 3 cmpR blk off size w :=
  fun _ _ _ _ x y => (closure21 x.1 x.2.1 x.2.2 y.1 y.2.1 y.2.2 _).mono fun _ _ h => ⟨h.1, 1, _, h.2.trans (grow3 _ _ _ _)⟩

theorem isAgg42 (w : World) : (isAgg 42).run Try.prog w = .ok true w := by kernel_rfl
theorem sizeOf42 (w : World) : (Go.sizeOf 42).run Try.prog w = .ok 3 w := by kernel_rfl

/-- slices.SortFunc over rights. -/
theorem sort_any (blk off cap : Nat) (d : Array R3) (w : World) (hH : HoldsK cellsR 3 w blk off d) (hblk : blk < w.heap.size) (hsz : d.size < 4611686018427387904) :
    Calls Try.prog 20 #[.slice (some ⟨blk, off, none⟩) d.size cap, .func (.func 21) #[] #[]] w fun e w' => e = .returned (.tuple #[]) ∧ ∃ d' n os, PermIn 0 d.size d d' ∧ SortedIn (ltOf cmpR) 0 d.size d' ∧ w' = sortWorldK cellsR 3 w blk off n d' os :=
  AnyQ.slices_SortFunc sortR 3 isAgg42 sizeOf42 cellsR (fun _ => rfl) (fun x v hv => by simp [cellsR] at hv; rcases hv with rfl | rfl | rfl <;> rfl) cmpR swoR 21 #[] blk off cap d w (enters_of Try.func21 (by kernel_rfl) rfl) (cmpLays21 blk off d.size w) hH hblk hsz
theorem sort_none (p : Option Addr) (cap : Nat) (fv : Value) (w : World) : Calls Try.prog 20 #[.slice p 0 cap, fv] w fun e w' => e = .returned (.tuple #[]) ∧ w' = w := AnyF.slices_SortFunc_none sortR p cap fv w

theorem below_sort {n₀ : Nat} {blk off n : Nat} {d : Array R3} {os : Array Obj} {w : World} (h : n₀ ≤ blk) (hs : n₀ ≤ w.heap.size) : Below n₀ w (sortWorldK cellsR 3 w blk off n d os) := by
  refine ⟨rfl, rfl, rfl, size_sortWorldK_c _ _ _ _ _ _ _ _, fun k hk => ?_⟩
  show ((w.heap.modify blk _) ++ os)[k]? = _
  rw [Array.getElem?_append_left (by rw [Array.size_modify]; omega), Array.getElem?_modify, if_neg (by omega)]
end Go.Proofs.Qxb6609472a
