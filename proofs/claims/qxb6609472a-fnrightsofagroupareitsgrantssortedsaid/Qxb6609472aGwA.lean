import Derived.Test.Qxb6609472aIter
import Derived.Deep.AppendLies
import Derived.Deep.RegionHeld3
import Derived.Outline
import Derived.Deep.CutRange
import Derived.RangeFuncBox
namespace Go.Proofs.Qxb6609472a
open Go.RowKit

/-- The grants of group j among the first k: role and organisation. -/
def gkUp (names gg rr oo : List ByteArray) (k j : Nat) : List (ByteArray × ByteArray) :=
  (List.range k).filterMap fun i => if gg.getD i ByteArray.empty = names.getD j ByteArray.empty then some (rr.getD i ByteArray.empty, oo.getD i ByteArray.empty) else none

/-- No two of the first k grants are alike. -/
def Apart (gg rr oo : List ByteArray) (k : Nat) : Prop := ∀ i j, i < j → j < k → ¬ (gg.getD i ByteArray.empty = gg.getD j ByteArray.empty ∧ rr.getD i ByteArray.empty = rr.getD j ByteArray.empty ∧ oo.getD i ByteArray.empty = oo.getD j ByteArray.empty)

def GwPost (w : World) (G L : Nat) (names gg rr oo : List ByteArray) (e : Ending) (w' : World) : Prop :=
  Below w.heap.size w w' ∧ (e = .returned (.tuple #[.pointer none, .bool false]) ∨ ∃ bw gb mb gcap, e = .returned (.tuple #[.pointer (some ⟨bw, 0, none⟩), .bool true]) ∧
    GrpW w'.heap.size w' bw gb mb G gcap names (gkUp names gg rr oo L) ∧ Apart gg rr oo L ∧ ∀ i, i < L → ∃ j, j < G ∧ names.getD j ByteArray.empty = gg.getD i ByteArray.empty)

set_option maxRecDepth 8000 in
theorem gw_early (a0 a1 a2 a3 a4 a5 : Option Addr) (l0 l1 l2 l3 l4 l5 c0 c1 c2 c3 c4 c5 : Nat) (w : World) (h : ¬ (l4 = l3 ∧ l5 = l3)) :
    Calls Try.prog 12 #[.slice a0 l0 c0, .slice a1 l1 c1, .slice a2 l2 c2, .slice a3 l3 c3, .slice a4 l4 c4, .slice a5 l5 c5] w fun e w' => e = .returned (.tuple #[.pointer none, .bool false]) ∧ w' = w := by
  by_cases h4 : l4 = l3
  · subst h4
    have h5 : ((l5 : Int) != (l4 : Int)) = true := by simp; omega
    go_enter Try.func12, Try.ntmps12
    go_wp2
    go_ret2
    exact ⟨rfl, rfl⟩
  · have h4' : ((l4 : Int) != (l3 : Int)) = true := by simp; omega
    go_enter Try.func12, Try.ntmps12
    go_wp2
    go_ret2
    exact ⟨rfl, rfl⟩

set_option maxRecDepth 8000 in
theorem gw_early2 (a0 a1 a2 a3 a4 a5 : Option Addr) (l1 l2 l3 c0 c1 c2 c3 c4 c5 : Nat) (w : World) (h : 0 < l1 ∨ 0 < l2) :
    Calls Try.prog 12 #[.slice a0 0 c0, .slice a1 l1 c1, .slice a2 l2 c2, .slice a3 l3 c3, .slice a4 l3 c4, .slice a5 l3 c5] w fun e w' => e = .returned (.tuple #[.pointer none, .bool false]) ∧ w' = w := by
  by_cases h1 : 0 < l1
  · have h1' : (0 : Int) < (l1 : Int) := by omega
    go_enter Try.func12, Try.ntmps12
    go_wp2
    go_ret2
    exact ⟨rfl, rfl⟩
  · have h1' : ¬ (0 : Int) < (l1 : Int) := by omega
    have h2' : (0 : Int) < (l2 : Int) := by omega
    go_enter Try.func12, Try.ntmps12
    go_wp2
    go_ret2
    exact ⟨rfl, rfl⟩

theorem info54 : (Try.prog.info? 54).map (fun i => (i.zero, i.size, i.bytes)) = some (some (.agg #[.string ByteArray.empty, .string ByteArray.empty, .string ByteArray.empty]), 3, 48) := by kernel_rfl
theorem info57 : (Try.prog.info? 57).map (fun i => (i.zero, i.size, i.bytes)) = some (some (.agg #[.string ByteArray.empty, .string ByteArray.empty, .string ByteArray.empty, .bool false, .slice none 0 0]), 5, 80) := by kernel_rfl
theorem info63 : (Try.prog.info? 63).map (fun i => (i.zero, i.size, i.bytes)) = some (some (.agg #[.string ByteArray.empty, .string ByteArray.empty, .string ByteArray.empty, .int .i64 0, .slice none 0 0, .slice none 0 0]), 6, 104) := by kernel_rfl
theorem info65 : (Try.prog.info? 65).map (fun i => (i.zero, i.size, i.bytes)) = some (some (.agg #[.string ByteArray.empty, .string ByteArray.empty]), 2, 32) := by kernel_rfl

theorem own_lt {W : World} {g n : Nat} {t : TypeId} {size : Nat} {xs : List Value} (h : W.ownsRow g t size (.slice (some ⟨g, 0, none⟩) n n) n xs) : g < W.heap.size := by
  rcases h.2 with ⟨h0, _⟩ | ⟨g', cap, cur, e, _, hh, _⟩
  · cases h0
  · simp at e
    obtain ⟨rfl, rfl⟩ := e
    exact (Array.getElem?_eq_some_iff.1 hh).1
theorem idx_lt {W : World} {b k : Nat} {ns : List ByteArray} (h : IdxMap W b k ns) : b < W.heap.size := by
  obtain ⟨f, hm, _⟩ := h
  exact hm.lt
/-- Block g is an array of n elements. -/
def Rw (W : World) (g : Nat) (t : TypeId) (size n : Nat) : Prop := ∃ xs, W.ownsRow g t size (.slice (some ⟨g, 0, none⟩) n n) n xs
theorem Rw.set {W : World} {g : Nat} {t : TypeId} {size n : Nat} (h : Rw W g t size n) (o : Nat) (v : Value) : Rw (W.setCell ⟨g, o, none⟩ v) g t size n := by
  obtain ⟨xs, h⟩ := h
  exact ⟨_, (h.stored _ _).1⟩
theorem Rw.cell {W : World} {g : Nat} {t : TypeId} {size n : Nat} (h : Rw W g t size n) {o : Nat} (ho : o < n * size) : (∃ v, W.cell? ⟨g, o, none⟩ = some v) ∧ W.frozen? ⟨g, o, none⟩ = false := by
  obtain ⟨xs, h⟩ := h
  exact ⟨⟨_, (h.cellAt o ho).trans (List.getElem?_eq_getElem (by rw [h.1]; exact ho))⟩, h.frozenAt _⟩
theorem Rw.drew {W : World} {g : Nat} {t : TypeId} {size n : Nat} (h : Rw W g t size n) : Rw W.drew g t size n := h

theorem sc_same' {w : World} {p : Addr} {u v : Value} (h : w.cell? p = some u) : (w.setCell p v).cell? p = some v := World.cell?_setCell_same' _ _ _ (by rw [h]; rfl)
theorem sc_off' {w : World} {b o o' : Nat} {v : Value} (h : o ≠ o') : (w.setCell ⟨b, o, none⟩ v).cell? ⟨b, o', none⟩ = w.cell? ⟨b, o', none⟩ := World.cell?_setCell_other w _ _ v (fun e => h (congrArg Addr.off e))

/-- The first k groups hold no grant yet. -/
def Gz (W : World) (g k : Nat) : Prop := ∀ j, j < k → W.cell? ⟨g, j * 6 + 4, none⟩ = some (.slice none 0 0)
theorem gz_set {W : World} {g k o : Nat} (v : Value) (h : Gz W g k) (ho : ∀ j, j < k → o ≠ j * 6 + 4) : Gz (W.setCell ⟨g, o, none⟩ v) g k := fun j hj => by rw [sc_off' (ho j hj)]; exact h j hj
theorem gz_put {W : World} {g k : Nat} {u : Value} (h : Gz W g k) (hc : W.cell? ⟨g, k * 6 + 4, none⟩ = some u) : Gz (W.setCell ⟨g, k * 6 + 4, none⟩ (.slice none 0 0)) g (k + 1) := fun j hj => by
  by_cases hjk : j = k
  · subst hjk; exact sc_same' hc
  · rw [sc_off' (by omega)]; exact h j (by omega)
theorem cell_keep {W : World} {g o o' : Nat} {u : Value} (v : Value) (h : W.cell? ⟨g, o, none⟩ = some u) (hne : o' ≠ o) : (W.setCell ⟨g, o', none⟩ v).cell? ⟨g, o, none⟩ = some u := by rw [sc_off' hne]; exact h
theorem gz_drew {W : World} {g k : Nat} (h : Gz W g k) : Gz W.drew g k := fun j hj => h j hj
theorem gz_step {W : World} {g k : Nat} {p4 v0 v1 v2 v3 v5 : Value} (h : Gz W g k) (h4 : W.cell? ⟨g, k * 6 + 4, none⟩ = some p4) :
    Gz ((((((W.setCell ⟨g, k * 6, none⟩ v0).setCell ⟨g, k * 6 + 1, none⟩ v1).setCell ⟨g, k * 6 + 2, none⟩ v2).setCell ⟨g, k * 6 + 3, none⟩ v3).setCell ⟨g, k * 6 + 4, none⟩ (.slice none 0 0)).setCell ⟨g, k * 6 + 5, none⟩ v5).drew g (k + 1) :=
  gz_drew (gz_set v5 (gz_put (gz_set v3 (gz_set v2 (gz_set v1 (gz_set v0 h (by intros; omega)) (by intros; omega)) (by intros; omega)) (by intros; omega)) (cell_keep v3 (cell_keep v2 (cell_keep v1 (cell_keep v0 h4 (by omega)) (by omega)) (by omega)) (by omega))) (by intros; omega))

def cells2 (x : ByteArray × ByteArray) : List Value := [.string x.1, .string x.2]
/-- The key of a grant. -/
def keyV (x y z : ByteArray) : Value := .agg #[.string x, .string y, .string z]
/-- The map says which of the first k grants have come. -/
def Seen (fs : Value → Option Value) (gg rr oo : List ByteArray) (k : Nat) : Prop :=
  (∀ i, i < k → fs (keyV (gg.getD i ByteArray.empty) (rr.getD i ByteArray.empty) (oo.getD i ByteArray.empty)) = some (.bool true)) ∧
  (∀ x y z v, fs (keyV x y z) = some v → v = .bool true)
/-- The groups' grants: each in a row of its own. -/
def GrInv (W : World) (g base l2 : Nat) (gk : Nat → List (ByteArray × ByteArray)) : Prop :=
  Rw W g 63 6 l2 ∧ ∃ vs : Nat → Value, (∀ j, j < l2 → W.cell? ⟨g, j * 6 + 4, none⟩ = some (vs j) ∧ W.ownsRow base 65 2 (vs j) (gk j).length ((gk j).flatMap cells2)) ∧
    (∀ i j, i < l2 → j < l2 → i ≠ j → (vs i).ownBlock = none ∨ (vs i).ownBlock ≠ (vs j).ownBlock)
theorem gkUp_step {names gg rr oo : List ByteArray} {k j : Nat} : gkUp names gg rr oo (k + 1) j = gkUp names gg rr oo k j ++ (if gg.getD k ByteArray.empty = names.getD j ByteArray.empty then [(rr.getD k ByteArray.empty, oo.getD k ByteArray.empty)] else []) := by
  unfold gkUp
  rw [List.range_succ, List.filterMap_append]
  split <;> simp_all
theorem gkUp_len {names gg rr oo : List ByteArray} {k j : Nat} : (gkUp names gg rr oo k j).length ≤ k := by
  have := List.length_filterMap_le (fun i => if gg.getD i ByteArray.empty = names.getD j ByteArray.empty then some (rr.getD i ByteArray.empty, oo.getD i ByteArray.empty) else none) (List.range k)
  simpa [gkUp] using this

theorem own_blk {W : World} {base : Nat} {t : TypeId} {size : Nat} {v : Value} {n : Nat} {xs : List Value} (h : W.ownsRow base t size v n xs) {b : Nat} (hb : v.ownBlock = some b) : base ≤ b ∧ b < W.heap.size := by
  rcases h.2 with ⟨rfl, _⟩ | ⟨g, cap, cur, rfl, hg, hh, _⟩
  · simp [Value.ownBlock] at hb
  · simp [Value.ownBlock] at hb
    subst hb
    exact ⟨hg, (Array.getElem?_eq_some_iff.1 hh).1⟩
theorem own_ne {W : World} {base g : Nat} {t : TypeId} {size : Nat} {v : Value} {n : Nat} {xs : List Value} (h : W.ownsRow base t size v n xs) (hg : g < base) : v.ownBlock ≠ some g := fun e => by
  have := (own_blk h e).1
  omega

theorem grown_set (W : World) (b o : Nat) (v : Value) : W.grownBy (W.setCell ⟨b, o, none⟩ v) (some b) :=
  ⟨rfl, rfl, rfl, (KeepsWalks.setCell W _ v).size, fun k _ hk => Below.heap_setCell _ _ _ k (fun e => hk (by rw [e]))⟩

theorem grInv_step {W w' : World} {g base l2 j0 g' cap : Nat} {gk gk' : Nat → List (ByteArray × ByteArray)} {tmp : Obj} {v : Value} {x : ByteArray × ByteArray}
    (hR : Rw W g 63 6 l2) {vs : Nat → Value} (hvs : ∀ j, j < l2 → W.cell? ⟨g, j * 6 + 4, none⟩ = some (vs j) ∧ W.ownsRow base 65 2 (vs j) (gk j).length ((gk j).flatMap cells2))
    (hds : ∀ i j, i < l2 → j < l2 → i ≠ j → (vs i).ownBlock = none ∨ (vs i).ownBlock ≠ (vs j).ownBlock) (hgb : g < base) (hj0 : j0 < l2) (hv : v = vs j0)
    (hown : w'.ownsRow base 65 2 (.slice (some ⟨g', 0, none⟩) ((gk j0).length + 1) cap) ((gk j0).length + 1) ((gk j0).flatMap cells2 ++ cells2 x)) (hgrow : (W.alloc tmp).grownBy w' v.ownBlock) (hloc : v.ownBlock = some g' ∨ g' = W.heap.size + 1)
    (e0 : gk' j0 = gk j0 ++ [x]) (e1 : ∀ j, j < l2 → j ≠ j0 → gk' j = gk j) :
    GrInv (w'.setCell ⟨g, j0 * 6 + 4, none⟩ (.slice (some ⟨g', 0, none⟩) ((gk j0).length + 1) cap)) g base l2 gk' := by
  subst hv
  have hvg : (vs j0).ownBlock ≠ some g := own_ne (hvs j0 hj0).2 hgb
  have hR1 : Rw w' g 63 6 l2 := by
    obtain ⟨xs, h⟩ := hR
    exact ⟨xs, (h.alloc tmp).kept hgrow (.inr (fun e => hvg (by rw [← e]; rfl)))⟩
  have hcell : ∀ j, j < l2 → w'.cell? ⟨g, j * 6 + 4, none⟩ = some (vs j) := fun j hj => by
    have h1 : (W.alloc tmp).cell? ⟨g, j * 6 + 4, none⟩ = some (vs j) := (World.grownBy_alloc W tmp none).cell (hvs j hj).1 (by simp)
    exact hgrow.cell h1 (fun e => hvg e.symm)
  refine ⟨hR1.set _ _, fun j => if j = j0 then .slice (some ⟨g', 0, none⟩) ((gk j0).length + 1) cap else vs j, fun j hj => ?_, fun i j hi hj hij => ?_⟩
  · by_cases hjj : j = j0
    · subst hjj
      simp only [if_true]
      refine ⟨sc_same' (hcell j hj), ?_⟩
      rw [e0, List.length_append, List.flatMap_append]
      have := hown.kept (grown_set w' g (j * 6 + 4) (.slice (some ⟨g', 0, none⟩) ((gk j).length + 1) cap)) (.inr (own_ne hown hgb))
      simpa using this
    · simp only [if_neg hjj]
      refine ⟨by rw [sc_off' (by omega)]; exact hcell j hj, ?_⟩
      rw [e1 j hj hjj]
      have h1 := ((hvs j hj).2.alloc tmp).kept hgrow (hds j j0 hj hj0 hjj)
      exact h1.kept (grown_set w' g (j0 * 6 + 4) _) (.inr (own_ne h1 hgb))
  · have hfresh : ∀ j, j < l2 → j ≠ j0 → (vs j).ownBlock ≠ some g' := fun j hj hjj e => by
      rcases hloc with h | h
      · rcases hds j j0 hj hj0 hjj with h' | h'
        · rw [h'] at e; cases e
        · exact h' (e.trans h.symm)
      · have := (own_blk (hvs j hj).2 e).2
        omega
    by_cases hi0 : i = j0
    · subst hi0
      have hji : j ≠ i := fun e => hij e.symm
      simp only [if_true, if_neg hji]
      exact .inr (fun e => hfresh j hj hji (by rw [← e]; rfl))
    · by_cases hj0' : j = j0
      · subst hj0'
        simp only [if_true, if_neg hi0]
        exact .inr (fun e => hfresh i hi hi0 (by rw [e]; rfl))
      · simp only [if_neg hi0, if_neg hj0']
        exact hds i j hi hj hij

theorem grInv_kept {W W' : World} {g base l2 : Nat} {gk : Nat → List (ByteArray × ByteArray)} {row : Option Nat} (h : GrInv W g base l2 gk) (hg : W.grownBy W' row) (h1 : some g ≠ row) (h2 : ∀ b, base ≤ b → some b ≠ row) : GrInv W' g base l2 gk := by
  obtain ⟨⟨xs, hr⟩, vs, hvs, hds⟩ := h
  refine ⟨⟨xs, hr.kept hg (.inr h1)⟩, vs, fun j hj => ⟨hg.cell (hvs j hj).1 h1, (hvs j hj).2.kept hg ?_⟩, hds⟩
  cases hb : (vs j).ownBlock with
  | none => exact .inl rfl
  | some b => exact .inr (h2 b (own_blk (hvs j hj).2 hb).1)

open Classical in
/-- One grant more in the map of keys. -/
theorem seen_step {W : World} {sb k : Nat} {fs : Value → Option Value} {gg rr oo : List ByteArray} {x y z : ByteArray} (hm : MapIs 40 4 W sb k fs) (hs : Seen fs gg rr oo k) (hk : k < 65536) (hx : x = gg.getD k ByteArray.empty) (hy : y = rr.getD k ByteArray.empty) (hz : z = oo.getD k ByteArray.empty)
    (zx : x.size ≤ maxLen) (zy : y.size ≤ maxLen) (zz : z.size ≤ maxLen) :
    ∃ W' fs', (Instr.mapUpdate 38 (.map (some sb)) (.agg #[.string x, .string y, .string z]) (.bool true)).run Try.prog W = .ok () W' ∧ MapIs 40 4 W' sb (k + 1) fs' ∧ Seen fs' gg rr oo (k + 1) ∧ W.grownBy W' (some sb) := by
  obtain ⟨W', hrun, hm', hg⟩ := hm.store40 (f' := fun key => if key = .agg #[.string x, .string y, .string z] then some (.bool true) else fs key) (by unfold maxLen; omega) zx zy zz (by simp) (fun key' h => by simp [h])
  refine ⟨W', _, hrun, hm', ⟨fun i hi => ?_, fun a b c v h => ?_⟩, hg⟩
  · by_cases hik : i = k
    · subst hik; rw [← hx, ← hy, ← hz]; simp [keyV]
    · have := hs.1 i (by omega)
      simp only [this]
      split <;> rfl
  · simp only at h
    split at h
    · cases h; rfl
    · exact hs.2 a b c v h
theorem apart_step {fs : Value → Option Value} {gg rr oo : List ByteArray} {k : Nat} (hs : Seen fs gg rr oo k) (ha : Apart gg rr oo k) (hn : fs (keyV (gg.getD k ByteArray.empty) (rr.getD k ByteArray.empty) (oo.getD k ByteArray.empty)) = none) : Apart gg rr oo (k + 1) := by
  intro i j hij hj he
  by_cases hjk : j < k
  · exact ha i j hij hjk he
  · obtain rfl : j = k := by omega
    have := hs.1 i hij
    rw [he.1, he.2.1, he.2.2, hn] at this
    cases this
end Go.Proofs.Qxb6609472a
