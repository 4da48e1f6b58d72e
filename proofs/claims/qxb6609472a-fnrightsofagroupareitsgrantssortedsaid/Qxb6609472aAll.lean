import Derived.Test.Qxb6609472aRights
namespace Go.Proofs.Qxb6609472a
open Go.RowKit Go.Shelf Go.Lib Go.Sort

attribute [local go_sem] Oper.semAt_some

theorem flat_get : ∀ (xs : List R3) (t : Nat), t < xs.length * 3 → (xs.flatMap cellsR)[t]? = some ((cellsR (xs.getD (t / 3) default))[t % 3]!)
  | [], t, h => by simp at h
  | x :: r, t, h => by
    rw [List.flatMap_cons]
    match t, h with
    | 0, _ => rfl
    | 1, _ => rfl
    | 2, _ => rfl
    | t + 3, h =>
      have h' : t < r.length * 3 := by simp at h; omega
      rw [List.getElem?_append_right (by simp [cellsR])]
      have e1 : (t + 3) / 3 = t / 3 + 1 := by omega
      have e2 : (t + 3) % 3 = t % 3 := by omega
      rw [e1, e2]
      have := flat_get r t h'
      simpa [cellsR] using this

theorem holds_of_owns {w : World} {base g cap : Nat} {xs : List R3} (h : w.ownsRow base 42 3 (.slice (some ⟨g, 0, none⟩) xs.length cap) xs.length (xs.flatMap cellsR)) : HoldsK cellsR 3 w g 0 xs.toArray ∧ base ≤ g ∧ g < w.heap.size := by
  have hc := h.cells (g := g) rfl
  rcases h.2 with ⟨h0, _⟩ | ⟨g', cap', cur, hv, hb, hh, _⟩
  · cases h0
  · simp at hv
    obtain ⟨rfl, rfl⟩ := hv
    refine ⟨fun t ht => ?_, hb, (Array.getElem?_eq_some_iff.1 hh).1⟩
    have ht' : t < xs.length * 3 := by simpa using ht
    have h1 := hc t _ (flat_get xs t ht')
    rw [get_flatK _ _ _ _ (by simpa using ht')]
    refine ⟨?_, by simp [World.frozen?, hh]⟩
    have ea : (⟨g, 0, none⟩ : Addr).add t = ⟨g, t, none⟩ := by
      unfold Addr.add
      by_cases h0 : t = 0
      · subst h0; rfl
      · simp [h0]
    rw [ea] at h1
    have eb : xs.getD (t / 3) default = xs.toArray[t / 3]! := by
      rw [List.getD_eq_getElem?_getD, getElem!_pos xs.toArray (t / 3) (by simp; omega), List.getElem?_eq_getElem (by omega)]
      simp
    rw [Nat.zero_add, h1, eb]
    rfl

/-- HeldRights: the receiver and the subject are boxed; the closure captures the boxes. -/
theorem heldRights_any (p : Option Addr) (kd : Int) (id : ByteArray) (w : World) :
    Calls Try.prog 19 #[.pointer p, .agg #[.int .i64 kd, .string id]] w fun e w' => e = .returned (.func (.func 28) #[] #[.pointer (some ⟨w.heap.size + 1, 0, none⟩), .pointer (some ⟨w.heap.size, 0, none⟩)]) ∧ w' = (w.alloc (.cells #[.pointer p] 30)).alloc (.cells #[.int .i64 kd, .string id] 37) := by
  go_enter Try.func19, Try.ntmps19
  go_wp2
  go_ret
  exact ⟨rfl, rfl⟩

theorem GrRow.mono {n₀ n₁ : Nat} {W : World} {v : Value} {xs : List (ByteArray × ByteArray)} (h : GrRow n₀ W v xs) (hn : n₀ ≤ n₁) : GrRow n₁ W v xs := by
  rcases h with h | ⟨b, cap, e, hlt, hc⟩
  · exact .inl h
  · exact .inr ⟨b, cap, e, by omega, hc⟩
theorem GrpW.mono {n₀ n₁ : Nat} {W : World} {bw gb mb G gcap : Nat} {names : List ByteArray} {gs : Nat → List (ByteArray × ByteArray)} (h : GrpW n₀ W bw gb mb G gcap names gs) (hn : n₀ ≤ n₁) (hs : n₁ ≤ W.heap.size) : GrpW n₁ W bw gb mb G gcap names gs :=
  { h with hbw := by have := h.hbw; omega, hgb := by have := h.hgb; omega, hmb := by have := h.hmb; omega, hn := hs, gr := fun j hj => by obtain ⟨v, hv, hr⟩ := h.gr j hj; exact ⟨v, hv, hr.mono hn⟩ }

/-- What Rights gathers for a subject. -/
def Gives (G : Nat) (names : List ByteArray) (gs : Nat → List (ByteArray × ByteArray)) (kd : Int) (id : ByteArray) (xs : List R3) : Prop :=
  (kd ≠ 3 ∧ xs = []) ∨ (kd = 3 ∧ xs = [] ∧ ∀ i, i < G → names.getD i ByteArray.empty ≠ id) ∨ (kd = 3 ∧ ∃ j, j < G ∧ names.getD j ByteArray.empty = id ∧ xs = uptoR (gs j) ByteArray.empty (gs j).length)

theorem held_stops (n : Nat) (w : World) (Bs Bw bw gb mb G gcap : Nat) (names : List ByteArray) (gs : Nat → List (ByteArray × ByteArray)) (kd : Int) (id : ByteArray) (hid : id.size ≤ maxLen) (hg : GrpW w.heap.size w bw gb mb G gcap names gs) (hmx : ∀ j, j < G → (gs j).length ≤ 65536)
    (s0 : w.cell? ⟨Bs, 0, none⟩ = some (.int .i64 kd)) (s1 : w.cell? ⟨Bs, 1, none⟩ = some (.string id)) (b0 : w.cell? ⟨Bw, 0, none⟩ = some (.pointer (some ⟨bw, 0, none⟩))) (hBs : Bs < w.heap.size) (hBw : Bw < w.heap.size) :
    ∃ xs, Gives G names gs kd id xs ∧ xs.length ≤ 65536 ∧ SeqStopsK Fence.wide n Try.prog 28 #[.pointer (some ⟨Bs, 0, none⟩), .pointer (some ⟨Bw, 0, none⟩)] (fun x : R3 => #[aggR x]) (Below w.heap.size) (fun ys => ys = xs) (fun _ => True) xs.length w := by
  by_cases hk : kd = 3
  · subst hk
    obtain ⟨f, hm, hf0, hf1, _⟩ := hg.idx
    cases hf : f (.string id) with
    | none =>
      refine ⟨[], .inr (.inl ⟨rfl, rfl, hf0 id hf⟩), by simp, fun l J Jx W hW hJ hJx hY h0 => ?_⟩
      have hg' := hg.below hW
      exact held_none n l Bs Bw bw gb mb G gcap G id f J Jx W hJ hid ((hW.cell (p := ⟨Bs, 0, none⟩) hBs).trans s0) ((hW.cell (p := ⟨Bs, 1, none⟩) hBs).trans s1) ((hW.cell (p := ⟨Bw, 0, none⟩) hBw).trans b0) hg'.c4 hg'.c10 (hm.below hg.hmb hW) hf h0
    | some v =>
      obtain ⟨j, hj, rfl, hn⟩ := hf1 id v hf
      refine ⟨_, .inr (.inr ⟨rfl, j, hj, hn, rfl⟩), by rw [uptoR_length (Nat.le_refl _)]; exact hmx j hj, fun l J Jx W hW hJ hJx hY h0 => ?_⟩
      have hg' := hg.below hW
      obtain ⟨v, hv, hr⟩ := hg'.gr j hj
      rw [uptoR_length (Nat.le_refl _)] at hY
      exact held_some n l Bs Bw bw gb mb G gcap G j w.heap.size id f v (gs j) J Jx W hJ hid hY ((hW.cell (p := ⟨Bs, 0, none⟩) hBs).trans s0) ((hW.cell (p := ⟨Bs, 1, none⟩) hBs).trans s1) ((hW.cell (p := ⟨Bw, 0, none⟩) hBw).trans b0) hg'.c4 hg'.c10 (hm.below hg.hmb hW) hf hj hW.size hv hr (hmx j hj) h0
  · refine ⟨[], .inl ⟨hk, rfl⟩, by simp, fun l J Jx W hW hJ hJx hY h0 => ?_⟩
    have hg' := hg.below hW
    exact held_other n l Bs Bw bw kd id J Jx W hJ hk hid ((hW.cell (p := ⟨Bs, 0, none⟩) hBs).trans s0) ((hW.cell (p := ⟨Bs, 1, none⟩) hBs).trans s1) ((hW.cell (p := ⟨Bw, 0, none⟩) hBw).trans b0) hg'.c8 hg'.c9 h0

/-- A slice of rights. -/
def RowR (W : World) (a : Option Addr) (ys : List R3) : Prop := 0 < ys.length → ∃ g, a = some ⟨g, 0, none⟩ ∧ ∀ i (h : i < ys.length), W.cell? ⟨g, i * 3, none⟩ = some (.string ys[i].1) ∧ W.cell? ⟨g, i * 3 + 1, none⟩ = some (.string ys[i].2.1) ∧ W.cell? ⟨g, i * 3 + 2, none⟩ = some (.string ys[i].2.2)

def RightsPost (w : World) (G : Nat) (names : List ByteArray) (gs : Nat → List (ByteArray × ByteArray)) (kd : Int) (id : ByteArray) (e : Ending) (w' : World) : Prop :=
  ∃ (xs ys : List R3) (a : Option Addr) (cap : Nat), Gives G names gs kd id xs ∧ xs.length ≤ 65536 ∧ ys.Perm xs ∧ (∀ i j (_ : i < j) (hj : j < ys.length), lexR ys[j] ys[i] = false) ∧ e = .returned (.slice a ys.length cap) ∧ RowR w' a ys ∧ Below w.heap.size w w'

theorem rights_of_sort {W W' : World} {g n : Nat} {os : Array Obj} {xs : List R3} {d : Array R3} (hH : HoldsK cellsR 3 W g 0 xs.toArray) (hg : g < W.heap.size) (hp : PermIn 0 xs.toArray.size xs.toArray d) (hs : SortedIn (ltOf cmpR) 0 xs.toArray.size d) (hW : W' = sortWorldK cellsR 3 W g 0 n d os) :
    ∃ ys : List R3, ys.length = xs.length ∧ ys.Perm xs ∧ (∀ i j (_ : i < j) (hj : j < ys.length), lexR ys[j] ys[i] = false) ∧ RowR W' (some ⟨g, 0, none⟩) ys := by
  have hsz : d.size = xs.length := by simpa using hp.1
  refine ⟨d.toList, by simpa using hsz, ?_, fun i j hij hj => ?_, fun _ => ⟨g, rfl, fun i hi => ?_⟩⟩
  · have := hp.2.2
    have e1 : d.extract 0 xs.toArray.size = d := by simp [← hsz]
    have e2 : xs.toArray.extract 0 xs.toArray.size = xs.toArray := by simp
    rw [e1, e2] at this
    simpa using this
  · have := hs i j (Nat.zero_le _) hij (by simpa [← hsz] using hj)
    rw [ltR_eq, getElem!_pos d j (by simpa using hj), getElem!_pos d i (by simp at hj; omega)] at this
    simpa using this
  · have hH' : HoldsK cellsR 3 W' g 0 d := by rw [hW]; exact holdsK_sortWorldK cellsR 3 W g 0 n xs.toArray d os hg hH (by simpa using hsz)
    have hi' : i < d.size := by simpa using hi
    have e0 : d[i]! = d.toList[i] := by rw [getElem!_pos d i hi']; simp
    have c0 := (hH'.cell hi' (show 0 < 3 by omega)).1
    have c1 := (hH'.cell hi' (show 1 < 3 by omega)).1
    have c2 := (hH'.cell hi' (show 2 < 3 by omega)).1
    rw [e0] at c0 c1 c2
    simp only [Nat.zero_add, Nat.add_zero] at c0 c1 c2
    exact ⟨c0, c1, c2⟩

theorem enters28 : ∀ args w, (callFunc 28 args).run Try.prog w = .ok (.enter 28 args) w := enters_of Try.func28 (by kernel_rfl) rfl

/-- What the gathering and the sort come to. -/
def ColPost (w : World) (G : Nat) (names : List ByteArray) (gs : Nat → List (ByteArray × ByteArray)) (kd : Int) (id : ByteArray) (e : Ending) (w4 : World) : Prop :=
  (e = .returned (.slice none 0 0) ∧ RightsPost w G names gs kd id (.returned (.slice none 0 0)) w4) ∨
  ∃ g len cap, e = .returned (.slice (some ⟨g, 0, none⟩) len cap) ∧ Calls Try.prog 20 #[.slice (some ⟨g, 0, none⟩) len cap, .func (.func 21) #[] #[]] w4 fun e w5 => e = .returned (.tuple #[]) ∧ RightsPost w G names gs kd id (.returned (.slice (some ⟨g, 0, none⟩) len cap)) w5

theorem box2_cell (X : World) (t : TypeId) (a b : Value) : (X.alloc (.cells #[a, b] t)).cell? ⟨X.heap.size, 0, none⟩ = some a ∧ (X.alloc (.cells #[a, b] t)).cell? ⟨X.heap.size, 1, none⟩ = some b := by
  have h := World.alloc_heap_new X (.cells #[a, b] t)
  constructor <;> (simp only [World.cell?, h]; rfl)
theorem box1_cell (X : World) (t : TypeId) (a : Value) : (X.alloc (.cells #[a] t)).cell? ⟨X.heap.size, 0, none⟩ = some a := by
  have h := World.alloc_heap_new X (.cells #[a] t)
  simp only [World.cell?, h]; rfl

theorem collect_any (w w3 : World) (Bs Bw bw gb mb G gcap : Nat) (names : List ByteArray) (gs : Nat → List (ByteArray × ByteArray)) (kd : Int) (id : ByteArray) (hid : id.size ≤ maxLen) (hb3 : Below w.heap.size w w3) (hg3 : GrpW w3.heap.size w3 bw gb mb G gcap names gs) (hmx : ∀ j, j < G → (gs j).length ≤ 65536)
    (s0 : w3.cell? ⟨Bs, 0, none⟩ = some (.int .i64 kd)) (s1 : w3.cell? ⟨Bs, 1, none⟩ = some (.string id)) (b0 : w3.cell? ⟨Bw, 0, none⟩ = some (.pointer (some ⟨bw, 0, none⟩))) (hBs : Bs < w3.heap.size) (hBw : Bw < w3.heap.size) :
    Calls Try.prog 18 #[.func (.func 28) #[] #[.pointer (some ⟨Bs, 0, none⟩), .pointer (some ⟨Bw, 0, none⟩)]] w3 (ColPost w G names gs kd id) := by
  obtain ⟨xs, hgv, hlx, hseq⟩ := held_stops (3 - 1 - 1) w3 Bs Bw bw gb mb G gcap names gs kd id hid hg3 hmx s0 s1 b0 hBs hBw
  have hcol := callsIn_wide.1 (collect_in Fence.wide 3 trivial trivial rfl (by omega) 28 #[.pointer (some ⟨Bs, 0, none⟩), .pointer (some ⟨Bw, 0, none⟩)] trivial enters28 xs _ (by unfold maxLen; omega) (by omega) w3 hseq)
  refine hcol.mono ?_
  rintro e w4 ⟨v, rfl, hrow, hnil, hb4⟩
  have hs3 := hb3.size
  have hB : Below w.heap.size w w4 := hb3.trans (hb4.mono (by omega))
  by_cases hx : xs = []
  · left
    obtain rfl := hnil.2 hx
    exact ⟨rfl, xs, [], none, 0, hgv, hlx, by rw [hx], fun i j _ hj => by simp at hj, rfl, fun h => by simp at h, hB⟩
  · right
    obtain ⟨g, cap, rfl⟩ : ∃ g cap, v = .slice (some ⟨g, 0, none⟩) xs.length cap := by
      rcases hrow.2 with ⟨_, h0⟩ | ⟨g, cap, _, rfl, _⟩
      · exact absurd (List.length_eq_zero_iff.1 h0) hx
      · exact ⟨g, cap, rfl⟩
    obtain ⟨hH, hbg, hgl⟩ := holds_of_owns hrow
    refine ⟨g, _, cap, rfl, ?_⟩
    have hsort := sort_any g 0 cap xs.toArray w4 hH hgl (by simp; omega)
    simp only [List.size_toArray] at hsort
    refine hsort.mono ?_
    rintro e w5 ⟨rfl, d, n, os, hp, hs, hw5⟩
    obtain ⟨ys, hyl, hyp, hys, hyr⟩ := rights_of_sort hH hgl (by simpa using hp) (by simpa using hs) hw5
    refine ⟨rfl, xs, ys, _, cap, hgv, hlx, hyp, hys, by rw [hyl], hyr, hB.trans ?_⟩
    rw [hw5]
    exact below_sort (by omega) (by omega)

set_option maxHeartbeats 1000000 in
theorem rights_any (w : World) (bw gb mb G gcap : Nat) (names : List ByteArray) (gs : Nat → List (ByteArray × ByteArray)) (kd : Int) (id : ByteArray) (hid : id.size ≤ maxLen) (hg : GrpW w.heap.size w bw gb mb G gcap names gs) (hmx : ∀ j, j < G → (gs j).length ≤ 65536) :
    Calls Try.prog 13 #[.pointer (some ⟨bw, 0, none⟩), .agg #[.int .i64 kd, .string id]] w (RightsPost w G names gs kd id) := by
  have HC : Hid (Calls Try.prog 18 #[.func (.func 28) #[] #[.pointer (some ⟨w.heap.size + 1 + 1, 0, none⟩), .pointer (some ⟨w.heap.size + 1, 0, none⟩)]] (((w.alloc (.cells #[.int .i64 kd, .string id] 37)).alloc (.cells #[.pointer (some ⟨bw, 0, none⟩)] 30)).alloc (.cells #[.int .i64 kd, .string id] 37)) (ColPost w G names gs kd id)) := by
    have hb3 : RowKit.Below w.heap.size w (((w.alloc (.cells #[.int .i64 kd, .string id] 37)).alloc (.cells #[.pointer (some ⟨bw, 0, none⟩)] 30)).alloc (.cells #[.int .i64 kd, .string id] 37)) := (((Below.refl _ w).alloc (Nat.le_refl _) _).alloc (by simp) _).alloc (by simp; omega) _
    have e1 := box1_cell (w.alloc (.cells #[.int .i64 kd, .string id] 37)) 30 (.pointer (some ⟨bw, 0, none⟩))
    have e2 := box2_cell ((w.alloc (.cells #[.int .i64 kd, .string id] 37)).alloc (.cells #[.pointer (some ⟨bw, 0, none⟩)] 30)) 37 (.int .i64 kd) (.string id)
    simp only [World.size_alloc] at e1 e2
    exact collect_any w _ (w.heap.size + 1 + 1) (w.heap.size + 1) bw gb mb G gcap names gs kd id hid hb3 ((hg.below hb3).mono hb3.size (Nat.le_refl _)) hmx e2.1 e2.2 (by rw [World.cell?_alloc_lt _ _ _ (by simp)]; exact e1) (by simp) (by simp only [World.size_alloc]; omega)
  clear hg hmx
  go_enter Try.func13, Try.ntmps13
  go_wp2_with (first
    | (go_at_call 19; refine (heldRights_any _ _ _ _).mono ?_; rintro e w' ⟨rfl, rfl⟩)
    | (go_at_call 18; refine HC.out.mono ?_; rintro e w' (⟨rfl, hR⟩ | ⟨g, len, cap, rfl, hC⟩))
    | (go_at_call_of 20 (Value.slice none 0 0); refine (sort_none _ _ _ _).mono ?_; rintro e w' ⟨rfl, rfl⟩)
    | (go_at_call 20; refine hC.mono ?_; rintro e w' ⟨rfl, hR⟩))
  · go_ret
    exact hR
  · go_ret
    exact hR
end Go.Proofs.Qxb6609472a
