import Derived.Test.Qxb6609472aStrs
import Derived.Maps.Own
import Derived.Maps.OwnOps
import Derived.Maps.Views
import Derived.DeepKeys4
namespace Go.Proofs.Qxb6609472a
open Go.RowKit Go.Maps

/-- Block b is a map of at most n entries; f says what lies at a key. -/
def MapIs (k e : TypeId) (W : World) (b n : Nat) (f : Value → Option Value) : Prop :=
  ∃ D : DataW Unit, W.ownsMap Try.prog k (plainElem Try.prog e) b n D ∧ IsMap D ∧ ∀ key kl, keyOf Try.prog k key = some kl →
    (f key = none → ∀ z, D.atKey kl z = z) ∧ (∀ v, f key = some v → ∃ d, plainElem (H := Unit) Try.prog e v = some (d, []) ∧ ∀ z, D.atKey kl z = d)

theorem plainElem_inj {P : Program} {e : TypeId} {v v' : Value} {z : DataW Unit × List MemPlace} (h : plainElem P e v = some z) (h' : plainElem P e v' = some z) : v = v' := by
  unfold plainElem at h h'
  cases hu : P.underlying e with
  | none => rw [hu] at h; cases v <;> simp at h
  | some u =>
    rw [hu] at h h'
    cases u <;> cases v <;> simp at h <;> cases v' <;> simp at h'
    all_goals try (obtain ⟨_, rfl⟩ := h)
    all_goals try subst h
    all_goals try simp_all
    exact ByteArray.ext h'.2.symm
theorem MapIs.lt {k e : TypeId} {W : World} {b n : Nat} {f : Value → Option Value} (h : MapIs k e W b n f) : b < W.heap.size := by
  obtain ⟨D, ho, _⟩ := h
  exact ho.lt
theorem MapIs.kept {k e : TypeId} {W W' : World} {row : Option Nat} {b n : Nat} {f : Value → Option Value} (h : MapIs k e W b n f) (hg : W.grownBy W' row) (hne : some b ≠ row) : MapIs k e W' b n f := by
  obtain ⟨D, ho, r⟩ := h
  exact ⟨D, ho.kept hg hne, r⟩
theorem MapIs.below {k e : TypeId} {W W' : World} {b n : Nat} {f : Value → Option Value} (h : MapIs k e W b n f) {B : Nat} (hB : b < B) (hb : Below B W W') : MapIs k e W' b n f := by
  obtain ⟨D, ho, r⟩ := h
  obtain ⟨es, clock, hh, F, hs, hD⟩ := ho
  exact ⟨D, ⟨es, clock, (hb.block b hB).trans hh, F, hs, hD⟩, r⟩
theorem MapIs.made (k e : TypeId) (w : World) : MapIs k e (w.alloc (.map #[] 0)) w.heap.size 0 (fun _ => none) :=
  ⟨.map [], World.ownsMap_made _ _ _ _, ⟨_, rfl⟩, fun _ _ _ => ⟨fun _ _ => rfl, fun _ h => by cases h⟩⟩

theorem atAll_ne {d : DataW Unit} (h : ∀ z : DataW Unit, z = d) : False := by
  have h1 := h .nil
  have h2 := h (.lit (.bool true))
  rw [← h1] at h2
  cases h2

theorem MapIs.look {t k e : TypeId} {W : World} {b n : Nat} {f : Value → Option Value} (h : MapIs k e W b n f) (K : Keyed Try.prog k) (ht : Try.prog.underlying t = some (.map k e)) {z : Value} (hz : (zeroValue e).run Try.prog W = .ok z W)
    {key : Value} {kl : Lit} (hkey : keyOf Try.prog k key = some kl) (c : Bool) :
    (Instr.lookup t (.map (some b)) key c).run Try.prog W = .ok (if c then .tuple #[(f key).getD z, .bool (f key).isSome] else (f key).getD z) W := by
  obtain ⟨D, ho, hm, hf⟩ := h
  obtain ⟨h0, h1⟩ := hf key kl hkey
  obtain ⟨es, clock, hb, F, _, rfl⟩ := ho
  rcases fit_look c K ht hz hb F hkey with ⟨hrun, _, hat⟩ | ⟨e0, y, _, _, hrun, hRv, hat, _⟩
  · cases hfk : f key with
    | none => rw [hrun]; cases c <;> rfl
    | some v =>
      obtain ⟨d, _, hd⟩ := h1 v hfk
      exact (atAll_ne (fun z => (hat z).symm.trans (hd z))).elim
  · cases hfk : f key with
    | none => exact (atAll_ne (fun z => ((h0 hfk z).symm.trans (hat z)))).elim
    | some v =>
      obtain ⟨d, hpv, hd⟩ := h1 v hfk
      have e1 : y.1 = d := (hat .nil).symm.trans (hd .nil)
      have e2 : y = (d, []) := Prod.ext e1 (plainElem_places hRv)
      rw [e2] at hRv
      rw [hrun, plainElem_inj hRv hpv]
      cases c <;> rfl

theorem MapIs.store {t k e : TypeId} {W : World} {b n : Nat} {f f' : Value → Option Value} (h : MapIs k e W b n f) (K : Keyed Try.prog k) (ht : Try.prog.underlying t = some (.map k e)) (hn : n < maxLen)
    {key val : Value} {kl : Lit} (hkey : keyOf Try.prog k key = some kl) {d : DataW Unit} (hv : plainElem Try.prog e val = some (d, [])) (hs : f' key = some val) (ho : ∀ key', key' ≠ key → f' key' = f key') :
    ∃ W', (Instr.mapUpdate t (.map (some b)) key val).run Try.prog W = .ok () W' ∧ MapIs k e W' b (n + 1) f' ∧ W.grownBy W' (some b) := by
  obtain ⟨D, hown, hm, hf⟩ := h
  obtain ⟨W', hrun, hown', hg⟩ := hown.update K ht hn hkey hv
  refine ⟨W', hrun, ⟨D.put kl d, hown', ?_, fun key' kl' hk' => ?_⟩, hg⟩
  · obtain ⟨es, rfl⟩ := hm
    exact ⟨_, rfl⟩
  · by_cases hkk : key' = key
    · subst hkk
      obtain rfl : kl' = kl := by rw [hkey] at hk'; cases hk'; rfl
      refine ⟨fun h => (by rw [hs] at h; cases h), fun v h => ?_⟩
      rw [hs] at h
      cases h
      exact ⟨d, hv, fun z => atKey_put_same hm (K.key hkey) d z⟩
    · have hne : kl' ≠ kl := fun e => hkk (K.inj hk' (e ▸ hkey))
      rw [ho key' hkk]
      obtain ⟨h0, h1⟩ := hf key' kl' hk'
      refine ⟨fun h z => by rw [atKey_put_other hne, h0 h z], fun v h => ?_⟩
      obtain ⟨d', hp, hd'⟩ := h1 v h
      exact ⟨d', hp, fun z => by rw [atKey_put_other hne, hd' z]⟩

/-! ### the two kinds of map -/
theorem law9 : Keyed Try.prog 9 := string_keyed Try.underlying9
theorem zero3 (w : World) : (zeroValue 3).run Try.prog w = .ok (.int .i64 0) w := by kernel_rfl
theorem zero4 (w : World) : (zeroValue 4).run Try.prog w = .ok (.bool false) w := by kernel_rfl
theorem laidOut : laidOutB Try.prog = true := by kernel_rfl
theorem row40 : (40 : TypeId) < Try.prog.types.size := of_decide_eq_true (by kernel_rfl)
theorem wide40 : (match Try.prog.underlying 40 with | some (.array _ _) | some (.struct _) => true | _ => false) = true := by kernel_rfl
theorem deep40 : Try.prog.keyTypeAt 2 40 = true := by kernel_rfl
theorem law40 : Keyed Try.prog 40 := Keyed.of_law (deep_law_laid laidOut (m := 2) (by omega) row40 deep40 (by rw [Try.underlying40]))
theorem key9 {s : ByteArray} (hs : s.size ≤ maxLen) : keyOf Try.prog 9 (.string s) = some (.string s.data.toList) := WideMaps.keyOf_string_mk Try.underlying9 hs
theorem keyType40 : Try.prog.keyType 40 = true := by kernel_rfl
theorem cells40 : Try.prog.cellsOf 40 = 3 := by kernel_rfl
theorem cells9 : Try.prog.cellsOf 9 = 1 := by kernel_rfl
theorem size_types : ∃ n, Try.prog.types.size = n + 1 := ⟨_, rfl⟩
theorem key40 {a b c : ByteArray} (ha : a.size ≤ maxLen) (hb : b.size ≤ maxLen) (hc : c.size ≤ maxLen) : ∃ kl, keyOf Try.prog 40 (.agg #[.string a, .string b, .string c]) = some kl := by
  have hf : Value.formed Try.prog 40 (.agg #[.string a, .string b, .string c]) = true := by simp [Value.formed, Try.underlying40, cells40]
  unfold keyOf
  rw [Try.underlying40]
  simp only [keyType40, hf, Bool.and_self, if_true]
  obtain ⟨n, hn⟩ := size_types
  rw [hn]
  simp [Program.keyLits, Try.underlying40, cells40, cells9, Try.underlying9, Value.cells, ha, hb, hc]

/-- m[s], with ok. -/
theorem MapIs.look9 {W : World} {b n : Nat} {f : Value → Option Value} (h : MapIs 9 3 W b n f) {s : ByteArray} (hs : s.size ≤ maxLen) :
    (Instr.lookup 49 (.map (some b)) (.string s) true).run Try.prog W = .ok (.tuple #[(f (.string s)).getD (.int .i64 0), .bool (f (.string s)).isSome]) W :=
  h.look law9 Try.underlying49 (zero3 W) (key9 hs) true
theorem MapIs.look40 {W : World} {b n : Nat} {f : Value → Option Value} (h : MapIs 40 4 W b n f) {x y z : ByteArray} (hx : x.size ≤ maxLen) (hy : y.size ≤ maxLen) (hz : z.size ≤ maxLen) :
    (Instr.lookup 38 (.map (some b)) (.agg #[.string x, .string y, .string z]) false).run Try.prog W = .ok ((f (.agg #[.string x, .string y, .string z])).getD (.bool false)) W := by
  obtain ⟨kl, hkl⟩ := key40 hx hy hz
  exact h.look law40 Try.underlying38 (zero4 W) hkl false
/-- m[s] = i. -/
theorem MapIs.store9 {W : World} {b n : Nat} {f f' : Value → Option Value} (h : MapIs 9 3 W b n f) (hn : n < maxLen) {s : ByteArray} (hs : s.size ≤ maxLen) {i : Int} (hi : (Lit.int .i64 i).wf = true) (h1 : f' (.string s) = some (.int .i64 i)) (h2 : ∀ key', key' ≠ .string s → f' key' = f key') :
    ∃ W', (Instr.mapUpdate 49 (.map (some b)) (.string s) (.int .i64 i)).run Try.prog W = .ok () W' ∧ MapIs 9 3 W' b (n + 1) f' ∧ W.grownBy W' (some b) :=
  h.store law9 Try.underlying49 hn (key9 hs) (plainElem_int Try.underlying3 hi) h1 h2
theorem MapIs.store40 {W : World} {b n : Nat} {f f' : Value → Option Value} (h : MapIs 40 4 W b n f) (hn : n < maxLen) {x y z : ByteArray} (hx : x.size ≤ maxLen) (hy : y.size ≤ maxLen) (hz : z.size ≤ maxLen) (h1 : f' (.agg #[.string x, .string y, .string z]) = some (.bool true)) (h2 : ∀ key', key' ≠ .agg #[.string x, .string y, .string z] → f' key' = f key') :
    ∃ W', (Instr.mapUpdate 38 (.map (some b)) (.agg #[.string x, .string y, .string z]) (.bool true)).run Try.prog W = .ok () W' ∧ MapIs 40 4 W' b (n + 1) f' ∧ W.grownBy W' (some b) := by
  obtain ⟨kl, hkl⟩ := key40 hx hy hz
  exact h.store law40 Try.underlying38 hn hkl (plainElem_bool Try.underlying4 true) h1 h2
end Go.Proofs.Qxb6609472a
