import Derived.Test.Qxb6609510aLog
import Derived.Outline
namespace Go.Proofs.Qxb6609510a
open Go.RowKit

theorem cell_new {W : World} {c : Array Value} {t : TypeId} {i n : Nat} (hn : n = W.heap.size) : (W.alloc (.cells c t)).cell? ⟨n, i, none⟩ = c[i]? := by
  subst hn
  exact World.cell?_alloc_new W c t i
theorem frozen_new {W : World} {c : Array Value} {t : TypeId} {i n : Nat} (hn : n = W.heap.size) : (W.alloc (.cells c t)).frozen? ⟨n, i, none⟩ = false := by
  subst hn
  simp
theorem frozen_old {W : World} {o : Obj} {i n : Nat} (hn : n < W.heap.size) : (W.alloc o).frozen? ⟨n, i, none⟩ = W.frozen? ⟨n, i, none⟩ :=
  ((Below.refl W.heap.size W).alloc (Nat.le_refl _) o).frozen (p := ⟨n, i, none⟩) hn
theorem cell_old {W : World} {o : Obj} {i n : Nat} (hn : n < W.heap.size) : (W.alloc o).cell? ⟨n, i, none⟩ = W.cell? ⟨n, i, none⟩ :=
  ((Below.refl W.heap.size W).alloc (Nat.le_refl _) o).cell (p := ⟨n, i, none⟩) hn

theorem assert9 (s : ByteArray) (w : World) : (Instr.typeAssert (.iface 9 (.string s)) 20 9 true).run Try.prog w = .ok (.tuple #[.string s, .bool true]) w := by kernel_rfl
theorem assert29 (s0 s1 s2 s3 s4 s5 : ByteArray) (w : World) : (Instr.typeAssert (.iface 29 (.agg #[.string s0, .string s1, .string s2, .string s3, .string s4, .string s5])) 20 29 true).run Try.prog w = .ok (.tuple #[.agg #[.string s0, .string s1, .string s2, .string s3, .string s4, .string s5], .bool true]) w := by kernel_rfl

set_option maxHeartbeats 1000000 in
set_option maxRecDepth 8000 in
theorem zzLog_any (m p u : ByteArray) (a : Option Addr) (len cap : Nat) (p0 p1 p2 p3 p4 p5 : ByteArray) (w : World) (hm : m.size ≤ maxLen) (hp : p.size ≤ maxLen) (hn : p4.size ≤ maxLen) :
    Calls Try.prog 11 #[.string m, .string p, .string u, .slice a len cap, .agg #[.string p0, .string p1, .string p2, .string p3, .string p4, .string p5]] w fun e w' =>
      e = .returned (.tuple #[.int .i64 8, .string kMethod, .string (cutF m), .string kPath, .string (cutF p), .string kUser, .string u, .string kPerm, .agg #[.string p0, .string p1, .string p2, .string p3, .string (cutF p4), .string p5]]) ∧ Below w.heap.size w w' := by
  go_enter Try.func11, Try.ntmps11
  go_wp2_with fail
  refine (logRequest_any (w.heap.size + 1 + 1 + 1) (w.heap.size + 1 + 1) m p u _ p0 p1 p2 p3 p4 p5 _ hm hp hn ?k0 ?k1 ?k2).mono ?_
  case k0 => exact cell_new (by simp)
  case k1 => exact cell_new (by simp)
  case k2 => rw [cell_old (by simp)]; exact cell_new (by simp)
  rintro e w1 ⟨g, rfl, hb1, hg, hblk⟩
  have hs1 := hb1.size
  have HB : Hid (Below w.heap.size w w1) := by
    refine Below.trans ?_ (hb1.mono (by simp; omega))
    exact ((((Below.refl _ _).alloc (Nat.le_refl _) _).alloc (by simp) _).alloc (by simp; omega) _).alloc (by simp; omega) _
  have g0 : w1.cell? ⟨g, 0, none⟩ = some (.iface 9 (.string kMethod)) := by rw [cell_of_row w1 g 0 _ 20 (0, 0) hblk]; rfl
  have g1 : w1.cell? ⟨g, 1, none⟩ = some (.iface 9 (.string (cutF m))) := by rw [cell_of_row w1 g 1 _ 20 (0, 0) hblk]; rfl
  have g2 : w1.cell? ⟨g, 2, none⟩ = some (.iface 9 (.string kPath)) := by rw [cell_of_row w1 g 2 _ 20 (0, 0) hblk]; rfl
  have g3 : w1.cell? ⟨g, 3, none⟩ = some (.iface 9 (.string (cutF p))) := by rw [cell_of_row w1 g 3 _ 20 (0, 0) hblk]; rfl
  have g4 : w1.cell? ⟨g, 4, none⟩ = some (.iface 9 (.string kUser)) := by rw [cell_of_row w1 g 4 _ 20 (0, 0) hblk]; rfl
  have g5 : w1.cell? ⟨g, 5, none⟩ = some (.iface 9 (.string u)) := by rw [cell_of_row w1 g 5 _ 20 (0, 0) hblk]; rfl
  have g6 : w1.cell? ⟨g, 6, none⟩ = some (.iface 9 (.string kPerm)) := by rw [cell_of_row w1 g 6 _ 20 (0, 0) hblk]; rfl
  have g7 : w1.cell? ⟨g, 7, none⟩ = some (.iface 29 (.agg #[.string p0, .string p1, .string p2, .string p3, .string (cutF p4), .string p5])) := by rw [cell_of_row w1 g 7 _ 20 (0, 0) hblk]; rfl
  have hfr : ∀ i, w1.frozen? ⟨w.heap.size + 1, i, none⟩ = false := fun i => by
    rw [hb1.frozen (p := ⟨w.heap.size + 1, i, none⟩) (by simp), frozen_old (by simp), frozen_old (by simp)]
    exact frozen_new (by simp)
  have hce : ∀ i, i < 6 → ∃ v, w1.cell? ⟨w.heap.size + 1, i, none⟩ = some v := fun i hi => by
    rw [hb1.cell (p := ⟨w.heap.size + 1, i, none⟩) (by simp), cell_old (by simp), cell_old (by simp), cell_new (by simp)]
    exact ⟨_, Array.getElem?_eq_getElem (by simpa using hi)⟩
  obtain ⟨x0, r0⟩ := hce 0 (by omega)
  obtain ⟨x1, r1⟩ := hce 1 (by omega)
  obtain ⟨x2, r2⟩ := hce 2 (by omega)
  obtain ⟨x3, r3⟩ := hce 3 (by omega)
  obtain ⟨x4, r4⟩ := hce 4 (by omega)
  obtain ⟨x5, r5⟩ := hce 5 (by omega)
  have f0 := hfr 0
  have f1 := hfr 1
  have f2 := hfr 2
  have f3 := hfr 3
  have f4 := hfr 4
  have f5 := hfr 5
  clear hblk hfr hce hb1 hm hp hn
  have ta9 := assert9
  have ta29 := assert29
  go_wp2
  refine bodyPost_ret (v := .tuple #[.int .i64 8, .string kMethod, .string (cutF m), .string kPath, .string (cutF p), .string kUser, .string u, .string kPerm, .agg #[.string p0, .string p1, .string p2, .string p3, .string (cutF p4), .string p5]]) (by simp [results, Try.results11, go_sem, r0, r1, r2, r3, r4, r5]) rfl ⟨rfl, ?_⟩
  have hz : w.heap.size ≤ w.heap.size + 1 := by omega
  exact (((((HB.out.setCell hz _).setCell hz _).setCell hz _).setCell hz _).setCell hz _).setCell hz _
end Go.Proofs.Qxb6609510a
