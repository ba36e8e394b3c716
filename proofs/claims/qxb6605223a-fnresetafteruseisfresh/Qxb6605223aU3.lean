/-
  Seat b6605223a. WALKS: ZZNewForced (14).
-/
import Derived.Test.Qxb6605223aU1
set_option linter.unusedVariables false
set_option linter.unusedSimpArgs false
namespace Go.Proofs.Qxb6605223a
open Go.RowKit

/-- The struct's twenty cells, and the graph's eight, as ZZNewForced lays them. -/
def nfV (h P : Nat) (a5 a6 : Option Addr) (c5 c6 : Nat) : Array Value :=
  #[.pointer (some ⟨h + 1, 0, none⟩), .slice none 0 0, .slice none 0 0, .slice none 0 0, .slice none 0 0, .slice none 0 0, .slice none 0 0, .bool false, .slice none 0 0, .slice a5 P c5, .slice (some ⟨h + 2, 0, none⟩) P P, .slice none 0 0, .slice a6 P c6, .slice none 0 0, .slice none 0 0, .slice none 0 0, .int .i64 0, .int .i64 0, .int .i64 0, .slice none 0 0]
def ngV (h n n2 P6 n4 : Nat) (a1 a2 a3 a4 : Option Addr) (c1 c2 c3 c4 : Nat) : Array Value :=
  #[.slice (some ⟨h, 0, none⟩) n n, .slice a1 n c1, .slice a2 n2 c2, .slice a3 P6 c3, .slice a4 n4 c4, .map none, .slice none 0 0, .slice none 0 0]
def NfPost (a1 a2 a3 a4 a5 a6 : Option Addr) (n c1 c2 c3 c4 c5 c6 n2 P n4 P6 : Nat) (w : World) (e : Ending) (w' : World) : Prop :=
  e = .returned (.pointer (some ⟨w.heap.size + 3, 0, none⟩)) ∧ Bk w' (w.heap.size + 3) 60 20 (fun i => (nfV w.heap.size P a5 a6 c5 c6).getD i (.bool false)) ∧ Bk w' (w.heap.size + 1) 53 8 (fun i => (ngV w.heap.size n n2 P6 n4 a1 a2 a3 a4 c1 c2 c3 c4).getD i (.bool false)) ∧
    Bk w' (w.heap.size + 2) 75 P (fun _ => .slice none 0 0) ∧ Below w.heap.size w w' ∧ w'.heap.size = w.heap.size + 4

theorem made_nil (n i : Nat) (h : i < n) : (madeCells (Value.cells (.slice none 0 0)) n).getD i (.bool false) = .slice none 0 0 := by
  have e : i % 1 = 0 := by omega
  simp [madeCells, Value.cells, Array.getD, h, e]

set_option maxRecDepth 100000 in
set_option maxHeartbeats 4000000 in
theorem newForced_any (a1 a2 a3 a4 a5 a6 : Option Addr) (n c1 c2 c3 c4 c5 c6 n2 P n4 P6 : Nat) (w : World) (hn : n ≤ 4096) (hP : P ≤ 4096) :
    Calls Try.prog 14 #[.slice a1 n c1, .slice a2 n2 c2, .slice a3 P6 c3, .slice a4 n4 c4, .slice a5 P c5, .slice a6 P c6] w (NfPost a1 a2 a3 a4 a5 a6 n c1 c2 c3 c4 c5 c6 n2 P n4 P6 w) := by
  obtain ⟨X, hX, hmk⟩ := run_mk (P := Try.prog) 49 126 (.agg #[.string ⟨#[]⟩, .string ⟨#[]⟩, .string ⟨#[]⟩, .pointer none, .pointer none]) 5 64 Try.underlying49 (by kernel_rfl) n (by omega) (by omega)
  obtain ⟨Y, hY, hmk2⟩ := run_mk (P := Try.prog) 54 75 (.slice none 0 0) 1 24 Try.underlying54 (by kernel_rfl) P (by omega) (by omega)
  have HY : Hid (Y = madeCells (Value.cells (.slice none 0 0)) (P * 1)) := hY
  clear hX hY
  go_enter Try.func14, Try.ntmps14
  go_wp2_with fail
  go_ret
  have hs1 : (w.alloc (.cells X 126)).heap.size = w.heap.size + 1 := by simp
  have hs2 : ((w.alloc (.cells X 126)).alloc (.cells (ngV w.heap.size n n2 P6 n4 a1 a2 a3 a4 c1 c2 c3 c4) 53)).heap.size = w.heap.size + 2 := by simp
  have hs3 : (((w.alloc (.cells X 126)).alloc (.cells (ngV w.heap.size n n2 P6 n4 a1 a2 a3 a4 c1 c2 c3 c4) 53)).alloc (.cells Y 75)).heap.size = w.heap.size + 3 := by simp
  have b1 := Bk.new (w.alloc (.cells X 126)) (ngV w.heap.size n n2 P6 n4 a1 a2 a3 a4 c1 c2 c3 c4) 53
  have b2 := Bk.new ((w.alloc (.cells X 126)).alloc (.cells (ngV w.heap.size n n2 P6 n4 a1 a2 a3 a4 c1 c2 c3 c4) 53)) Y 75
  have b3 := Bk.new (((w.alloc (.cells X 126)).alloc (.cells (ngV w.heap.size n n2 P6 n4 a1 a2 a3 a4 c1 c2 c3 c4) 53)).alloc (.cells Y 75)) (nfV w.heap.size P a5 a6 c5 c6) 60
  rw [hs1] at b1
  rw [hs2] at b2
  rw [hs3] at b3
  have hYs : Y.size = P := by rw [HY.out, size_made1, Nat.mul_one]
  rw [hYs] at b2
  refine ⟨rfl, b3, (b1.alloc _).alloc _, ((b2.congr fun i hi => ?_).alloc _), ?_, by simp⟩
  · rw [HY.out, Nat.mul_one]; exact (made_nil P i hi).symm
  · exact ((((Below.refl _ _).alloc (Nat.le_refl _) _).alloc (by simp) _).alloc (by simp; omega) _).alloc (by simp; omega) _
end Go.Proofs.Qxb6605223a
