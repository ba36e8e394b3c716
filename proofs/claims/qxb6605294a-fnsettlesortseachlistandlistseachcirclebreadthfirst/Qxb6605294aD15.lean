/-
  Seat b6605294a. WALKS: ZZFamilyKin (15), ZZFamilyCircles (18), ZZFamilyCircleOfLen (19), ZZFamilyCircleOf (20).
-/
import Derived.Test.Qxb6605294aD8
set_option linter.unusedVariables false
set_option linter.unusedSimpArgs false
namespace Go.Proofs.Qxb6605294a
open Go.RowKit

theorem len_mp {w : World} {g : Nat} {f : Int → Option Value} {n : Nat} (h : Mi w g f n) (t k e ty : TypeId) (ht : Try.prog.underlying t = some (.map k e)) : (Builtin.len_ #[t] ty #[.map (some g)]).run Try.prog w = .ok (.int .i64 (n : Int)) w := by
  obtain ⟨es, clock, h1, h2, _⟩ := h.ex
  simp [Builtin.len_, run_underlying ht, run_getObj_map w g es clock h1, goInt, h2]
theorem res_tmp5 {fn : Func} {a b c d e : Tmp} (h : fn.results = #[.tmp a, .tmp b, .tmp c, .tmp d, .tmp e]) (tmps : Array Value) (P : Program) (w : World) :
    (results fn tmps).run P w = .ok (.tuple #[tmps.getD a undef, tmps.getD b undef, tmps.getD c undef, tmps.getD d undef, tmps.getD e undef]) w := by
  simp [results, h]
theorem hidD {p : Prop} (h : p) : Hid p := h

set_option maxRecDepth 100000 in
set_option maxHeartbeats 4000000 in
theorem circles_any (F : Nat) (a b c : Value) (w : World) (h : Bk w F 85 3 (fun k => (#[a, b, c] : Array Value).getD k (.bool false))) :
    Calls Try.prog 18 #[.pointer (some ⟨F, 0, none⟩)] w (fun e w' => e = .returned b ∧ w' = w) := by
  have k1 : w.cell? ⟨F, 1, none⟩ = some b := h.cell 1 (by omega)
  have HH := hidD h
  clear h
  go_enter Try.func18, Try.ntmps18
  go_wp2_with fail
  go_ret
  exact ⟨rfl, rfl⟩

set_option maxRecDepth 100000 in
set_option maxHeartbeats 4000000 in
theorem circleLen_any (F gC n : Nat) (a b : Value) (f : Int → Option Value) (w : World) (h : Bk w F 85 3 (fun k => (#[a, b, .map (some gC)] : Array Value).getD k (.bool false))) (hm : Mi w gC f n) :
    Calls Try.prog 19 #[.pointer (some ⟨F, 0, none⟩)] w (fun e w' => e = .returned (.int .i64 n) ∧ w' = w) := by
  have k1 : w.cell? ⟨F, 2, none⟩ = some (.map (some gC)) := h.cell 2 (by omega)
  have hlen := fun ty => len_mp hm 34 _ _ ty Try.underlying34
  have HH := hidD h
  have HM := hidD hm
  clear h hm
  go_enter Try.func19, Try.ntmps19
  go_wp2_with fail
  go_ret
  exact ⟨rfl, rfl⟩

set_option maxRecDepth 100000 in
set_option maxHeartbeats 4000000 in
theorem circleOf_any (F gC n : Nat) (a b : Value) (f : Int → Option Value) (p : Int) (x : Nat) (w : World) (h : Bk w F 85 3 (fun k => (#[a, b, .map (some gC)] : Array Value).getD k (.bool false))) (hm : Mi w gC f n) (hp : f p = some (.int .i64 x)) :
    Calls Try.prog 20 #[.pointer (some ⟨F, 0, none⟩), .int .i64 p] w (fun e w' => e = .returned (.tuple #[.int .i64 x, .bool true]) ∧ w' = w) := by
  have k1 : w.cell? ⟨F, 2, none⟩ = some (.map (some gC)) := h.cell 2 (by omega)
  have hl := hm.look (P := Try.prog) Try.underlying34 Try.underlying3 Try.zeroValue3 p true
  rw [hp] at hl
  have hl2 : (Instr.lookup 34 (.map (some gC)) (.int .i64 p) true).run Try.prog w = .ok (.tuple #[.int .i64 x, .bool true]) w := hl
  clear hl
  have HH := hidD h
  have HM := hidD hm
  clear h hm hp
  go_enter Try.func20, Try.ntmps20
  go_wp2_with fail
  go_ret2
  exact ⟨rfl, rfl⟩

set_option maxRecDepth 100000 in
set_option maxHeartbeats 4000000 in
theorem kin_any (F gM n g : Nat) (a b : Value) (f : Int → Option Value) (U : Nat → Value) (p : Int) (w : World) (h : Bk w F 85 3 (fun k => (#[.map (some gM), a, b] : Array Value).getD k (.bool false))) (hm : Mi w gM f n) (hp : f p = some (.pointer (some ⟨g, 0, none⟩))) (hg : Bk w g 88 4 U) :
    Calls Try.prog 15 #[.pointer (some ⟨F, 0, none⟩), .int .i64 p] w (fun e w' => e = .returned (.tuple #[U 0, U 1, U 2, U 3, .bool true]) ∧ Below w.heap.size w w') := by
  have k1 : w.cell? ⟨F, 0, none⟩ = some (.map (some gM)) := h.cell 0 (by omega)
  have hl := hm.look (P := Try.prog) Try.underlying83 Try.underlying3 Try.zeroValue86 p true
  rw [hp] at hl
  have hl2 : (Instr.lookup 83 (.map (some gM)) (.int .i64 p) true).run Try.prog w = .ok (.tuple #[.pointer (some ⟨g, 0, none⟩), .bool true]) w := hl
  clear hl
  have c0 : w.cell? ⟨g, 0, none⟩ = some (U 0) := hg.cell 0 (by omega)
  have c1 : w.cell? ⟨g, 1, none⟩ = some (U 1) := hg.cell 1 (by omega)
  have c2 : w.cell? ⟨g, 2, none⟩ = some (U 2) := hg.cell 2 (by omega)
  have c3 : w.cell? ⟨g, 3, none⟩ = some (U 3) := hg.cell 3 (by omega)
  have HH := hidD h
  have HM := hidD hm
  have HG := hidD hg
  clear h hm hp hg
  go_enter Try.func15, Try.ntmps15
  go_wp2_with fail
  go_big_quiet (fail)
  go_wp2_with fail
  (try simp only [Exit.inBlock, Exit.then])
  refine bodyPost_ret (res_tmp5 rfl _ _ _) rfl ?_
  exact ⟨rfl, below_drewN (Below.refl _ w) _⟩
end Go.Proofs.Qxb6605294a
