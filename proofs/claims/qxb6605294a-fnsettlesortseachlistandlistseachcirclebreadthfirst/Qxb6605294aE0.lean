/-
  Seat b6605294a. A MAP KEYED BY [2]int (familySymmetric).
-/
import Derived.Test.Qxb6605294aD8
import Derived.WideKeyPair
set_option linter.unusedVariables false
set_option linter.unusedSimpArgs false
namespace Go.Proofs.Qxb6605294a
open Go.RowKit
open Go.ChangeMaps (setBlock)

def pr (a b : Int) : Value := .agg #[.int .i64 a, .int .i64 b]
theorem Try.under73 : Try.prog.underlying 73 = some (.array 2 3) := by kernel_rfl
theorem Try.under82 : Try.prog.underlying 82 = some (.map 73 4) := by kernel_rfl
theorem pairKey : WideMaps.ArrKey Try.prog 73 3 2 := ⟨Try.under73, by kernel_rfl, by kernel_rfl, by kernel_rfl⟩
theorem types_pos : ∃ m, Try.prog.types.size = m + 1 := by
  have h : (0 < Try.prog.types.size) := of_decide_eq_true (by kernel_rfl)
  exact ⟨Try.prog.types.size - 1, by omega⟩
theorem keyOf_pr {a b : Int} (ha : (Lit.int .i64 a).wf = true) (hb : (Lit.int .i64 b).wf = true) : keyOf Try.prog 73 (pr a b) = some (.string (keyBytes [.int .i64 a, .int .i64 b])) := WideMaps.keyOf_pair pairKey Try.underlying3 types_pos ha hb
theorem pr_inj {a b c d : Int} (h : pr a b = pr c d) : a = c ∧ b = d := by
  unfold pr at h
  injection h with h
  simp at h
  exact h

/-- Block g is a map keyed by pairs: every entry's key is a pair that R holds of, its value is true. -/
def Mq (w : World) (g : Nat) (R : Int → Int → Prop) : Prop :=
  ∃ es clock, w.heap[g]? = some (.map es clock) ∧ ∀ e ∈ es.toList, ∃ a b, (Lit.int .i64 a).wf = true ∧ (Lit.int .i64 b).wf = true ∧ e.key = pr a b ∧ e.val = .bool true ∧ R a b
theorem Mq.alloc {w w' : World} {g : Nat} {R : Int → Int → Prop} (h : Mq w g R) (hb : w'.heap[g]? = w.heap[g]?) : Mq w' g R := by
  obtain ⟨es, clock, h1, h2⟩ := h
  exact ⟨es, clock, by rw [hb]; exact h1, h2⟩
theorem Mq.lt {w : World} {g : Nat} {R : Int → Int → Prop} (h : Mq w g R) : g < w.heap.size := by
  obtain ⟨es, clock, h1, _⟩ := h
  exact (Array.getElem?_eq_some_iff.1 h1).1
theorem Mq.made (w : World) (R : Int → Int → Prop) : Mq (w.alloc (.map #[] 0)) w.heap.size R := ⟨#[], 0, heap_alloc_new w _, by simp⟩
theorem Mq.mono {w : World} {g : Nat} {R R' : Int → Int → Prop} (h : Mq w g R) (hR : ∀ a b, R a b → R' a b) : Mq w g R' := by
  obtain ⟨es, clock, h1, h2⟩ := h
  refine ⟨es, clock, h1, fun e he => ?_⟩
  obtain ⟨a, b, q1, q2, q3, q4, q5⟩ := h2 e he
  exact ⟨a, b, q1, q2, q3, q4, hR a b q5⟩
theorem Mq.look {w : World} {g : Nat} {R : Int → Int → Prop} (h : Mq w g R) {x y : Int} (hx : (Lit.int .i64 x).wf = true) (hy : (Lit.int .i64 y).wf = true) :
    ∃ v : Bool, (Instr.lookup 82 (.map (some g)) (.agg #[.int .i64 x, .int .i64 y]) false).run Try.prog w = .ok (.bool v) w ∧ (v = true → R x y) := by
  obtain ⟨es, clock, h1, h2⟩ := h
  have K := pairKey.law
  have hk := keyOf_pr hx hy
  have hc := K.check w es.isEmpty hk
  rcases K.find w hk es.toList (fun e he => by
    obtain ⟨a, b, q1, q2, q3, _⟩ := h2 e he
    rw [q3]
    exact ⟨_, keyOf_pr q1 q2⟩) with ⟨hf, _⟩ | ⟨j, e, hf, hj, hke⟩
  · refine ⟨false, ?_, fun h => by cases h⟩
    unfold pr at hc hf
    unfold Instr.lookup
    simp only [Sem.run_bind, run_underlying Try.under82, Result.andThen_ok, getObj, Sem.run, h1, Sem.run_pure, hc, hf, Try.zeroValue4]
    rfl
  · have he := List.mem_of_getElem? hj
    obtain ⟨a, b, q1, q2, q3, q4, q5⟩ := h2 e he
    refine ⟨true, ?_, fun _ => ?_⟩
    · unfold pr at hc hf
      unfold Instr.lookup
      simp only [Sem.run_bind, run_underlying Try.under82, Result.andThen_ok, getObj, Sem.run, h1, Sem.run_pure, hc, hf, q4]
      rfl
    · obtain ⟨e1, e2⟩ := pr_inj (q3.symm.trans hke)
      rw [← e1, ← e2]
      exact q5
theorem Mq.store {w : World} {g : Nat} {R : Int → Int → Prop} (h : Mq w g R) {x y : Int} (hx : (Lit.int .i64 x).wf = true) (hy : (Lit.int .i64 y).wf = true) (hR : R x y) :
    ∃ w', (Instr.mapUpdate 82 (.map (some g)) (.agg #[.int .i64 x, .int .i64 y]) (.bool true)).run Try.prog w = .ok () w' ∧ Mq w' g R ∧ Tn g w w' := by
  have hg := h.lt
  obtain ⟨es, clock, h1, h2⟩ := h
  have K := pairKey.law
  have hk := keyOf_pr hx hy
  have hc := K.check w false hk
  have hset : ∀ o : Obj, (setObj g o).run Try.prog w = .ok () (setBlock w g o) := fun o => by simp [setObj, Sem.run, h1, setBlock]
  have hb : ∀ o : Obj, (setBlock w g o).heap[g]? = some o := fun o => by simp [setBlock, hg]
  have hfar : ∀ (o : Obj) (b : Nat), b ≠ g → (setBlock w g o).heap[b]? = w.heap[b]? := fun o b hne => by
    simp only [setBlock, Array.getElem?_setIfInBounds]
    rw [if_neg (fun e => hne e.symm)]
  have hsz : ∀ o : Obj, (setBlock w g o).heap.size = w.heap.size := fun o => by simp [setBlock]
  have hT : ∀ o : Obj, Tn g w (setBlock w g o) := fun o => ⟨rfl, rfl, rfl, hsz o, hfar o⟩
  rcases K.find w hk es.toList (fun e he => by
    obtain ⟨a, b, q1, q2, q3, _⟩ := h2 e he
    rw [q3]
    exact ⟨_, keyOf_pr q1 q2⟩) with ⟨hf, _⟩ | ⟨j, e, hf, hj, hke⟩
  · refine ⟨setBlock w g (.map (es.push { key := pr x y, val := .bool true, born := clock }) (clock + 1)), ?_, ⟨_, _, hb _, fun e he => ?_⟩, hT _⟩
    · unfold pr at hc hf ⊢
      unfold Instr.mapUpdate
      simp only [Sem.run_bind, run_underlying Try.under82, Result.andThen_ok, getObj, Sem.run, h1, Sem.run_pure, hc, hf]
      exact hset _
    · simp at he
      rcases he with he | rfl
      · exact h2 e (by simpa using he)
      · exact ⟨x, y, hx, hy, rfl, rfl, hR⟩
  · have hj' : es[j]? = some e := by simpa using hj
    have hst := K.stays w hk
    refine ⟨setBlock w g (.map (es.modify j fun e => { e with key := pr x y, val := .bool true }) clock), ?_, ⟨_, _, hb _, fun e' he' => ?_⟩, hT _⟩
    · unfold pr at hc hf hst hke ⊢
      unfold Instr.mapUpdate
      simp only [Sem.run_bind, run_underlying Try.under82, Result.andThen_ok, getObj, Sem.run, h1, Sem.run_pure, hc, hf, hj', Option.map_some, Option.getD_some, hke, hst]
      exact hset _
    · rw [List.mem_iff_getElem?] at he'
      obtain ⟨i, hi⟩ := he'
      rw [Array.getElem?_toList, Array.getElem?_modify] at hi
      by_cases e1 : j = i
      · rw [if_pos e1, ← e1, hj'] at hi
        cases hi
        exact ⟨x, y, hx, hy, rfl, rfl, hR⟩
      · rw [if_neg e1] at hi
        exact h2 e' (List.mem_iff_getElem?.2 ⟨i, by simpa using hi⟩)
theorem run_mkMap0 (w : World) : (Instr.makeMap 82 none).run Try.prog w = .ok (.map (some w.heap.size)) (w.alloc (.map #[] 0)) := by
  unfold Instr.makeMap
  simp [run_underlying Try.under82]
end Go.Proofs.Qxb6605294a
