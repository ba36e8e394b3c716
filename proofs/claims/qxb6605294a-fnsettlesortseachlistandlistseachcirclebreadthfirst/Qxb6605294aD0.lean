/-
  Seat b6605294a. MAPS KEYED BY int, known by a function: look-up, store, len.
-/
import Derived.Test.Qxb6605294aProg
import Derived.Tactics
import Derived.Tactics2
import Derived.WalkKit
import Derived.WalkSpells
import Derived.Maps.RangeRun
import Derived.Below
set_option linter.unusedVariables false
set_option linter.unusedSimpArgs false
namespace Go.Proofs.Qxb6605294a
open Go.RowKit
open Go.ChangeMaps (setBlock)

/-- Block g is a map of n entries, keyed by int; key k holds f k. -/
structure Mi (w : World) (g : Nat) (f : Int → Option Value) (n : Nat) : Prop where
  ex : ∃ es clock, w.heap[g]? = some (.map es clock) ∧ es.size = n ∧ (∀ e ∈ es.toList, ∃ k, e.key = .int .i64 k ∧ f k = some e.val) ∧ (∀ k v, f k = some v → ∃ e ∈ es.toList, e.key = .int .i64 k) ∧
    (es.toList.map (·.key)).Nodup ∧ (es.toList.map (·.born)).Nodup ∧ (∀ e ∈ es.toList, e.born < clock)

theorem findNow_some {k : Int} : ∀ (l : List MapEntry) (i : Nat), (∀ e ∈ l, ∃ j, e.key = .int .i64 j) →
    (∃ m v e, l[m]? = some e ∧ e.key = .int .i64 k ∧ e.val = v ∧ Instr.findNow (.int .i64) (.int .i64 k) l i = some (some (i + m, v))) ∨ ((∀ e ∈ l, e.key ≠ .int .i64 k) ∧ Instr.findNow (.int .i64) (.int .i64 k) l i = some none)
  | [], i, _ => .inr ⟨by simp, rfl⟩
  | e :: l, i, h => by
    obtain ⟨j, hj⟩ := h e (by simp)
    by_cases hk : k = j
    · subst hk
      exact .inl ⟨0, e.val, e, rfl, hj, rfl, by simp [Instr.findNow, hj, Instr.sameNow]⟩
    · have hs : Instr.sameNow (.int .i64) (.int .i64 k) e.key = some false := by simp [hj, Instr.sameNow, hk]
      rcases findNow_some (k := k) l (i + 1) (fun e he => h e (by simp [he])) with ⟨m, v, e', h1, h2, h3, h4⟩ | ⟨h1, h2⟩
      · refine .inl ⟨m + 1, v, e', by simpa using h1, h2, h3, ?_⟩
        simp only [Instr.findNow, hs, h4]
        congr 3
        omega
      · refine .inr ⟨fun e' he' => ?_, by simp only [Instr.findNow, hs, h2]⟩
        rcases List.mem_cons.1 he' with rfl | he'
        · rw [hj]; exact fun e => hk (by cases e; rfl)
        · exact h1 e' he'

theorem Mi.alloc {w : World} {g : Nat} {f : Int → Option Value} {n : Nat} (h : Mi w g f n) {w' : World} (hb : w'.heap[g]? = w.heap[g]?) : Mi w' g f n := by
  obtain ⟨es, clock, h1, h2⟩ := h.ex
  exact ⟨es, clock, by rw [hb]; exact h1, h2⟩
theorem Mi.lt {w : World} {g : Nat} {f : Int → Option Value} {n : Nat} (h : Mi w g f n) : g < w.heap.size := by
  obtain ⟨es, clock, h1, _⟩ := h.ex
  exact (Array.getElem?_eq_some_iff.1 h1).1
theorem Mi.made (w : World) : Mi (w.alloc (.map #[] 0)) w.heap.size (fun _ => none) 0 :=
  ⟨#[], 0, heap_alloc_new w _, rfl, by simp, by simp, by simp, by simp, by simp⟩
theorem Mi.find {w : World} {g : Nat} {f : Int → Option Value} {n : Nat} (h : Mi w g f n) (k : Int) : ∃ es clock, w.heap[g]? = some (.map es clock) ∧ es.size = n ∧
    ((∃ m v, f k = some v ∧ m < n ∧ (∃ e, es[m]? = some e ∧ e.key = .int .i64 k) ∧ Instr.findNow (.int .i64) (.int .i64 k) es.toList 0 = some (some (m, v))) ∨ (f k = none ∧ Instr.findNow (.int .i64) (.int .i64 k) es.toList 0 = some none)) := by
  obtain ⟨es, clock, h1, h2, h3, h4, h5, h6, h7⟩ := h.ex
  refine ⟨es, clock, h1, h2, ?_⟩
  rcases findNow_some (k := k) es.toList 0 (fun e he => (h3 e he).imp fun j hj => hj.1) with ⟨m, v, e, q1, q2, q3, q4⟩ | ⟨q1, q2⟩
  · left
    have hm : m < es.size := by
      rcases Nat.lt_or_ge m es.size with h | h
      · exact h
      · simp [h] at q1
    obtain ⟨j, j1, j2⟩ := h3 e (by rw [List.mem_iff_getElem?]; exact ⟨m, q1⟩)
    rw [q2] at j1
    cases j1
    refine ⟨m, v, by rw [j2, q3], by omega, ⟨e, by simpa using q1, q2⟩, by rw [q4, Nat.zero_add]⟩
  · right
    refine ⟨?_, q2⟩
    cases hf : f k with
    | none => rfl
    | some v =>
      obtain ⟨e, he, hk⟩ := h4 k v hf
      exact absurd hk (q1 e he)

theorem checkKey_int {P : Program} {kt : TypeId} (hk : P.underlying kt = some (.int .i64)) (b : Bool) (k : Int) (w : World) : (Instr.checkKey b 10000 kt (.int .i64 k)).run P w = .ok () w := by
  unfold Instr.checkKey
  simp [run_underlying hk]

/-- 'v, ok := m[k]'. -/
theorem Mi.look {P : Program} {w : World} {g : Nat} {f : Int → Option Value} {n : Nat} (h : Mi w g f n) {t kt et : TypeId} (ht : P.underlying t = some (.map kt et)) (hk : P.underlying kt = some (.int .i64)) {z : Value} (hz : ∀ w, (zeroValue et).run P w = .ok z w) (k : Int) (c : Bool) :
    (Instr.lookup t (.map (some g)) (.int .i64 k) c).run P w = .ok (if c then .tuple #[(f k).getD z, .bool (f k).isSome] else (f k).getD z) w := by
  obtain ⟨es, clock, h1, h2, h3⟩ := h.find k
  unfold Instr.lookup
  simp only [Sem.run_bind, run_underlying ht, Result.andThen_ok, getObj, Sem.run, h1, Sem.run_pure, checkKey_int hk, Instr.findKey, run_underlying hk]
  rcases h3 with ⟨m, v, q1, q2, q3, q4⟩ | ⟨q1, q4⟩
  · simp only [q4, q1, Sem.run_pure, Result.andThen_ok, Option.getD_some, Option.isSome_some]
    rfl
  · simp only [q4, q1, Sem.run_pure, Sem.run_bind, hz, Result.andThen_ok, Option.getD_none, Option.isSome_none]
theorem key_at {es : Array MapEntry} {m i : Nat} {e e' : MapEntry} (hn : (es.toList.map (·.key)).Nodup) (h1 : es[m]? = some e) (h2 : es[i]? = some e') (hk : e.key = e'.key) : m = i := by
  have hm : m < es.size := (Array.getElem?_eq_some_iff.1 h1).1
  have hi : i < es.size := (Array.getElem?_eq_some_iff.1 h2).1
  have a1 : (es.toList.map (·.key))[m]? = some e.key := by rw [List.getElem?_map, Array.getElem?_toList, h1]; rfl
  have a2 : (es.toList.map (·.key))[i]? = some e.key := by rw [List.getElem?_map, Array.getElem?_toList, h2, hk]; rfl
  exact (List.getElem?_inj (by simpa using hm) hn).1 (a1.trans a2.symm)
theorem map_modify {β : Type} (es : Array MapEntry) (m : Nat) (p : MapEntry → β) (e : MapEntry) (h : es[m]? = some e) {F : MapEntry → MapEntry} (hp : p e = p (F e)) : (es.modify m F).toList.map p = es.toList.map p := by
  apply List.ext_getElem?
  intro i
  rw [List.getElem?_map, List.getElem?_map, Array.getElem?_toList, Array.getElem?_toList, Array.getElem?_modify]
  by_cases e1 : m = i
  · subst e1
    rw [if_pos rfl, h]
    simp [hp]
  · rw [if_neg e1]
/-- 'm[k] = v'. -/
theorem Mi.store {P : Program} {w : World} {g : Nat} {f : Int → Option Value} {n : Nat} (h : Mi w g f n) {t kt et : TypeId} (ht : P.underlying t = some (.map kt et)) (hk : P.underlying kt = some (.int .i64)) (k : Int) (u : Value) :
    ∃ w', (Instr.mapUpdate t (.map (some g)) (.int .i64 k) u).run P w = .ok () w' ∧ Mi w' g (fun j => if j = k then some u else f j) (if (f k).isSome then n else n + 1) ∧
      w'.os = w.os ∧ w'.tape = w.tape ∧ w'.output = w.output ∧ w'.heap.size = w.heap.size ∧ (∀ b, b ≠ g → w'.heap[b]? = w.heap[b]?) := by
  obtain ⟨es, clock, h1, h2, h3⟩ := h.find k
  obtain ⟨es', clock', p1, p2, p3, p4, p5, p6, p7⟩ := h.ex
  rw [h1] at p1
  cases p1
  have hg := h.lt
  have hset : ∀ o : Obj, (setObj g o).run P w = .ok () (setBlock w g o) := fun o => by simp [setObj, Sem.run, h1, setBlock]
  have hb : ∀ o : Obj, (setBlock w g o).heap[g]? = some o := fun o => by simp [setBlock, hg]
  have hfar : ∀ (o : Obj) (b : Nat), b ≠ g → (setBlock w g o).heap[b]? = w.heap[b]? := fun o b hne => by
    simp only [setBlock, Array.getElem?_setIfInBounds]
    rw [if_neg (fun e => hne e.symm)]
  have hsz : ∀ o : Obj, (setBlock w g o).heap.size = w.heap.size := fun o => by simp [setBlock]
  rcases h3 with ⟨m, v, q1, q2, ⟨e, q5, q6⟩, q4⟩ | ⟨q1, q4⟩
  · refine ⟨setBlock w g (.map (es.modify m fun e => { e with key := .int .i64 k, val := u }) clock), ?_, ⟨_, clock, hb _, by simp [q1, h2], ?_, ?_, ?_, ?_, ?_⟩, rfl, rfl, rfl, hsz _, hfar _⟩
    · unfold Instr.mapUpdate
      simp only [Sem.run_bind, run_underlying ht, Result.andThen_ok, getObj, Sem.run, h1, Sem.run_pure, checkKey_int hk, Instr.findKey, run_underlying hk, q4, q5, Option.map_some, Option.getD_some, q6, Instr.keyThatStays, Instr.sameBits, beq_self_eq_true, Bool.and_self, if_true]
      exact hset _
    · intro e' he'
      rw [List.mem_iff_getElem?] at he'
      obtain ⟨i, hi⟩ := he'
      rw [Array.getElem?_toList, Array.getElem?_modify] at hi
      by_cases e1 : m = i
      · subst e1
        rw [if_pos rfl, q5] at hi
        simp at hi
        subst hi
        exact ⟨k, rfl, by simp⟩
      · rw [if_neg e1] at hi
        obtain ⟨j, j1, j2⟩ := p3 e' (by rw [List.mem_iff_getElem?]; exact ⟨i, by rw [Array.getElem?_toList]; exact hi⟩)
        refine ⟨j, j1, ?_⟩
        by_cases e2 : j = k
        · subst e2
          exact absurd (key_at p5 q5 hi (by rw [q6, j1])) e1
        · simp only [if_neg e2]; exact j2
    · intro j v' hj
      by_cases e2 : j = k
      · subst e2
        exact ⟨_, by rw [List.mem_iff_getElem?]; exact ⟨m, by rw [Array.getElem?_toList, Array.getElem?_modify, if_pos rfl, q5]; rfl⟩, rfl⟩
      · simp only [if_neg e2] at hj
        obtain ⟨e', he', hk'⟩ := p4 j v' hj
        rw [List.mem_iff_getElem?] at he'
        obtain ⟨i, hi⟩ := he'
        rw [Array.getElem?_toList] at hi
        have e1 : m ≠ i := fun e1 => by
          subst e1
          rw [q5] at hi
          cases hi
          rw [q6] at hk'
          cases hk'
          exact e2 rfl
        exact ⟨e', by rw [List.mem_iff_getElem?]; exact ⟨i, by rw [Array.getElem?_toList, Array.getElem?_modify, if_neg e1]; exact hi⟩, hk'⟩
    · rw [show ((es.modify m fun e => { e with key := .int .i64 k, val := u }).toList.map (·.key)) = es.toList.map (·.key) from map_modify es m (·.key) e q5 q6]
      exact p5
    · rw [show ((es.modify m fun e => { e with key := .int .i64 k, val := u }).toList.map (·.born)) = es.toList.map (·.born) from map_modify es m (·.born) e q5 rfl]
      exact p6
    · intro e' he'
      rw [List.mem_iff_getElem?] at he'
      obtain ⟨i, hi⟩ := he'
      rw [Array.getElem?_toList, Array.getElem?_modify] at hi
      by_cases e1 : m = i
      · subst e1
        rw [if_pos rfl, q5] at hi
        simp at hi
        subst hi
        exact p7 e (by rw [List.mem_iff_getElem?]; exact ⟨m, by rw [Array.getElem?_toList]; exact q5⟩)
      · rw [if_neg e1] at hi
        exact p7 e' (by rw [List.mem_iff_getElem?]; exact ⟨i, by rw [Array.getElem?_toList]; exact hi⟩)
  · refine ⟨setBlock w g (.map (es.push { key := .int .i64 k, val := u, born := clock }) (clock + 1)), ?_, ⟨_, clock + 1, hb _, by simp [q1, h2], ?_, ?_, ?_, ?_, ?_⟩, rfl, rfl, rfl, hsz _, hfar _⟩
    · unfold Instr.mapUpdate
      simp only [Sem.run_bind, run_underlying ht, Result.andThen_ok, getObj, Sem.run, h1, Sem.run_pure, checkKey_int hk, Instr.findKey, run_underlying hk, q4]
      exact hset _
    · intro e' he'
      simp only [Array.toList_push, List.mem_append, List.mem_singleton] at he'
      rcases he' with he' | rfl
      · obtain ⟨j, j1, j2⟩ := p3 e' he'
        refine ⟨j, j1, ?_⟩
        by_cases e2 : j = k
        · subst e2; rw [q1] at j2; cases j2
        · simp only [if_neg e2]; exact j2
      · exact ⟨k, rfl, by simp⟩
    · intro j v' hj
      by_cases e2 : j = k
      · subst e2
        exact ⟨_, by simp only [Array.toList_push, List.mem_append, List.mem_singleton]; exact .inr rfl, rfl⟩
      · simp only [if_neg e2] at hj
        obtain ⟨e', he', hk'⟩ := p4 j v' hj
        exact ⟨e', by simp only [Array.toList_push, List.mem_append]; exact .inl he', hk'⟩
    · simp only [Array.toList_push, List.map_append, List.map_cons, List.map_nil]
      refine List.nodup_append.2 ⟨p5, by simp, fun a ha b hb' => ?_⟩
      simp only [List.mem_singleton] at hb'
      subst hb'
      rw [List.mem_map] at ha
      obtain ⟨e', he', rfl⟩ := ha
      obtain ⟨j, j1, j2⟩ := p3 e' he'
      intro e3
      rw [j1] at e3
      cases e3
      rw [q1] at j2
      cases j2
    · simp only [Array.toList_push, List.map_append, List.map_cons, List.map_nil]
      refine List.nodup_append.2 ⟨p6, by simp, fun a ha b hb' => ?_⟩
      simp only [List.mem_singleton] at hb'
      subst hb'
      rw [List.mem_map] at ha
      obtain ⟨e', he', rfl⟩ := ha
      have := p7 e' he'
      omega
    · intro e' he'
      simp only [Array.toList_push, List.mem_append, List.mem_singleton] at he'
      rcases he' with he' | rfl
      · have := p7 e' he'; omega
      · show clock < clock + 1; omega
end Go.Proofs.Qxb6605294a
