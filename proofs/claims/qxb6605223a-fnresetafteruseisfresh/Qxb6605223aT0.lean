/-
  Seat b6605223a. THE STATE OF forcedOrders IN MEMORY. A ghost 'tag' on block numbers keeps its slices apart: what turns only blocks of one tag leaves every slice of another.
-/
import Derived.Test.Qxb6605223aM2
import Derived.Maps.AppendAt
set_option linter.unusedVariables false
set_option linter.unusedSimpArgs false
namespace Go.Proofs.Qxb6605223a
open Go.RowKit

/-- One slice of the struct's: element type, cells an element, the value that the field holds, its length, its cells. -/
structure Res where
  e : TypeId
  sz : Nat
  v : Value
  n : Nat
  V : Nat → Value

/-- The slice lies in memory, in a block of tag t (or is nil). -/
def Rs (tag : Nat → Nat) (t : Nat) (w : World) (r : Res) : Prop :=
  (r.v = .slice none 0 0 ∧ r.n = 0) ∨ ∃ g cap V', r.v = .slice (some ⟨g, 0, none⟩) r.n cap ∧ r.n ≤ cap ∧ cap ≤ maxLen ∧ Bk w g r.e (cap * r.sz) V' ∧ (∀ i, i < r.n * r.sz → V' i = r.V i) ∧ tag g = t

/-- Only blocks of tag t have turned, of what was there. -/
structure Ch (tag : Nat → Nat) (t : Nat) (w w' : World) : Prop where
  os : w'.os = w.os
  tape : w'.tape = w.tape
  output : w'.output = w.output
  size : w.heap.size ≤ w'.heap.size
  block : ∀ k, k < w.heap.size → tag k ≠ t → w'.heap[k]? = w.heap[k]?

theorem Ch.set {tag : Nat → Nat} {t g : Nat} (w : World) (hg : tag g = t) (i : Nat) (s : Option Nat) (u : Value) : Ch tag t w (w.setCell ⟨g, i, s⟩ u) :=
  ⟨rfl, rfl, rfl, by simp [World.setCell], fun k hk ht => Below.heap_setCell _ _ _ _ (fun e => ht (by rw [e]; exact hg))⟩
theorem Ch.alloc {tag : Nat → Nat} {t : Nat} (w : World) (o : Obj) : Ch tag t w (w.alloc o) := ⟨rfl, rfl, rfl, by simp, fun k hk _ => Below.heap_alloc _ _ _ hk⟩
theorem Ch.drewN {tag : Nat → Nat} {t : Nat} (w : World) (q : Nat) : Ch tag t w (w.drewN q) := ⟨rfl, rfl, rfl, Nat.le_refl _, fun k hk _ => rfl⟩
theorem Ch.trans {tag : Nat → Nat} {t : Nat} {a b c : World} (h : Ch tag t a b) (k : Ch tag t b c) : Ch tag t a c :=
  ⟨k.os.trans h.os, k.tape.trans h.tape, k.output.trans h.output, Nat.le_trans h.size k.size, fun i hi ht => (k.block i (Nat.lt_of_lt_of_le hi h.size) ht).trans (h.block i hi ht)⟩
theorem Ch.ofFr {tag : Nat → Nat} {t g : Nat} {w w' : World} (h : Fr g w w') (hg : tag g = t) : Ch tag t w w' := ⟨h.os, h.tape, h.output, h.size, fun k hk ht => h.block k hk (fun e => ht (by rw [e]; exact hg))⟩
theorem Ch.ofBelow {tag : Nat → Nat} {t : Nat} {w w' : World} (h : Below w.heap.size w w') : Ch tag t w w' := ⟨h.os, h.tape, h.output, h.size, fun k hk _ => h.block k hk⟩

theorem Rs.ch {tag : Nat → Nat} {t t' : Nat} {w w' : World} {r : Res} (h : Rs tag t w r) (hc : Ch tag t' w w') (hne : t ≠ t') : Rs tag t w' r := by
  rcases h with h | ⟨g, cap, V', h1, h2, h3, h4, h5, h6⟩
  · exact .inl h
  · exact .inr ⟨g, cap, V', h1, h2, h3, h4.sameBlock (hc.block g h4.lt (by rw [h6]; exact hne)), h5, h6⟩
theorem Rs.retag {tag tag' : Nat → Nat} {t : Nat} {w : World} {r : Res} (h : Rs tag t w r) (ha : ∀ k, k < w.heap.size → tag' k = tag k) : Rs tag' t w r := by
  rcases h with h | ⟨g, cap, V', h1, h2, h3, h4, h5, h6⟩
  · exact .inl h
  · exact .inr ⟨g, cap, V', h1, h2, h3, h4, h5, by rw [ha g h4.lt]; exact h6⟩
/-- A slice with an element has a block. -/
theorem Rs.at {tag : Nat → Nat} {t : Nat} {w : World} {r : Res} (h : Rs tag t w r) (hn : 0 < r.n) :
    ∃ g cap, r.v = .slice (some ⟨g, 0, none⟩) r.n cap ∧ r.n ≤ cap ∧ tag g = t ∧ g < w.heap.size ∧ (∀ i, i < r.n * r.sz → w.cell? ⟨g, i, none⟩ = some (r.V i)) ∧ (∀ i, w.frozen? ⟨g, i, none⟩ = false) := by
  rcases h with ⟨_, h⟩ | ⟨g, cap, V', h1, h2, h3, h4, h5, h6⟩
  · omega
  · refine ⟨g, cap, h1, h2, h6, h4.lt, fun i hi => ?_, fun i => h4.frozen i⟩
    rw [← h5 i hi]
    exact h4.cell i (Nat.lt_of_lt_of_le hi (Nat.mul_le_mul_right _ h2))
theorem Rs.form {tag : Nat → Nat} {t : Nat} {w : World} {r : Res} (h : Rs tag t w r) : ∃ a cap, r.v = .slice a r.n cap ∧ r.n ≤ cap ∧ cap ≤ maxLen ∧ (a = none → cap = 0) := by
  rcases h with ⟨h1, h2⟩ | ⟨g, cap, V', h1, h2, h3, _⟩
  · exact ⟨none, 0, by rw [h1, h2], by omega, by unfold maxLen; omega, fun _ => rfl⟩
  · exact ⟨_, cap, h1, h2, h3, fun h => by cases h⟩
/-- A store into an element's cell. -/
theorem Rs.store {tag : Nat → Nat} {t : Nat} {w : World} {r : Res} (h : Rs tag t w r) {g cap : Nat} (hv : r.v = .slice (some ⟨g, 0, none⟩) r.n cap) (i : Nat) (hi : i < r.n * r.sz) (u : Value) :
    Rs tag t (w.setCell ⟨g, i, none⟩ u) { r with V := fun k => if k = i then u else r.V k } := by
  rcases h with ⟨h1, _⟩ | ⟨g', cap', V', h1, h2, h3, h4, h5, h6⟩
  · rw [hv] at h1; cases h1
  · rw [hv] at h1
    cases h1
    refine .inr ⟨g, cap, _, hv, h2, h3, h4.set i (Nat.lt_of_lt_of_le hi (Nat.mul_le_mul_right _ h2)) u, fun k hk => ?_, h6⟩
    by_cases e : k = i
    · simp [e]
    · simp only [if_neg e]; exact h5 k hk
/-- 's[:0]' of a slice. -/
theorem Rs.cut0 {tag : Nat → Nat} {t : Nat} {w : World} {r : Res} (h : Rs tag t w r) {a : Option Addr} {cap : Nat} (hv : r.v = .slice a r.n cap) (V : Nat → Value) : Rs tag t w { r with v := .slice a 0 cap, n := 0, V := V } := by
  rcases h with ⟨h1, h2⟩ | ⟨g', cap', V', h1, h2, h3, h4, h5, h6⟩
  · rw [hv] at h1
    simp only [Value.slice.injEq] at h1
    obtain ⟨rfl, _, rfl⟩ := h1
    exact .inl ⟨rfl, rfl⟩
  · rw [hv] at h1
    cases h1
    exact .inr ⟨g', cap, V', rfl, Nat.zero_le _, h3, h4, fun i hi => by simp at hi, h6⟩

/-- All slices of the struct, by tag (2 to 11). -/
def All (tag : Nat → Nat) (w : World) (R : Nat → Res) : Prop := ∀ t, 2 ≤ t → t ≤ 11 → Rs tag t w (R t)
def put (R : Nat → Res) (t : Nat) (r : Res) : Nat → Res := fun k => if k = t then r else R k
theorem put_same (R : Nat → Res) (t : Nat) (r : Res) : put R t r t = r := by simp [put]
theorem put_other (R : Nat → Res) (t k : Nat) (r : Res) (h : k ≠ t) : put R t r k = R k := by simp [put, h]
theorem All.ch {tag : Nat → Nat} {t : Nat} {w w' : World} {R : Nat → Res} (h : All tag w R) (hc : Ch tag t w w') (r : Res) (hr : Rs tag t w' r) : All tag w' (put R t r) := fun k h1 h2 => by
  by_cases e : k = t
  · subst e; rw [put_same]; exact hr
  · rw [put_other _ _ _ _ e]; exact (h k h1 h2).ch hc e
/-- What turns none of the struct's slices. -/
theorem All.keep {tag : Nat → Nat} {t : Nat} {w w' : World} {R : Nat → Res} (h : All tag w R) (hc : Ch tag t w w') (ht : t < 2) : All tag w' R := fun k h1 h2 => (h k h1 h2).ch hc (by omega)
theorem All.retag {tag tag' : Nat → Nat} {w : World} {R : Nat → Res} (h : All tag w R) (ha : ∀ k, k < w.heap.size → tag' k = tag k) : All tag' w R := fun k h1 h2 => (h k h1 h2).retag ha

/-- The struct's twenty fields. -/
def fld (gp rv : Value) (ix : Bool) (R : Nat → Res) : Nat → Value
  | 0 => gp | 1 => rv | 2 => .slice none 0 0 | 3 => .slice none 0 0 | 4 => (R 3).v | 5 => (R 2).v | 6 => (R 8).v | 7 => .bool ix | 8 => (R 5).v | 9 => (R 9).v
  | 10 => (R 11).v | 11 => .slice none 0 0 | 12 => (R 10).v | 13 => (R 6).v | 14 => (R 7).v | 15 => .slice none 0 0 | 16 => .int .i64 0 | 17 => .int .i64 0 | 18 => .int .i64 0 | _ => (R 4).v

/-- The whole state. -/
def St (tag : Nat → Nat) (w : World) (F : Nat) (gp rv : Value) (ix : Bool) (R : Nat → Res) : Prop := tag F = 1 ∧ Bk w F 60 20 (fld gp rv ix R) ∧ All tag w R
end Go.Proofs.Qxb6605223a
