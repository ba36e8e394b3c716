/-
  Seat b6605223a. WORDS for reset's loops: the frame, the fields, loop 1.
-/
import Derived.Test.Qxb6605223aT1
set_option linter.unusedVariables false
set_option linter.unusedSimpArgs false
namespace Go.Proofs.Qxb6605223a
open Go.RowKit

/-- Of what was there, the blocks of tag 0 are as they were. -/
structure Ct (tag : Nat → Nat) (w w' : World) : Prop where
  os : w'.os = w.os
  tape : w'.tape = w.tape
  output : w'.output = w.output
  size : w.heap.size ≤ w'.heap.size
  block : ∀ k, k < w.heap.size → tag k = 0 → w'.heap[k]? = w.heap[k]?
theorem Ct.refl (tag : Nat → Nat) (w : World) : Ct tag w w := ⟨rfl, rfl, rfl, Nat.le_refl _, fun _ _ _ => rfl⟩
theorem Ct.step {tag tag' : Nat → Nat} {t : Nat} {a b c : World} (h : Ct tag a b) (hc : Ch tag' t b c) (ht : t ≠ 0) (ha : ∀ k, k < a.heap.size → tag' k = tag k) : Ct tag a c :=
  ⟨hc.os.trans h.os, hc.tape.trans h.tape, hc.output.trans h.output, Nat.le_trans h.size hc.size, fun k hk h0 => (hc.block k (Nat.lt_of_lt_of_le hk h.size) (by rw [ha k hk, h0]; exact fun e => ht e.symm)).trans (h.block k hk h0)⟩

/-- The same slice but for what its cells hold. -/
def Sh (r r' : Res) : Prop := r.e = r'.e ∧ r.sz = r'.sz ∧ r.v = r'.v ∧ r.n = r'.n
theorem Sh.refl (r : Res) : Sh r r := ⟨rfl, rfl, rfl, rfl⟩

theorem St.upd {tag : Nat → Nat} {w : World} {F : Nat} {gp rv : Value} {ix : Bool} {R : Nat → Res} (h : St tag w F gp rv ix R) (t g cap i : Nat) (h2 : 2 ≤ t) (h11 : t ≤ 11) (hv : (R t).v = .slice (some ⟨g, 0, none⟩) (R t).n cap) (hg : tag g = t) (hi : i < (R t).n * (R t).sz) (u : Value) :
    St tag (w.setCell ⟨g, i, none⟩ u) F gp rv ix (put R t { R t with V := fun k => if k = i then u else (R t).V k }) := by
  have hc : Ch tag t w (w.setCell ⟨g, i, none⟩ u) := Ch.set w hg i none u
  refine ⟨h.1, ?_, h.2.2.ch hc _ ((h.2.2 t h2 h11).store hv i hi u)⟩
  have hb : Bk (w.setCell ⟨g, i, none⟩ u) F 60 20 (fld gp rv ix R) := h.2.1.sameBlock (hc.block F h.2.1.lt (by rw [h.1]; omega))
  refine hb.congr fun k hk => ?_
  have hp : ∀ s, (put R t { R t with V := fun k => if k = i then u else (R t).V k } s).v = (R s).v := fun s => by
    by_cases e : s = t
    · subst e; rw [put_same]
    · rw [put_other _ _ _ _ e]
  unfold fld
  split <;> simp only [hp]
theorem St.drewN {tag : Nat → Nat} {w : World} {F : Nat} {gp rv : Value} {ix : Bool} {R : Nat → Res} (h : St tag w F gp rv ix R) (q : Nat) : St tag (w.drewN q) F gp rv ix R := h

theorem Rs.cells {tag : Nat → Nat} {t : Nat} {w : World} {r : Res} (h : Rs tag t w r) {g cap : Nat} (hv : r.v = .slice (some ⟨g, 0, none⟩) r.n cap) : (∀ i, i < r.n * r.sz → w.cell? ⟨g, i, none⟩ = some (r.V i)) ∧ (∀ i, w.frozen? ⟨g, i, none⟩ = false) ∧ tag g = t ∧ g < w.heap.size := by
  rcases h with ⟨h1, _⟩ | ⟨g', cap', V', h1, h2, h3, h4, h5, h6⟩
  · rw [hv] at h1; cases h1
  · rw [hv] at h1
    cases h1
    exact ⟨fun i hi => by rw [← h5 i hi]; exact h4.cell i (Nat.lt_of_lt_of_le hi (Nat.mul_le_mul_right _ h2)), fun i => h4.frozen i, h6, h4.lt⟩

/-- Set to v at the first i of us. -/
def Cl (us : Nat → Nat) (i : Nat) (o o' : Nat → Int) (v : Int) : Prop := ∀ q, ((∃ j, j < i ∧ us j = q) → o' q = v) ∧ ((¬ ∃ j, j < i ∧ us j = q) → o' q = o q)
theorem Cl.start (us : Nat → Nat) (o : Nat → Int) (v : Int) : Cl us 0 o o v := fun q => ⟨fun ⟨j, hj, _⟩ => absurd hj (Nat.not_lt_zero _), fun _ => rfl⟩
theorem Cl.step {us : Nat → Nat} {i : Nat} {o o' : Nat → Int} {v : Int} (h : Cl us i o o' v) : Cl us (i + 1) o (fun k => if k = us i then v else o' k) v := fun q => by
  constructor
  · rintro ⟨j, hj, e⟩
    by_cases e2 : q = us i
    · simp [e2]
    · simp only [if_neg e2]
      refine (h q).1 ⟨j, ?_, e⟩
      rcases Nat.lt_or_ge j i with h1 | h1
      · exact h1
      · obtain rfl : j = i := by omega
        exact absurd e.symm e2
  · intro hn
    have e2 : ¬ q = us i := fun e => hn ⟨i, by omega, e.symm⟩
    simp only [if_neg e2]
    exact (h q).2 fun ⟨j, hj, e⟩ => hn ⟨j, by omega, e⟩

/-- Loop 1's slices: runOf, waited and entries hold these. -/
structure LA (R R1 : Nat → Res) (P : Nat) (ro wa : Nat → Int) : Prop where
  oth : ∀ t, t ≠ 9 → t ≠ 10 → t ≠ 11 → R1 t = R t
  s9 : Sh (R1 9) (R 9)
  s10 : Sh (R1 10) (R 10)
  s11 : Sh (R1 11) (R 11)
  v9 : ∀ q, q < P → (R1 9).V q = .int .i32 (ro q)
  v10 : ∀ q, q < P → (R1 10).V q = .int .i32 (wa q)
  v11 : ∀ q, q < P → (R1 11).V q = .slice none 0 0
/-- What reset finds. -/
structure Pre (R : Nat → Res) (P u : Nat) (us : Nat → Nat) : Prop where
  n4 : (R 4).n = u
  s4 : (R 4).sz = 1
  e4 : (R 4).e = 3
  v4 : ∀ i, i < u → (R 4).V i = .int .i64 (us i)
  n9 : (R 9).n = P
  s9 : (R 9).sz = 1
  e9 : (R 9).e = 21
  n10 : (R 10).n = P
  s10 : (R 10).sz = 1
  e10 : (R 10).e = 21
  n11 : (R 11).n = P
  s11 : (R 11).sz = 1
  e11 : (R 11).e = 75
  us1 : ∀ i, i < u → us i < P
end Go.Proofs.Qxb6605223a
