/-
  Seat b6605223a. WHAT reset AND index ONLY READ: the graph and the reads, all in blocks of tag 0.
-/
import Derived.Test.Qxb6605223aT0
set_option linter.unusedVariables false
set_option linter.unusedSimpArgs false
namespace Go.Proofs.Qxb6605223a
open Go.RowKit

/-- The graph: where its struct lies, its slices' values, its numbers. -/
structure Gd where
  Gb : Nat
  n : Nat
  P : Nat
  vo : Value
  a1 : Option Addr
  a2 : Option Addr
  a3 : Option Addr
  a4 : Option Addr
  c1 : Nat
  c2 : Nat
  c3 : Nat
  c4 : Nat
  pr : Nat → Nat
  po : Nat → Nat
  fr : Nat → Int
  A : Nat → Option Addr
  L : Nat → Nat
  C : Nat → Nat
  Z : Nat → Nat → Int

/-- The numbers fit each other (zzWellFormed said so). -/
structure Gwf (d : Gd) : Prop where
  n4 : d.n ≤ 4096
  P4 : d.P ≤ 4096
  prP : ∀ i, i < d.n → d.pr i < d.P
  po1 : ∀ i, i < d.n → 1 ≤ d.po i
  poL : ∀ i, i < d.n → d.po i ≤ d.L (d.pr i)
  inv : ∀ i, i < d.n → d.Z (d.pr i) (d.po i - 1) = (i : Int)
  fr1 : ∀ i, i < d.n → -1 ≤ d.fr i
  fr2 : ∀ i, i < d.n → d.fr i < d.n
  Lb : ∀ q, q < d.P → d.L q ≤ 1048576

/-- Read only: a slice of integers in a block of tag 0. -/
def Ro (tag : Nat → Nat) (k : IntKind) (w : World) (a : Option Addr) (n : Nat) (V : Nat → Int) : Prop := RdI k w a n V ∧ ∀ x, a = some x → 0 < n → tag x.block = 0
theorem Ro.ch {tag : Nat → Nat} {t : Nat} {k : IntKind} {w w' : World} {a : Option Addr} {n : Nat} {V : Nat → Int} (h : Ro tag k w a n V) (hc : Ch tag t w w') (ht : t ≠ 0) : Ro tag k w' a n V :=
  ⟨h.1.keep hc.size (fun x hx h0 => hc.block x.block ((h.1.2 x hx).1 h0) (by rw [h.2 x hx h0]; exact fun e => ht e.symm)), h.2⟩
theorem Ro.retag {tag tag' : Nat → Nat} {k : IntKind} {w : World} {a : Option Addr} {n : Nat} {V : Nat → Int} (h : Ro tag k w a n V) (ha : ∀ b, b < w.heap.size → tag' b = tag b) : Ro tag' k w a n V :=
  ⟨h.1, fun x hx h0 => by rw [ha _ ((h.1.2 x hx).1 h0)]; exact h.2 x hx h0⟩
theorem Ro.cell {tag : Nat → Nat} {k : IntKind} {w : World} {a : Option Addr} {n : Nat} {V : Nat → Int} (h : Ro tag k w a n V) (i : Nat) (hi : i < n) : ∃ x, a = some x ∧ w.cell? (x.add i) = some (.int k (V i)) := by
  obtain ⟨x, hx⟩ := h.1.at' (by omega)
  exact ⟨x, hx, (h.1.2 x hx).2 i hi⟩

/-- The graph lies in memory, in blocks of tag 0. -/
structure Gok (tag : Nat → Nat) (w : World) (d : Gd) : Prop where
  lt : d.Gb < w.heap.size
  tg : tag d.Gb = 0
  k0 : w.cell? ⟨d.Gb, 0, none⟩ = some d.vo
  k1 : w.cell? ⟨d.Gb, 1, none⟩ = some (.slice d.a1 d.n d.c1)
  k2 : w.cell? ⟨d.Gb, 2, none⟩ = some (.slice d.a2 d.n d.c2)
  k3 : w.cell? ⟨d.Gb, 3, none⟩ = some (.slice d.a3 d.P d.c3)
  k4 : w.cell? ⟨d.Gb, 4, none⟩ = some (.slice d.a4 d.n d.c4)
  pr : Ro tag .i64 w d.a1 d.n (fun i => (d.pr i : Int))
  po : Ro tag .i32 w d.a2 d.n (fun i => (d.po i : Int))
  fr : Ro tag .i64 w d.a4 d.n d.fr
  bp : 0 < d.P → ∃ x, d.a3 = some x ∧ x.block < w.heap.size ∧ tag x.block = 0 ∧ ∀ q, q < d.P → w.cell? (x.add q) = some (.slice (d.A q) (d.L q) (d.C q))
  rows : ∀ q, q < d.P → Ro tag .i64 w (d.A q) (d.L q) (fun i => d.Z q i)

theorem Gok.ch {tag : Nat → Nat} {t : Nat} {w w' : World} {d : Gd} (h : Gok tag w d) (hc : Ch tag t w w') (ht : t ≠ 0) : Gok tag w' d := by
  have hb := hc.block d.Gb h.lt (by rw [h.tg]; exact fun e => ht e.symm)
  have hk : ∀ i, w'.cell? ⟨d.Gb, i, none⟩ = w.cell? ⟨d.Gb, i, none⟩ := fun i => World.cell?_of_block hb
  refine ⟨Nat.lt_of_lt_of_le h.lt hc.size, h.tg, by rw [hk]; exact h.k0, by rw [hk]; exact h.k1, by rw [hk]; exact h.k2, by rw [hk]; exact h.k3, by rw [hk]; exact h.k4, h.pr.ch hc ht, h.po.ch hc ht, h.fr.ch hc ht, fun h0 => ?_, fun q hq => (h.rows q hq).ch hc ht⟩
  obtain ⟨x, h1, h2, h3, h4⟩ := h.bp h0
  refine ⟨x, h1, Nat.lt_of_lt_of_le h2 hc.size, h3, fun q hq => ?_⟩
  rw [World.cell?_of_block (w := w) (by rw [add_block]; exact hc.block x.block h2 (by rw [h3]; exact fun e => ht e.symm))]
  exact h4 q hq
theorem Gok.retag {tag tag' : Nat → Nat} {w : World} {d : Gd} (h : Gok tag w d) (ha : ∀ b, b < w.heap.size → tag' b = tag b) : Gok tag' w d := by
  refine ⟨h.lt, by rw [ha _ h.lt]; exact h.tg, h.k0, h.k1, h.k2, h.k3, h.k4, h.pr.retag ha, h.po.retag ha, h.fr.retag ha, fun h0 => ?_, fun q hq => (h.rows q hq).retag ha⟩
  obtain ⟨x, h1, h2, h3, h4⟩ := h.bp h0
  exact ⟨x, h1, h2, by rw [ha _ h2]; exact h3, h4⟩
end Go.Proofs.Qxb6605223a
