/-
  Seat b6605294a. slices.Sort (64) AND slices.Compact (65) OF A SLICE OF ONE's OWN.
-/
import Derived.Test.Qxb6605294aD8
import Derived.Test.Qxb6605294aShelf
set_option linter.unusedVariables false
set_option linter.unusedSimpArgs false
namespace Go.Proofs.Qxb6605294a
open Go.RowKit

/-- The first n of V. -/
def ofN (V : Nat → Int) (n : Nat) : List Int := (List.range n).map V
theorem ofN_length (V : Nat → Int) (n : Nat) : (ofN V n).length = n := by simp [ofN]
theorem ofN_get? (V : Nat → Int) (n i : Nat) (h : i < n) : (ofN V n)[i]? = some (V i) := by simp [ofN, h]
theorem ofN_getD (V : Nat → Int) (n i : Nat) (h : i < n) : (ofN V n).getD i 0 = V i := by rw [List.getD_eq_getElem?_getD, ofN_get? V n i h]; rfl
theorem mem_ofN {V : Nat → Int} {n : Nat} {x : Int} : x ∈ ofN V n ↔ ∃ i, i < n ∧ V i = x := by simp [ofN]
theorem ofN_of_list (l : List Int) (n : Nat) (h : l.length = n) : ofN (fun i => l.getD i 0) n = l := by
  apply List.ext_getElem?
  intro i
  rcases Nat.lt_or_ge i n with hi | hi
  · rw [ofN_get? _ _ _ hi]
    have : i < l.length := by omega
    simp [this]
  · rw [List.getElem?_eq_none (by rw [ofN_length]; exact hi), List.getElem?_eq_none (by omega)]
theorem ofN_congr {V V' : Nat → Int} {n : Nat} (h : ∀ i, i < n → V i = V' i) : ofN V n = ofN V' n := by
  apply List.ext_getElem?
  intro i
  rcases Nat.lt_or_ge i n with hi | hi
  · rw [ofN_get? _ _ _ hi, ofN_get? _ _ _ hi, h i hi]
  · rw [List.getElem?_eq_none (by rw [ofN_length]; exact hi), List.getElem?_eq_none (by rw [ofN_length]; exact hi)]

/-- Only A's own block may have turned; blocks may have come. -/
structure Tg (A : Option Addr) (w w' : World) : Prop where
  os : w'.os = w.os
  tape : w'.tape = w.tape
  output : w'.output = w.output
  size : w.heap.size ≤ w'.heap.size
  block : ∀ b, b < w.heap.size → (∀ x, A = some x → b ≠ x.block) → w'.heap[b]? = w.heap[b]?
theorem Tg.refl (A : Option Addr) (w : World) : Tg A w w := ⟨rfl, rfl, rfl, Nat.le_refl _, fun _ _ _ => rfl⟩
theorem Tg.trans {A : Option Addr} {w w1 w2 : World} (h : Tg A w w1) (h' : Tg A w1 w2) : Tg A w w2 :=
  ⟨h'.os.trans h.os, h'.tape.trans h.tape, h'.output.trans h.output, Nat.le_trans h.size h'.size, fun b hb hx => (h'.block b (Nat.lt_of_lt_of_le hb h.size) hx).trans (h.block b hb hx)⟩

theorem heap_putRow (w : World) (g : Nat) (l : List Int) (b : Nat) (h : b ≠ g) : (Go.Sort.putRow (Value.int .i64) w g 0 l.toArray).heap[b]? = w.heap[b]? := by
  unfold Go.Sort.putRow Go.Sort.mapBlock
  simp only [Array.getElem?_modify]
  rw [if_neg (fun e => h e.symm)]
theorem Bk.putRow {w : World} {g n : Nat} {V : Nat → Value} (h : Bk w g 3 n V) (l : List Int) (hl : l.length = n) : Bk (Go.Sort.putRow (Value.int .i64) w g 0 l.toArray) g 3 n (fun i => .int .i64 (l.getD i 0)) := by
  obtain ⟨cur, h1, h2, h3⟩ := h
  refine ⟨Go.Sort.putCells (Value.int .i64) 0 l.toArray cur, ?_, by simp [Go.Sort.putCells, h2], fun i hi => ?_⟩
  · unfold Go.Sort.putRow Go.Sort.mapBlock
    simp [Array.getElem?_modify, h1, Go.Sort.onCells]
  · have hi' : i < l.length := by omega
    simp [Go.Sort.putCells, h3 i hi, hi']
theorem holds_Bk {w : World} {g n : Nat} {V : Nat → Int} (h : Bk w g 3 n (fun i => .int .i64 (V i))) : Go.Sort.Holds (Value.int .i64) w g 0 (ofN V n).toArray := by
  intro j hj
  have hj : j < n := by simpa [ofN] using hj
  refine ⟨?_, h.frozen _⟩
  rw [Nat.zero_add, h.cell j hj]
  simp [ofN, hj]

def SortPost (lo : Nat) (A : Option Addr) (N : Nat) (V : Nat → Int) (w : World) (e : Ending) (w' : World) : Prop :=
  e = .returned (.tuple #[]) ∧ ∃ V', Cn w' lo A N V' ∧ (∀ i j, i < j → j < N → V' i ≤ V' j) ∧ (ofN V' N).Perm (ofN V N) ∧ Tg A w w'

theorem sort_own (lo : Nat) (A : Option Addr) (N c : Nat) (V : Nat → Int) (w : World) (hN : N ≤ 1048576) (h : Cn w lo A N V) : Calls Try.prog 64 #[.slice A N c] w (SortPost lo A N V w) := by
  rcases h with ⟨rfl, rfl⟩ | ⟨g, rfl, hlo, hg, hB⟩
  · refine Calls.mono (Try.slices_Sort_int_none none c w) ?_
    rintro e w' ⟨rfl, rfl⟩
    exact ⟨rfl, V, .inl ⟨rfl, rfl⟩, fun i j _ hj => absurd hj (Nat.not_lt_zero _), List.Perm.refl _, Tg.refl _ _⟩
  · have hc := Try.slices_Sort_int g 0 c (ofN V N) w (holds_Bk hB) hg (by rw [ofN_length]; omega)
    rw [ofN_length] at hc
    refine Calls.mono hc ?_
    rintro e w' ⟨rfl, k, os, rfl⟩
    obtain ⟨l, hl⟩ : ∃ l, l = (ofN V N).mergeSort (fun x y => decide (x ≤ y)) := ⟨_, rfl⟩
    rw [← hl]
    have hp : l.Perm (ofN V N) := by rw [hl]; exact List.mergeSort_perm _ _
    have hlen : l.length = N := by rw [hp.length_eq, ofN_length]
    have hs : l.Pairwise (fun x y => x ≤ y) := by
      rw [hl]
      have := List.pairwise_mergeSort (le := fun (x y : Int) => decide (x ≤ y)) (fun a b c h1 h2 => by simp at h1 h2 ⊢; omega) (fun a b => by simp; omega) (ofN V N)
      exact this.imp (fun h => by simpa using h)
    have hB' : Bk (Go.Sort.putRow (Value.int .i64) (Go.Sort.ahead w k) g 0 l.toArray) g 3 N (fun i => .int .i64 (l.getD i 0)) := Bk.putRow (w := Go.Sort.ahead w k) hB l hlen
    have hsz : (Go.Sort.putRow (Value.int .i64) (Go.Sort.ahead w k) g 0 l.toArray).heap.size = w.heap.size := by simp
    refine ⟨rfl, fun i => l.getD i 0, .inr ⟨g, rfl, hlo, by rw [Go.Sort.size_grow, hsz]; omega, hB'.sameBlock (Go.Sort.heap_grow_old _ _ (by rw [hsz]; exact hg))⟩, fun i j hij hj => ?_, by rw [ofN_of_list l N hlen]; exact hp, ⟨rfl, rfl, rfl, by rw [Go.Sort.size_grow, hsz]; omega, fun b hb hx => ?_⟩⟩
    · have := List.pairwise_iff_getElem.1 hs i j (by omega) (by omega) hij
      have hi' : i < l.length := by omega
      have hj' : j < l.length := by omega
      simpa [hi', hj'] using this
    · rw [Go.Sort.heap_grow_old _ _ (by rw [hsz]; exact hb), heap_putRow _ _ _ _ (hx _ rfl)]
      rfl

theorem compact_strict (V : Nat → Int) (n : Nat) (hs : ∀ i j, i < j → j < n → V i ≤ V j) : (Go.Lib.compact (ofN V n)).Pairwise (fun x y => x < y) := by
  unfold Go.Lib.compact Go.Lib.compactUpTo
  rw [ofN_length]
  have hget : ∀ i, i < n → (ofN V n).toArray[i]! = V i := fun i hi => by simp [ofN, hi]
  rw [List.pairwise_map]
  have h1 : ((List.range n).filter (Go.Lib.keeps (ofN V n).toArray)).Pairwise (fun a b => a < b) := (List.pairwise_lt_range (n := n)).filter _
  refine h1.imp_of_mem (fun {a b} ha hb hab => ?_)
  simp only [List.mem_filter, List.mem_range] at ha hb
  rw [hget a ha.1, hget b hb.1]
  have hk := hb.2
  simp only [Go.Lib.keeps, decide_eq_true_eq] at hk
  rcases hk with rfl | hk
  · omega
  · rw [hget b hb.1, hget (b - 1) (by omega)] at hk
    have h2 := hs (b - 1) b (by omega) hb.1
    rcases Nat.lt_or_ge a (b - 1) with h3 | h3
    · have := hs a (b - 1) h3 (by omega)
      omega
    · obtain rfl : a = b - 1 := by omega
      omega
theorem compact_mem (V : Nat → Int) (n : Nat) (x : Int) : x ∈ Go.Lib.compact (ofN V n) ↔ x ∈ ofN V n := by
  unfold Go.Lib.compact Go.Lib.compactUpTo
  rw [ofN_length]
  have hget : ∀ i, i < n → (ofN V n).toArray[i]! = V i := fun i hi => by simp [ofN, hi]
  rw [mem_ofN, List.mem_map]
  constructor
  · rintro ⟨a, ha, rfl⟩
    simp only [List.mem_filter, List.mem_range] at ha
    exact ⟨a, ha.1, (hget a ha.1).symm⟩
  · rintro ⟨i, hi, rfl⟩
    induction i with
    | zero => exact ⟨0, by simp [Go.Lib.keeps, hi], hget 0 hi⟩
    | succ i ih =>
      by_cases e : V (i + 1) = V i
      · rw [e]; exact ih (by omega)
      · refine ⟨i + 1, ?_, hget _ hi⟩
        simp only [List.mem_filter, List.mem_range]
        refine ⟨hi, ?_⟩
        simp only [Go.Lib.keeps, decide_eq_true_eq]
        right
        rw [hget _ hi, Nat.add_sub_cancel, hget i (by omega)]
        exact e

def CompPost (lo : Nat) (A : Option Addr) (N c : Nat) (V : Nat → Int) (w : World) (e : Ending) (w' : World) : Prop :=
  ∃ M V', e = .returned (.slice A M c) ∧ M ≤ N ∧ Cn w' lo A N V' ∧ (∀ i j, i < j → j < M → V' i < V' j) ∧ (∀ x, x ∈ ofN V' M ↔ x ∈ ofN V N) ∧ Tg A w w'

theorem compact_own (lo : Nat) (A : Option Addr) (N c : Nat) (V : Nat → Int) (w : World) (hN : N ≤ 1048576) (hc : N ≤ c) (hs : ∀ i j, i < j → j < N → V i ≤ V j) (h : Cn w lo A N V) : Calls Try.prog 65 #[.slice A N c] w (CompPost lo A N c V w) := by
  rcases h with ⟨rfl, rfl⟩ | ⟨g, rfl, hlo, hg, hB⟩
  · refine Calls.mono (Try.slices_Compact_int_empty none c w) ?_
    rintro e w' ⟨rfl, rfl⟩
    exact ⟨0, V, rfl, Nat.le_refl _, .inl ⟨rfl, rfl⟩, fun i j _ hj => absurd hj (Nat.not_lt_zero _), fun x => Iff.rfl, Tg.refl _ _⟩
  · have hcc := Try.slices_Compact_int g 0 c (ofN V N) w (holds_Bk hB) (by rw [ofN_length]; omega) (by rw [ofN_length]; omega)
    rw [ofN_length] at hcc
    refine Calls.mono hcc ?_
    have hst := compact_strict V N hs
    have hme := compact_mem V N
    have hle : (Go.Lib.compact (ofN V N)).length ≤ N := by
      unfold Go.Lib.compact Go.Lib.compactUpTo
      rw [List.length_map, ofN_length]
      refine Nat.le_trans (List.length_filter_le _ _) ?_
      simp
    revert hst hme hle
    generalize Go.Lib.compact (ofN V N) = l
    intro hst hme hle
    rintro e w' ⟨rfl, k, rfl⟩
    obtain ⟨l2, hl2⟩ : ∃ l2, l2 = l ++ List.replicate (N - l.length) 0 := ⟨_, rfl⟩
    rw [← hl2]
    have hlen : l2.length = N := by rw [hl2]; simp; omega
    have hB' : Bk (Go.Sort.putRow (Value.int .i64) (Go.Sort.ahead w k) g 0 l2.toArray) g 3 N (fun i => .int .i64 (l2.getD i 0)) := Bk.putRow (w := Go.Sort.ahead w k) hB l2 hlen
    have hsz : (Go.Sort.putRow (Value.int .i64) (Go.Sort.ahead w k) g 0 l2.toArray).heap.size = w.heap.size := by simp
    have hget : ∀ i, i < l.length → l2.getD i 0 = l.getD i 0 := fun i hi => by
      rw [hl2, List.getD_eq_getElem?_getD, List.getD_eq_getElem?_getD, List.getElem?_append_left hi]
    refine ⟨l.length, fun i => l2.getD i 0, rfl, hle, .inr ⟨g, rfl, hlo, by rw [hsz]; exact hg, hB'⟩, fun i j hij hj => ?_, fun x => ?_, ⟨rfl, rfl, rfl, by rw [hsz]; exact Nat.le_refl _, fun b hb hx => ?_⟩⟩
    · show l2.getD i 0 < l2.getD j 0
      rw [hget i (by omega), hget j hj]
      have := List.pairwise_iff_getElem.1 hst i j (by omega) (by omega) hij
      have hi' : i < l.length := by omega
      simpa [hi', hj] using this
    · rw [ofN_congr hget, ofN_of_list l _ rfl]
      exact hme x
    · rw [heap_putRow _ _ _ _ (hx _ rfl)]
      rfl
end Go.Proofs.Qxb6605294a
