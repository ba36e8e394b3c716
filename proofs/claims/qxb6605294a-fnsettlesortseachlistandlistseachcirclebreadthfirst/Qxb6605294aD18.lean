/-
  Seat b6605294a. WHAT IS KNOWN OF THE INPUT ONCE IT IS WELL FORMED; THE SAME, REVERSED.
-/
import Derived.Test.Qxb6605294aD17
set_option linter.unusedVariables false
set_option linter.unusedSimpArgs false
namespace Go.Proofs.Qxb6605294a
open Go.RowKit

theorem bl_trans {a b c : World} (h : Below a.heap.size a b) (k : Below b.heap.size b c) : Below a.heap.size a c := h.trans (k.mono h.size)
theorem Ts.toBelow {B : Nat} {D : Nat → Prop} {a w w' : World} (h : Below B a w) (t : Ts D w w') (hB : B ≤ a.heap.size) (hD : ∀ b, D b → B ≤ b) : Below B a w' :=
  ⟨t.os.trans h.os, t.tape.trans h.tape, t.output.trans h.output, Nat.le_trans h.size t.size, fun b hb => by
    have := h.size
    rw [t.block b (by omega) (fun hd => by have := hD b hd; omega), h.block b hb]⟩

theorem ins_ex (a : Int) : ∀ m : List Int, m.Pairwise (fun x y => x < y) → ∃ m' : List Int, m'.Pairwise (fun x y => x < y) ∧ ∀ x, x ∈ m' ↔ x = a ∨ x ∈ m
  | [], _ => ⟨[a], by simp, by simp⟩
  | b :: m, h => by
    rw [List.pairwise_cons] at h
    rcases Int.lt_trichotomy a b with h1 | h1 | h1
    · refine ⟨a :: b :: m, ?_, by simp⟩
      rw [List.pairwise_cons, List.pairwise_cons]
      refine ⟨fun x hx => ?_, h⟩
      rcases List.mem_cons.1 hx with rfl | hx
      · exact h1
      · have := h.1 x hx; omega
    · refine ⟨b :: m, by rw [List.pairwise_cons]; exact h, fun x => ?_⟩
      simp only [List.mem_cons]
      constructor
      · exact .inr
      · rintro (rfl | h2)
        · exact .inl h1
        · exact h2
    · obtain ⟨m', k1, k2⟩ := ins_ex a m h.2
      refine ⟨b :: m', ?_, fun x => ?_⟩
      · rw [List.pairwise_cons]
        refine ⟨fun x hx => ?_, k1⟩
        rcases (k2 x).1 hx with rfl | hx
        · exact h1
        · exact h.1 x hx
      · simp only [List.mem_cons, k2]
        constructor
        · rintro (h | h | h)
          · exact .inr (.inl h)
          · exact .inl h
          · exact .inr (.inr h)
        · rintro (h | h | h)
          · exact .inr (.inl h)
          · exact .inl h
          · exact .inr (.inr h)
theorem set_ex : ∀ l : List Int, ∃ m : List Int, m.Pairwise (fun x y => x < y) ∧ ∀ x, x ∈ m ↔ x ∈ l
  | [] => ⟨[], by simp, by simp⟩
  | a :: l => by
    obtain ⟨m, h1, h2⟩ := set_ex l
    obtain ⟨m', k1, k2⟩ := ins_ex a m h1
    exact ⟨m', k1, fun x => by rw [k2, h2, List.mem_cons]⟩

/-- All that is known of a well-formed input: the sorted lists, the sorted persons. -/
structure Inp (n : Nat) (PE : Nat → Int) (N : Nat → Nat → Nat) (Z : Nat → Nat → Nat → Int) (kl : Int → Nat → List Int) (PS : Nat → Int) : Prop where
  hn : n ≤ 1048576
  hN : ∀ k j, k < 4 → j < n → N k j ≤ 1048576
  hkl : ∀ j k, j < n → k < 4 → (kl (PE j) k).Pairwise (fun x y => x < y) ∧ ∀ x, x ∈ kl (PE j) k ↔ x ∈ ofN (Z k j) (N k j)
  hrel : ∀ j k, j < n → k < 4 → ∀ x, x ∈ ofN (Z k j) (N k j) → Per PE n x
  hinj : ∀ i j, i < n → j < n → PE i = PE j → i = j
  hPS : ∀ i j, i < j → j < n → PS i < PS j
  hPm : ∀ x, x ∈ ofN PS n ↔ x ∈ ofN PE n

theorem Inp.make {n : Nat} {PE : Nat → Int} {L : Nat → Nat → Nat} {Z : Nat → Nat → Nat → Int} (hn : n ≤ 1048576) (hN : ∀ k j, k < 4 → j < n → L k j ≤ 1048576) (h : Wf n PE L Z) : ∃ kl PS, Inp n PE L Z kl PS := by
  have hx : ∀ (p : Int) (k : Nat), ∃ m : List Int, ∀ j, j < n → PE j = p → m.Pairwise (fun x y => x < y) ∧ ∀ x, x ∈ m ↔ x ∈ ofN (Z k j) (L k j) := fun p k => by
    by_cases hp : ∃ j, j < n ∧ PE j = p
    · obtain ⟨j, hj, rfl⟩ := hp
      obtain ⟨m, h1, h2⟩ := set_ex (ofN (Z k j) (L k j))
      refine ⟨m, fun j' hj' e => ?_⟩
      obtain rfl := h.inj j' j hj' hj e
      exact ⟨h1, h2⟩
    · exact ⟨[], fun j hj e => absurd ⟨j, hj, e⟩ hp⟩
  obtain ⟨m, h1, h2⟩ := set_ex (ofN PE n)
  have hnd : (ofN PE n).Nodup := by
    show List.Pairwise (fun a b => a ≠ b) (ofN PE n)
    rw [List.pairwise_iff_getElem]
    intro i j hi hj hij e
    rw [ofN_length] at hi hj
    have e : PE i = PE j := by simpa [ofN] using e
    have := h.inj i j hi hj e
    omega
  have hlen : m.length = n := by
    have a1 := nodup_le m (ofN PE n) (strict_nodup h1) (fun x hx => (h2 x).1 hx)
    have a2 := nodup_le (ofN PE n) m hnd (fun x hx => (h2 x).2 hx)
    rw [ofN_length] at a1 a2
    omega
  refine ⟨fun p k => Classical.choose (hx p k), fun i => m.getD i 0, hn, hN, fun j k hj hk => Classical.choose_spec (hx (PE j) k) j hj rfl, fun j k hj hk x hx => ?_, h.inj, fun i j hij hj => ?_, fun x => ?_⟩
  · obtain ⟨t, ht, rfl⟩ := mem_ofN.1 hx
    obtain ⟨j', hj', e⟩ := h.rel j hj k hk t ht
    exact ⟨j', hj', e.symm⟩
  · have := List.pairwise_iff_getElem.1 h1 i j (by omega) (by omega) hij
    have hi' : i < m.length := by omega
    have hj' : j < m.length := by omega
    simpa [hi', hj'] using this
  · rw [ofN_of_list m n hlen]
    exact h2 x

theorem mem_rev {V : Nat → Int} {n : Nat} {x : Int} : x ∈ ofN (fun i => V (n - 1 - i)) n ↔ x ∈ ofN V n := by
  rw [mem_ofN, mem_ofN]
  constructor
  · rintro ⟨i, hi, rfl⟩
    exact ⟨n - 1 - i, by omega, rfl⟩
  · rintro ⟨i, hi, rfl⟩
    exact ⟨n - 1 - i, by omega, by show V (n - 1 - (n - 1 - i)) = V i; congr 1; omega⟩

theorem Inp.rev {n : Nat} {PE : Nat → Int} {L1 L2 L3 L4 : Nat → Nat} {Z1 Z2 Z3 Z4 : Nat → Nat → Int} {kl : Int → Nat → List Int} {PS : Nat → Int} (h : Inp n PE (pick4 L1 L2 L3 L4) (pick4 Z1 Z2 Z3 Z4) kl PS) :
    Inp n (fun j => PE (n - 1 - j)) (pick4 (fun j => L1 (n - 1 - j)) (fun j => L2 (n - 1 - j)) (fun j => L3 (n - 1 - j)) (fun j => L4 (n - 1 - j)))
      (pick4 (fun j i => Z1 (n - 1 - j) (L1 (n - 1 - j) - 1 - i)) (fun j i => Z2 (n - 1 - j) (L2 (n - 1 - j) - 1 - i)) (fun j i => Z3 (n - 1 - j) (L3 (n - 1 - j) - 1 - i)) (fun j i => Z4 (n - 1 - j) (L4 (n - 1 - j) - 1 - i))) kl PS := by
  have eN : ∀ k j, k < 4 → pick4 (fun j => L1 (n - 1 - j)) (fun j => L2 (n - 1 - j)) (fun j => L3 (n - 1 - j)) (fun j => L4 (n - 1 - j)) k j = pick4 L1 L2 L3 L4 k (n - 1 - j) := fun k j hk => by
    have : k = 0 ∨ k = 1 ∨ k = 2 ∨ k = 3 := by omega
    rcases this with rfl | rfl | rfl | rfl <;> rfl
  have eZ : ∀ k j, k < 4 → pick4 (fun j i => Z1 (n - 1 - j) (L1 (n - 1 - j) - 1 - i)) (fun j i => Z2 (n - 1 - j) (L2 (n - 1 - j) - 1 - i)) (fun j i => Z3 (n - 1 - j) (L3 (n - 1 - j) - 1 - i)) (fun j i => Z4 (n - 1 - j) (L4 (n - 1 - j) - 1 - i)) k j = fun i => pick4 Z1 Z2 Z3 Z4 k (n - 1 - j) (pick4 L1 L2 L3 L4 k (n - 1 - j) - 1 - i) := fun k j hk => by
    have : k = 0 ∨ k = 1 ∨ k = 2 ∨ k = 3 := by omega
    rcases this with rfl | rfl | rfl | rfl <;> rfl
  have hper : ∀ x, Per PE n x → Per (fun j => PE (n - 1 - j)) n x := by
    rintro x ⟨j, hj, rfl⟩
    exact ⟨n - 1 - j, by omega, by show PE (n - 1 - (n - 1 - j)) = PE j; congr 1; omega⟩
  refine ⟨h.hn, fun k j hk hj => by rw [eN k j hk]; exact h.hN k _ hk (by omega), fun j k hj hk => ?_, fun j k hj hk x hx => ?_, fun i j hi hj e => ?_, h.hPS, fun x => (h.hPm x).trans mem_rev.symm⟩
  · obtain ⟨q1, q2⟩ := h.hkl (n - 1 - j) k (by omega) hk
    refine ⟨q1, fun x => ?_⟩
    rw [eN k j hk, eZ k j hk]
    exact (q2 x).trans (mem_rev (V := pick4 Z1 Z2 Z3 Z4 k (n - 1 - j)) (n := pick4 L1 L2 L3 L4 k (n - 1 - j))).symm
  · rw [eN k j hk, eZ k j hk] at hx
    exact hper x (h.hrel (n - 1 - j) k (by omega) hk x ((mem_rev (V := pick4 Z1 Z2 Z3 Z4 k (n - 1 - j)) (n := pick4 L1 L2 L3 L4 k (n - 1 - j))).1 hx))
  · have := h.hinj (n - 1 - i) (n - 1 - j) (by omega) (by omega) e
    omega

section
variable {n : Nat} {PE : Nat → Int} {N : Nat → Nat → Nat} {Z : Nat → Nat → Nat → Int} {kl : Int → Nat → List Int} {PS : Nat → Int}
theorem Inp.per (h : Inp n PE N Z kl PS) : ∀ p, Per PE n p → ∀ k, k < 4 → ∀ x ∈ kl p k, Per PE n x := by
  rintro p ⟨j, hj, rfl⟩ k hk x hx
  exact h.hrel j k hj hk x (((h.hkl j k hj hk).2 x).1 hx)
theorem Inp.pp (h : Inp n PE N Z kl PS) : ∀ i, i < n → Per PE n (PS i) := fun i hi => by
  obtain ⟨j, hj, e⟩ := mem_ofN.1 ((h.hPm (PS i)).1 (mem_ofN.2 ⟨i, hi, rfl⟩))
  exact ⟨j, hj, e⟩
theorem Inp.pq (h : Inp n PE N Z kl PS) : ∀ x, Per PE n x → x ∈ ofN PS n := fun x hx => (h.hPm x).2 (mem_ofN.2 hx)
theorem Inp.ok (h : Inp n PE N Z kl PS) : Bok (Per PE n) PS n (bfsN kl n PS n) := bfsN_ok kl h.per n PS h.pp n (Nat.le_refl _)
/-- Every person has a circle. -/
theorem Inp.co (h : Inp n PE N Z kl PS) (j : Nat) (hj : j < n) : ∃ x, (bfsN kl n PS n).co (PE j) = some x := by
  obtain ⟨i, hi, e⟩ := mem_ofN.1 (h.pq (PE j) ⟨j, hj, rfl⟩)
  have := h.ok.all i hi
  rw [e, Option.isSome_iff_exists] at this
  exact this
theorem Inp.lens (h : Inp n PE N Z kl PS) : (bfsN kl n PS n).done.length ≤ 1048576 ∧ ∀ q, q < (bfsN kl n PS n).done.length → ((bfsN kl n PS n).done.getD q []).length ≤ 1048576 := by
  have hn := h.hn
  refine ⟨by have := h.ok.len; omega, fun q hq => ?_⟩
  have := bfsN_lens kl h.per n PS h.pp h.pq n (Nat.le_refl _) ((bfsN kl n PS n).done.getD q []) (by rw [List.getD_eq_getElem?_getD, List.getElem?_eq_getElem hq]; exact List.getElem_mem hq)
  omega
/-- What isSortedSetOf is told. -/
theorem Inp.set (h : Inp n PE N Z kl PS) {j k : Nat} (hj : j < n) (hk : k < 4) {M : Nat} {V : Nat → Int} (hV : ofN V M = kl (PE j) k) :
    (∀ a b, a < b → b < M → V a < V b) ∧ (∀ i, i < M → ∃ t, t < N k j ∧ V i = Z k j t) ∧ ∀ t, t < N k j → ∃ i, i < M ∧ Z k j t = V i := by
  obtain ⟨q1, q2⟩ := h.hkl j k hj hk
  rw [← hV] at q1 q2
  refine ⟨fun a b hab hb => ?_, fun i hi => ?_, fun t ht => ?_⟩
  · have := List.pairwise_iff_getElem.1 q1 a b (by rw [ofN_length]; omega) (by rw [ofN_length]; omega) hab
    simpa [ofN] using this
  · obtain ⟨t, ht, e⟩ := mem_ofN.1 ((q2 (V i)).1 (mem_ofN.2 ⟨i, hi, rfl⟩))
    exact ⟨t, ht, e.symm⟩
  · obtain ⟨i, hi, e⟩ := mem_ofN.1 ((q2 (Z k j t)).2 (mem_ofN.2 ⟨t, ht, rfl⟩))
    exact ⟨i, hi, e.symm⟩
end
theorem ofN_eq {V V' : Nat → Int} {M M' : Nat} (h : ofN V M = ofN V' M') : M = M' ∧ ∀ i, i < M → V i = V' i := by
  have hl : (ofN V M).length = (ofN V' M').length := by rw [h]
  rw [ofN_length, ofN_length] at hl
  subst hl
  exact ⟨rfl, fun i hi => ofN_inj h i hi⟩
end Go.Proofs.Qxb6605294a
