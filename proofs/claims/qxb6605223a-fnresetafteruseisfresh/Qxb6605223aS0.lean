/-
  Seat b6605223a. SORTING uint64: words. A row of uint64 known by a function; what turns and what stays; 'Same' (one range holds the same values), 'Srt' (one range is sorted).
-/
import Derived.Test.Qxb6605223aProg
import Derived.WalkKit
import Derived.WalkSpells
import Derived.WalkLawsBesides
import Derived.Below
import Derived.Deep.QuietTactic
import Derived.BigQuiet
import Derived.RegionTactic
import Derived.BigRegion
set_option linter.unusedVariables false
set_option linter.unusedSimpArgs false
namespace Go.Proofs.Qxb6605223a
open Go.RowKit

/-- A row of uint64 at the head of block g: n elements, c cells. -/
def Rw (w : World) (g n c : Nat) (D : Nat → Int) : Prop := ∃ cur : Array Value, w.heap[g]? = some (.cells cur 64 (0, 0)) ∧ cur.size = c ∧ n ≤ c ∧ ∀ i, i < n → cur[i]? = some (.int .u64 (D i))

theorem Rw.cell {w : World} {g n c : Nat} {D : Nat → Int} (h : Rw w g n c D) (i : Nat) (hi : i < n) : w.cell? ⟨g, i, none⟩ = some (.int .u64 (D i)) := by
  obtain ⟨cur, h1, h2, h3, h4⟩ := h
  simp [World.cell?, h1, h4 i hi]
theorem Rw.frozen {w : World} {g n c : Nat} {D : Nat → Int} (h : Rw w g n c D) (i : Nat) : w.frozen? ⟨g, i, none⟩ = false := by
  obtain ⟨cur, h1, h2, h3, h4⟩ := h
  simp [World.frozen?, h1]
theorem Rw.lt {w : World} {g n c : Nat} {D : Nat → Int} (h : Rw w g n c D) : g < w.heap.size := by
  obtain ⟨cur, h1, h2, h3, h4⟩ := h
  exact (Array.getElem?_eq_some_iff.1 h1).1
theorem Rw.le {w : World} {g n c : Nat} {D : Nat → Int} (h : Rw w g n c D) : n ≤ c := by
  obtain ⟨cur, h1, h2, h3, h4⟩ := h
  exact h3
theorem Rw.set {w : World} {g n c : Nat} {D : Nat → Int} (h : Rw w g n c D) (i : Nat) (hi : i < n) (v : Int) : Rw (w.setCell ⟨g, i, none⟩ (.int .u64 v)) g n c (fun k => if k = i then v else D k) := by
  obtain ⟨cur, h1, h2, h3, h4⟩ := h
  refine ⟨cur.setIfInBounds i (.int .u64 v), ?_, by simp [h2], h3, fun k hk => ?_⟩
  · simp [World.setCell, Array.getElem?_modify, h1]
  · simp only [Array.getElem?_setIfInBounds]
    by_cases e : i = k
    · subst e
      simp; omega
    · rw [if_neg e, if_neg (fun h => e h.symm)]
      exact h4 k hk
theorem Rw.congr {w : World} {g n c : Nat} {D D' : Nat → Int} (h : Rw w g n c D) (hd : ∀ i, i < n → D' i = D i) : Rw w g n c D' := by
  obtain ⟨cur, h1, h2, h3, h4⟩ := h
  exact ⟨cur, h1, h2, h3, fun i hi => by rw [hd i hi]; exact h4 i hi⟩
theorem Rw.drewN {w : World} {g n c : Nat} {D : Nat → Int} (h : Rw w g n c D) (q : Nat) : Rw (w.drewN q) g n c D := h
theorem Rw.alloc {w : World} {g n c : Nat} {D : Nat → Int} (h : Rw w g n c D) (o : Obj) : Rw (w.alloc o) g n c D := by
  have hl := h.lt
  obtain ⟨cur, h1, h2, h3, h4⟩ := h
  exact ⟨cur, by rw [Below.heap_alloc _ _ _ hl]; exact h1, h2, h3, h4⟩
theorem Rw.other {w : World} {g n c : Nat} {D : Nat → Int} (h : Rw w g n c D) (p : Addr) (hp : g ≠ p.block) (v : Value) : Rw (w.setCell p v) g n c D := by
  obtain ⟨cur, h1, h2, h3, h4⟩ := h
  exact ⟨cur, by rw [Below.heap_setCell _ _ _ _ hp]; exact h1, h2, h3, h4⟩

/-- Of what was there only block g has turned. -/
structure Fr (g : Nat) (w w' : World) : Prop where
  os : w'.os = w.os
  tape : w'.tape = w.tape
  output : w'.output = w.output
  size : w.heap.size ≤ w'.heap.size
  block : ∀ k, k < w.heap.size → k ≠ g → w'.heap[k]? = w.heap[k]?

theorem Fr.refl (g : Nat) (w : World) : Fr g w w := ⟨rfl, rfl, rfl, Nat.le_refl _, fun _ _ _ => rfl⟩
theorem Fr.trans {g : Nat} {a b c : World} (h : Fr g a b) (k : Fr g b c) : Fr g a c :=
  ⟨k.os.trans h.os, k.tape.trans h.tape, k.output.trans h.output, Nat.le_trans h.size k.size, fun i hi hg => (k.block i (Nat.lt_of_lt_of_le hi h.size) hg).trans (h.block i hi hg)⟩
theorem Fr.drewN {g : Nat} {a w : World} (h : Fr g a w) (q : Nat) : Fr g a (w.drewN q) := ⟨h.os, h.tape, h.output, h.size, h.block⟩
theorem Fr.drew {g : Nat} {a w : World} (h : Fr g a w) : Fr g a w.drew := ⟨h.os, h.tape, h.output, h.size, h.block⟩
theorem Fr.set {g : Nat} {a w : World} (h : Fr g a w) (i : Nat) (s : Option Nat) (v : Value) : Fr g a (w.setCell ⟨g, i, s⟩ v) :=
  h.trans ⟨rfl, rfl, rfl, by simp [World.setCell], fun k hk hg => Below.heap_setCell _ _ _ _ hg⟩
theorem Fr.alloc {g : Nat} {a w : World} (h : Fr g a w) (o : Obj) : Fr g a (w.alloc o) :=
  h.trans ⟨rfl, rfl, rfl, by simp, fun k hk _ => Below.heap_alloc _ _ _ hk⟩
theorem Fr.setNew {g : Nat} {a w : World} (h : Fr g a w) (p : Addr) (hp : a.heap.size ≤ p.block) (v : Value) : Fr g a (w.setCell p v) :=
  ⟨h.os, h.tape, h.output, by simp [World.setCell]; exact h.size, fun k hk hg => by rw [Below.heap_setCell _ _ _ _ (by omega)]; exact h.block k hk hg⟩
theorem Fr.below {g B : Nat} {a w w' : World} (h : Below B a w) (hf : Fr g w w') (hB : B ≤ w.heap.size) (hg : B ≤ g) : Below B a w' :=
  h.trans ⟨hf.os, hf.tape, hf.output, hf.size, fun k hk => hf.block k (by omega) (by omega)⟩

def swp (D : Nat → Int) (i j : Nat) : Nat → Int := fun k => if k = i then D j else if k = j then D i else D k

theorem Rw.swap {w : World} {g n c : Nat} {D : Nat → Int} (h : Rw w g n c D) (i j : Nat) (hi : i < n) (hj : j < n) :
    Rw ((w.setCell ⟨g, i, none⟩ (.int .u64 (D j))).setCell ⟨g, j, none⟩ (.int .u64 (D i))) g n c (swp D i j) := by
  refine ((h.set i hi (D j)).set j hj (D i)).congr fun k hk => ?_
  unfold swp
  by_cases e1 : k = i <;> by_cases e2 : k = j
  · subst e1; subst e2; simp
  · simp [e1]; intro h; omega
  · subst e2
    simp [e1]
  · simp [e1, e2]
theorem Rw.swap' {w : World} {g n c : Nat} {D : Nat → Int} (h : Rw w g n c D) (i j : Nat) (hi : i < n) (hj : j < n) :
    Rw ((w.setCell ⟨g, j, none⟩ (.int .u64 (D i))).setCell ⟨g, i, none⟩ (.int .u64 (D j))) g n c (swp D i j) := by
  refine ((h.set j hj (D i)).set i hi (D j)).congr fun k hk => ?_
  unfold swp
  by_cases e1 : k = i <;> by_cases e2 : k = j <;> simp [e1, e2]

/-- One range holds the same values; all else is as it was. -/
def Same (D D' : Nat → Int) (a b : Nat) : Prop :=
  (∀ i, i < a ∨ b ≤ i → D' i = D i) ∧ (∀ i, a ≤ i → i < b → ∃ j, a ≤ j ∧ j < b ∧ D' i = D j) ∧ (∀ i, a ≤ i → i < b → ∃ j, a ≤ j ∧ j < b ∧ D i = D' j)
/-- One range is sorted. -/
def Srt (D : Nat → Int) (a b : Nat) : Prop := ∀ x y, a ≤ x → x < y → y < b → D x ≤ D y

theorem Same.refl (D : Nat → Int) (a b : Nat) : Same D D a b := ⟨fun _ _ => rfl, fun i h1 h2 => ⟨i, h1, h2, rfl⟩, fun i h1 h2 => ⟨i, h1, h2, rfl⟩⟩
theorem Same.trans {D D' D'' : Nat → Int} {a b : Nat} (h : Same D D' a b) (k : Same D' D'' a b) : Same D D'' a b := by
  obtain ⟨h1, h2, h3⟩ := h
  obtain ⟨k1, k2, k3⟩ := k
  refine ⟨fun i hi => (k1 i hi).trans (h1 i hi), fun i ha hb => ?_, fun i ha hb => ?_⟩
  · obtain ⟨j, j1, j2, e⟩ := k2 i ha hb
    obtain ⟨l, l1, l2, e'⟩ := h2 j j1 j2
    exact ⟨l, l1, l2, e.trans e'⟩
  · obtain ⟨j, j1, j2, e⟩ := h3 i ha hb
    obtain ⟨l, l1, l2, e'⟩ := k3 j j1 j2
    exact ⟨l, l1, l2, e.trans e'⟩
theorem Same.mono {D D' : Nat → Int} {a b a' b' : Nat} (h : Same D D' a b) (ha : a' ≤ a) (hb : b ≤ b') : Same D D' a' b' := by
  obtain ⟨h1, h2, h3⟩ := h
  refine ⟨fun i hi => h1 i (by omega), fun i h4 h5 => ?_, fun i h4 h5 => ?_⟩
  · by_cases hin : a ≤ i ∧ i < b
    · obtain ⟨j, j1, j2, e⟩ := h2 i hin.1 hin.2
      exact ⟨j, by omega, by omega, e⟩
    · exact ⟨i, h4, h5, h1 i (by omega)⟩
  · by_cases hin : a ≤ i ∧ i < b
    · obtain ⟨j, j1, j2, e⟩ := h3 i hin.1 hin.2
      exact ⟨j, by omega, by omega, e⟩
    · exact ⟨i, h4, h5, (h1 i (by omega)).symm⟩
theorem swp_l (D : Nat → Int) (i j : Nat) : swp D i j i = D j := by simp [swp]
theorem swp_r (D : Nat → Int) (i j : Nat) : swp D i j j = D i := by
  unfold swp
  by_cases e : j = i
  · rw [if_pos e, e]
  · rw [if_neg e, if_pos rfl]
theorem swp_o (D : Nat → Int) (i j k : Nat) (h1 : k ≠ i) (h2 : k ≠ j) : swp D i j k = D k := by simp [swp, h1, h2]
theorem Same.swap (D : Nat → Int) {a b : Nat} (i j : Nat) (h1 : a ≤ i) (h2 : i < b) (h3 : a ≤ j) (h4 : j < b) : Same D (swp D i j) a b := by
  refine ⟨fun k hk => swp_o D i j k (by omega) (by omega), fun k ha hb => ?_, fun k ha hb => ?_⟩
  · by_cases e1 : k = i
    · exact ⟨j, h3, h4, by rw [e1, swp_l]⟩
    · by_cases e2 : k = j
      · exact ⟨i, h1, h2, by rw [e2, swp_r]⟩
      · exact ⟨k, ha, hb, swp_o D i j k e1 e2⟩
  · by_cases e1 : k = i
    · exact ⟨j, h3, h4, by rw [e1, swp_r]⟩
    · by_cases e2 : k = j
      · exact ⟨i, h1, h2, by rw [e2, swp_l]⟩
      · exact ⟨k, ha, hb, (swp_o D i j k e1 e2).symm⟩
/-- A bound on the range goes over. -/
theorem Same.all {D D' : Nat → Int} {a b : Nat} (h : Same D D' a b) {p : Int → Prop} (hp : ∀ i, a ≤ i → i < b → p (D i)) : ∀ i, a ≤ i → i < b → p (D' i) := fun i h1 h2 => by
  obtain ⟨j, j1, j2, e⟩ := h.2.1 i h1 h2
  rw [e]
  exact hp j j1 j2
theorem Same.out {D D' : Nat → Int} {a b : Nat} (h : Same D D' a b) {i : Nat} (hi : i < a ∨ b ≤ i) : D' i = D i := h.1 i hi

/-- What a sorter leaves: only block g turned; the range holds the same values; and X. -/
def SPost (g n c : Nat) (D : Nat → Int) (a b : Nat) (X : (Nat → Int) → Prop) (v : Value) (w : World) (e : Ending) (w' : World) : Prop :=
  e = .returned v ∧ Fr g w w' ∧ ∃ D', Rw w' g n c D' ∧ Same D D' a b ∧ X D'

theorem nan_any (x : Int) (w : World) : Calls Try.prog 47 #[.int .u64 x] w fun e w' => e = .returned (.bool false) ∧ w' = w := by
  go_enter Try.func47, Try.ntmps47
  go_wp2
  go_ret
  exact ⟨rfl, rfl⟩

theorem less_any (x y : Int) (w : World) : Calls Try.prog 37 #[.int .u64 x, .int .u64 y] w fun e w' => e = .returned (.bool (decide (x < y))) ∧ w' = w := by
  go_enter Try.func37, Try.ntmps37
  go_wp2_with (go_at_call 47; refine (nan_any _ _).mono ?_; rintro e w' ⟨rfl, rfl⟩)
  all_goals
    go_ret
    exact ⟨by simp, rfl⟩
theorem less_t {x y : Int} (h : x < y) (w : World) : Calls Try.prog 37 #[.int .u64 x, .int .u64 y] w fun e w' => e = .returned (.bool true) ∧ w' = w := by
  have := less_any x y w
  rw [decide_eq_true h] at this
  exact this
theorem less_f {x y : Int} (h : ¬ x < y) (w : World) : Calls Try.prog 37 #[.int .u64 x, .int .u64 y] w fun e w' => e = .returned (.bool false) ∧ w' = w := by
  have := less_any x y w
  rw [decide_eq_false h] at this
  exact this
end Go.Proofs.Qxb6605223a
