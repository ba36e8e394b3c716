/-
  Seat b6605294a. WALK: breadthFirstFromLeast (21).
-/
import Derived.Test.Qxb6605294aE4
set_option linter.unusedVariables false
set_option linter.unusedSimpArgs false
namespace Go.Proofs.Qxb6605294a
open Go.RowKit

def off (kl : Int → Nat → List Int) (p : Int) : Nat → Nat
  | 0 => 0
  | k + 1 => off kl p k + (kl p k).length
theorem Fl_get (kl : Int → Nat → List Int) (p : Int) (k t : Nat) (hk : k < 4) (ht : t < (kl p k).length) : (Fl kl p)[off kl p k + t]? = (kl p k)[t]? := by
  have : k = 0 ∨ k = 1 ∨ k = 2 ∨ k = 3 := by omega
  unfold Fl
  rcases this with rfl | rfl | rfl | rfl <;> simp only [off, Nat.zero_add]
  · rw [List.append_assoc, List.append_assoc, List.getElem?_append_left ht]
  · rw [List.append_assoc, List.append_assoc, List.getElem?_append_right (by omega), List.getElem?_append_left (by omega)]
    congr 1
    omega
  · have h1 : (kl p 0 ++ kl p 1).length = (kl p 0).length + (kl p 1).length := by simp
    rw [List.append_assoc, List.getElem?_append_right (by omega), List.getElem?_append_left (by omega)]
    congr 1
    omega
  · have h1 : (kl p 0 ++ kl p 1 ++ kl p 2).length = (kl p 0).length + (kl p 1).length + (kl p 2).length := by simp; omega
    rw [List.getElem?_append_right (by omega)]
    congr 1
    omega
theorem off_four (kl : Int → Nat → List Int) (p : Int) : off kl p 4 = (Fl kl p).length := by
  unfold Fl
  simp [off]
  omega

/-- What finder and rank hold when the events ahead of (i, r) are done. -/
def FS (l : List Int) (Fd Rk : Nat → Nat) (FI RK : Nat → Int) (i r : Nat) : Prop :=
  ∀ j, j < l.length → (1 ≤ j → lx (Fd j) (Rk j) i r → FI j = (Fd j : Int) ∧ RK j = (Rk j : Int)) ∧ ((j = 0 ∨ ¬ lx (Fd j) (Rk j) i r) → FI j = -1)
def OrdOk (kl : Int → Nat → List Int) (l : List Int) (Fd Rk : Nat → Nat) : Prop :=
  ∀ j, 1 ≤ j → j < l.length → Fd j < j ∧ (Fl kl (l.getD (Fd j) 0))[Rk j]? = l[j]? ∧ (∀ i' r', lx i' r' (Fd j) (Rk j) → (Fl kl (l.getD i' 0))[r']? ≠ l[j]?) ∧ (1 < j → lx (Fd (j - 1)) (Rk (j - 1)) (Fd j) (Rk j))

section
variable {kl : Int → Nat → List Int} {l : List Int} {Fd Rk : Nat → Nat} {FI RK : Nat → Int} {i r j : Nat} {x : Int}
theorem FS.only (ho : OrdOk kl l Fd Rk) (hn : l.Nodup) (hx : (Fl kl (l.getD i 0))[r]? = some x) (hj : l[j]? = some x) {q : Nat} (h1 : 1 ≤ q) (hq : q < l.length) (h2 : lx (Fd q) (Rk q) i (r + 1)) (h3 : ¬ lx (Fd q) (Rk q) i r) : q = j ∧ Fd q = i ∧ Rk q = r := by
  have e : Fd q = i ∧ Rk q = r := by unfold lx at *; omega
  obtain ⟨o1, o2, _, _⟩ := ho q h1 hq
  rw [e.1, e.2, hx] at o2
  exact ⟨nodup_get? hn o2.symm hj, e⟩
theorem FS.skip (h : FS l Fd Rk FI RK i r) (ho : OrdOk kl l Fd Rk) (hn : l.Nodup) (hx : (Fl kl (l.getD i 0))[r]? = some x) (hj : l[j]? = some x) (hc : j ≤ i ∨ 0 ≤ FI j) : FS l Fd Rk FI RK i (r + 1) := by
  intro q hq
  obtain ⟨a1, a2⟩ := h q hq
  refine ⟨fun h1 h2 => ?_, fun h1 => a2 ?_⟩
  · by_cases h3 : lx (Fd q) (Rk q) i r
    · exact a1 h1 h3
    · exfalso
      obtain ⟨e, e1, e2⟩ := FS.only ho hn hx hj h1 hq h2 h3
      subst e
      have o1 := (ho q h1 hq).1
      rcases hc with hc | hc
      · omega
      · have := a2 (.inr h3)
        omega
  · rcases h1 with h1 | h1
    · exact .inl h1
    · exact .inr (fun h => h1 (by unfold lx at *; omega))
theorem FS.put (h : FS l Fd Rk FI RK i r) (ho : OrdOk kl l Fd Rk) (hn : l.Nodup) (hx : (Fl kl (l.getD i 0))[r]? = some x) (hj : l[j]? = some x) (hi : i < j) (hf : ¬ 0 ≤ FI j) : FS l Fd Rk (fun q => if q = j then (i : Int) else FI q) (fun q => if q = j then (r : Int) else RK q) i (r + 1) := by
  have hjl : j < l.length := lt_of_get? hj
  have hnot : ¬ lx (Fd j) (Rk j) i r := fun h3 => by
    have := ((h j hjl).1 (by omega) h3).1
    omega
  have hmin : ¬ lx i r (Fd j) (Rk j) := fun h3 => by
    have := (ho j (by omega) hjl).2.2.1 i r h3
    rw [hx, hj] at this
    exact this rfl
  have e : Fd j = i ∧ Rk j = r := by unfold lx at *; omega
  intro q hq
  obtain ⟨a1, a2⟩ := h q hq
  by_cases eq : q = j
  · subst eq
    refine ⟨fun h1 h2 => ?_, fun h1 => ?_⟩
    · simp [e.1, e.2]
    · exfalso
      rcases h1 with h1 | h1
      · omega
      · exact h1 (by unfold lx; omega)
  · refine ⟨fun h1 h2 => ?_, fun h1 => ?_⟩
    · simp only [if_neg eq]
      by_cases h3 : lx (Fd q) (Rk q) i r
      · exact a1 h1 h3
      · exact absurd (FS.only ho hn hx hj h1 hq h2 h3).1 eq
    · simp only [if_neg eq]
      refine a2 ?_
      rcases h1 with h1 | h1
      · exact .inl h1
      · exact .inr (fun h => h1 (by unfold lx at *; omega))
theorem FS.next (h : FS l Fd Rk FI RK i r) (ho : OrdOk kl l Fd Rk) (hr : (Fl kl (l.getD i 0)).length ≤ r) : FS l Fd Rk FI RK (i + 1) 0 := by
  intro q hq
  obtain ⟨a1, a2⟩ := h q hq
  have key : 1 ≤ q → lx (Fd q) (Rk q) (i + 1) 0 → lx (Fd q) (Rk q) i r := fun h1 h2 => by
    rcases Nat.lt_or_ge (Fd q) i with h3 | h3
    · exact .inl h3
    · have h4 : Fd q = i := by unfold lx at h2; omega
      obtain ⟨o1, o2, _, _⟩ := ho q h1 hq
      rw [h4, List.getElem?_eq_getElem hq] at o2
      have := lt_of_get? o2
      exact .inr ⟨h4, by omega⟩
  refine ⟨fun h1 h2 => a1 h1 (key h1 h2), fun h1 => a2 ?_⟩
  rcases h1 with h1 | h1
  · exact .inl h1
  · exact .inr (fun h => h1 (by unfold lx at *; omega))
theorem FS.start (hF : ∀ j, j < l.length → FI j = -1) : FS l Fd Rk FI RK 0 0 := fun q hq => ⟨fun h1 h2 => by unfold lx at h2; omega, fun _ => hF q hq⟩
end
theorem made1 (z : Value) (hz : z.cells = #[z]) (n i : Nat) (hi : i < n) : (madeCells z.cells n)[i]? = some z := by
  have h1 : i % 1 = 0 := by omega
  simp [madeCells, hz, hi, h1]
end Go.Proofs.Qxb6605294a
