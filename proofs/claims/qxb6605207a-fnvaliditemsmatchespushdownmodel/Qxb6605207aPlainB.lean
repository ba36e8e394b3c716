/-
  Seat b6605207a. PLAIN: what validNumber's stages do to the number automaton. No Go here.
-/
import Derived.Test.Qxb6605207aPlainA
set_option linter.unusedVariables false
set_option linter.unusedSimpArgs false
namespace Go.Proofs.Qxb6605207a

theorem dgc {c : Int} (h : 48 ≤ c ∧ c ≤ 57) : isDg c = true := by unfold isDg; simp [h.1, h.2]
theorem ndgc {c : Int} (h : c < 48 ∨ 57 < c) : isDg c = false := by unfold isDg; simp; omega

theorem dg_move (T : Nat → Int) (n p : Nat) (h : dg T n p ≠ p) : p < n ∧ isDg (T p) = true ∧ dg T n p = dg T n (p + 1) := by
  rcases Nat.lt_or_ge p n with hp | hp
  · cases hd : isDg (T p) with
    | true => exact ⟨hp, rfl, skip_step isDg T n p hp hd⟩
    | false => exact absurd (skip_stop isDg T n p hp hd) h
  · exact absurd (skip_end isDg T n p hp) h
theorem dg_still (T : Nat → Int) (n p : Nat) (h : dg T n p = p) (hp : p < n) : isDg (T p) = false := by
  have := skip_not isDg T n p
  unfold dg at h
  rw [h] at this
  exact this hp
theorem dg_not (T : Nat → Int) (n p : Nat) (h : dg T n p < n) : isDg (T (dg T n p)) = false := skip_not isDg T n p h
theorem dg_le (T : Nat → Int) (n p : Nat) (h : p ≤ n) : dg T n p ≤ n := skip_le isDg T n p h
theorem dg_ge (T : Nat → Int) (n p : Nat) : p ≤ dg T n p := skip_ge isDg T n p

theorem stp3 (c : Int) (h : isDg c = true) : stp 3 c = some 3 := by unfold stp; simp [h]
theorem stp5 (c : Int) (h : isDg c = true) : stp 5 c = some 5 := by unfold stp; simp [h]
theorem stp8 (c : Int) (h : isDg c = true) : stp 8 c = some 8 := by unfold stp; simp [h]

theorem nm_sign (T : Nat → Int) (n i : Nat) (h : i < n) (hc : T i = 45) : nm T n 0 i = nm T n 1 (i + 1) := nm_go T n 0 1 i h (by unfold stp; simp [hc])
theorem nm_zero (T : Nat → Int) (n s p : Nat) (hs : s ≤ 1) (h : p < n) (hc : T p = 48) : nm T n s p = nm T n 2 (p + 1) := by
  refine nm_go T n s 2 p h ?_
  rcases (show s = 0 ∨ s = 1 by omega) with rfl | rfl <;> unfold stp <;> simp [hc]
theorem nm_int (T : Nat → Int) (n s p : Nat) (hs : s ≤ 1) (h : p < n) (h1 : 49 ≤ T p) (h2 : T p ≤ 57) : nm T n s p = nm T n 3 (dg T n p) := by
  have hd : isDg (T p) = true := dgc ⟨by omega, h2⟩
  have e : nm T n s p = nm T n 3 (p + 1) := by
    refine nm_go T n s 3 p h ?_
    have n1 : T p ≠ 45 := by omega
    have n2 : T p ≠ 48 := by omega
    rcases (show s = 0 ∨ s = 1 by omega) with rfl | rfl <;> unfold stp <;> simp [hd, n1, n2]
  rw [e, nm_digits T n 3 stp3 _ (p + 1) rfl]
  congr 1
  exact (skip_step isDg T n p h hd).symm
theorem nm_noint (T : Nat → Int) (n s p : Nat) (hs : s ≤ 1) (h0 : s = 0 → p < n → T p ≠ 45) (h : p < n → T p ≠ 48 ∧ (T p < 49 ∨ 57 < T p)) : nm T n s p = none := by
  have ha : accB s = false := by rcases (show s = 0 ∨ s = 1 by omega) with rfl | rfl <;> rfl
  rcases Nat.lt_or_ge p n with hp | hp
  · have hx := h hp
    have hd : isDg (T p) = false := ndgc (by omega)
    rw [nm_stop T n s p hp, ha]
    · rfl
    · rcases (show s = 0 ∨ s = 1 by omega) with rfl | rfl
      · unfold stp; simp [hd, hx.1, h0 rfl hp]
      · unfold stp; simp [hd, hx.1]
  · rw [nm_end T n s p hp, ha]; rfl
theorem nm_dot (T : Nat → Int) (n s p : Nat) (hs : s = 2 ∨ s = 3) (h : p < n) (hc : T p = 46) : nm T n s p = nm T n 4 (p + 1) := by
  have hd : isDg (46 : Int) = false := by decide
  refine nm_go T n s 4 p h ?_
  rcases hs with rfl | rfl <;> unfold stp <;> simp [hc, hd]
theorem nm_dot_no (T : Nat → Int) (n p : Nat) (h : dg T n p = p) : nm T n 4 p = none := by
  rcases Nat.lt_or_ge p n with hp | hp
  · rw [nm_stop T n 4 p hp (by unfold stp; simp [dg_still T n p h hp])]; rfl
  · rw [nm_end T n 4 p hp]; rfl
theorem nm_dot_yes (T : Nat → Int) (n p : Nat) (h : dg T n p ≠ p) : nm T n 4 p = nm T n 5 (dg T n p) := by
  obtain ⟨hp, hd, he⟩ := dg_move T n p h
  rw [nm_go T n 4 5 p hp (by unfold stp; simp [hd]), nm_digits T n 5 stp5 _ (p + 1) rfl, he]
theorem nm_e (T : Nat → Int) (n s p : Nat) (hs : s = 2 ∨ s = 3 ∨ s = 5) (h : p < n) (hc : T p = 101 ∨ T p = 69) : nm T n s p = nm T n 6 (p + 1) := by
  have d1 : isDg (101 : Int) = false := by decide
  have d2 : isDg (69 : Int) = false := by decide
  refine nm_go T n s 6 p h ?_
  rcases hs with rfl | rfl | rfl <;> rcases hc with hc | hc <;> unfold stp <;> simp [hc, d1, d2]
theorem nm_sgn (T : Nat → Int) (n p : Nat) (h : p < n) (hc : T p = 43 ∨ T p = 45) : nm T n 6 p = nm T n 7 (p + 1) := by
  refine nm_go T n 6 7 p h ?_
  unfold stp; simp [hc]
theorem nm_exp_no (T : Nat → Int) (n s p : Nat) (hs : s = 6 ∨ s = 7) (h : dg T n p = p) (h6 : s = 6 → p < n → T p ≠ 43 ∧ T p ≠ 45) : nm T n s p = none := by
  have ha : accB s = false := by rcases hs with rfl | rfl <;> rfl
  rcases Nat.lt_or_ge p n with hp | hp
  · have hd := dg_still T n p h hp
    rw [nm_stop T n s p hp, ha]
    · rfl
    · rcases hs with rfl | rfl
      · unfold stp; simp [hd, h6 rfl hp]
      · unfold stp; simp [hd]
  · rw [nm_end T n s p hp, ha]; rfl
theorem nm_exp_yes (T : Nat → Int) (n s p : Nat) (hs : s = 6 ∨ s = 7) (hn : p ≤ n) (h : dg T n p ≠ p) : nm T n s p = some (dg T n p) := by
  obtain ⟨hp, hd, he⟩ := dg_move T n p h
  have hc := hd
  unfold isDg at hc; simp at hc
  have e : nm T n s p = nm T n 8 (p + 1) := by
    refine nm_go T n s 8 p hp ?_
    rcases hs with rfl | rfl
    · have n1 : T p ≠ 43 := by omega
      have n2 : T p ≠ 45 := by omega
      unfold stp; simp [hd, n1, n2]
    · unfold stp; simp [hd]
  rw [e, nm_digits T n 8 stp8 _ (p + 1) rfl, ← he]
  have hle := dg_le T n p hn
  rcases Nat.lt_or_ge (dg T n p) n with hq | hq
  · rw [nm_stop T n 8 _ hq (by unfold stp; simp [dg_not T n p hq])]; rfl
  · rw [nm_end T n 8 _ hq]; rfl
theorem nm_fin (T : Nat → Int) (n s p : Nat) (hs : s = 2 ∨ s = 3 ∨ s = 5) (hp : p ≤ n) (h1 : p < n → s = 2 ∨ isDg (T p) = false) (h2 : p < n → s = 5 ∨ T p ≠ 46) (h3 : p < n → T p ≠ 101 ∧ T p ≠ 69) : nm T n s p = some p := by
  have ha : accB s = true := by rcases hs with rfl | rfl | rfl <;> rfl
  rcases Nat.lt_or_ge p n with hp' | hp'
  · rw [nm_stop T n s p hp', ha]
    · rfl
    · have x1 := h1 hp'; have x2 := h2 hp'; have x3 := h3 hp'
      rcases hs with rfl | rfl | rfl
      · unfold stp; simp at x2; simp [x2, x3]
      · unfold stp; simp at x1 x2; simp [x1, x2, x3]
      · unfold stp; simp at x1; simp [x1, x3]
  · rw [nm_end T n s p hp', ha]; rfl
end Go.Proofs.Qxb6605207a
