/-
  Seat b6605195a. PLAIN LISTS: newSet's merge of sorted ranges lays the maximal runs. No Go here.
-/
import Derived.Test.Qxb6605195aPlainB
set_option linter.unusedVariables false
namespace Go.Proofs.Qxb6605195a

/-- What the merge holds behind the first k of the sorted ranges. -/
structure Mr (ys : List (Int × Int)) (k : Nat) (m : List (Int × Int)) : Prop where
  canon : Canon m
  cov : ∀ c, Cov m c ↔ Cov (ys.take k) c
  lows : ∀ r ∈ m, ∀ j, k ≤ j → j < ys.length → r.1 ≤ (ys.getD j (0, 0)).1

theorem Mr.start (ys : List (Int × Int)) : Mr ys 0 [] := ⟨⟨by simp, List.Pairwise.nil⟩, fun c => by simp [Cov], by simp⟩

theorem cov_take (ys : List (Int × Int)) (k : Nat) (h : k < ys.length) (c : Int) : Cov (ys.take (k + 1)) c ↔ Cov (ys.take k) c ∨ ((ys.getD k (0, 0)).1 ≤ c ∧ c ≤ (ys.getD k (0, 0)).2) := by
  have e : ys.getD k (0, 0) = ys[k] := by simp [h]
  rw [List.take_succ_eq_append_getElem h, e]
  simp only [Cov, List.mem_append, List.mem_singleton]
  constructor
  · rintro ⟨x, hx | rfl, h12⟩
    · exact .inl ⟨x, hx, h12⟩
    · exact .inr h12
  · rintro (⟨x, hx, h12⟩ | h12)
    · exact ⟨x, .inl hx, h12⟩
    · exact ⟨_, .inr rfl, h12⟩

theorem cov_snoc (m : List (Int × Int)) (r : Int × Int) (c : Int) : Cov (m ++ [r]) c ↔ Cov m c ∨ (r.1 ≤ c ∧ c ≤ r.2) := by
  simp only [Cov, List.mem_append, List.mem_singleton]
  constructor
  · rintro ⟨x, hx | rfl, h12⟩
    · exact .inl ⟨x, hx, h12⟩
    · exact .inr h12
  · rintro (⟨x, hx, h12⟩ | h12)
    · exact ⟨x, .inl hx, h12⟩
    · exact ⟨_, .inr rfl, h12⟩

theorem Mr.skip {ys : List (Int × Int)} {k : Nat} {m : List (Int × Int)} (h : Mr ys k m) (hk : k < ys.length) (he : (ys.getD k (0, 0)).2 < (ys.getD k (0, 0)).1) : Mr ys (k + 1) m :=
  ⟨h.canon, fun c => by rw [cov_take ys k hk, ← h.cov]; constructor
                        · exact .inl
                        · rintro (a | a)
                          · exact a
                          · omega, fun r hr j hj => h.lows r hr j (by omega)⟩

theorem Mr.touch {ys : List (Int × Int)} {k : Nat} {m : List (Int × Int)} {l : Int × Int} (h : Mr ys k (m ++ [l])) (hs : Srt ys) (hk : k < ys.length) (he : (ys.getD k (0, 0)).1 ≤ (ys.getD k (0, 0)).2) (ht : (ys.getD k (0, 0)).1 ≤ l.2 + 1) :
    Mr ys (k + 1) (m ++ [(l.1, max l.2 (ys.getD k (0, 0)).2)]) := by
  have hl : l.1 ≤ l.2 := h.canon.1 l (by simp)
  have hlow := h.lows l (by simp) k (Nat.le_refl _) hk
  have hp := List.pairwise_append.1 h.canon.2
  refine ⟨⟨?_, ?_⟩, fun c => ?_, ?_⟩
  · intro r hr
    rw [List.mem_append] at hr
    rcases hr with hr | hr
    · exact h.canon.1 r (by simp [hr])
    · simp at hr; subst hr; show l.1 ≤ max _ _; omega
  · rw [List.pairwise_append]
    exact ⟨hp.1, by simp, fun r hr x hx => by simp at hx; subst hx; exact hp.2.2 r hr l (by simp)⟩
  · rw [cov_take ys k hk, ← h.cov, cov_snoc, cov_snoc]
    show Cov m c ∨ (l.1 ≤ c ∧ c ≤ max l.2 _) ↔ _
    generalize ys.getD k (0, 0) = r at *
    constructor
    · rintro (a | a)
      · exact .inl (.inl a)
      · by_cases hc : c ≤ l.2
        · exact .inl (.inr ⟨a.1, hc⟩)
        · exact .inr ⟨by omega, by omega⟩
    · rintro ((a | a) | a)
      · exact .inl a
      · exact .inr ⟨a.1, by omega⟩
      · exact .inr ⟨by omega, by omega⟩
  · intro r hr j hj hjl
    rw [List.mem_append] at hr
    rcases hr with hr | hr
    · exact h.lows r (by simp [hr]) j (by omega) hjl
    · simp at hr; subst hr; exact h.lows l (by simp) j (by omega) hjl

theorem Mr.new {ys : List (Int × Int)} {k : Nat} {m : List (Int × Int)} (h : Mr ys k m) (hs : Srt ys) (hk : k < ys.length) (he : (ys.getD k (0, 0)).1 ≤ (ys.getD k (0, 0)).2) (hn : ∀ r ∈ m, r.2 + 1 < (ys.getD k (0, 0)).1) :
    Mr ys (k + 1) (m ++ [ys.getD k (0, 0)]) := by
  refine ⟨⟨?_, ?_⟩, fun c => ?_, ?_⟩
  · intro r hr
    rw [List.mem_append] at hr
    rcases hr with hr | hr
    · exact h.canon.1 r hr
    · rw [List.mem_singleton] at hr; subst hr; exact he
  · rw [List.pairwise_append]
    exact ⟨h.canon.2, by simp, fun r hr x hx => by rw [List.mem_singleton] at hx; subst hx; exact hn r hr⟩
  · rw [cov_take ys k hk, ← h.cov, cov_snoc]
  · intro r hr j hj hjl
    rw [List.mem_append] at hr
    rcases hr with hr | hr
    · exact h.lows r hr j (by omega) hjl
    · rw [List.mem_singleton] at hr; subst hr
      have := List.pairwise_iff_getElem.1 hs k j hk hjl (by omega)
      simpa [hk, hjl] using this

/-- behind the last run there is room for all the runs. -/
theorem canon_last {m : List (Int × Int)} {l : Int × Int} (h : Canon (m ++ [l])) (x : Int) (hx : l.2 + 1 < x) : ∀ r ∈ m ++ [l], r.2 + 1 < x := by
  intro r hr
  have hp := List.pairwise_append.1 h.2
  have hl : l.1 ≤ l.2 := h.1 l (by simp)
  rw [List.mem_append] at hr
  rcases hr with hr | hr
  · have := hp.2.2 r hr l (by simp); omega
  · rw [List.mem_singleton] at hr; subst hr; exact hx

theorem Mr.finish {ys xs : List (Int × Int)} {m : List (Int × Int)} {k : Nat} (h : Mr ys k m) (hk : ys.length ≤ k) (hp : ys.Perm xs) : Canon m ∧ ∀ c, Cov m c ↔ Cov xs c := by
  refine ⟨h.canon, fun c => ?_⟩
  rw [h.cov, List.take_of_length_le hk]
  constructor
  · rintro ⟨x, hx, h12⟩; exact ⟨x, hp.mem_iff.1 hx, h12⟩
  · rintro ⟨x, hx, h12⟩; exact ⟨x, hp.mem_iff.2 hx, h12⟩

/-- Every run of the merge lies in the domain. -/
theorem canon_dom {m xs : List (Int × Int)} (h : Canon m) (hc : ∀ c, Cov m c ↔ Cov xs c) (hx : ∀ x ∈ xs, 0 ≤ x.1 ∧ x.1 ≤ 1114111 ∧ 0 ≤ x.2 ∧ x.2 ≤ 1114111) : ∀ r ∈ m, 0 ≤ r.1 ∧ r.1 ≤ r.2 ∧ r.2 ≤ 1114111 := by
  intro r hr
  have h1 := h.1 r hr
  obtain ⟨x, hx1, a, b⟩ := (hc r.1).1 ⟨r, hr, Int.le_refl _, h1⟩
  obtain ⟨y, hy1, a', b'⟩ := (hc r.2).1 ⟨r, hr, h1, Int.le_refl _⟩
  have := hx x hx1
  have := hx y hy1
  omega
end Go.Proofs.Qxb6605195a
