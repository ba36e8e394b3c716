/-
  Seat b6605195a. PLAIN LISTS: what a merge of two sorted lists of events leaves. No Go here.
-/
namespace Go.Proofs.Qxb6605195a

/-- Sorted by the first number. -/
def Srt (xs : List (Int × Int)) : Prop := xs.Pairwise fun x y => x.1 ≤ y.1

/-- What the merge loop holds: 'out' is a's first i and b's first j, sorted, none above what is left. -/
structure Mg (a b : List (Int × Int)) (i j : Nat) (out : List (Int × Int)) : Prop where
  perm : out.Perm (a.take i ++ b.take j)
  srt : Srt out
  la : ∀ o ∈ out, ∀ x ∈ a.drop i, o.1 ≤ x.1
  lb : ∀ o ∈ out, ∀ x ∈ b.drop j, o.1 ≤ x.1

theorem Mg.start (a b : List (Int × Int)) : Mg a b 0 0 [] := ⟨by simp, List.Pairwise.nil, by simp, by simp⟩

theorem Srt.snoc {xs : List (Int × Int)} (h : Srt xs) {y : Int × Int} (hy : ∀ o ∈ xs, o.1 ≤ y.1) : Srt (xs ++ [y]) := by
  unfold Srt at *
  rw [List.pairwise_append]
  exact ⟨h, by simp, fun o ho x hx => by simp at hx; subst hx; exact hy o ho⟩

theorem Mg.takeA {a b : List (Int × Int)} {i j : Nat} {out : List (Int × Int)} (h : Mg a b i j out) (ha : Srt a) (hb : Srt b) (hi : i < a.length)
    (hc : j < b.length → (a.getD i (0, 0)).1 ≤ (b.getD j (0, 0)).1) : Mg a b (i + 1) j (out ++ [a.getD i (0, 0)]) := by
  have e : a.getD i (0, 0) = a[i] := by simp [hi]
  have ed : a.drop i = a[i] :: a.drop (i + 1) := List.drop_eq_getElem_cons hi
  have hd : Srt (a.drop i) := List.Pairwise.drop ha
  rw [ed] at hd
  have hd2 := (List.pairwise_cons.1 hd).1
  rw [e] at hc ⊢
  refine ⟨?_, h.srt.snoc fun o ho => h.la o ho _ (by rw [ed]; exact List.mem_cons_self), ?_, ?_⟩
  · rw [List.take_succ_eq_append_getElem hi]
    have := h.perm.append_right [a[i]]
    refine this.trans ?_
    rw [List.append_assoc, List.append_assoc]
    exact List.Perm.append_left _ List.perm_append_comm
  · intro o ho x hx
    rw [List.mem_append] at ho
    rcases ho with ho | ho
    · exact h.la o ho x (by rw [ed]; exact List.mem_cons_of_mem _ hx)
    · simp at ho; subst ho; exact hd2 _ hx
  · intro o ho x hx
    rw [List.mem_append] at ho
    rcases ho with ho | ho
    · exact h.lb o ho x hx
    · simp at ho; subst ho
      have hj : j < b.length := by
        rcases Nat.lt_or_ge j b.length with hj | hj
        · exact hj
        · rw [List.drop_of_length_le hj] at hx; simp at hx
      have ebd : b.drop j = b[j] :: b.drop (j + 1) := List.drop_eq_getElem_cons hj
      have hbd : Srt (b.drop j) := List.Pairwise.drop hb
      rw [ebd] at hbd hx
      have h1 := hc hj
      have e2 : b.getD j (0, 0) = b[j] := by simp [hj]
      rw [e2] at h1
      rcases List.mem_cons.1 hx with rfl | hx
      · exact h1
      · exact Int.le_trans h1 ((List.pairwise_cons.1 hbd).1 _ hx)

theorem Mg.takeB {a b : List (Int × Int)} {i j : Nat} {out : List (Int × Int)} (h : Mg a b i j out) (ha : Srt a) (hb : Srt b) (hj : j < b.length)
    (hc : i < a.length → (b.getD j (0, 0)).1 ≤ (a.getD i (0, 0)).1) : Mg a b i (j + 1) (out ++ [b.getD j (0, 0)]) := by
  have e : b.getD j (0, 0) = b[j] := by simp [hj]
  have ed : b.drop j = b[j] :: b.drop (j + 1) := List.drop_eq_getElem_cons hj
  have hd : Srt (b.drop j) := List.Pairwise.drop hb
  rw [ed] at hd
  have hd2 := (List.pairwise_cons.1 hd).1
  rw [e] at hc ⊢
  refine ⟨?_, h.srt.snoc fun o ho => h.lb o ho _ (by rw [ed]; exact List.mem_cons_self), ?_, ?_⟩
  · rw [List.take_succ_eq_append_getElem hj, ← List.append_assoc]
    exact h.perm.append_right [b[j]]
  · intro o ho x hx
    rw [List.mem_append] at ho
    rcases ho with ho | ho
    · exact h.la o ho x hx
    · simp at ho; subst ho
      have hi : i < a.length := by
        rcases Nat.lt_or_ge i a.length with hi | hi
        · exact hi
        · rw [List.drop_of_length_le hi] at hx; simp at hx
      have ead : a.drop i = a[i] :: a.drop (i + 1) := List.drop_eq_getElem_cons hi
      have had : Srt (a.drop i) := List.Pairwise.drop ha
      rw [ead] at had hx
      have h1 := hc hi
      have e2 : a.getD i (0, 0) = a[i] := by simp [hi]
      rw [e2] at h1
      rcases List.mem_cons.1 hx with rfl | hx
      · exact h1
      · exact Int.le_trans h1 ((List.pairwise_cons.1 had).1 _ hx)
  · intro o ho x hx
    rw [List.mem_append] at ho
    rcases ho with ho | ho
    · exact h.lb o ho x (by rw [ed]; exact List.mem_cons_of_mem _ hx)
    · simp at ho; subst ho; exact hd2 _ hx

theorem Mg.finish {a b : List (Int × Int)} {i j : Nat} {out : List (Int × Int)} (h : Mg a b i j out) (hi : a.length ≤ i) (hj : b.length ≤ j) : out.Perm (a ++ b) ∧ Srt out := by
  have := h.perm
  rw [List.take_of_length_le hi, List.take_of_length_le hj] at this
  exact ⟨this, h.srt⟩

theorem Mg.length {a b : List (Int × Int)} {i j : Nat} {out : List (Int × Int)} (h : Mg a b i j out) (hi : i ≤ a.length) (hj : j ≤ b.length) : out.length = i + j := by
  rw [h.perm.length_eq, List.length_append, List.length_take, List.length_take]; omega
end Go.Proofs.Qxb6605195a
