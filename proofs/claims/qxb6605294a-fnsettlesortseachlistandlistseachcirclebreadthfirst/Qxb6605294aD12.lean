/-
  Seat b6605294a. THE SEARCH OF settle, PLAIN.
-/
import Derived.Test.Qxb6605294aD11
set_option linter.unusedVariables false
set_option linter.unusedSimpArgs false
namespace Go.Proofs.Qxb6605294a
open Go.RowKit

theorem nodup_le {α : Type} : ∀ (l m : List α), l.Nodup → (∀ x ∈ l, x ∈ m) → l.length ≤ m.length
  | [], m, _, _ => by simp
  | a :: l, m, hn, hs => by
    obtain ⟨m1, m2, rfl⟩ := List.append_of_mem (hs a (by simp))
    rw [List.nodup_cons] at hn
    have := nodup_le l (m1 ++ m2) hn.2 (fun x hx => by
      have h1 := hs x (by simp [hx])
      simp only [List.mem_append, List.mem_cons] at h1 ⊢
      rcases h1 with h | h | h
      · exact .inl h
      · subst h; exact absurd hx hn.1
      · exact .inr h)
    simp only [List.length_append, List.length_cons] at this ⊢
    omega

theorem strict_uniq : ∀ (l m : List Int), l.Pairwise (fun x y => x < y) → m.Pairwise (fun x y => x < y) → (∀ x, x ∈ l ↔ x ∈ m) → l = m
  | [], [], _, _, _ => rfl
  | [], b :: m, _, _, h => absurd ((h b).2 (by simp)) (by simp)
  | a :: l, [], _, _, h => absurd ((h a).1 (by simp)) (by simp)
  | a :: l, b :: m, h1, h2, h => by
    rw [List.pairwise_cons] at h1 h2
    have e : a = b := by
      have ha := (h a).1 (by simp)
      have hb := (h b).2 (by simp)
      rcases List.mem_cons.1 ha with ha | ha
      · exact ha
      · rcases List.mem_cons.1 hb with hb | hb
        · exact hb.symm
        · have := h1.1 b hb
          have := h2.1 a ha
          omega
    subst e
    congr 1
    refine strict_uniq l m h1.2 h2.2 (fun x => ?_)
    have hx := h x
    simp only [List.mem_cons] at hx
    constructor
    · intro hl
      rcases hx.1 (.inr hl) with e | e
      · subst e; exact absurd (h1.1 x hl) (by omega)
      · exact e
    · intro hl
      rcases hx.2 (.inr hl) with e | e
      · subst e; exact absurd (h2.1 x hl) (by omega)
      · exact e
theorem ofN_strict {V : Nat → Int} {n : Nat} (h : ∀ i j, i < j → j < n → V i < V j) : (ofN V n).Pairwise (fun x y => x < y) := by
  rw [List.pairwise_iff_getElem]
  intro i j hi hj hij
  rw [ofN_length] at hi hj
  simpa [ofN] using h i j hij hj
theorem strict_nodup {l : List Int} (h : l.Pairwise (fun x y => x < y)) : l.Nodup := h.imp (fun hab e => by omega)
theorem ofN_succ (V : Nat → Int) (t : Nat) : ofN V (t + 1) = ofN V t ++ [V t] := by simp [ofN, List.range_succ]
theorem ofN_inj {V V' : Nat → Int} {n : Nat} (h : ofN V n = ofN V' n) (i : Nat) (hi : i < n) : V i = V' i := by
  have h1 := ofN_get? V n i hi
  rw [h, ofN_get? V' n i hi] at h1
  exact (Option.some.inj h1).symm

/-- The state of a search: each person's circle; the circle at hand. -/
structure Bs where
  co : Int → Option Nat
  cur : List Int

def visit (c : Nat) (s : Bs) (r : Int) : Bs := if (s.co r).isSome then s else ⟨fun k => if k = r then some c else s.co k, s.cur ++ [r]⟩
def expand (kl : Int → Nat → List Int) (c : Nat) (s : Bs) (p : Int) (k : Nat) : Bs := (List.range k).foldl (fun s k => (kl p k).foldl (visit c) s) s
def circN (kl : Int → Nat → List Int) (c : Nat) (s : Bs) : Nat → Bs
  | 0 => s
  | i + 1 => match (circN kl c s i).cur[i]? with
    | none => circN kl c s i
    | some p => expand kl c (circN kl c s i) p 4
def start (c : Nat) (co : Int → Option Nat) (p : Int) : Bs := ⟨fun k => if k = p then some c else co k, [p]⟩
structure Bf where
  done : List (List Int)
  co : Int → Option Nat
def bfsN (kl : Int → Nat → List Int) (n : Nat) (P : Nat → Int) : Nat → Bf
  | 0 => ⟨[], fun _ => none⟩
  | t + 1 => if ((bfsN kl n P t).co (P t)).isSome then bfsN kl n P t else
    ⟨(bfsN kl n P t).done ++ [(circN kl (bfsN kl n P t).done.length (start (bfsN kl n P t).done.length (bfsN kl n P t).co (P t)) n).cur], (circN kl (bfsN kl n P t).done.length (start (bfsN kl n P t).done.length (bfsN kl n P t).co (P t)) n).co⟩

structure Ok (Per : Int → Prop) (s : Bs) : Prop where
  nd : s.cur.Nodup
  per : ∀ x, x ∈ s.cur → Per x
  mapped : ∀ x, x ∈ s.cur → (s.co x).isSome = true
  key : ∀ x, (s.co x).isSome = true → Per x

theorem Ok.visit {Per : Int → Prop} {s : Bs} (h : Ok Per s) (c : Nat) (r : Int) (hr : Per r) : Ok Per (visit c s r) := by
  unfold Qxb6605294a.visit
  by_cases e : (s.co r).isSome = true
  · rw [if_pos e]; exact h
  · rw [if_neg e]
    refine ⟨?_, fun x hx => ?_, fun x hx => ?_, fun x hx => ?_⟩
    · rw [List.nodup_append]
      refine ⟨h.nd, by simp, fun a ha b hb e2 => ?_⟩
      simp at hb
      subst hb; subst e2
      exact e (h.mapped a ha)
    · simp at hx
      rcases hx with hx | rfl
      · exact h.per x hx
      · exact hr
    · by_cases e2 : x = r
      · simp [e2]
      · simp [e2] at hx ⊢
        exact h.mapped x hx
    · by_cases e2 : x = r
      · rw [e2]; exact hr
      · simp [e2] at hx
        exact h.key x hx
theorem Ok.fold {Per : Int → Prop} (c : Nat) : ∀ (l : List Int) (s : Bs), Ok Per s → (∀ x ∈ l, Per x) → Ok Per (l.foldl (Qxb6605294a.visit c) s)
  | [], s, h, _ => h
  | a :: l, s, h, hl => Ok.fold c l _ (h.visit c a (hl a (by simp))) (fun x hx => hl x (by simp [hx]))
theorem Ok.len {Per : Int → Prop} {s : Bs} (h : Ok Per s) {P : Nat → Int} {n : Nat} (hP : ∀ x, Per x → x ∈ ofN P n) : s.cur.length ≤ n := by
  have := nodup_le s.cur (ofN P n) h.nd (fun x hx => hP x (h.per x hx))
  rwa [ofN_length] at this
theorem Ok.start {Per : Int → Prop} {co : Int → Option Nat} (hk : ∀ x, (co x).isSome = true → Per x) (c : Nat) (p : Int) (hp : Per p) : Ok Per (start c co p) := by
  refine ⟨by simp [Qxb6605294a.start], fun x hx => ?_, fun x hx => ?_, fun x hx => ?_⟩
  · simp [Qxb6605294a.start] at hx
    rw [hx]; exact hp
  · simp [Qxb6605294a.start] at hx ⊢
    simp [hx]
  · by_cases e : x = p
    · rw [e]; exact hp
    · simp [Qxb6605294a.start, e] at hx
      exact hk x hx
theorem Ok.expand {Per : Int → Prop} (kl : Int → Nat → List Int) (hkl : ∀ p, Per p → ∀ k, k < 4 → ∀ x ∈ kl p k, Per x) (c : Nat) (p : Int) (hp : Per p) : ∀ (k : Nat) (s : Bs), k ≤ 4 → Ok Per s → Ok Per (expand kl c s p k)
  | 0, s, _, h => h
  | k + 1, s, hk, h => by
    have := Ok.expand kl hkl c p hp k s (by omega) h
    unfold Qxb6605294a.expand at this ⊢
    rw [List.range_succ, List.foldl_append]
    exact Ok.fold c _ _ this (hkl p hp k (by omega))
theorem Ok.circN {Per : Int → Prop} (kl : Int → Nat → List Int) (hkl : ∀ p, Per p → ∀ k, k < 4 → ∀ x ∈ kl p k, Per x) (c : Nat) {s : Bs} (h : Ok Per s) : ∀ i, Ok Per (circN kl c s i)
  | 0 => h
  | i + 1 => by
    have ih := Ok.circN kl hkl c h i
    unfold Qxb6605294a.circN
    split
    · exact ih
    · rename_i p hp
      exact Ok.expand kl hkl c p (ih.per p (List.mem_of_getElem? hp)) 4 _ (Nat.le_refl _) ih
theorem expand_zero (kl : Int → Nat → List Int) (c : Nat) (s : Bs) (p : Int) : expand kl c s p 0 = s := rfl
theorem expand_succ (kl : Int → Nat → List Int) (c : Nat) (s : Bs) (p : Int) (k : Nat) : expand kl c s p (k + 1) = (kl p k).foldl (visit c) (expand kl c s p k) := by
  unfold expand
  rw [List.range_succ, List.foldl_append]
  rfl
theorem circN_end (kl : Int → Nat → List Int) (c : Nat) (s : Bs) (i : Nat) (h : (circN kl c s i).cur.length ≤ i) : ∀ m, i ≤ m → circN kl c s m = circN kl c s i := by
  intro m hm
  obtain ⟨d, rfl⟩ := Nat.exists_eq_add_of_le hm
  clear hm
  induction d with
  | zero => rfl
  | succ d ih =>
    show (match (circN kl c s (i + d)).cur[i + d]? with | none => _ | some p => _) = _
    rw [ih, List.getElem?_eq_none (by omega)]
    exact ih
theorem circN_succ (kl : Int → Nat → List Int) (c : Nat) (s : Bs) (i : Nat) (p : Int) (h : (circN kl c s i).cur[i]? = some p) : circN kl c s (i + 1) = expand kl c (circN kl c s i) p 4 := by
  show (match (circN kl c s i).cur[i]? with | none => _ | some p => _) = _
  rw [h]

structure Bok (Per : Int → Prop) (P : Nat → Int) (t : Nat) (b : Bf) : Prop where
  key : ∀ x, (b.co x).isSome = true → Per x
  all : ∀ i, i < t → (b.co (P i)).isSome = true
  len : b.done.length ≤ t

theorem visit_mono (c : Nat) (s : Bs) (r x : Int) (h : (s.co x).isSome = true) : ((visit c s r).co x).isSome = true := by
  unfold visit
  split
  · exact h
  · show (if x = r then some c else s.co x).isSome = true
    split
    · rfl
    · exact h
theorem fold_mono (c : Nat) (x : Int) : ∀ (l : List Int) (s : Bs), (s.co x).isSome = true → ((l.foldl (visit c) s).co x).isSome = true
  | [], s, h => h
  | a :: l, s, h => fold_mono c x l _ (visit_mono c s a x h)
theorem expand_mono (kl : Int → Nat → List Int) (c : Nat) (p x : Int) : ∀ (k : Nat) (s : Bs), (s.co x).isSome = true → ((expand kl c s p k).co x).isSome = true
  | 0, s, h => h
  | k + 1, s, h => by rw [expand_succ]; exact fold_mono c x _ _ (expand_mono kl c p x k s h)
theorem circN_mono (kl : Int → Nat → List Int) (c : Nat) (s : Bs) (x : Int) (h : (s.co x).isSome = true) : ∀ i, ((circN kl c s i).co x).isSome = true
  | 0 => h
  | i + 1 => by
    unfold circN
    split
    · exact circN_mono kl c s x h i
    · exact expand_mono kl c _ x 4 _ (circN_mono kl c s x h i)
theorem bfsN_ok {Per : Int → Prop} (kl : Int → Nat → List Int) (hkl : ∀ p, Per p → ∀ k, k < 4 → ∀ x ∈ kl p k, Per x) (n : Nat) (P : Nat → Int) (hP : ∀ i, i < n → Per (P i)) : ∀ t, t ≤ n → Bok Per P t (bfsN kl n P t)
  | 0, _ => ⟨fun x hx => by simp [bfsN] at hx, fun i hi => absurd hi (Nat.not_lt_zero _), by simp [bfsN]⟩
  | t + 1, ht => by
    have ih := bfsN_ok kl hkl n P hP t (by omega)
    unfold bfsN
    split
    · rename_i e
      refine ⟨ih.key, fun i hi => ?_, Nat.le_succ_of_le ih.len⟩
      rcases Nat.lt_or_ge i t with h | h
      · exact ih.all i h
      · obtain rfl : i = t := by omega
        exact e
    · have hs := Ok.start ih.key (bfsN kl n P t).done.length (P t) (hP t (by omega))
      refine ⟨(Ok.circN kl hkl _ hs n).key, fun i hi => ?_, by have := ih.len; simp; omega⟩
      refine circN_mono kl _ _ _ ?_ n
      show (if P i = P t then some _ else (bfsN kl n P t).co (P i)).isSome = true
      by_cases e : P i = P t
      · simp [e]
      · rw [if_neg e]
        refine ih.all i ?_
        rcases Nat.lt_or_ge i t with h | h
        · exact h
        · obtain rfl : i = t := by omega
          exact absurd rfl e
theorem bfsN_found (kl : Int → Nat → List Int) (n : Nat) (P : Nat → Int) (t : Nat) (h : ((bfsN kl n P t).co (P t)).isSome = true) : bfsN kl n P (t + 1) = bfsN kl n P t := by
  show (if _ then _ else _) = _
  rw [if_pos h]
theorem bfsN_new (kl : Int → Nat → List Int) (n : Nat) (P : Nat → Int) (t : Nat) (b : Bf) (hb : bfsN kl n P t = b) (h : (b.co (P t)).isSome = false) (s : Bs) (hs : circN kl b.done.length (start b.done.length b.co (P t)) n = s) : bfsN kl n P (t + 1) = ⟨b.done ++ [s.cur], s.co⟩ := by
  show (if _ then _ else _) = _
  rw [hb, hs, if_neg (by rw [h]; decide)]
end Go.Proofs.Qxb6605294a
