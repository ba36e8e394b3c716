/-
  Seat b6605294a. THE SEARCH, PLAIN: breadth-first, closed, connected.
-/
import Derived.Test.Qxb6605294aD18
set_option linter.unusedVariables false
set_option linter.unusedSimpArgs false
namespace Go.Proofs.Qxb6605294a

def lx (a b c d : Nat) : Prop := a < c ∨ (a = c ∧ b < d)
theorem lx.trans {a b c d e f : Nat} (h : lx a b c d) (k : lx c d e f) : lx a b e f := by unfold lx at *; omega
theorem lx_irr {a b : Nat} : ¬ lx a b a b := by unfold lx; omega
theorem lx_tri (a b c d : Nat) : lx a b c d ∨ (a = c ∧ b = d) ∨ lx c d a b := by unfold lx; omega

/-- A person's relatives, in the order in which they are asked. -/
def Fl (kl : Int → Nat → List Int) (p : Int) : List Int := kl p 0 ++ kl p 1 ++ kl p 2 ++ kl p 3
theorem mem_Fl {kl : Int → Nat → List Int} {p x : Int} : x ∈ Fl kl p ↔ ∃ k, k < 4 ∧ x ∈ kl p k := by
  unfold Fl
  simp only [List.mem_append]
  constructor
  · rintro (((h | h) | h) | h)
    · exact ⟨0, by omega, h⟩
    · exact ⟨1, by omega, h⟩
    · exact ⟨2, by omega, h⟩
    · exact ⟨3, by omega, h⟩
  · rintro ⟨k, hk, h⟩
    have : k = 0 ∨ k = 1 ∨ k = 2 ∨ k = 3 := by omega
    rcases this with rfl | rfl | rfl | rfl
    · exact .inl (.inl (.inl h))
    · exact .inl (.inl (.inr h))
    · exact .inl (.inr h)
    · exact .inr h
theorem expand_Fl (kl : Int → Nat → List Int) (c : Nat) (s : Bs) (p : Int) : expand kl c s p 4 = (Fl kl p).foldl (visit c) s := by
  rw [expand_succ, expand_succ, expand_succ, expand_succ, expand_zero]
  unfold Fl
  rw [List.foldl_append, List.foldl_append, List.foldl_append]

/-- Reached by links. -/
def Cnn (kl : Int → Nat → List Int) (a x : Int) : Prop := ∀ S : Int → Prop, S a → (∀ b c, S b → c ∈ Fl kl b → S c) → S x
theorem Cnn.refl {kl : Int → Nat → List Int} {a : Int} : Cnn kl a a := fun S h _ => h
theorem Cnn.step {kl : Int → Nat → List Int} {a : Int} (b c : Int) (h : Cnn kl a b) (hc : c ∈ Fl kl b) : Cnn kl a c := fun S h0 hs => hs b c (h S h0 hs) hc

/-- The circle at hand after the events ahead of place (i, r). -/
structure Bi (kl : Int → Nat → List Int) (co0 : Int → Option Nat) (cur : List Int) (i r : Nat) : Prop where
  seen : ∀ i' r' x, lx i' r' i r → i' < cur.length → (Fl kl (cur.getD i' 0))[r']? = some x → x ∈ cur ∨ (co0 x).isSome = true
  ord : ∃ Fd Rk : Nat → Nat, ∀ j, 1 ≤ j → j < cur.length → Fd j < j ∧ lx (Fd j) (Rk j) i r ∧ (Fl kl (cur.getD (Fd j) 0))[Rk j]? = cur[j]? ∧ (∀ i' r', lx i' r' (Fd j) (Rk j) → (Fl kl (cur.getD i' 0))[r']? ≠ cur[j]?) ∧ (1 < j → lx (Fd (j - 1)) (Rk (j - 1)) (Fd j) (Rk j))
  conn : ∀ x, x ∈ cur → Cnn kl (cur.getD 0 0) x

def vadd (co0 : Int → Option Nat) (cur : List Int) (x : Int) : List Int := if x ∈ cur ∨ (co0 x).isSome = true then cur else cur ++ [x]

theorem Bi.step {kl : Int → Nat → List Int} {co0 : Int → Option Nat} {cur : List Int} {i r : Nat} {x : Int} (h : Bi kl co0 cur i r) (hi : i < cur.length) (hx : (Fl kl (cur.getD i 0))[r]? = some x) : Bi kl co0 (vadd co0 cur x) i (r + 1) := by
  unfold vadd
  by_cases hm : x ∈ cur ∨ (co0 x).isSome = true
  · rw [if_pos hm]
    refine ⟨fun i' r' y hl hi' hy => ?_, ?_, h.conn⟩
    · by_cases e : lx i' r' i r
      · exact h.seen i' r' y e hi' hy
      · have e2 : i' = i ∧ r' = r := by unfold lx at *; omega
        obtain ⟨rfl, rfl⟩ := e2
        rw [hx] at hy
        cases hy
        exact hm
    · obtain ⟨Fd, Rk, q⟩ := h.ord
      refine ⟨Fd, Rk, fun j h1 h2 => ?_⟩
      obtain ⟨q1, q2, q3, q4, q5⟩ := q j h1 h2
      exact ⟨q1, by unfold lx at *; omega, q3, q4, q5⟩
  · rw [if_neg hm]
    have hgd : ∀ j, j < cur.length → (cur ++ [x]).getD j 0 = cur.getD j 0 := fun j hj => getD_snoc_lt _ _ _ _ hj
    have hge : ∀ j, j < cur.length → (cur ++ [x])[j]? = cur[j]? := fun j hj => List.getElem?_append_left hj
    refine ⟨fun i' r' y hl hi' hy => ?_, ?_, fun y hy => ?_⟩
    · have hi2 : i' < cur.length := by unfold lx at hl; omega
      rw [hgd i' hi2] at hy
      by_cases e : lx i' r' i r
      · rcases h.seen i' r' y e hi2 hy with h3 | h3
        · exact .inl (by simp [h3])
        · exact .inr h3
      · have e2 : i' = i ∧ r' = r := by unfold lx at *; omega
        obtain ⟨rfl, rfl⟩ := e2
        rw [hx] at hy
        cases hy
        exact .inl (by simp)
    · obtain ⟨Fd, Rk, q⟩ := h.ord
      refine ⟨fun j => if j = cur.length then i else Fd j, fun j => if j = cur.length then r else Rk j, fun j h1 h2 => ?_⟩
      have h2 : j < cur.length + 1 := by simpa using h2
      rcases Nat.lt_or_ge j cur.length with hj | hj
      · have e1 : j ≠ cur.length := by omega
        have e2 : j - 1 ≠ cur.length := by omega
        obtain ⟨q1, q2, q3, q4, q5⟩ := q j h1 hj
        simp only [if_neg e1, if_neg e2]
        refine ⟨q1, by unfold lx at *; omega, by rw [hgd _ (by omega), hge j hj]; exact q3, fun i' r' hl => ?_, q5⟩
        rw [hge j hj, hgd i' (by unfold lx at hl; omega)]
        exact q4 i' r' hl
      · obtain rfl : j = cur.length := by omega
        have e2 : cur.length - 1 ≠ cur.length := by omega
        have ej : (cur ++ [x])[cur.length]? = some x := by simp
        simp only [if_true, if_neg e2]
        refine ⟨hi, by unfold lx; omega, by rw [hgd i hi, ej]; exact hx, fun i' r' hl hy => ?_, fun h3 => ?_⟩
        · rw [ej] at hy
          have hi2 : i' < cur.length := by unfold lx at hl; omega
          rw [hgd i' hi2] at hy
          exact hm (h.seen i' r' x hl hi2 hy)
        · exact (q (cur.length - 1) (by omega) (by omega)).2.1
    · have h0 : (cur ++ [x]).getD 0 0 = cur.getD 0 0 := hgd 0 (by omega)
      rw [h0]
      simp only [List.mem_append, List.mem_singleton] at hy
      rcases hy with hy | rfl
      · exact h.conn y hy
      · refine Cnn.step (cur.getD i 0) y (h.conn _ ?_) (List.mem_of_getElem? hx)
        rw [List.getD_eq_getElem?_getD, List.getElem?_eq_getElem hi]
        exact List.getElem_mem hi
theorem Bi.next {kl : Int → Nat → List Int} {co0 : Int → Option Nat} {cur : List Int} {i r : Nat} (h : Bi kl co0 cur i r) (hr : i < cur.length → (Fl kl (cur.getD i 0)).length ≤ r) : Bi kl co0 cur (i + 1) 0 := by
  refine ⟨fun i' r' x hl hi' hx => ?_, ?_, h.conn⟩
  · have hlt : r' < (Fl kl (cur.getD i' 0)).length := by
      rcases Nat.lt_or_ge r' (Fl kl (cur.getD i' 0)).length with h1 | h1
      · exact h1
      · rw [List.getElem?_eq_none h1] at hx; cases hx
    refine h.seen i' r' x ?_ hi' hx
    rcases Nat.lt_or_ge i' i with h1 | h1
    · exact .inl h1
    · have h2 : i' = i := by unfold lx at hl; omega
      subst h2
      have := hr hi'
      exact .inr ⟨rfl, by omega⟩
  · obtain ⟨Fd, Rk, q⟩ := h.ord
    refine ⟨Fd, Rk, fun j h1 h2 => ?_⟩
    obtain ⟨q1, q2, q3, q4, q5⟩ := q j h1 h2
    exact ⟨q1, by unfold lx at *; omega, q3, q4, q5⟩

/-- The state is the circle at hand over what was mapped ahead of it. -/
def St (co0 : Int → Option Nat) (c : Nat) (s : Bs) : Prop := (∀ x, s.co x = if x ∈ s.cur then some c else co0 x) ∧ ∀ x, x ∈ s.cur → co0 x = none
theorem St.visit {co0 : Int → Option Nat} {c : Nat} {s : Bs} (h : St co0 c s) (x : Int) : St co0 c (visit c s x) ∧ (visit c s x).cur = vadd co0 s.cur x := by
  have he : ((s.co x).isSome = true) ↔ (x ∈ s.cur ∨ (co0 x).isSome = true) := by
    rw [h.1 x]
    by_cases e : x ∈ s.cur
    · simp [e]
    · simp [e]
  unfold Qxb6605294a.visit vadd
  by_cases e : (s.co x).isSome = true
  · rw [if_pos e, if_pos (he.1 e)]
    exact ⟨h, rfl⟩
  · rw [if_neg e, if_neg (fun h => e (he.2 h))]
    have hn : ¬ (x ∈ s.cur ∨ (co0 x).isSome = true) := fun h => e (he.2 h)
    have h0 : co0 x = none := by
      cases hc : co0 x with
      | none => rfl
      | some v => exact absurd (.inr (by rw [hc]; rfl)) hn
    refine ⟨⟨fun y => ?_, fun y hy => ?_⟩, rfl⟩
    · show (if y = x then some c else s.co y) = if y ∈ s.cur ++ [x] then some c else co0 y
      by_cases e1 : y = x
      · simp [e1]
      · rw [if_neg e1, h.1 y]
        by_cases e2 : y ∈ s.cur
        · simp [e2]
        · simp [e2, e1]
    · simp only [List.mem_append, List.mem_singleton] at hy
      rcases hy with hy | rfl
      · exact h.2 y hy
      · exact h0
theorem vadd_getD {co0 : Int → Option Nat} {cur : List Int} {x : Int} {i : Nat} (hi : i < cur.length) : (vadd co0 cur x).getD i 0 = cur.getD i 0 ∧ i < (vadd co0 cur x).length := by
  unfold vadd
  split
  · exact ⟨rfl, hi⟩
  · exact ⟨getD_snoc_lt _ _ _ _ hi, by simp; omega⟩
theorem fold_Bi {kl : Int → Nat → List Int} {co0 : Int → Option Nat} {c i : Nat} {p : Int} : ∀ (rest pre : List Int) (s : Bs), Fl kl p = pre ++ rest → St co0 c s → Bi kl co0 s.cur i pre.length → i < s.cur.length → s.cur.getD i 0 = p →
    St co0 c (rest.foldl (visit c) s) ∧ Bi kl co0 (rest.foldl (visit c) s).cur i (pre ++ rest).length ∧ i < (rest.foldl (visit c) s).cur.length ∧ (rest.foldl (visit c) s).cur.getD i 0 = p
  | [], pre, s, _, hs, hb, hi, hp => by rw [List.append_nil]; exact ⟨hs, hb, hi, hp⟩
  | x :: rest, pre, s, hf, hs, hb, hi, hp => by
    obtain ⟨k1, k2⟩ := hs.visit x
    obtain ⟨g1, g2⟩ := vadd_getD (co0 := co0) (x := x) hi
    have hx : (Fl kl (s.cur.getD i 0))[pre.length]? = some x := by
      rw [hp, hf]
      simp
    have hb2 := hb.step hi hx
    rw [← k2] at hb2 g1 g2
    have := fold_Bi rest (pre ++ [x]) (visit c s x) (by rw [hf]; simp) k1 (by simpa using hb2) g2 (by rw [g1]; exact hp)
    simpa using this
theorem circN_Bi {kl : Int → Nat → List Int} {co0 : Int → Option Nat} {c : Nat} {s : Bs} (hs : St co0 c s) (hb : Bi kl co0 s.cur 0 0) : ∀ q, St co0 c (circN kl c s q) ∧ Bi kl co0 (circN kl c s q).cur q 0
  | 0 => ⟨hs, hb⟩
  | q + 1 => by
    obtain ⟨h1, h2⟩ := circN_Bi hs hb q
    unfold circN
    split
    · rename_i he
      refine ⟨h1, h2.next (fun hl => ?_)⟩
      rw [List.getElem?_eq_getElem hl] at he
      cases he
    · rename_i p hp
      have hl : q < (circN kl c s q).cur.length := by
        rcases Nat.lt_or_ge q (circN kl c s q).cur.length with h | h
        · exact h
        · rw [List.getElem?_eq_none h] at hp; cases hp
      have hg : (circN kl c s q).cur.getD q 0 = p := by rw [List.getD_eq_getElem?_getD, hp]; rfl
      rw [expand_Fl]
      obtain ⟨a1, a2, a3, a4⟩ := fold_Bi (Fl kl p) [] (circN kl c s q) rfl h1 h2 hl hg
      refine ⟨a1, a2.next (fun _ => ?_)⟩
      rw [a4]
      simp
theorem Bi.start (kl : Int → Nat → List Int) (co0 : Int → Option Nat) (p : Int) : Bi kl co0 [p] 0 0 :=
  ⟨fun i' r' x hl => by unfold lx at hl; omega, ⟨fun _ => 0, fun _ => 0, fun j h1 h2 => by simp at h2; omega⟩, fun x hx => by
    simp at hx
    rw [hx]
    exact Cnn.refl⟩
theorem St.start {co0 : Int → Option Nat} {p : Int} (h : co0 p = none) (c : Nat) : St co0 c (start c co0 p) :=
  ⟨fun x => by simp [Qxb6605294a.start], fun x hx => by simp [Qxb6605294a.start] at hx; rw [hx]; exact h⟩

/-- What is known of one circle. -/
structure Ci (kl : Int → Nat → List Int) (l : List Int) : Prop where
  nd : l.Nodup
  pos : 0 < l.length
  ord : ∃ Fd Rk : Nat → Nat, ∀ j, 1 ≤ j → j < l.length → Fd j < j ∧ (Fl kl (l.getD (Fd j) 0))[Rk j]? = l[j]? ∧ (∀ i' r', lx i' r' (Fd j) (Rk j) → (Fl kl (l.getD i' 0))[r']? ≠ l[j]?) ∧ (1 < j → lx (Fd (j - 1)) (Rk (j - 1)) (Fd j) (Rk j))
  conn : ∀ x, x ∈ l → Cnn kl (l.getD 0 0) x

/-- What is known of the search after t persons. -/
structure BI (kl : Int → Nat → List Int) (Per : Int → Prop) (P : Nat → Int) (t : Nat) (b : Bf) : Prop where
  map : ∀ (x : Int) (c : Nat), b.co x = some c ↔ ∃ l, b.done[c]? = some l ∧ x ∈ l
  ci : ∀ (c : Nat) (l : List Int), b.done[c]? = some l → Ci kl l
  fst : ∃ ix : Nat → Nat, (∀ (c : Nat) (l : List Int), b.done[c]? = some l → ix c < t ∧ l.getD 0 0 = P (ix c) ∧ ∀ x, x ∈ l → P (ix c) ≤ x) ∧ ∀ c c', c < c' → c' < b.done.length → ix c < ix c'
  closed : ∀ (c : Nat) (l : List Int), b.done[c]? = some l → ∀ p, p ∈ l → ∀ x, x ∈ Fl kl p → ∃ c', c' ≤ c ∧ b.co x = some c'

theorem bfsN_BI {Per : Int → Prop} (kl : Int → Nat → List Int) (hkl : ∀ p, Per p → ∀ k, k < 4 → ∀ x ∈ kl p k, Per x) (n : Nat) (P : Nat → Int) (hP : ∀ i, i < n → Per (P i)) (hQ : ∀ x, Per x → x ∈ ofN P n) (hS : ∀ i j, i < j → j < n → P i < P j) : ∀ t, t ≤ n → BI kl Per P t (bfsN kl n P t)
  | 0, _ => by
    refine ⟨fun x c => ?_, fun c l h => ?_, ⟨fun _ => 0, fun c l h => ?_, fun c c' _ h => ?_⟩, fun c l h => ?_⟩
    · simp [bfsN]
    · simp [bfsN] at h
    · simp [bfsN] at h
    · simp [bfsN] at h
    · simp [bfsN] at h
  | t + 1, ht => by
    have ih := bfsN_BI kl hkl n P hP hQ hS t (by omega)
    have ok := bfsN_ok kl hkl n P hP t (by omega)
    generalize hb : bfsN kl n P t = b at ih ok
    by_cases hf : (b.co (P t)).isSome = true
    · rw [bfsN_found kl n P t (by rw [hb]; exact hf), hb]
      obtain ⟨ix, q1, q2⟩ := ih.fst
      exact ⟨ih.map, ih.ci, ⟨ix, fun c l h => ⟨by have := (q1 c l h).1; omega, (q1 c l h).2⟩, q2⟩, ih.closed⟩
    · have hf' : (b.co (P t)).isSome = false := by simpa using hf
      have h0 : b.co (P t) = none := by
        cases hc : b.co (P t) with
        | none => rfl
        | some v => rw [hc] at hf'; cases hf'
      generalize hs : circN kl b.done.length (start b.done.length b.co (P t)) n = s
      rw [bfsN_new kl n P t b hb hf' s hs]
      obtain ⟨k1, k2⟩ := circN_Bi (kl := kl) (St.start h0 b.done.length) (Bi.start kl b.co (P t)) n
      have kok := Ok.circN kl hkl b.done.length (Ok.start ok.key b.done.length (P t) (hP t (by omega))) n
      rw [hs] at k1 k2 kok
      have hlen : s.cur.length ≤ n := kok.len hQ
      -- the first
      have hpre : ∀ q, 0 < (circN kl b.done.length (start b.done.length b.co (P t)) q).cur.length ∧ (circN kl b.done.length (start b.done.length b.co (P t)) q).cur.getD 0 0 = P t := by
        intro q
        induction q with
        | zero => exact ⟨by simp [circN, start], by simp [circN, start]⟩
        | succ q ihq =>
          unfold circN
          split
          · exact ihq
          · rename_i p hp
            rw [expand_Fl]
            have gen : ∀ (l : List Int) (s : Bs), 0 < s.cur.length → s.cur.getD 0 0 = P t → 0 < (l.foldl (visit b.done.length) s).cur.length ∧ (l.foldl (visit b.done.length) s).cur.getD 0 0 = P t := by
              intro l
              induction l with
              | nil => exact fun s h1 h2 => ⟨h1, h2⟩
              | cons x l ihl =>
                intro s h1 h2
                refine ihl _ ?_ ?_
                · exact Nat.lt_of_lt_of_le h1 (visit_len _ _ _)
                · unfold visit
                  split
                  · exact h2
                  · show (s.cur ++ [x]).getD 0 0 = P t
                    rw [getD_snoc_lt _ _ _ _ h1]
                    exact h2
            exact gen _ _ ihq.1 ihq.2
      have hp0 := hpre n
      rw [hs] at hp0
      obtain ⟨p1, p2⟩ := hp0
      have hdl : ∀ c l, (b.done ++ [s.cur])[c]? = some l → (c < b.done.length ∧ b.done[c]? = some l) ∨ (c = b.done.length ∧ l = s.cur) := fun c l h => by
        rcases Nat.lt_or_ge c b.done.length with hc | hc
        · rw [List.getElem?_append_left hc] at h
          exact .inl ⟨hc, h⟩
        · rw [List.getElem?_append_right hc] at h
          have : c - b.done.length = 0 := by
            rcases Nat.eq_zero_or_pos (c - b.done.length) with e | e
            · exact e
            · rw [List.getElem?_eq_none (by simp; omega)] at h; cases h
          rw [this] at h
          cases h
          exact .inr ⟨by omega, rfl⟩
      have hmap : ∀ x c, s.co x = some c ↔ ∃ l, (b.done ++ [s.cur])[c]? = some l ∧ x ∈ l := fun x c => by
        rw [k1.1 x]
        by_cases e : x ∈ s.cur
        · rw [if_pos e]
          constructor
          · intro h
            cases h
            exact ⟨s.cur, by simp, e⟩
          · rintro ⟨l, hl, hx⟩
            rcases hdl c l hl with ⟨_, hl'⟩ | ⟨rfl, rfl⟩
            · have := (ih.map x c).2 ⟨l, hl', hx⟩
              rw [k1.2 x e] at this
              cases this
            · rfl
        · rw [if_neg e, ih.map]
          constructor
          · rintro ⟨l, hl, hx⟩
            refine ⟨l, ?_, hx⟩
            rw [List.getElem?_append_left (by
              rcases Nat.lt_or_ge c b.done.length with hc | hc
              · exact hc
              · rw [List.getElem?_eq_none hc] at hl; cases hl)]
            exact hl
          · rintro ⟨l, hl, hx⟩
            rcases hdl c l hl with ⟨_, hl'⟩ | ⟨rfl, rfl⟩
            · exact ⟨l, hl', hx⟩
            · exact absurd hx e
      refine ⟨hmap, fun c l h => ?_, ?_, fun c l h p hp x hx => ?_⟩
      · rcases hdl c l h with ⟨_, hl'⟩ | ⟨rfl, rfl⟩
        · exact ih.ci c l hl'
        · refine ⟨kok.nd, p1, ?_, k2.conn⟩
          obtain ⟨Fd, Rk, q⟩ := k2.ord
          exact ⟨Fd, Rk, fun j h1 h2 => ⟨(q j h1 h2).1, (q j h1 h2).2.2⟩⟩
      · obtain ⟨ix, q1, q2⟩ := ih.fst
        obtain ⟨iy, hiy⟩ : ∃ iy : Nat → Nat, iy = fun c => if c = b.done.length then t else ix c := ⟨_, rfl⟩
        refine ⟨iy, fun c l h => ?_, fun c c' hcc hc' => ?_⟩
        · rcases hdl c l h with ⟨hc, hl'⟩ | ⟨rfl, rfl⟩
          · have e1 : iy c = ix c := by rw [hiy]; exact if_neg (by omega)
            rw [e1]
            exact ⟨by have := (q1 c l hl').1; omega, (q1 c l hl').2⟩
          · have e1 : iy b.done.length = t := by rw [hiy]; exact if_pos rfl
            rw [e1]
            refine ⟨by omega, p2, fun x hx => ?_⟩
            obtain ⟨i, hi, e⟩ := mem_ofN.1 (hQ x (kok.per x hx))
            rcases Nat.lt_or_ge i t with h1 | h1
            · have := ok.all i h1
              rw [e, k1.2 x hx] at this
              cases this
            · rcases Nat.lt_or_ge t i with h2 | h2
              · rw [← e]; have := hS t i h2 hi; omega
              · obtain rfl : i = t := by omega
                rw [e]; exact Int.le_refl _
        · have hc'' : c' < b.done.length + 1 := by simpa using hc'
          rw [hiy]
          show (if c = b.done.length then t else ix c) < (if c' = b.done.length then t else ix c')
          by_cases e : c' = b.done.length
          · rw [if_pos e, if_neg (by omega)]
            exact (q1 c (b.done[c]'(by omega)) (List.getElem?_eq_getElem (by omega))).1
          · rw [if_neg e, if_neg (by omega)]
            exact q2 c c' hcc (by omega)
      · rcases hdl c l h with ⟨hc, hl'⟩ | ⟨rfl, rfl⟩
        · obtain ⟨c', h1, h2⟩ := ih.closed c l hl' p hp x hx
          refine ⟨c', h1, ?_⟩
          obtain ⟨l', hl2, hx2⟩ := (ih.map x c').1 h2
          refine (hmap x c').2 ⟨l', ?_, hx2⟩
          rw [List.getElem?_append_left (by omega)]
          exact hl2
        · obtain ⟨i, hi⟩ := List.mem_iff_getElem?.1 hp
          have hil : i < s.cur.length := by
            rcases Nat.lt_or_ge i s.cur.length with h | h
            · exact h
            · rw [List.getElem?_eq_none h] at hi; cases hi
          have hgi : s.cur.getD i 0 = p := by rw [List.getD_eq_getElem?_getD, hi]; rfl
          obtain ⟨r, hr⟩ := List.mem_iff_getElem?.1 hx
          rcases k2.seen i r x (.inl (by omega)) hil (by rw [hgi]; exact hr) with h3 | h3
          · exact ⟨b.done.length, Nat.le_refl _, by show s.co x = _; rw [k1.1 x, if_pos h3]⟩
          · rw [Option.isSome_iff_exists] at h3
            obtain ⟨c', hc'⟩ := h3
            obtain ⟨l', hl2, hx2⟩ := (ih.map x c').1 hc'
            have hlt : c' < b.done.length := by
              rcases Nat.lt_or_ge c' b.done.length with h | h
              · exact h
              · rw [List.getElem?_eq_none h] at hl2; cases hl2
            refine ⟨c', by omega, (hmap x c').2 ⟨l', ?_, hx2⟩⟩
            rw [List.getElem?_append_left hlt]
            exact hl2
end Go.Proofs.Qxb6605294a
