/-
  Seat b6605195a. PLAIN LISTS: the sweep over sorted events lays the maximal runs. No Go here.
-/
import Derived.Test.Qxb6605195aPlainA
set_option linter.unusedVariables false
set_option linter.unusedSimpArgs false
namespace Go.Proofs.Qxb6605195a

/-- The sum of the deltas. -/
def dsum : List (Int × Int) → Int
  | [] => 0
  | x :: r => x.2 + dsum r

theorem dsum_append (xs ys : List (Int × Int)) : dsum (xs ++ ys) = dsum xs + dsum ys := by
  induction xs with
  | nil => simp [dsum]
  | cons x r ih => simp only [List.cons_append, dsum, ih]; omega

theorem dsum_perm {xs ys : List (Int × Int)} (h : xs.Perm ys) : dsum xs = dsum ys := by
  induction h with
  | nil => rfl
  | cons x _ ih => simp only [dsum, ih]
  | swap x y l => simp only [dsum]; omega
  | trans _ _ ih1 ih2 => exact ih1.trans ih2

/-- The deltas of the events at or before c. -/
def upTo (ys : List (Int × Int)) (c : Int) : Int := dsum (ys.filter fun e => decide (e.1 ≤ c))

theorem upTo_perm {xs ys : List (Int × Int)} (h : xs.Perm ys) (c : Int) : upTo xs c = upTo ys c := dsum_perm (h.filter _)

/-- The events of a list of ranges, as the first loop lays them. -/
def evs : List (Int × Int) → List (Int × Int)
  | [] => []
  | x :: r => (if x.1 ≤ x.2 then [(x.1, 1), (x.2 + 1, -1)] else []) ++ evs r

theorem evs_append (xs ys : List (Int × Int)) : evs (xs ++ ys) = evs xs ++ evs ys := by
  induction xs with
  | nil => rfl
  | cons x r ih => simp only [List.cons_append, evs, ih, List.append_assoc]

theorem evs_length (xs : List (Int × Int)) : (evs xs).length ≤ xs.length * 2 := by
  induction xs with
  | nil => simp [evs]
  | cons x r ih =>
    simp only [evs, List.length_append, List.length_cons]
    split <;> simp <;> omega

def Cov (xs : List (Int × Int)) (c : Int) : Prop := ∃ x ∈ xs, x.1 ≤ c ∧ c ≤ x.2

theorem upTo_evs (xs : List (Int × Int)) (c : Int) : 0 ≤ upTo (evs xs) c ∧ (0 < upTo (evs xs) c ↔ Cov xs c) := by
  induction xs with
  | nil => simp [upTo, evs, dsum, Cov]
  | cons x r ih =>
    have e : upTo (evs (x :: r)) c = upTo (if x.1 ≤ x.2 then [(x.1, 1), (x.2 + 1, -1)] else []) c + upTo (evs r) c := by
      simp only [upTo, evs, List.filter_append, dsum_append]
    have e2 : Cov (x :: r) c ↔ (x.1 ≤ c ∧ c ≤ x.2) ∨ Cov r c := by simp [Cov]
    rw [e, e2, ← ih.2]
    have h0 := ih.1
    generalize upTo (evs r) c = t at h0 ⊢
    by_cases hx : x.1 ≤ x.2
    · rw [if_pos hx]
      by_cases h1 : x.1 ≤ c
      · by_cases h2 : x.2 + 1 ≤ c
        · simp [upTo, List.filter_cons, h1, h2, dsum]; omega
        · simp [upTo, List.filter_cons, h1, h2, dsum]; omega
      · have h2 : ¬ x.2 + 1 ≤ c := by omega
        simp [upTo, List.filter_cons, h1, h2, dsum]; omega
    · rw [if_neg hx]; simp [upTo, dsum]; omega

theorem dsum_evs (xs : List (Int × Int)) : dsum (evs xs) = 0 := by
  induction xs with
  | nil => rfl
  | cons x r ih =>
    simp only [evs, dsum_append, ih]
    split <;> simp [dsum]

/-- Every event's delta is 1 or -1, and its place lies in the domain. -/
def EvOk (e : Int × Int) : Prop := (e.2 = 1 ∨ e.2 = -1) ∧ 0 ≤ e.1 ∧ e.1 ≤ 1114112

theorem evs_ok (xs : List (Int × Int)) (h : ∀ x ∈ xs, 0 ≤ x.1 ∧ x.1 ≤ 1114111 ∧ 0 ≤ x.2 ∧ x.2 ≤ 1114111) : ∀ e ∈ evs xs, EvOk e := by
  induction xs with
  | nil => simp [evs]
  | cons x r ih =>
    intro e he
    simp only [evs, List.mem_append] at he
    rcases he with he | he
    · have := h x (by simp)
      by_cases hx : x.1 ≤ x.2
      · rw [if_pos hx] at he
        simp at he
        rcases he with rfl | rfl <;> simp [EvOk] <;> omega
      · rw [if_neg hx] at he; simp at he
    · exact ih (fun y hy => h y (by simp [hy])) e he

/-- The sum of the first i deltas. -/
def psum (ys : List (Int × Int)) (i : Nat) : Int := dsum (ys.take i)

theorem psum_succ (ys : List (Int × Int)) (i : Nat) (h : i < ys.length) : psum ys (i + 1) = psum ys i + (ys.getD i (0, 0)).2 := by
  unfold psum
  rw [List.take_succ_eq_append_getElem h, dsum_append]
  simp [dsum, h]

theorem dsum_bound (ys : List (Int × Int)) (h : ∀ e ∈ ys, EvOk e) : -(ys.length : Int) ≤ dsum ys ∧ dsum ys ≤ ys.length := by
  induction ys with
  | nil => simp [dsum]
  | cons x r ih =>
    have := ih fun e he => h e (by simp [he])
    have hx := h x (by simp)
    simp only [dsum, List.length_cons]
    rcases hx.1 with e | e <;> rw [e] <;> omega

theorem psum_bound (ys : List (Int × Int)) (h : ∀ e ∈ ys, EvOk e) (i : Nat) : -(ys.length : Int) ≤ psum ys i ∧ psum ys i ≤ ys.length := by
  have := dsum_bound (ys.take i) fun e he => h e (List.mem_of_mem_take he)
  rw [List.length_take] at this
  unfold psum
  omega

/-- i parts the events: those ahead of it at or before c, those from it on behind c. -/
theorem upTo_parts (ys : List (Int × Int)) (i : Nat) (c : Int) (h1 : ∀ j, j < i → j < ys.length → (ys.getD j (0, 0)).1 ≤ c) (h2 : ∀ j, i ≤ j → j < ys.length → c < (ys.getD j (0, 0)).1) :
    upTo ys c = psum ys i := by
  have e0 : upTo ys c = dsum ((ys.take i ++ ys.drop i).filter fun e => decide (e.1 ≤ c)) := by rw [List.take_append_drop]; rfl
  rw [e0, List.filter_append]
  unfold psum
  have e1 : (ys.take i).filter (fun e => decide (e.1 ≤ c)) = ys.take i := by
    rw [List.filter_eq_self]
    intro e he
    obtain ⟨j, hj, rfl⟩ := List.getElem_of_mem he
    rw [List.length_take] at hj
    have := h1 j (by omega) (by omega)
    have hj2 : j < ys.length := by omega
    simp [hj2] at this
    simpa using this
  have e2 : (ys.drop i).filter (fun e => decide (e.1 ≤ c)) = [] := by
    rw [List.filter_eq_nil_iff]
    intro e he
    obtain ⟨j, hj, rfl⟩ := List.getElem_of_mem he
    rw [List.length_drop] at hj
    have := h2 (i + j) (by omega) (by omega)
    have hj2 : i + j < ys.length := by omega
    simp [hj2] at this
    simp
    omega
  rw [e1, e2, List.append_nil]

/-- The runs: each not empty, no two that touch, rising. -/
def Canon (rs : List (Int × Int)) : Prop := (∀ r ∈ rs, r.1 ≤ r.2) ∧ rs.Pairwise fun x y => x.2 + 1 < y.1

/-- What the sweep holds at a boundary i. -/
structure Sw (ys : List (Int × Int)) (i : Nat) (start : Int) (out : List (Int × Int)) : Prop where
  bound : ∀ j k, j < i → i ≤ k → k < ys.length → (ys.getD j (0, 0)).1 < (ys.getD k (0, 0)).1
  canon : Canon out
  nonneg : 0 ≤ psum ys i
  cov : ∀ c, (∀ k, i ≤ k → k < ys.length → c < (ys.getD k (0, 0)).1) → (0 < upTo ys c ↔ Cov out c ∨ (0 < psum ys i ∧ start ≤ c))
  gap : 0 < psum ys i → (∀ r ∈ out, r.2 + 1 < start) ∧ ∀ k, i ≤ k → k < ys.length → start < (ys.getD k (0, 0)).1
  far : psum ys i = 0 → ∀ r ∈ out, ∀ k, i ≤ k → k < ys.length → r.2 + 1 < (ys.getD k (0, 0)).1

theorem Sw.start0 (ys : List (Int × Int)) (h0 : ∀ c, 0 ≤ upTo ys c) : Sw ys 0 0 [] where
  bound j k h := absurd h (Nat.not_lt_zero _)
  canon := ⟨by simp, List.Pairwise.nil⟩
  nonneg := by simp [psum, dsum]
  cov c h := by
    have : upTo ys c = psum ys 0 := upTo_parts ys 0 c (fun j h => absurd h (Nat.not_lt_zero _)) h
    rw [this]
    simp [psum, dsum, Cov]
  gap h := by simp [psum, dsum] at h
  far _ r hr := by simp at hr

/-- A boundary i, the events from i to i' all at p, those from i' on behind p: what each of the four ways leaves. -/
theorem Sw.next {ys : List (Int × Int)} {i i' : Nat} {start : Int} {out : List (Int × Int)} (h : Sw ys i start out) (hs : Srt ys) (h0 : ∀ c, 0 ≤ upTo ys c) (p : Int) (hii : i < i') (hin : i' ≤ ys.length)
    (hp : ∀ j, i ≤ j → j < i' → (ys.getD j (0, 0)).1 = p) (hq : ∀ k, i' ≤ k → k < ys.length → p < (ys.getD k (0, 0)).1) :
    (psum ys i = 0 → 0 < psum ys i' → Sw ys i' p out) ∧ (psum ys i = 0 → psum ys i' = 0 → Sw ys i' start out) ∧ (0 < psum ys i → psum ys i' = 0 → Sw ys i' start (out ++ [(start, p - 1)])) ∧
    (0 < psum ys i → 0 < psum ys i' → Sw ys i' start out) ∧ 0 ≤ psum ys i' := by
  have hpi : (ys.getD i (0, 0)).1 = p := hp i (Nat.le_refl _) hii
  have low : ∀ j, j < i' → j < ys.length → (ys.getD j (0, 0)).1 ≤ p := fun j hj _ => by
    rcases Nat.lt_or_ge j i with hji | hji
    · have := h.bound j i hji (Nat.le_refl _) (by omega); omega
    · rw [hp j hji hj]; exact Int.le_refl _
  have bound' : ∀ j k, j < i' → i' ≤ k → k < ys.length → (ys.getD j (0, 0)).1 < (ys.getD k (0, 0)).1 := fun j k hj hk hkl => by
    have := low j hj (by omega); have := hq k hk hkl; omega
  -- what lies from p up to the next event
  have here : ∀ c, p ≤ c → (∀ k, i' ≤ k → k < ys.length → c < (ys.getD k (0, 0)).1) → upTo ys c = psum ys i' := fun c hc hk =>
    upTo_parts ys i' c (fun j hj hjl => by have := low j hj hjl; omega) hk
  have nn : 0 ≤ psum ys i' := by
    have := here p (Int.le_refl _) hq
    rw [← this]; exact h0 p
  -- what lies before p
  have before : ∀ c, c < p → (0 < upTo ys c ↔ Cov out c ∨ (0 < psum ys i ∧ start ≤ c)) := fun c hc => h.cov c fun k hk hkl => by
    rcases Nat.lt_or_ge k i' with hki | hki
    · rw [hp k hk hki]; exact hc
    · have := hq k hki hkl; omega
  refine ⟨fun z n => ?_, fun z n => ?_, fun z n => ?_, fun z n => ?_, nn⟩
  · have far' : ∀ r ∈ out, r.2 + 1 < p := fun r hr => by have := h.far z r hr i (Nat.le_refl _) (by omega); omega
    refine ⟨bound', h.canon, nn, fun c hk => ?_, fun _ => ⟨far', hq⟩, fun e => by omega⟩
    rcases Int.lt_or_le c p with hc | hc
    · rw [before c hc]
      constructor
      · rintro (a | a)
        · exact .inl a
        · omega
      · rintro (a | a)
        · exact .inl a
        · omega
    · rw [here c hc hk]
      exact ⟨fun _ => .inr ⟨n, hc⟩, fun _ => n⟩
  · have far' : ∀ r ∈ out, r.2 + 1 < p := fun r hr => by have := h.far z r hr i (Nat.le_refl _) (by omega); omega
    refine ⟨bound', h.canon, nn, fun c hk => ?_, fun e => by omega, fun _ r hr k hk hkl => by have := far' r hr; have := hq k hk hkl; omega⟩
    rcases Int.lt_or_le c p with hc | hc
    · rw [before c hc]
      constructor
      · rintro (a | a)
        · exact .inl a
        · omega
      · rintro (a | a)
        · exact .inl a
        · omega
    · rw [here c hc hk]
      constructor
      · intro a; omega
      · rintro (⟨r, hr, _, a⟩ | a)
        · have := far' r hr; omega
        · omega
  · obtain ⟨g1, g2⟩ := h.gap z
    have sp : start < p := by have := g2 i (Nat.le_refl _) (by omega); omega
    refine ⟨bound', ⟨?_, ?_⟩, nn, fun c hk => ?_, fun e => by omega, fun _ r hr k hk hkl => ?_⟩
    · intro r hr
      rw [List.mem_append] at hr
      rcases hr with hr | hr
      · exact h.canon.1 r hr
      · simp at hr; subst hr; show start ≤ p - 1; omega
    · rw [List.pairwise_append]
      exact ⟨h.canon.2, by simp, fun r hr x hx => by simp at hx; subst hx; exact g1 r hr⟩
    · have ec : Cov (out ++ [(start, p - 1)]) c ↔ Cov out c ∨ (start ≤ c ∧ c ≤ p - 1) := by
        simp only [Cov, List.mem_append, List.mem_singleton]
        constructor
        · rintro ⟨x, hx | rfl, h1, h2⟩
          · exact .inl ⟨x, hx, h1, h2⟩
          · exact .inr ⟨h1, h2⟩
        · rintro (⟨x, hx, h12⟩ | ⟨h1, h2⟩)
          · exact ⟨x, .inl hx, h12⟩
          · exact ⟨_, .inr rfl, h1, h2⟩
      rw [ec]
      rcases Int.lt_or_le c p with hc | hc
      · rw [before c hc]
        constructor
        · rintro (a | ⟨_, a⟩)
          · exact .inl (.inl a)
          · exact .inl (.inr ⟨a, by omega⟩)
        · rintro ((a | a) | a)
          · exact .inl a
          · exact .inr ⟨z, a.1⟩
          · omega
      · rw [here c hc hk]
        constructor
        · intro a; omega
        · rintro ((⟨r, hr, _, a⟩ | a) | a)
          · have := g1 r hr; omega
          · omega
          · omega
    · rw [List.mem_append] at hr
      rcases hr with hr | hr
      · have := g1 r hr; have := hq k hk hkl; omega
      · simp at hr; subst hr; have := hq k hk hkl; show p - 1 + 1 < _; omega
  · obtain ⟨g1, g2⟩ := h.gap z
    have sp : start < p := by have := g2 i (Nat.le_refl _) (by omega); omega
    refine ⟨bound', h.canon, nn, fun c hk => ?_, fun _ => ⟨g1, fun k hk hkl => by have := hq k hk hkl; omega⟩, fun e => by omega⟩
    rcases Int.lt_or_le c p with hc | hc
    · rw [before c hc]
      constructor
      · rintro (a | a)
        · exact .inl a
        · exact .inr ⟨n, a.2⟩
      · rintro (a | a)
        · exact .inl a
        · exact .inr ⟨z, a.2⟩
    · rw [here c hc hk]
      exact ⟨fun _ => .inr ⟨n, by omega⟩, fun _ => n⟩

/-- At the end. -/
theorem Sw.finish {ys : List (Int × Int)} {start : Int} {out xs : List (Int × Int)} (h : Sw ys ys.length start out) (hp : ys.Perm (evs xs)) : Canon out ∧ ∀ c, Cov out c ↔ Cov xs c := by
  refine ⟨h.canon, fun c => ?_⟩
  have h1 := h.cov c fun k hk hkl => by omega
  have hz : psum ys ys.length = 0 := by
    unfold psum; rw [List.take_length, dsum_perm hp, dsum_evs]
  rw [hz] at h1
  rw [upTo_perm hp c, (upTo_evs xs c).2] at h1
  rw [h1]
  constructor
  · exact .inl
  · rintro (a | a)
    · exact a
    · omega

/-- TWO LISTS OF RUNS OVER THE SAME PLACES ARE ONE. -/
theorem canon_unique : ∀ (xs ys : List (Int × Int)), Canon xs → Canon ys → (∀ c, Cov xs c ↔ Cov ys c) → xs = ys
  | [], [], _, _, _ => rfl
  | [], y :: r, _, hy, h => by
    have := (h y.1).2 ⟨y, by simp, Int.le_refl _, hy.1 y (by simp)⟩
    obtain ⟨x, hx, _⟩ := this
    simp at hx
  | x :: r, [], hx, _, h => by
    have := (h x.1).1 ⟨x, by simp, Int.le_refl _, hx.1 x (by simp)⟩
    obtain ⟨y, hy, _⟩ := this
    simp at hy
  | x :: r, y :: s, hx, hy, h => by
    obtain ⟨x1, x2⟩ := x
    obtain ⟨y1, y2⟩ := y
    have lx : ∀ z ∈ r, x2 + 1 < z.1 := (List.pairwise_cons.1 hx.2).1
    have ly : ∀ z ∈ s, y2 + 1 < z.1 := (List.pairwise_cons.1 hy.2).1
    have hx1 : x1 ≤ x2 := hx.1 (x1, x2) (by simp)
    have hy1 : y1 ≤ y2 := hy.1 (y1, y2) (by simp)
    have mx : ∀ c, Cov ((x1, x2) :: r) c → x1 ≤ c := by
      rintro c ⟨z, hz, a, b⟩
      rcases List.mem_cons.1 hz with rfl | hz
      · exact a
      · have := lx z hz; omega
    have my : ∀ c, Cov ((y1, y2) :: s) c → y1 ≤ c := by
      rintro c ⟨z, hz, a, b⟩
      rcases List.mem_cons.1 hz with rfl | hz
      · exact a
      · have := ly z hz; omega
    have cx : ∀ c, Cov ((x1, x2) :: r) c ↔ (x1 ≤ c ∧ c ≤ x2) ∨ Cov r c := fun c => by simp [Cov]
    have cy : ∀ c, Cov ((y1, y2) :: s) c ↔ (y1 ≤ c ∧ c ≤ y2) ∨ Cov s c := fun c => by simp [Cov]
    have e1 : x1 = y1 := by
      have a := my x1 ((h x1).1 ((cx x1).2 (.inl ⟨Int.le_refl _, hx1⟩)))
      have b := mx y1 ((h y1).2 ((cy y1).2 (.inl ⟨Int.le_refl _, hy1⟩)))
      omega
    subst e1
    have nx : ∀ c, c ≤ x2 + 1 → ¬ Cov r c := by
      rintro c hc ⟨z, hz, a, b⟩
      have := lx z hz; omega
    have ny : ∀ c, c ≤ y2 + 1 → ¬ Cov s c := by
      rintro c hc ⟨z, hz, a, b⟩
      have := ly z hz; omega
    have e2 : x2 = y2 := by
      rcases Int.lt_trichotomy x2 y2 with hl | hl | hl
      · have a := (h (x2 + 1)).2 ((cy (x2 + 1)).2 (.inl ⟨by omega, by omega⟩))
        rcases (cx (x2 + 1)).1 a with b | b
        · omega
        · exact absurd b (nx _ (Int.le_refl _))
      · exact hl
      · have a := (h (y2 + 1)).1 ((cx (y2 + 1)).2 (.inl ⟨by omega, by omega⟩))
        rcases (cy (y2 + 1)).1 a with b | b
        · omega
        · exact absurd b (ny _ (Int.le_refl _))
    subst e2
    have er : r = s := canon_unique r s ⟨fun z hz => hx.1 z (by simp [hz]), (List.pairwise_cons.1 hx.2).2⟩ ⟨fun z hz => hy.1 z (by simp [hz]), (List.pairwise_cons.1 hy.2).2⟩ fun c => by
      have hc := h c
      rw [cx, cy] at hc
      constructor
      · intro a
        rcases hc.1 (.inr a) with b | b
        · exact absurd a (nx _ (by omega))
        · exact b
      · intro a
        rcases hc.2 (.inr a) with b | b
        · exact absurd a (ny _ (by omega))
        · exact b
    rw [er]
end Go.Proofs.Qxb6605195a
