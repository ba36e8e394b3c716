/-
  Seat b6605294a. THE CIRCLES ARE THE GROUPS OF THE LINKS, PLAIN.
-/
import Derived.Test.Qxb6605294aE3
import Derived.Test.Qxb6605294aE2
import Derived.Test.Qxb6605294aE1
set_option linter.unusedVariables false
set_option linter.unusedSimpArgs false
namespace Go.Proofs.Qxb6605294a

/-- Each person's circle and its place there. -/
structure Pl (n : Nat) (PE : Nat → Int) (kl : Int → Nat → List Int) (D : List (List Int)) (cc pos : Nat → Nat) : Prop where
  at' : ∀ j, j < n → ∃ l, D[cc j]? = some l ∧ l[pos j]? = some (PE j)
  inv : ∀ (c q : Nat) (l : List Int) (x : Int), D[c]? = some l → l[q]? = some x → ∃ j, j < n ∧ PE j = x ∧ cc j = c ∧ pos j = q
  ci : ∀ (c : Nat) (l : List Int), D[c]? = some l → Ci kl l
  fst : ∀ (c c' : Nat) (l l' : List Int), c < c' → D[c]? = some l → D[c']? = some l' → l.getD 0 0 < l'.getD 0 0
  least : ∀ (c : Nat) (l : List Int), D[c]? = some l → ∀ x, x ∈ l → l.getD 0 0 ≤ x
  closed : ∀ (c : Nat) (l : List Int), D[c]? = some l → ∀ p, p ∈ l → ∀ x, x ∈ Fl kl p → x ∈ l

theorem lt_of_get? {α : Type} {l : List α} {i : Nat} {x : α} (h : l[i]? = some x) : i < l.length := by
  rcases Nat.lt_or_ge i l.length with h1 | h1
  · exact h1
  · rw [List.getElem?_eq_none h1] at h; cases h

theorem nodup_get? {l : List Int} (h : l.Nodup) {i j : Nat} {x : Int} (hi : l[i]? = some x) (hj : l[j]? = some x) : i = j :=
  (List.getElem?_inj (lt_of_get? hi) h).1 (hi.trans hj.symm)

theorem Pl.make {n : Nat} {PE : Nat → Int} {N : Nat → Nat → Nat} {Z : Nat → Nat → Nat → Int} {kl : Int → Nat → List Int} {PS : Nat → Int} (h : Inp n PE N Z kl PS) (hsym : ∀ i, i < n → ∀ k, k < 4 → ∀ t, t < N k i → Lk n PE N Z (Z k i t) (PE i)) :
    ∃ cc pos, Pl n PE kl (bfsN kl n PS n).done cc pos ∧ ∀ j, j < n → (bfsN kl n PS n).co (PE j) = some (cc j) := by
  have hB := bfsN_BI kl h.per n PS h.pp h.pq h.hPS n (Nat.le_refl _)
  have hco := h.co
  have hok := h.ok
  generalize bfsN kl n PS n = b at hB hco hok
  have hrev : ∀ p, Per PE n p → ∀ x, x ∈ Fl kl p → p ∈ Fl kl x := by
    rintro p ⟨i, hi, rfl⟩ x hx
    obtain ⟨k, hk, hx⟩ := mem_Fl.1 hx
    obtain ⟨t, ht, rfl⟩ := mem_ofN.1 (((h.hkl i k hi hk).2 x).1 hx)
    obtain ⟨i', hi', e, k', hk', t', ht', e'⟩ := hsym i hi k hk t ht
    rw [← e]
    exact mem_Fl.2 ⟨k', hk', ((h.hkl i' k' hi' hk').2 _).2 (mem_ofN.2 ⟨t', ht', e'⟩)⟩
  have hperF : ∀ p, Per PE n p → ∀ x, x ∈ Fl kl p → Per PE n x := fun p hp x hx => by
    obtain ⟨k, hk, hx⟩ := mem_Fl.1 hx
    exact h.per p hp k hk x hx
  have hcx : ∀ j, ∃ c q, j < n → b.co (PE j) = some c ∧ ∃ l, b.done[c]? = some l ∧ l[q]? = some (PE j) := fun j => by
    by_cases hj : j < n
    · obtain ⟨c, hc⟩ := hco j hj
      obtain ⟨l, hl, hm⟩ := (hB.map (PE j) c).1 hc
      obtain ⟨q, hq⟩ := List.mem_iff_getElem?.1 hm
      exact ⟨c, q, fun _ => ⟨hc, l, hl, hq⟩⟩
    · exact ⟨0, 0, fun h => absurd h hj⟩
  have hA : ∃ cc pos : Nat → Nat, ∀ j, j < n → b.co (PE j) = some (cc j) ∧ ∃ l, b.done[cc j]? = some l ∧ l[pos j]? = some (PE j) :=
    ⟨fun j => Classical.choose (hcx j), fun j => Classical.choose (Classical.choose_spec (hcx j)), fun j => Classical.choose_spec (Classical.choose_spec (hcx j))⟩
  obtain ⟨cc, pos, hcp⟩ := hA
  have hmem : ∀ (c : Nat) (l : List Int), b.done[c]? = some l → ∀ x, x ∈ l → Per PE n x := fun c l hl x hx => hok.key x (by rw [(hB.map x c).2 ⟨l, hl, hx⟩]; rfl)
  obtain ⟨ix, f1, f2⟩ := hB.fst
  refine ⟨cc, pos, ⟨fun j hj => (hcp j hj).2, fun c q l x hl hq => ?_, hB.ci, fun c c' l l' hcc hl hl' => ?_, fun c l hl x hx => ?_, fun c l hl p hp x hx => ?_⟩, fun j hj => (hcp j hj).1⟩
  · obtain ⟨j, hj, rfl⟩ := hmem c l hl x (List.mem_of_getElem? hq)
    obtain ⟨k1, l', k2, k3⟩ := hcp j hj
    have e1 : b.co (PE j) = some c := (hB.map _ c).2 ⟨l, hl, List.mem_of_getElem? hq⟩
    rw [k1] at e1
    have e2 : cc j = c := Option.some.inj e1
    rw [e2, hl] at k2
    cases k2
    exact ⟨j, hj, rfl, e2, nodup_get? (hB.ci c l hl).nd k3 hq⟩
  · obtain ⟨a1, a2, _⟩ := f1 c l hl
    obtain ⟨b1, b2, _⟩ := f1 c' l' hl'
    rw [a2, b2]
    exact h.hPS _ _ (f2 c c' hcc (lt_of_get? hl')) b1
  · obtain ⟨a1, a2, a3⟩ := f1 c l hl
    rw [a2]
    exact a3 x hx
  · have hpp := hmem c l hl p hp
    obtain ⟨c1, h1, h2⟩ := hB.closed c l hl p hp x hx
    obtain ⟨l1, h3, h4⟩ := (hB.map x c1).1 h2
    obtain ⟨c2, h5, h6⟩ := hB.closed c1 l1 h3 x h4 p (hrev p hpp x hx)
    have h7 := (hB.map p c).2 ⟨l, hl, hp⟩
    rw [h6] at h7
    have e1 : c2 = c := Option.some.inj h7
    have e2 : c1 = c := by omega
    rw [e2, hl] at h3
    cases h3
    exact h4

section
variable {n : Nat} {PE : Nat → Int} {N : Nat → Nat → Nat} {Z : Nat → Nat → Nat → Int} {kl : Int → Nat → List Int} {PS : Nat → Int} {D : List (List Int)} {cc pos : Nat → Nat}

theorem Pl.mem (h : Pl n PE kl D cc pos) {j : Nat} (hj : j < n) : ∃ l, D[cc j]? = some l ∧ PE j ∈ l ∧ pos j < l.length := by
  obtain ⟨l, h1, h2⟩ := h.at' j hj
  exact ⟨l, h1, List.mem_of_getElem? h2, lt_of_get? h2⟩
theorem Pl.ccOf (h : Pl n PE kl D cc pos) (hi : Inp n PE N Z kl PS) {c : Nat} {l : List Int} (hl : D[c]? = some l) {j : Nat} (hj : j < n) (hm : PE j ∈ l) : cc j = c := by
  obtain ⟨q, hq⟩ := List.mem_iff_getElem?.1 hm
  obtain ⟨j', hj', e, h1, h2⟩ := h.inv c q l _ hl hq
  rw [← hi.hinj j' j hj' hj e]
  exact h1
/-- Linked persons share a circle. -/
theorem Pl.link (h : Pl n PE kl D cc pos) (hi : Inp n PE N Z kl PS) {i k t j : Nat} (hin : i < n) (hk : k < 4) (ht : t < N k i) (hj : j < n) (e : PE j = Z k i t) : cc j = cc i := by
  obtain ⟨l, h1, h2, _⟩ := h.mem hin
  refine h.ccOf hi h1 hj (h.closed _ l h1 _ h2 _ (mem_Fl.2 ⟨k, hk, ((hi.hkl i k hin hk).2 _).2 ?_⟩))
  rw [e]
  exact mem_ofN.2 ⟨t, ht, rfl⟩
/-- Once all links are joined, persons of one circle share a root. -/
theorem Pl.same (h : Pl n PE kl D cc pos) (hi : Inp n PE N Z kl PS) {rho : Nat → Nat} (hr : ∀ i, i < n → ∀ k, k < 4 → ∀ t, t < N k i → ∀ j, j < n → PE j = Z k i t → rho i = rho j) {i j : Nat} (hin : i < n) (hjn : j < n) (hc : cc i = cc j) : rho i = rho j := by
  obtain ⟨l, h1, h2, h3⟩ := h.mem hin
  obtain ⟨l', h1', h2', h3'⟩ := h.mem hjn
  rw [← hc, h1] at h1'
  cases h1'
  have hci := h.ci _ l h1
  have h0 : l[0]? = some (l.getD 0 0) := by rw [List.getD_eq_getElem?_getD, List.getElem?_eq_getElem hci.pos]; rfl
  obtain ⟨f, hf, e, _, _⟩ := h.inv _ 0 l _ h1 h0
  have key : ∀ x, x ∈ l → ∃ j, j < n ∧ PE j = x ∧ rho j = rho f := fun x hx => by
    refine hci.conn x hx (fun x => ∃ j, j < n ∧ PE j = x ∧ rho j = rho f) ⟨f, hf, e, rfl⟩ ?_
    rintro b c ⟨ib, hib, rfl, hb⟩ hcF
    obtain ⟨k, hk, hck⟩ := mem_Fl.1 hcF
    have hz := ((hi.hkl ib k hib hk).2 c).1 hck
    obtain ⟨jc, hjc, ec⟩ := hi.hrel ib k hib hk c hz
    obtain ⟨t, ht, et⟩ := mem_ofN.1 hz
    exact ⟨jc, hjc, ec, by rw [← hb]; exact (hr ib hib k hk t ht jc hjc (ec.trans et.symm)).symm⟩
  obtain ⟨i', a1, a2, a3⟩ := key _ h2
  obtain ⟨j', b1, b2, b3⟩ := key _ h2'
  rw [← hi.hinj i' i a1 hin a2, ← hi.hinj j' j b1 hjn b2, a3, b3]
/-- As many groups as circles. -/
theorem Pl.count (h : Pl n PE kl D cc pos) (hi : Inp n PE N Z kl PS) {rho : Nat → Nat} (hr : ∀ i j, i < n → j < n → (rho i = rho j ↔ cc i = cc j)) {RL : List Nat} (hn : RL.Nodup) (hm : ∀ r, r ∈ RL ↔ ∃ j, j < n ∧ rho j = r) : RL.length = D.length := by
  have hf : ∀ c, ∃ j, c < D.length → j < n ∧ cc j = c := fun c => by
    by_cases hc : c < D.length
    · have hl := List.getElem?_eq_getElem hc
      have h0 := List.getElem?_eq_getElem (h.ci c _ hl).pos
      obtain ⟨j, hj, _, e, _⟩ := h.inv c 0 _ _ hl h0
      exact ⟨j, fun _ => ⟨hj, e⟩⟩
    · exact ⟨0, fun h => absurd h hc⟩
  obtain ⟨fi, hfi⟩ : ∃ fi : Nat → Nat, ∀ c, c < D.length → fi c < n ∧ cc (fi c) = c := ⟨fun c => Classical.choose (hf c), fun c => Classical.choose_spec (hf c)⟩
  have hnd : ((List.range D.length).map (fun c => rho (fi c))).Nodup := by
    show List.Pairwise (fun a b => a ≠ b) _
    rw [List.pairwise_map]
    have hp : (List.range D.length).Pairwise (fun a b => a < b) := List.pairwise_lt_range (n := D.length)
    refine hp.imp_of_mem (fun {a b} ha hb hab e => ?_)
    rw [List.mem_range] at ha hb
    obtain ⟨a1, a2⟩ := hfi a ha
    obtain ⟨b1, b2⟩ := hfi b hb
    have := (hr _ _ a1 b1).1 e
    omega
  have k1 := nodup_le _ RL hnd (fun x hx => by
    rw [List.mem_map] at hx
    obtain ⟨c, hc, rfl⟩ := hx
    exact (hm _).2 ⟨fi c, (hfi c (List.mem_range.1 hc)).1, rfl⟩)
  have k2 := nodup_le RL ((List.range D.length).map (fun c => rho (fi c))) hn (fun r hrr => by
    obtain ⟨j, hj, rfl⟩ := (hm r).1 hrr
    obtain ⟨l, hl, _, _⟩ := h.mem hj
    have hc := lt_of_get? hl
    rw [List.mem_map]
    refine ⟨cc j, List.mem_range.2 hc, ?_⟩
    exact (hr _ _ (hfi _ hc).1 hj).2 (hfi _ hc).2)
  simp at k1 k2
  omega
end
end Go.Proofs.Qxb6605294a
