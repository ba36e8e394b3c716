/-
  Seat b6605294a. WHAT THE LOOPS OF LAW 1 CARRY, PLAIN.
-/
import Derived.Test.Qxb6605294aE4
set_option linter.unusedVariables false
set_option linter.unusedSimpArgs false
namespace Go.Proofs.Qxb6605294a
open Go.RowKit

/-- The links ahead of place (i, k, t) are joined, and roots stay within circles. -/
structure Un (n : Nat) (PE : Nat → Int) (N : Nat → Nat → Nat) (Z : Nat → Nat → Nat → Int) (cc rho : Nat → Nat) (i k t : Nat) : Prop where
  cls : ∀ j, j < n → cc (rho j) = cc j
  lks : ∀ i' k' t', (i' < i ∨ (i' = i ∧ (k' < k ∨ (k' = k ∧ t' < t)))) → i' < n → k' < 4 → t' < N k' i' → ∀ j, j < n → PE j = Z k' i' t' → rho i' = rho j

section
variable {n : Nat} {PE : Nat → Int} {N : Nat → Nat → Nat} {Z : Nat → Nat → Nat → Int} {cc rho : Nat → Nat} {i k t : Nat}
theorem Un.start (cc : Nat → Nat) : Un n PE N Z cc (fun j => j) 0 0 0 := ⟨fun j hj => rfl, fun i' k' t' h => by omega⟩
theorem Un.nextk (h : Un n PE N Z cc rho i k t) (ht : N k i ≤ t) : Un n PE N Z cc rho i (k + 1) 0 :=
  ⟨h.cls, fun i' k' t' h1 h2 h3 h4 => h.lks i' k' t' (by
    rcases h1 with h1 | ⟨h1, h5 | ⟨h5, h6⟩⟩
    · exact .inl h1
    · subst h1
      rcases Nat.lt_or_ge k' k with h7 | h7
      · exact .inr ⟨rfl, .inl h7⟩
      · obtain rfl : k' = k := by omega
        exact .inr ⟨rfl, .inr ⟨rfl, by omega⟩⟩
    · omega) h2 h3 h4⟩
theorem Un.nexti (h : Un n PE N Z cc rho i k t) (hk : 4 ≤ k) : Un n PE N Z cc rho (i + 1) 0 0 :=
  ⟨h.cls, fun i' k' t' h1 h2 h3 h4 => h.lks i' k' t' (by omega) h2 h3 h4⟩
theorem Un.same (h : Un n PE N Z cc rho i k t) (hinj : ∀ a b, a < n → b < n → PE a = PE b → a = b) {j : Nat} (hj : j < n) (e : PE j = Z k i t) (hr : rho i = rho j) : Un n PE N Z cc rho i k (t + 1) := by
  refine ⟨h.cls, fun i' k' t' h1 h2 h3 h4 j' hj' e' => ?_⟩
  by_cases h5 : i' = i ∧ k' = k ∧ t' = t
  · obtain ⟨rfl, rfl, rfl⟩ := h5
    rw [hinj j' j hj' hj (e'.trans e.symm)]
    exact hr
  · exact h.lks i' k' t' (by omega) h2 h3 h4 j' hj' e'
theorem Un.join {d up : Nat → Nat} (hU : Uf n d up rho) (h : Un n PE N Z cc rho i k t) (hinj : ∀ a b, a < n → b < n → PE a = PE b → a = b) (hi : i < n) {j : Nat} (hj : j < n) (e : PE j = Z k i t) (hcc : cc j = cc i) (hne : rho i ≠ rho j) :
    Un n PE N Z cc (fun q => if rho q = rho i then rho j else rho q) i k (t + 1) := by
  refine ⟨fun q hq => ?_, fun i' k' t' h1 h2 h3 h4 j' hj' e' => ?_⟩
  · show cc (if rho q = rho i then rho j else rho q) = cc q
    by_cases e1 : rho q = rho i
    · rw [if_pos e1, h.cls j hj, hcc, ← h.cls i hi, ← e1, h.cls q hq]
    · rw [if_neg e1, h.cls q hq]
  · show (if rho i' = rho i then rho j else rho i') = (if rho j' = rho i then rho j else rho j')
    by_cases h5 : i' = i ∧ k' = k ∧ t' = t
    · obtain ⟨rfl, rfl, rfl⟩ := h5
      rw [hinj j' j hj' hj (e'.trans e.symm), if_pos rfl, if_neg (fun e => hne e.symm)]
    · rw [h.lks i' k' t' (by omega) h2 h3 h4 j' hj' e']
end

/-- The least of each group that has come. -/
structure Le (n : Nat) (PE : Nat → Int) (rho : Nat → Nat) (i : Nat) (RL : List Nat) (LE : Nat → Int) (HH : Nat → Bool) : Prop where
  nd : RL.Nodup
  mem : ∀ r, r ∈ RL ↔ ∃ j, j < i ∧ rho j = r
  hh : ∀ r, r < n → (HH r = true ↔ r ∈ RL)
  le : ∀ r, r ∈ RL → (∃ j, j < i ∧ rho j = r ∧ LE r = PE j) ∧ ∀ j, j < i → rho j = r → LE r ≤ PE j
section
variable {n : Nat} {PE : Nat → Int} {rho : Nat → Nat} {i : Nat} {RL : List Nat} {LE : Nat → Int} {HH : Nat → Bool}
theorem Le.start (rho : Nat → Nat) (PE : Nat → Int) (n : Nat) (LE : Nat → Int) : Le n PE rho 0 [] LE (fun _ => false) := ⟨by simp, fun r => by simp, fun r hr => by simp, fun r hr => by cases hr⟩
theorem Le.new (h : Le n PE rho i RL LE HH) (hr : rho i < n) (hf : HH (rho i) = false) : Le n PE rho (i + 1) (RL ++ [rho i]) (fun r => if r = rho i then PE i else LE r) (fun r => if r = rho i then true else HH r) := by
  have hnm : rho i ∉ RL := fun hm => by rw [(h.hh _ hr).2 hm] at hf; cases hf
  refine ⟨?_, fun r => ?_, fun r hrn => ?_, fun r hm => ?_⟩
  · rw [List.nodup_append]
    refine ⟨h.nd, by simp, fun a ha b hb e => ?_⟩
    simp at hb
    subst hb; subst e
    exact hnm ha
  · simp only [List.mem_append, List.mem_singleton, h.mem]
    constructor
    · rintro (⟨j, h1, h2⟩ | rfl)
      · exact ⟨j, by omega, h2⟩
      · exact ⟨i, by omega, rfl⟩
    · rintro ⟨j, h1, h2⟩
      rcases Nat.lt_or_ge j i with h3 | h3
      · exact .inl ⟨j, h3, h2⟩
      · obtain rfl : j = i := by omega
        exact .inr h2.symm
  · show (if r = rho i then true else HH r) = true ↔ r ∈ RL ++ [rho i]
    by_cases e : r = rho i
    · simp [e]
    · rw [if_neg e, h.hh r hrn]
      simp [e]
  · show (∃ j, j < i + 1 ∧ rho j = r ∧ (if r = rho i then PE i else LE r) = PE j) ∧ ∀ j, j < i + 1 → rho j = r → (if r = rho i then PE i else LE r) ≤ PE j
    by_cases e : r = rho i
    · simp only [if_pos e]
      refine ⟨⟨i, by omega, e.symm, rfl⟩, fun j h1 h2 => ?_⟩
      rcases Nat.lt_or_ge j i with h3 | h3
      · exact absurd ((h.mem _).2 ⟨j, h3, h2.trans e⟩) hnm
      · obtain rfl : j = i := by omega
        exact Int.le_refl _
    · simp only [if_neg e]
      simp only [List.mem_append, List.mem_singleton] at hm
      obtain ⟨⟨j, q1, q2, q3⟩, q4⟩ := h.le r (hm.resolve_right e)
      refine ⟨⟨j, by omega, q2, q3⟩, fun j' h1 h2 => ?_⟩
      rcases Nat.lt_or_ge j' i with h3 | h3
      · exact q4 j' h3 h2
      · obtain rfl : j' = i := by omega
        exact absurd h2.symm e
theorem Le.old (h : Le n PE rho i RL LE HH) (hr : rho i < n) (hf : HH (rho i) = true) (LE' : Nat → Int) (h1 : ∀ r, r ≠ rho i → LE' r = LE r) (h2 : LE' (rho i) ≤ PE i) (h3 : LE' (rho i) ≤ LE (rho i)) (h4 : LE' (rho i) = PE i ∨ LE' (rho i) = LE (rho i)) : Le n PE rho (i + 1) RL LE' HH := by
  have hm := (h.hh _ hr).1 hf
  refine ⟨h.nd, fun r => ?_, h.hh, fun r hmr => ?_⟩
  · rw [h.mem]
    constructor
    · rintro ⟨j, q1, q2⟩
      exact ⟨j, by omega, q2⟩
    · rintro ⟨j, q1, q2⟩
      rcases Nat.lt_or_ge j i with h5 | h5
      · exact ⟨j, h5, q2⟩
      · obtain rfl : j = i := by omega
        rw [← q2]
        exact (h.mem _).1 hm
  · obtain ⟨⟨j, q1, q2, q3⟩, q4⟩ := h.le r hmr
    by_cases e : r = rho i
    · subst e
      refine ⟨?_, fun j' h5 h6 => ?_⟩
      · rcases h4 with h4 | h4
        · exact ⟨i, by omega, rfl, h4⟩
        · exact ⟨j, by omega, q2, by rw [h4, q3]⟩
      · rcases Nat.lt_or_ge j' i with h7 | h7
        · have := q4 j' h7 h6
          omega
        · obtain rfl : j' = i := by omega
          exact h2
    · rw [h1 r e]
      refine ⟨⟨j, by omega, q2, q3⟩, fun j' h5 h6 => ?_⟩
      rcases Nat.lt_or_ge j' i with h7 | h7
      · exact q4 j' h7 h6
      · obtain rfl : j' = i := by omega
        exact absurd h6.symm e
/-- At the end: a group's least opens its circle. -/
theorem Le.first {N : Nat → Nat → Nat} {Z : Nat → Nat → Nat → Int} {kl : Int → Nat → List Int} {PS : Nat → Int} {D : List (List Int)} {cc pos : Nat → Nat} (h : Le n PE rho n RL LE HH) (pl : Pl n PE kl D cc pos) (hI : Inp n PE N Z kl PS) (hr : ∀ i j, i < n → j < n → (rho i = rho j ↔ cc i = cc j)) {c : Nat} {l : List Int} (hl : D[c]? = some l) {jf : Nat} (hj : jf < n) (e0 : PE jf = l.getD 0 0) (ec : cc jf = c) : LE (rho jf) = l.getD 0 0 := by
  obtain ⟨⟨j, q1, q2, q3⟩, q4⟩ := h.le (rho jf) ((h.mem _).2 ⟨jf, hj, rfl⟩)
  have h1 := q4 jf hj rfl
  have h2 : cc j = c := by rw [← ec]; exact (hr j jf q1 hj).1 q2
  obtain ⟨l', k1, k2, _⟩ := pl.mem q1
  rw [h2, hl] at k1
  cases k1
  have h3 := pl.least c l hl _ k2
  rw [← q3] at h3
  rw [e0] at h1
  omega
end

/-- What circleAt and place hold when circles below c and the first q members of circle c are entered. -/
def Ca (n : Nat) (cc pos : Nat → Nat) (CA PC : Nat → Int) (c q : Nat) : Prop :=
  ∀ j, j < n → ((cc j < c ∨ (cc j = c ∧ pos j < q)) → CA j = (cc j : Int) ∧ PC j = (pos j : Int)) ∧ (¬ (cc j < c ∨ (cc j = c ∧ pos j < q)) → CA j = -1)
section
variable {n : Nat} {cc pos : Nat → Nat} {CA PC : Nat → Int} {c q : Nat}
theorem Ca.start (h : ∀ j, j < n → CA j = -1) : Ca n cc pos CA PC 0 0 := fun j hj => ⟨fun h1 => by omega, fun _ => h j hj⟩
theorem Ca.put (h : Ca n cc pos CA PC c q) {j : Nat} (hj : j < n) (h1 : cc j = c) (h2 : pos j = q) (hinj : ∀ j', j' < n → cc j' = c → pos j' = q → j' = j) : Ca n cc pos (fun x => if x = j then (c : Int) else CA x) (fun x => if x = j then (q : Int) else PC x) c (q + 1) := by
  intro x hx
  obtain ⟨a1, a2⟩ := h x hx
  by_cases e : x = j
  · subst e
    refine ⟨fun _ => by simp [h1, h2], fun h3 => absurd (.inr ⟨h1, by omega⟩) h3⟩
  · simp only [if_neg e]
    refine ⟨fun h3 => a1 ?_, fun h3 => a2 (fun h4 => h3 (by omega))⟩
    rcases h3 with h3 | ⟨h3, h4⟩
    · exact .inl h3
    · rcases Nat.lt_or_ge (pos x) q with h5 | h5
      · exact .inr ⟨h3, h5⟩
      · exact absurd (hinj x hx h3 (by omega)) e
theorem Ca.next (h : Ca n cc pos CA PC c q) (hq : ∀ j, j < n → cc j = c → pos j < q) : Ca n cc pos CA PC (c + 1) 0 := by
  intro x hx
  obtain ⟨a1, a2⟩ := h x hx
  refine ⟨fun h3 => a1 ?_, fun h3 => a2 (fun h4 => h3 (by omega))⟩
  rcases Nat.lt_or_ge (cc x) c with h5 | h5
  · exact .inl h5
  · have h6 : cc x = c := by omega
    exact .inr ⟨h6, hq x hx h6⟩
end

/-- The index map and 'up' in memory. -/
structure Om (ws wr : World) (gI gU n : Nat) (fi : Int → Option Value) (up : Nat → Nat) : Prop where
  bl : Below ws.heap.size ws wr
  ix : ∃ q, Mi wr gI fi q
  uu : Bk wr gU 3 n (fun j => .int .i64 (up j : Int))
theorem Om.tn {ws wr w' : World} {gI gU n : Nat} {fi : Int → Option Value} {up up' : Nat → Nat} (h : Om ws wr gI gU n fi up) (t : Tn gU wr w') (hU : ws.heap.size ≤ gU) (hne : gI ≠ gU) (hB : Bk w' gU 3 n (fun j => .int .i64 (up' j : Int))) : Om ws w' gI gU n fi up' := by
  obtain ⟨q, hq⟩ := h.ix
  exact ⟨t.below h.bl hU, ⟨q, hq.alloc (t.block gI hne)⟩, hB⟩
theorem Om.low {ws wr w' : World} {gI gU n : Nat} {fi : Int → Option Value} {up : Nat → Nat} (h : Om ws wr gI gU n fi up) (hb : Below wr.heap.size wr w') : Om ws w' gI gU n fi up := by
  obtain ⟨q, hq⟩ := h.ix
  exact ⟨h.bl.trans (hb.mono h.bl.size), ⟨q, hq.alloc (hb.block gI hq.lt)⟩, h.uu.sameBlock (hb.block gU h.uu.lt)⟩
theorem Om.set {ws wr : World} {gI gU n : Nat} {fi : Int → Option Value} {up : Nat → Nat} (h : Om ws wr gI gU n fi up) (p : Addr) (u : Value) (h1 : ws.heap.size ≤ p.block) (h2 : p.block ≠ gI) (h3 : p.block ≠ gU) : Om ws (wr.setCell p u) gI gU n fi up := by
  obtain ⟨q, hq⟩ := h.ix
  exact ⟨h.bl.setCell h1 u, ⟨q, hq.alloc (Below.heap_setCell _ _ _ _ (fun e => h2 e.symm))⟩, h.uu.other p (fun e => h3 e.symm) u⟩
theorem Bk.tn {w w' : World} {g g' N : Nat} {e : TypeId} {V : Nat → Value} (h : Bk w g e N V) (t : Tn g' w w') (hne : g ≠ g') : Bk w' g e N V := h.sameBlock (t.block g hne)
end Go.Proofs.Qxb6605294a
