/-
  Seat b6605223a. THE PLAIN LAW: how many writes are marked, in all and by process.
-/
import Derived.Test.Qxb6605223aU1
set_option linter.unusedVariables false
set_option linter.unusedSimpArgs false
namespace Go.Proofs.Qxb6605223a
open Go.RowKit

/-- How many of the first n meet p. -/
def ct (p : Nat → Bool) (n : Nat) : Nat := (List.range n).countP p
theorem ct_zero (p : Nat → Bool) : ct p 0 = 0 := rfl
theorem ct_succ (p : Nat → Bool) (n : Nat) : ct p (n + 1) = ct p n + (if p n = true then 1 else 0) := by
  unfold ct
  rw [List.range_succ, List.countP_append]
  simp [List.countP_cons]
theorem ct_le (p : Nat → Bool) (n : Nat) : ct p n ≤ n := by
  induction n with
  | zero => exact Nat.le_refl _
  | succ n ih => rw [ct_succ]; split <;> omega
theorem ct_perm {n m : Nat} {p q : Nat → Bool} {key K : Nat → Nat} (hi : ∀ x y, x < n → y < n → key x = key y → x = y) (hk : ∀ i j, i < m → j < m → K i = K j → i = j)
    (h1 : ∀ x, x < n → p x = true → ∃ j, j < m ∧ K j = key x) (h2 : ∀ j, j < m → ∃ x, x < n ∧ p x = true ∧ K j = key x) : ct (fun x => p x && q (key x)) n = ct (fun j => q (K j)) m := by
  have hp : (((List.range n).filter p).map key).Perm ((List.range m).map K) := by
    refine (List.perm_ext_iff_of_nodup ?_ ?_).2 fun a => ?_
    · refine List.pairwise_map.2 (List.Pairwise.imp_of_mem (R := fun a b => a ≠ b) ?_ (List.Pairwise.filter p List.nodup_range))
      intro x y hx hy hne e
      simp only [List.mem_filter, List.mem_range] at hx hy
      exact hne (hi x y hx.1 hy.1 e)
    · refine List.pairwise_map.2 (List.Pairwise.imp_of_mem (R := fun a b => a ≠ b) ?_ List.nodup_range)
      intro x y hx hy hne e
      simp only [List.mem_range] at hx hy
      exact hne (hk x y hx hy e)
    · simp only [List.mem_map, List.mem_filter, List.mem_range]
      constructor
      · rintro ⟨x, ⟨hx, hpx⟩, rfl⟩
        exact h1 x hx hpx
      · rintro ⟨j, hj, rfl⟩
        obtain ⟨x, hx, hpx, e⟩ := h2 j hj
        exact ⟨x, ⟨hx, hpx⟩, e.symm⟩
  have := hp.countP_eq q
  rw [List.countP_map, List.countP_map, List.countP_filter] at this
  unfold ct
  rw [show (fun j => q (K j)) = q ∘ K from rfl, ← this]
  congr 1
  funext x
  exact Bool.and_comm _ _
theorem ct_range {p : Nat → Bool} {a b m : Nat} (h : ∀ j, j < m → (p j = true ↔ a ≤ j ∧ j < b)) (hab : a ≤ b) (hb : b ≤ m) : ct p m = b - a := by
  have : ∀ i, i ≤ m → ct p i = min i b - min i a := fun i => by
    induction i with
    | zero => intro _; rw [ct_zero]; omega
    | succ i ih =>
      intro hi
      rw [ct_succ, ih (by omega)]
      by_cases e : p i = true
      · rw [if_pos e]; have := (h i (by omega)).1 e; omega
      · rw [if_neg e]
        have : ¬ (a ≤ i ∧ i < b) := fun k => e ((h i (by omega)).2 k)
        omega
  rw [this m (Nat.le_refl _)]
  omega

theorem Rn.lt2 {K : Nat → Nat} {m r : Nat} {B : Nat → Nat} (h : Rn K m r B) : ∀ e k, k + 1 + e < r → K (B k) / 4294967296 < K (B (k + 1 + e)) / 4294967296 := fun e => by
  induction e with
  | zero => intro k hk; exact h.diff k hk
  | succ e ih =>
    intro k hk
    have h1 := ih k (by omega)
    have h2 := h.diff (k + 1 + e) (by omega)
    rw [show k + 1 + (e + 1) = k + 1 + e + 1 by omega]
    omega
theorem Rn.lt {K : Nat → Nat} {m r : Nat} {B : Nat → Nat} (h : Rn K m r B) (k k' : Nat) (h1 : k < k') (h2 : k' < r) : K (B k) / 4294967296 < K (B k') / 4294967296 := by
  have := h.lt2 (k' - k - 1) k (by omega)
  rw [show k + 1 + (k' - k - 1) = k' by omega] at this
  exact this
theorem Rn.find {K : Nat → Nat} {m r : Nat} {B : Nat → Nat} (h : Rn K m r B) : ∀ s, s ≤ r → ∀ j, j < B s → ∃ k, k < s ∧ B k ≤ j ∧ j < B (k + 1) := fun s => by
  induction s with
  | zero => intro _ j hj; rw [h.b0] at hj; omega
  | succ s ih =>
    intro hs j hj
    rcases Nat.lt_or_ge j (B s) with h1 | h1
    · obtain ⟨k, k1, k2⟩ := ih (by omega) j h1
      exact ⟨k, by omega, k2⟩
    · exact ⟨s, by omega, h1, hj⟩
theorem Rn.mono {K : Nat → Nat} {m r : Nat} {B : Nat → Nat} (h : Rn K m r B) : ∀ e k, k + e ≤ r → B k ≤ B (k + e) := fun e => by
  induction e with
  | zero => intro k _; exact Nat.le_refl _
  | succ e ih =>
    intro k hk
    have h1 := ih k (by omega)
    have h2 := h.up (k + e) (by omega)
    rw [show k + (e + 1) = k + e + 1 by omega]
    omega
theorem Rn.le {K : Nat → Nat} {m r : Nat} {B : Nat → Nat} (h : Rn K m r B) (k : Nat) (hk : k ≤ r) : B k ≤ m := by
  have := h.mono (r - k) k (by omega)
  rw [show k + (r - k) = r by omega, h.br] at this
  exact this

/-- The numbers that zzFreshAfter counts, from what reset left. -/
structure Cnts (d : Gd) (b : Nat → Bool) (m r : Nat) (K B : Nat → Nat) : Prop where
  all : ct b d.n = m
  run : ∀ k, k < r → ct (fun x => b x && decide (d.pr x = K (B k) / 4294967296)) d.n = B (k + 1) - B k
  non : ∀ q, (∀ k, k < r → K (B k) / 4294967296 ≠ q) → ct (fun x => b x && decide (d.pr x = q)) d.n = 0
theorem key_hi {d : Gd} (hW : Gwf d) {x : Nat} (hx : x < d.n) : key d x / 4294967296 = d.pr x ∧ key d x % 4294967296 = d.po x := by
  have q1 := hW.prP x hx
  have q3 := hW.poL x hx
  have q4 := hW.Lb _ q1
  unfold key
  omega
theorem key_inj {d : Gd} (hW : Gwf d) (x y : Nat) (hx : x < d.n) (hy : y < d.n) (e : key d x = key d y) : x = y := by
  have h1 := key_hi hW hx
  have h2 := key_hi hW hy
  rw [e] at h1
  have i1 := hW.inv x hx
  have i2 := hW.inv y hy
  rw [← h1.1, ← h1.2, h2.1, h2.2, i2] at i1
  omega
/-- Each key is a marked write's. -/
theorem Ks.mark {d : Gd} (hW : Gwf d) {rd : Nat → Nat} {nr m : Nat} {K : Nat → Nat} (hr : ∀ t, t < nr → rd t < d.n) (hk : Ks d rd nr m K) {b : Nat → Bool} (hb : Mk d.fr rd d.n nr b) (j : Nat) (hj : j < m) : ∃ x, x < d.n ∧ b x = true ∧ K j = key d x := by
  obtain ⟨t, x, p1, p2, p3⟩ := hk.1 j hj
  have hxn : x < d.n := by have := hW.fr2 (rd t) (hr t p1); omega
  exact ⟨x, hxn, (hb x hxn).2 ⟨t, p1, p2⟩, p3⟩
theorem Cnts.of {d : Gd} (hW : Gwf d) {rd : Nat → Nat} {nr m r : Nat} {K B : Nat → Nat} (hr : ∀ t, t < nr → rd t < d.n) (hk : Ks d rd nr m K) (hu : UpN K m) (hn : Rn K m r B) {b : Nat → Bool} (hb : Mk d.fr rd d.n nr b) : Cnts d b m r K B := by
  have hkinj : ∀ i j, i < m → j < m → K i = K j → i = j := fun i j hi hj e => by
    rcases Nat.lt_trichotomy i j with h | h | h
    · have := hu i j h hj; omega
    · exact h
    · have := hu j i h hi; omega
  have h1 : ∀ x, x < d.n → b x = true → ∃ j, j < m ∧ K j = key d x := fun x hx hbx => by
    obtain ⟨t, ht, e⟩ := (hb x hx).1 hbx
    exact hk.2 t x ht e
  have h2 := fun j hj => hk.mark hW hr hb j hj
  have hpr : ∀ q, ct (fun x => b x && decide (d.pr x = q)) d.n = ct (fun j => decide (K j / 4294967296 = q)) m := fun q => by
    rw [← ct_perm (q := fun k => decide (k / 4294967296 = q)) (key_inj hW) hkinj h1 h2]
    unfold ct
    refine List.countP_congr fun x hx => ?_
    rw [List.mem_range] at hx
    rw [(key_hi hW hx).1]
  refine ⟨?_, fun k hk => ?_, fun q hq => ?_⟩
  · have := ct_perm (q := fun _ => true) (key_inj hW) hkinj h1 h2
    simp only [Bool.and_true] at this
    rw [this, ct_range (a := 0) (b := m) (fun j hj => by simp [hj]) (Nat.zero_le _) (Nat.le_refl _)]
    omega
  · rw [hpr]
    refine ct_range (fun j hj => ?_) (Nat.le_of_lt (hn.up k hk)) (hn.le (k + 1) (by omega))
    rw [decide_eq_true_iff]
    constructor
    · intro e
      obtain ⟨k', a1, a2, a3⟩ := hn.find r (Nat.le_refl _) j (by rw [hn.br]; exact hj)
      have e2 := hn.same k' a1 j a2 a3
      rcases Nat.lt_trichotomy k k' with h | h | h
      · have := hn.lt k k' h a1; omega
      · subst h; exact ⟨a2, a3⟩
      · have := hn.lt k' k h hk; omega
    · rintro ⟨a2, a3⟩
      exact hn.same k hk j a2 a3
  · rw [hpr]
    have := ct_range (p := fun j => decide (K j / 4294967296 = q)) (a := 0) (b := 0) (m := m) (fun j hj => by
      rw [decide_eq_true_iff]
      constructor
      · intro e
        obtain ⟨k', a1, a2, a3⟩ := hn.find r (Nat.le_refl _) j (by rw [hn.br]; exact hj)
        have e2 := hn.same k' a1 j a2 a3
        exact absurd (by rw [← e2]; exact e) (hq k' a1)
      · rintro ⟨_, a3⟩; omega) (Nat.le_refl _) (Nat.zero_le _)
    rw [this]
end Go.Proofs.Qxb6605223a
