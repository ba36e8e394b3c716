/-
  Seat b6605223a. Sort AND Compact OF THE KEYS, in reset's state.
-/
import Derived.Test.Qxb6605223aT8
import Derived.Test.Qxb6605223aS11
set_option linter.unusedVariables false
set_option linter.unusedSimpArgs false
namespace Go.Proofs.Qxb6605223a
open Go.RowKit

/-- What was there is as it was: the state stands. -/
theorem Al.below {tag : Nat → Nat} {w : World} {F : Nat} {d : Gd} {ar : Option Addr} {nr cr : Nat} {rd : Nat → Nat} {tg : Nat → Nat} {wr W : World} {R : Nat → Res} (h : Al tag w F d ar nr cr rd tg wr R) (hb : Below wr.heap.size wr W) : Al tag w F d ar nr cr rd tg W R := by
  have hc : Ch tg 99 wr W := Ch.ofBelow hb
  exact h.step (Ct.ofCh hc (by omega)) (Ag.refl _ _) ⟨h.st.1, h.st.2.1.sameBlock (hb.block F h.st.2.1.lt), fun t h2 h11 => (h.st.2.2 t h2 h11).ch hc (by omega)⟩ h.zs
theorem Al.slim {tag : Nat → Nat} {w : World} {F : Nat} {d : Gd} {ar : Option Addr} {nr cr : Nat} {rd : Nat → Nat} {tg : Nat → Nat} {wr : World} {R : Nat → Res} (h : Al tag w F d ar nr cr rd tg wr R) {t k : Nat} (hk : Fk t k) (hk20 : k < 20) (ht2 : 2 ≤ t) (ht11 : t ≤ 11) (a : Option Addr) (n c m : Nat) (hn : (R t).n = n) (hv : (R t).v = .slice a n c) (hm : m ≤ n) :
    Al tag w F d ar nr cr rd tg (wr.setCell ⟨F, k, none⟩ (.slice a m c)) (put R t { R t with v := .slice a m c, n := m }) := by
  have hr : Rs tg t wr { R t with v := .slice a m c, n := m } := by
    rcases h.st.2.2 t ht2 ht11 with ⟨h1, h2⟩ | ⟨g', cap', V', h1, h2, h3, h4, h5, h6⟩
    · rw [hv] at h1
      simp only [Value.slice.injEq] at h1
      obtain ⟨rfl, h0, rfl⟩ := h1
      obtain rfl : m = 0 := by omega
      exact .inl ⟨rfl, rfl⟩
    · rw [hv] at h1
      simp only [Value.slice.injEq] at h1
      obtain ⟨rfl, h0, rfl⟩ := h1
      exact .inr ⟨g', c, V', rfl, (by show m ≤ c; omega), h3, h4, fun i hi => h5 i (by
        have : m * (R t).sz ≤ (R t).n * (R t).sz := Nat.mul_le_mul_right _ (by omega)
        have hi' : i < m * (R t).sz := hi
        omega), h6⟩
  obtain ⟨a1, a2⟩ := St.newSlice (f := fun _ => .bool false) (R := R) hk hk20 h.st.sf { R t with v := .slice a m c, n := m } (fun s _ => rfl) hr
  exact h.step a2 (Ag.refl _ _) a1 (h.zs.put t _ rfl rfl)

/-- Slice 2 (the keys) in the sort's words, and back. -/
theorem Al.rw {tag : Nat → Nat} {w : World} {F : Nat} {d : Gd} {ar : Option Addr} {nr cr : Nat} {rd : Nat → Nat} {tg : Nat → Nat} {wr : World} {R : Nat → Res} (h : Al tag w F d ar nr cr rd tg wr R) {n : Nat} {K : Nat → Nat} (hn : (R 2).n = n) (h0 : 0 < n) (hV : ∀ j, j < n → (R 2).V j = .int .u64 (K j)) :
    ∃ g c, (R 2).v = .slice (some ⟨g, 0, none⟩) n c ∧ n ≤ c ∧ c ≤ maxLen ∧ tg g = 2 ∧ Rw wr g n c (fun j => (K j : Int)) := by
  obtain ⟨he, hs⟩ := h.zs 2
  rcases h.st.2.2 2 (by omega) (by omega) with ⟨h1, h2⟩ | ⟨g, c, V', h1, h2, h3, ⟨cur, k1, k2, k3⟩, h5, h6⟩
  · omega
  · rw [hn] at h1 h2 h5
    rw [he] at k1
    rw [hs] at k2 k3 h5
    refine ⟨g, c, h1, h2, h3, h6, cur, k1, by rw [k2]; show c * 1 = c; omega, h2, fun i hi => ?_⟩
    have hi1 : i < n * sT 2 := by show i < n * 1; omega
    rw [k3 i (by show i < c * 1; omega), h5 i hi1, hV i hi]
theorem Al.ofRw {tag : Nat → Nat} {w : World} {F : Nat} {d : Gd} {ar : Option Addr} {nr cr : Nat} {rd : Nat → Nat} {tg : Nat → Nat} {wr W : World} {R : Nat → Res} (h : Al tag w F d ar nr cr rd tg wr R) {n g c m : Nat} {E : Nat → Int} (hn : (R 2).n = n) (hv : (R 2).v = .slice (some ⟨g, 0, none⟩) n c) (hnc : n ≤ c) (hcm : c ≤ maxLen) (hg : tg g = 2) (hf : Fr g wr W) (hr : Rw W g m c E) :
    ∃ V, (∀ i, i < m → V i = .int .u64 (E i)) ∧ Al tag w F d ar nr cr rd tg W (put R 2 { R 2 with V := V }) := by
  obtain ⟨he, hs⟩ := h.zs 2
  obtain ⟨cur, k1, k2, k3, k4⟩ := hr
  have hc : Ch tg 2 wr W := Ch.ofFr hf hg
  refine ⟨fun i => cur.getD i (.bool false), fun i hi => ?_, ?_⟩
  · have := k4 i hi
    show cur.getD i (.bool false) = _
    rw [Array.getD_eq_getD_getElem?, this]; rfl
  · have hrs : Rs tg 2 W { R 2 with V := fun i => cur.getD i (.bool false) } := by
      refine .inr ⟨g, c, fun i => cur.getD i (.bool false), by show (R 2).v = .slice _ (R 2).n c; rw [hv, hn], by show (R 2).n ≤ c; omega, hcm, ⟨cur, by show W.heap[g]? = some (.cells cur (R 2).e (0, 0)); rw [he]; exact k1, by show cur.size = c * (R 2).sz; rw [hs, k2]; show c = c * 1; omega, fun i hi => ?_⟩, fun i hi => rfl, hg⟩
      have hi' : i < cur.size := by
        have : i < c * (R 2).sz := hi
        rw [hs] at this
        rw [k2]; have : i < c * 1 := this; omega
      simp [Array.getD, hi']
    refine h.step (Ct.ofCh hc (by omega)) (Ag.refl _ _) ⟨h.st.1, ?_, h.st.2.2.ch hc _ hrs⟩ (h.zs.put 2 _ rfl rfl)
    refine (h.st.2.1.sameBlock (hf.block F h.st.2.1.lt (fun e => by have := h.st.1; rw [e, hg] at this; omega))).congr fun j hj => ?_
    rw [fk2 _ _ _ _ _ _ hj]
    by_cases e : j = 5
    · subst e; rw [if_pos rfl]; rfl
    · rw [if_neg e]

/-- The keys hold the same values, sorted. -/
def Sorted (K : Nat → Nat) (n : Nat) : Prop := ∀ x y, x < y → y < n → K x ≤ K y
def SameVals (K' K : Nat → Nat) (m n : Nat) : Prop := (∀ i, i < m → ∃ j, j < n ∧ K' i = K j) ∧ (∀ j, j < n → ∃ i, i < m ∧ K j = K' i)
def UpN (K : Nat → Nat) (m : Nat) : Prop := ∀ x y, x < y → y < m → K x < K y
def SortPost (tag : Nat → Nat) (w : World) (F : Nat) (d : Gd) (ar : Option Addr) (nr cr : Nat) (rd : Nat → Nat) (tg : Nat → Nat) (R : Nat → Res) (n : Nat) (K : Nat → Nat) (e : Ending) (w' : World) : Prop :=
  e = .returned (.tuple #[]) ∧ ∃ V K', (∀ i, i < n → V i = .int .u64 ((K' i : Nat) : Int)) ∧ Al tag w F d ar nr cr rd tg w' (put R 2 { R 2 with V := V }) ∧ Sorted K' n ∧ SameVals K' K n n
def CompPost (tag : Nat → Nat) (w : World) (F : Nat) (d : Gd) (ar : Option Addr) (nr cr : Nat) (rd : Nat → Nat) (tg : Nat → Nat) (R : Nat → Res) (a : Option Addr) (n c : Nat) (K : Nat → Nat) (e : Ending) (w' : World) : Prop :=
  ∃ m V K', e = .returned (.slice a m c) ∧ m ≤ n ∧ (∀ i, i < m → V i = .int .u64 ((K' i : Nat) : Int)) ∧ Al tag w F d ar nr cr rd tg w' (put R 2 { R 2 with V := V }) ∧ UpN K' m ∧ SameVals K' K m n

theorem Al.sort {tag : Nat → Nat} {w : World} {F : Nat} {d : Gd} {ar : Option Addr} {nr cr : Nat} {rd : Nat → Nat} {tg : Nat → Nat} {wr : World} {R : Nat → Res} (h : Al tag w F d ar nr cr rd tg wr R) {n c : Nat} {K : Nat → Nat} {a : Option Addr} (hn : (R 2).n = n) (hn4 : n ≤ 4096) (hv : (R 2).v = .slice a n c) (hV : ∀ j, j < n → (R 2).V j = .int .u64 (K j)) :
    Calls Try.prog 25 #[.slice a n c] wr (SortPost tag w F d ar nr cr rd tg R n K) := by
  by_cases h0 : 0 < n
  · obtain ⟨g, c', e1, e2, e3, e4, e5⟩ := h.rw hn h0 hV
    rw [hv] at e1
    cases e1
    refine (sort_any g n c c _ wr e5 (by omega)).mono ?_
    rintro e w' ⟨rfl, hf, D', r1, ⟨s1, s2, s3⟩, r3⟩
    obtain ⟨V, v1, v2⟩ := h.ofRw hn hv e2 e3 e4 hf r1
    have hD : ∀ i, i < n → D' i = ((D' i).toNat : Int) := fun i hi => by
      obtain ⟨j, _, _, e⟩ := s2 i (Nat.zero_le _) hi
      rw [e]; simp
    refine ⟨rfl, V, fun i => (D' i).toNat, fun i hi => by rw [v1 i hi, ← hD i hi], v2, fun x y hxy hy => ?_, fun i hi => ?_, fun j hj => ?_⟩
    · have := r3 x y (Nat.zero_le _) hxy hy
      show (D' x).toNat ≤ (D' y).toNat
      omega
    · obtain ⟨j, _, j2, e⟩ := s2 i (Nat.zero_le _) hi
      exact ⟨j, j2, by show (D' i).toNat = _; rw [e]; simp⟩
    · obtain ⟨i, _, i2, e⟩ := s3 j (Nat.zero_le _) hj
      exact ⟨i, i2, by show _ = (D' i).toNat; rw [← e]; simp⟩
  · obtain rfl : n = 0 := by omega
    refine (sort_nil a c wr).mono ?_
    rintro e w' ⟨rfl, rfl⟩
    refine ⟨rfl, (R 2).V, K, hV, ?_, fun x y _ hy => absurd hy (Nat.not_lt_zero _), fun i hi => absurd hi (Nat.not_lt_zero _), fun i hi => absurd hi (Nat.not_lt_zero _)⟩
    have : put R 2 { R 2 with V := (R 2).V } = R := by
      funext k
      by_cases e : k = 2
      · subst e; rw [put_same]
      · rw [put_other _ _ _ _ e]
    rw [this]; exact h
theorem Al.comp {tag : Nat → Nat} {w : World} {F : Nat} {d : Gd} {ar : Option Addr} {nr cr : Nat} {rd : Nat → Nat} {tg : Nat → Nat} {wr : World} {R : Nat → Res} (h : Al tag w F d ar nr cr rd tg wr R) {n c : Nat} {K : Nat → Nat} {a : Option Addr} (hn : (R 2).n = n) (hn4 : n ≤ 4096) (hv : (R 2).v = .slice a n c) (hV : ∀ j, j < n → (R 2).V j = .int .u64 (K j)) (hs : Sorted K n) :
    Calls Try.prog 26 #[.slice a n c] wr (CompPost tag w F d ar nr cr rd tg R a n c K) := by
  by_cases h0 : 0 < n
  · obtain ⟨g, c', e1, e2, e3, e4, e5⟩ := h.rw hn h0 hV
    rw [hv] at e1
    cases e1
    refine (compact_any g n c c _ wr e5 (by omega) e2 (fun x y _ hxy hy => by have := hs x y hxy hy; show (K x : Int) ≤ (K y : Int); omega)).mono ?_
    rintro e w' ⟨m, E, rfl, hm, hf, r1, r2, s2, s3⟩
    obtain ⟨V, v1, v2⟩ := h.ofRw hn hv e2 e3 e4 hf r1
    have hD : ∀ i, i < m → E i = ((E i).toNat : Int) := fun i hi => by
      obtain ⟨j, _, e⟩ := s2 i hi
      rw [e]; simp
    refine ⟨m, V, fun i => (E i).toNat, rfl, hm, fun i hi => by rw [v1 i hi, ← hD i hi], v2, fun x y hxy hy => ?_, fun i hi => ?_, fun j hj => ?_⟩
    · have := r2 x y hxy hy
      have e1 := hD x (by omega)
      have e2 := hD y hy
      show (E x).toNat < (E y).toNat
      omega
    · obtain ⟨j, j2, e⟩ := s2 i hi
      exact ⟨j, j2, by show (E i).toNat = _; rw [e]; simp⟩
    · obtain ⟨i, i2, e⟩ := s3 j hj
      exact ⟨i, i2, by show _ = (E i).toNat; rw [← e]; simp⟩
  · obtain rfl : n = 0 := by omega
    refine (compact_nil a c wr).mono ?_
    rintro e w' ⟨rfl, rfl⟩
    refine ⟨0, (R 2).V, K, rfl, Nat.le_refl _, hV, ?_, fun x y _ hy => absurd hy (Nat.not_lt_zero _), fun i hi => absurd hi (Nat.not_lt_zero _), fun i hi => absurd hi (Nat.not_lt_zero _)⟩
    have : put R 2 { R 2 with V := (R 2).V } = R := by
      funext k
      by_cases e : k = 2
      · subst e; rw [put_same]
      · rw [put_other _ _ _ _ e]
    rw [this]; exact h
end Go.Proofs.Qxb6605223a
