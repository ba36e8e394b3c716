/-
  Seat b6605223a. PLAIN WORDS OF reset: keys, runs; how they grow.
-/
import Derived.Test.Qxb6605223aT9
set_option linter.unusedVariables false
set_option linter.unusedSimpArgs false
namespace Go.Proofs.Qxb6605223a
open Go.RowKit

/-- A write's key. -/
def key (d : Gd) (x : Nat) : Nat := d.pr x * 4294967296 + d.po x
/-- A returned write's ten cells. -/
def rwV (k : Nat) : Nat → Value
  | 0 => .int .i32 ((k / 4294967296 : Nat) : Int) | 1 => .int .i32 ((k % 4294967296 : Nat) : Int) | 2 => .bool false | 3 => .bool false | 9 => .int .i32 (-1) | _ => .int .i32 0
/-- A run's five cells. -/
def rnV (b n : Nat) : Nat → Value
  | 0 => .int .i32 (b : Int) | 1 => .int .i32 (n : Int) | 2 => .int .i32 (n : Int) | _ => .int .i32 0
/-- The first i keys part into r runs, which begin at B 0 .. B (r - 1). -/
structure Rn (K : Nat → Nat) (i r : Nat) (B : Nat → Nat) : Prop where
  z : i = 0 → r = 0
  p : 0 < i → 0 < r
  b0 : B 0 = 0
  br : B r = i
  up : ∀ k, k < r → B k < B (k + 1)
  same : ∀ k, k < r → ∀ j, B k ≤ j → j < B (k + 1) → K j / 4294967296 = K (B k) / 4294967296
  diff : ∀ k, k + 1 < r → K (B k) / 4294967296 < K (B (k + 1)) / 4294967296
/-- What used, runs and runOf hold. -/
structure Rv (R : Nat → Res) (K B : Nat → Nat) (r P : Nat) (ro' ro2 : Nat → Int) : Prop where
  n4 : (R 4).n = r
  n5 : (R 5).n = r
  n9 : (R 9).n = P
  v4 : ∀ k, k < r → (R 4).V k = .int .i64 ((K (B k) / 4294967296 : Nat) : Int)
  v5 : ∀ k, k < r → ∀ c, c < 5 → (R 5).V (k * 5 + c) = rnV (B k) (B (k + 1) - B k) c
  v9 : ∀ q, q < P → (R 9).V q = .int .i32 (ro2 q)
  r1 : ∀ k, k < r → ro2 (K (B k) / 4294967296) = (k : Int)
  r2 : ∀ q, (∀ k, k < r → K (B k) / 4294967296 ≠ q) → ro2 q = ro' q
/-- The keys gathered from the first i reads. -/
def Ks (d : Gd) (rd : Nat → Nat) (i k : Nat) (K : Nat → Nat) : Prop :=
  (∀ j, j < k → ∃ t x, t < i ∧ d.fr (rd t) = ((x : Nat) : Int) ∧ K j = key d x) ∧ (∀ t x, t < i → d.fr (rd t) = ((x : Nat) : Int) → ∃ j, j < k ∧ K j = key d x)


theorem Rn.pos {K : Nat → Nat} {p r : Nat} {B : Nat → Nat} (h : Rn K p r B) {m : Nat} (hu : UpN K m) (hp : p < m) (hd : p = 0 ∨ K (p - 1) / 4294967296 ≠ K p / 4294967296) : ∀ k, k < r → K (B k) / 4294967296 < K p / 4294967296 := by
  have step : ∀ e k, k + e < r → K (B k) / 4294967296 ≤ K (B (k + e)) / 4294967296 := fun e => by
    induction e with
    | zero => intro k _; exact Nat.le_refl _
    | succ e ih =>
      intro k hk
      have h1 := ih k (by omega)
      have h2 := h.diff (k + e) (by omega)
      have e3 : k + (e + 1) = k + e + 1 := by omega
      rw [e3]
      omega
  intro k hk
  have h0 : 0 < p := by
    rcases Nat.eq_zero_or_pos p with e | e
    · have := h.z e; omega
    · exact e
  have hd' : K (p - 1) / 4294967296 ≠ K p / 4294967296 := by
    rcases hd with e | e
    · omega
    · exact e
  have h1 := step (r - 1 - k) k (by omega)
  rw [show k + (r - 1 - k) = r - 1 by omega] at h1
  have hb := h.up (r - 1) (by omega)
  rw [show r - 1 + 1 = r by omega, h.br] at hb
  have h2 := h.same (r - 1) (by omega) (p - 1) (by omega) (by rw [show r - 1 + 1 = r by omega, h.br]; omega)
  have h3 := hu (p - 1) p (by omega) hp
  have h4 : K (p - 1) / 4294967296 ≤ K p / 4294967296 := Nat.div_le_div_right (Nat.le_of_lt h3)
  omega
theorem Rn.new {K : Nat → Nat} {p r : Nat} {B : Nat → Nat} (h : Rn K p r B) (hl : ∀ k, k < r → K (B k) / 4294967296 < K p / 4294967296) : Rn K (p + 1) (r + 1) (fun k => if k ≤ r then B k else p + 1) := by
  refine ⟨fun e => by omega, fun _ => by omega, by simp [h.b0], by show (if r + 1 ≤ r then B (r + 1) else p + 1) = p + 1; rw [if_neg (by omega)], fun k hk => ?_, fun k hk j h1 h2 => ?_, fun k hk => ?_⟩
  · show (if k ≤ r then B k else p + 1) < (if k + 1 ≤ r then B (k + 1) else p + 1)
    by_cases e : k = r
    · subst e; rw [if_pos (Nat.le_refl _), if_neg (by omega), h.br]; omega
    · rw [if_pos (by omega), if_pos (by omega)]; exact h.up k (by omega)
  · have h1' : (if k ≤ r then B k else p + 1) ≤ j := h1
    have h2' : j < (if k + 1 ≤ r then B (k + 1) else p + 1) := h2
    show K j / 4294967296 = K (if k ≤ r then B k else p + 1) / 4294967296
    by_cases e : k = r
    · subst e
      rw [if_pos (Nat.le_refl _)] at h1' ⊢
      rw [if_neg (by omega)] at h2'
      rw [h.br] at h1' ⊢
      obtain rfl : j = p := by omega
      rfl
    · rw [if_pos (by omega)] at h1' ⊢
      rw [if_pos (by omega)] at h2'
      exact h.same k (by omega) j h1' h2'
  · show K (if k ≤ r then B k else p + 1) / 4294967296 < K (if k + 1 ≤ r then B (k + 1) else p + 1) / 4294967296
    rw [if_pos (by omega), if_pos (by omega)]
    by_cases e : k + 1 = r
    · rw [e, h.br]; exact hl k (by omega)
    · exact h.diff k (by omega)
theorem Rn.more {K : Nat → Nat} {p r : Nat} {B : Nat → Nat} (h : Rn K p r B) (h0 : 0 < p) (he : K (p - 1) / 4294967296 = K p / 4294967296) : Rn K (p + 1) r (fun k => if k = r then p + 1 else B k) := by
  have hr := h.p h0
  have hup := h.up
  refine ⟨fun e => by omega, fun _ => hr, by show (if 0 = r then p + 1 else B 0) = 0; rw [if_neg (by omega)]; exact h.b0, by simp, fun k hk => ?_, fun k hk j h1 h2 => ?_, fun k hk => ?_⟩
  · show (if k = r then p + 1 else B k) < (if k + 1 = r then p + 1 else B (k + 1))
    rw [if_neg (by omega)]
    by_cases e : k + 1 = r
    · rw [if_pos e]; have := hup k hk; rw [e, h.br] at this; omega
    · rw [if_neg e]; exact hup k hk
  · have h1' : (if k = r then p + 1 else B k) ≤ j := h1
    have h2' : j < (if k + 1 = r then p + 1 else B (k + 1)) := h2
    show K j / 4294967296 = K (if k = r then p + 1 else B k) / 4294967296
    rw [if_neg (by omega)] at h1' ⊢
    by_cases e : k + 1 = r
    · rw [if_pos e] at h2'
      have hb := hup k hk
      rw [e, h.br] at hb
      by_cases e2 : j = p
      · subst e2
        rw [← he]
        exact h.same k hk (j - 1) (by omega) (by rw [e, h.br]; omega)
      · exact h.same k hk j h1' (by rw [e, h.br]; omega)
    · rw [if_neg e] at h2'
      exact h.same k hk j h1' h2'
  · show K (if k = r then p + 1 else B k) / 4294967296 < K (if k + 1 = r then p + 1 else B (k + 1)) / 4294967296
    rw [if_neg (by omega), if_neg (by omega)]
    exact h.diff k hk

theorem Rv.new {R R' : Nat → Res} {K B : Nat → Nat} {r P p hh : Nat} {ro' ro2 : Nat → Int} (h : Rv R K B r P ro' ro2) (hn : Rn K p r B) (hhe : hh = K p / 4294967296) (hl : ∀ k, k < r → K (B k) / 4294967296 < K p / 4294967296)
    (n4 : (R' 4).n = r + 1) (n5 : (R' 5).n = r + 1) (n9 : (R' 9).n = (R 9).n)
    (v4 : ∀ k, (R' 4).V k = if k < r then (R 4).V k else if k = r then .int .i64 (hh : Int) else (R' 4).V k)
    (v5 : ∀ k, (R' 5).V k = if k < r * 5 then (R 5).V k else if k = r * 5 + 0 then .int .i32 (p : Int) else if k = r * 5 + 1 then .int .i32 1 else if k = r * 5 + 2 then .int .i32 1 else if k = r * 5 + 3 then .int .i32 0 else if k = r * 5 + 4 then .int .i32 0 else (R' 5).V k)
    (v9 : ∀ q, (R' 9).V q = if q = hh then .int .i32 (r : Int) else (R 9).V q) : Rv R' K (fun k => if k ≤ r then B k else p + 1) (r + 1) P ro' (fun q => if q = hh then (r : Int) else ro2 q) := by
  refine ⟨n4, n5, n9.trans h.n9, fun k hk => ?_, fun k hk c hc => ?_, fun q hq => ?_, fun k hk => ?_, fun q hq => ?_⟩
  · show _ = Value.int .i64 ((K (if k ≤ r then B k else p + 1) / 4294967296 : Nat) : Int)
    rw [if_pos (by omega), v4 k]
    by_cases e : k = r
    · subst e
      rw [if_neg (Nat.lt_irrefl _), if_pos rfl, hn.br, hhe]
    · rw [if_pos (by omega)]; exact h.v4 k (by omega)
  · show _ = rnV (if k ≤ r then B k else p + 1) ((if k + 1 ≤ r then B (k + 1) else p + 1) - (if k ≤ r then B k else p + 1)) c
    rw [if_pos (by omega), v5 (k * 5 + c)]
    by_cases e : k = r
    · subst e
      rw [if_neg (by omega), hn.br, if_neg (show ¬ k + 1 ≤ k by omega), show p + 1 - p = 1 by omega]
      have : c = 0 ∨ c = 1 ∨ c = 2 ∨ c = 3 ∨ c = 4 := by omega
      rcases this with rfl | rfl | rfl | rfl | rfl
      · rw [if_pos rfl]; rfl
      · rw [if_neg (by omega), if_pos rfl]; rfl
      · rw [if_neg (by omega), if_neg (by omega), if_pos rfl]; rfl
      · rw [if_neg (by omega), if_neg (by omega), if_neg (by omega), if_pos rfl]; rfl
      · rw [if_neg (by omega), if_neg (by omega), if_neg (by omega), if_neg (by omega), if_pos rfl]; rfl
    · rw [if_pos (by omega), if_pos (by omega)]; exact h.v5 k (by omega) c hc
  · rw [v9 q]
    by_cases e : q = hh
    · rw [if_pos e]; simp [e]
    · rw [if_neg e]; simp only [if_neg e]; exact h.v9 q hq
  · show (if K (if k ≤ r then B k else p + 1) / 4294967296 = hh then (r : Int) else ro2 (K (if k ≤ r then B k else p + 1) / 4294967296)) = k
    rw [if_pos (show k ≤ r by omega)]
    by_cases e : k = r
    · subst e; rw [hn.br, if_pos hhe.symm]
    · have := hl k (by omega)
      rw [if_neg (by omega)]; exact h.r1 k (by omega)
  · show (if q = hh then (r : Int) else ro2 q) = ro' q
    have h1 := hq r (by omega)
    have h1' : K (if r ≤ r then B r else p + 1) / 4294967296 ≠ q := h1
    rw [if_pos (Nat.le_refl _), hn.br] at h1'
    rw [if_neg (by omega)]
    refine h.r2 q fun k hk => ?_
    have h2 := hq k (by omega)
    have h2' : K (if k ≤ r then B k else p + 1) / 4294967296 ≠ q := h2
    rw [if_pos (by omega)] at h2'
    exact h2'
/-- The slices behind a new run's three stores and appends. -/
def newR (R : Nat → Res) (r p hh : Nat) (va vb : Value) : Nat → Res :=
  put (put (put R 9 { R 9 with V := fun k => if k = hh then .int .i32 (r : Int) else (R 9).V k }) 4 ⟨eT 4, sT 4, va, r + 1, fun i => if i < r * sT 4 then ((put R 9 { R 9 with V := fun k => if k = hh then .int .i32 (r : Int) else (R 9).V k }) 4).V i else [Value.int .i64 (hh : Int)].getD (i - r * sT 4) (.bool false)⟩) 5
    ⟨eT 5, sT 5, vb, r + 1, fun i => if i < r * sT 5 then ((put (put R 9 { R 9 with V := fun k => if k = hh then .int .i32 (r : Int) else (R 9).V k }) 4 ⟨eT 4, sT 4, va, r + 1, fun i => if i < r * sT 4 then ((put R 9 { R 9 with V := fun k => if k = hh then .int .i32 (r : Int) else (R 9).V k }) 4).V i else [Value.int .i64 (hh : Int)].getD (i - r * sT 4) (.bool false)⟩) 5).V i else [Value.int .i32 (p : Int), .int .i32 0, .int .i32 0, .int .i32 0, .int .i32 0].getD (i - r * sT 5) (.bool false)⟩
theorem newR_other {R : Nat → Res} {r p hh : Nat} {va vb : Value} (t : Nat) (h4 : t ≠ 4) (h5 : t ≠ 5) (h9 : t ≠ 9) : newR R r p hh va vb t = R t := by
  unfold newR; rw [put_other _ _ _ _ h5, put_other _ _ _ _ h4, put_other _ _ _ _ h9]
theorem Rv.newPut {R R9 R' : Nat → Res} {K B : Nat → Nat} {r P p hh : Nat} {va vb : Value} {ro' ro2 : Nat → Int} (h : Rv R K B r P ro' ro2) (hn : Rn K p r B) (hhe : hh = K p / 4294967296) (hl : ∀ k, k < r → K (B k) / 4294967296 < K p / 4294967296)
    (h9 : R9 = newR R r p hh va vb) (e4 : R' 4 = R9 4) (e9 : R' 9 = R9 9) (n5 : (R' 5).n = r + 1) (v5 : ∀ k, (R' 5).V k = if k = r * 5 + 2 then .int .i32 1 else if k = r * 5 + 1 then .int .i32 1 else (R9 5).V k) : Rv R' K (fun k => if k ≤ r then B k else p + 1) (r + 1) P ro' (fun q => if q = hh then (r : Int) else ro2 q) := by
  subst h9
  refine Rv.new h hn hhe hl (by rw [e4]; rfl) n5 (by rw [e9]; rfl) (fun k => ?_) (fun k => ?_) (fun q => by rw [e9]; rfl)
  · rw [e4]
    show (if k < r * 1 then (R 4).V k else [Value.int .i64 (hh : Int)].getD (k - r * 1) (.bool false)) = _
    rw [Nat.mul_one]
    by_cases h1 : k < r
    · rw [if_pos h1, if_pos h1]
    · rw [if_neg h1, if_neg h1]
      by_cases h2 : k = r
      · subst h2; rw [if_pos rfl]; simp
      · rw [if_neg h2]
        show _ = (if k < r * 1 then (R 4).V k else [Value.int .i64 (hh : Int)].getD (k - r * 1) (.bool false))
        rw [if_neg (by omega), Nat.mul_one]
  · have e : (newR R r p hh va vb 5).V k = if k < r * 5 then (R 5).V k else [Value.int .i32 (p : Int), .int .i32 0, .int .i32 0, .int .i32 0, .int .i32 0].getD (k - r * 5) (.bool false) := rfl
    rw [v5 k, e]
    by_cases h1 : k < r * 5
    · rw [if_pos h1, if_neg (by omega), if_neg (by omega), if_pos h1]
    · rw [if_neg h1]
      by_cases h2 : k = r * 5 + 2
      · subst h2
        rw [if_pos rfl, if_neg h1, if_neg (by omega), if_neg (by omega), if_pos rfl]
      · rw [if_neg h2]
        by_cases h3 : k = r * 5 + 1
        · subst h3
          rw [if_pos rfl, if_neg h1, if_neg (by omega), if_pos rfl]
        · rw [if_neg h3, if_neg h1]
          by_cases h4 : k = r * 5 + 0
          · rw [if_pos h4, h4]; simp
          · rw [if_neg h4, if_neg h3, if_neg h2]
            by_cases h5 : k = r * 5 + 3
            · rw [if_pos h5, h5]; simp
            · rw [if_neg h5]
              by_cases h6 : k = r * 5 + 4
              · rw [if_pos h6, h6]; simp
              · rw [if_neg h6]
theorem Rv.more {R R' : Nat → Res} {K B : Nat → Nat} {r P p z : Nat} {ro' ro2 : Nat → Int} (h : Rv R K B r P ro' ro2) (hn : Rn K p r B) (hz : r = z + 1)
    (n5 : (R' 5).n = (R 5).n) (e4 : R' 4 = R 4) (e9 : R' 9 = R 9)
    (v5 : ∀ k, (R' 5).V k = if k = z * 5 + 2 then .int .i32 ((p + 1 - B z : Nat) : Int) else if k = z * 5 + 1 then .int .i32 ((p + 1 - B z : Nat) : Int) else (R 5).V k) : Rv R' K (fun k => if k = r then p + 1 else B k) r P ro' ro2 := by
  refine ⟨by rw [e4]; exact h.n4, n5.trans h.n5, by rw [e9]; exact h.n9, fun k hk => ?_, fun k hk c hc => ?_, fun q hq => by rw [e9]; exact h.v9 q hq, fun k hk => ?_, fun q hq => ?_⟩
  · show _ = Value.int .i64 ((K (if k = r then p + 1 else B k) / 4294967296 : Nat) : Int)
    rw [if_neg (by omega), e4]; exact h.v4 k hk
  · show _ = rnV (if k = r then p + 1 else B k) ((if k + 1 = r then p + 1 else B (k + 1)) - (if k = r then p + 1 else B k)) c
    rw [if_neg (show ¬ k = r by omega), v5 (k * 5 + c)]
    by_cases e : k = z
    · subst e
      rw [if_pos hz.symm]
      have h5 := h.v5 k hk c hc
      have : c = 0 ∨ c = 1 ∨ c = 2 ∨ c = 3 ∨ c = 4 := by omega
      rcases this with rfl | rfl | rfl | rfl | rfl
      · rw [if_neg (by omega), if_neg (by omega), h5]; rfl
      · rw [if_neg (by omega), if_pos rfl]; rfl
      · rw [if_pos rfl]; rfl
      · rw [if_neg (by omega), if_neg (by omega), h5]; rfl
      · rw [if_neg (by omega), if_neg (by omega), h5]; rfl
    · rw [if_neg (by omega), if_neg (by omega), if_neg (by omega)]
      exact h.v5 k hk c hc
  · show ro2 (K (if k = r then p + 1 else B k) / 4294967296) = k
    rw [if_neg (by omega)]; exact h.r1 k hk
  · refine h.r2 q fun k hk => ?_
    have h2 := hq k hk
    have h2' : K (if k = r then p + 1 else B k) / 4294967296 ≠ q := h2
    rw [if_neg (by omega)] at h2'
    exact h2'
end Go.Proofs.Qxb6605223a
