/-
  Seat b6605207a. PLAIN FUNCTIONS over a text (T i: byte i, for i < n): white space, the string automaton, the number automaton, literals, the pushdown machine. No Go here.
-/
set_option linter.unusedVariables false
set_option linter.unusedSimpArgs false
namespace Go.Proofs.Qxb6605207a

def isSp (c : Int) : Bool := c == 32 || c == 9 || c == 10 || c == 13
def isDg (c : Int) : Bool := decide (48 ≤ c) && decide (c ≤ 57)
def isHx (c : Int) : Bool := (decide (48 ≤ c) && decide (c ≤ 57)) || (decide (97 ≤ c) && decide (c ≤ 102)) || (decide (65 ≤ c) && decide (c ≤ 70))
def isSh (c : Int) : Bool := c == 34 || c == 92 || c == 47 || c == 98 || c == 102 || c == 110 || c == 114 || c == 116

/-- The first place from i on, below n, where f does not hold; or n. -/
def skipF (f : Int → Bool) (T : Nat → Int) : Nat → Nat → Nat
  | 0, i => i
  | k + 1, i => if f (T i) = true then skipF f T k (i + 1) else i
def skip (f : Int → Bool) (T : Nat → Int) (n i : Nat) : Nat := skipF f T (n - i) i

theorem skip_step (f : Int → Bool) (T : Nat → Int) (n i : Nat) (h : i < n) (hf : f (T i) = true) : skip f T n i = skip f T n (i + 1) := by
  unfold skip
  obtain ⟨k, hk⟩ : ∃ k, n - i = k + 1 := ⟨n - i - 1, by omega⟩
  rw [hk, show n - (i + 1) = k by omega, skipF, if_pos hf]
theorem skip_stop (f : Int → Bool) (T : Nat → Int) (n i : Nat) (h : i < n) (hf : f (T i) = false) : skip f T n i = i := by
  unfold skip
  obtain ⟨k, hk⟩ : ∃ k, n - i = k + 1 := ⟨n - i - 1, by omega⟩
  rw [hk, skipF, if_neg (by simp [hf])]
theorem skip_end (f : Int → Bool) (T : Nat → Int) (n i : Nat) (h : n ≤ i) : skip f T n i = i := by
  unfold skip
  rw [show n - i = 0 by omega, skipF]

theorem skip_spec (f : Int → Bool) (T : Nat → Int) (n : Nat) : ∀ m i, n - i = m → i ≤ skip f T n i ∧ (i ≤ n → skip f T n i ≤ n) ∧ (skip f T n i < n → f (T (skip f T n i)) = false)
  | 0, i, h => by rw [skip_end f T n i (by omega)]; exact ⟨Nat.le_refl _, id, fun h' => by omega⟩
  | m + 1, i, h => by
    cases hf : f (T i) with
    | true =>
      rw [skip_step f T n i (by omega) hf]
      have := skip_spec f T n m (i + 1) (by omega)
      exact ⟨by omega, fun _ => this.2.1 (by omega), this.2.2⟩
    | false => rw [skip_stop f T n i (by omega) hf]; exact ⟨Nat.le_refl _, id, fun _ => hf⟩
theorem skip_ge (f : Int → Bool) (T : Nat → Int) (n i : Nat) : i ≤ skip f T n i := (skip_spec f T n _ i rfl).1
theorem skip_le (f : Int → Bool) (T : Nat → Int) (n i : Nat) (h : i ≤ n) : skip f T n i ≤ n := (skip_spec f T n _ i rfl).2.1 h
theorem skip_not (f : Int → Bool) (T : Nat → Int) (n i : Nat) (h : skip f T n i < n) : f (T (skip f T n i)) = false := (skip_spec f T n _ i rfl).2.2 h
theorem skip_idem (f : Int → Bool) (T : Nat → Int) (n i : Nat) : skip f T n (skip f T n i) = skip f T n i := by
  rcases Nat.lt_or_ge (skip f T n i) n with h | h
  · exact skip_stop f T n _ h (skip_not f T n i h)
  · exact skip_end f T n _ h

/-- White space from i on skipped. -/
def sp (T : Nat → Int) (n i : Nat) : Nat := skip isSp T n i
/-- Digits from i on skipped. -/
def dg (T : Nat → Int) (n i : Nat) : Nat := skip isDg T n i

/-! ### The string automaton: where the string ends, from state st at p on -/
def smF (T : Nat → Int) : Nat → Nat → Nat → Option Nat
  | 0, _, _ => none
  | f + 1, st, p =>
    if st = 0 then (if T p = 34 then some (p + 1) else if T p < 32 then none else if T p = 92 then smF T f 1 (p + 1) else smF T f 0 (p + 1))
    else if st = 1 then (if T p = 117 then smF T f 2 (p + 1) else if isSh (T p) = true then smF T f 0 (p + 1) else none)
    else if isHx (T p) = true then smF T f (if st = 5 then 0 else st + 1) (p + 1) else none
def sm (T : Nat → Int) (n st p : Nat) : Option Nat := smF T (n - p) st p

theorem sm_end (T : Nat → Int) (n st p : Nat) (h : n ≤ p) : sm T n st p = none := by
  unfold sm; rw [show n - p = 0 by omega, smF]
theorem sm_step (T : Nat → Int) (n st p : Nat) (h : p < n) : sm T n st p =
    if st = 0 then (if T p = 34 then some (p + 1) else if T p < 32 then none else if T p = 92 then sm T n 1 (p + 1) else sm T n 0 (p + 1))
    else if st = 1 then (if T p = 117 then sm T n 2 (p + 1) else if isSh (T p) = true then sm T n 0 (p + 1) else none)
    else if isHx (T p) = true then sm T n (if st = 5 then 0 else st + 1) (p + 1) else none := by
  unfold sm
  obtain ⟨k, hk⟩ : ∃ k, n - p = k + 1 := ⟨n - p - 1, by omega⟩
  rw [hk, show n - (p + 1) = k by omega, smF]

theorem sm_bound (T : Nat → Int) (n : Nat) : ∀ m st p e, n - p = m → sm T n st p = some e → p < e ∧ e ≤ n
  | 0, st, p, e, hm, h => by rw [sm_end T n st p (by omega)] at h; cases h
  | m + 1, st, p, e, hm, h => by
    have ih := fun st' => sm_bound T n m st' (p + 1) e (by omega)
    rw [sm_step T n st p (by omega)] at h
    by_cases h0 : st = 0
    · rw [if_pos h0] at h
      by_cases h1 : T p = 34
      · rw [if_pos h1] at h; cases h; omega
      · rw [if_neg h1] at h
        by_cases h2 : T p < 32
        · rw [if_pos h2] at h; cases h
        · rw [if_neg h2] at h
          by_cases h3 : T p = 92
          · rw [if_pos h3] at h; have := ih _ h; omega
          · rw [if_neg h3] at h; have := ih _ h; omega
    · rw [if_neg h0] at h
      by_cases h1 : st = 1
      · rw [if_pos h1] at h
        by_cases h2 : T p = 117
        · rw [if_pos h2] at h; have := ih _ h; omega
        · rw [if_neg h2] at h
          by_cases h3 : isSh (T p) = true
          · rw [if_pos h3] at h; have := ih _ h; omega
          · rw [if_neg h3] at h; cases h
      · rw [if_neg h1] at h
        by_cases h2 : isHx (T p) = true
        · rw [if_pos h2] at h; have := ih _ h; omega
        · rw [if_neg h2] at h; cases h

/-- Four hexadecimal digits are due and the text ends ahead of the fourth. -/
theorem sm_short (T : Nat → Int) (n : Nat) : ∀ j st p, st + j = 5 → 2 ≤ st → n ≤ p + j → sm T n st p = none
  | 0, st, p, hj, h2, hn => sm_end T n st p (by omega)
  | j + 1, st, p, hj, h2, hn => by
    rcases Nat.lt_or_ge p n with h | h
    · rw [sm_step T n st p h, if_neg (by omega), if_neg (by omega)]
      split
      · rw [if_neg (by omega)]
        exact sm_short T n j (st + 1) (p + 1) (by omega) (by omega) (by omega)
      · rfl
    · exact sm_end T n st p h

/-! ### The number automaton -/
def stp (st : Nat) (c : Int) : Option Nat :=
  if st = 0 then (if c = 45 then some 1 else if c = 48 then some 2 else if isDg c = true then some 3 else none)
  else if st = 1 then (if c = 48 then some 2 else if isDg c = true then some 3 else none)
  else if st = 2 then (if c = 46 then some 4 else if c = 101 ∨ c = 69 then some 6 else none)
  else if st = 3 then (if isDg c = true then some 3 else if c = 46 then some 4 else if c = 101 ∨ c = 69 then some 6 else none)
  else if st = 4 then (if isDg c = true then some 5 else none)
  else if st = 5 then (if isDg c = true then some 5 else if c = 101 ∨ c = 69 then some 6 else none)
  else if st = 6 then (if c = 43 ∨ c = 45 then some 7 else if isDg c = true then some 8 else none)
  else if isDg c = true then some 8 else none
def accB (st : Nat) : Bool := st == 2 || st == 3 || st == 5 || st == 8
def nmF (T : Nat → Int) : Nat → Nat → Nat → Option Nat
  | 0, st, p => if accB st = true then some p else none
  | f + 1, st, p => match stp st (T p) with
    | some st' => nmF T f st' (p + 1)
    | none => if accB st = true then some p else none
def nm (T : Nat → Int) (n st p : Nat) : Option Nat := nmF T (n - p) st p

theorem nm_end (T : Nat → Int) (n st p : Nat) (h : n ≤ p) : nm T n st p = if accB st = true then some p else none := by
  unfold nm; rw [show n - p = 0 by omega, nmF]
theorem nm_go (T : Nat → Int) (n st st' p : Nat) (h : p < n) (hs : stp st (T p) = some st') : nm T n st p = nm T n st' (p + 1) := by
  unfold nm
  obtain ⟨k, hk⟩ : ∃ k, n - p = k + 1 := ⟨n - p - 1, by omega⟩
  rw [hk, show n - (p + 1) = k by omega, nmF, hs]
theorem nm_stop (T : Nat → Int) (n st p : Nat) (h : p < n) (hs : stp st (T p) = none) : nm T n st p = if accB st = true then some p else none := by
  unfold nm
  obtain ⟨k, hk⟩ : ∃ k, n - p = k + 1 := ⟨n - p - 1, by omega⟩
  rw [hk, nmF, hs]

theorem nm_bound (T : Nat → Int) (n : Nat) : ∀ m st p e, n - p = m → p ≤ n → nm T n st p = some e → p ≤ e ∧ e ≤ n ∧ (accB st = false → p < e)
  | 0, st, p, e, hm, hp, h => by
    rw [nm_end T n st p (by omega)] at h
    by_cases ha : accB st = true
    · rw [if_pos ha] at h; cases h; exact ⟨Nat.le_refl _, by omega, fun h' => by rw [ha] at h'; cases h'⟩
    · rw [if_neg ha] at h; cases h
  | m + 1, st, p, e, hm, hp, h => by
    cases hs : stp st (T p) with
    | some st' =>
      rw [nm_go T n st st' p (by omega) hs] at h
      have := nm_bound T n m st' (p + 1) e (by omega) (by omega) h
      exact ⟨by omega, this.2.1, fun _ => by omega⟩
    | none =>
      rw [nm_stop T n st p (by omega) hs] at h
      by_cases ha : accB st = true
      · rw [if_pos ha] at h; cases h; exact ⟨Nat.le_refl _, by omega, fun h' => by rw [ha] at h'; cases h'⟩
      · rw [if_neg ha] at h; cases h

/-- A run of digits is passed in one state. -/
theorem nm_digits (T : Nat → Int) (n st : Nat) (hst : ∀ c, isDg c = true → stp st c = some st) : ∀ m p, n - p = m → nm T n st p = nm T n st (dg T n p)
  | 0, p, hm => by unfold dg; rw [skip_end isDg T n p (by omega)]
  | m + 1, p, hm => by
    cases hd : isDg (T p) with
    | true =>
      unfold dg
      rw [skip_step isDg T n p (by omega) hd, nm_go T n st st p (by omega) (hst _ hd)]
      exact nm_digits T n st hst m (p + 1) (by omega)
    | false => unfold dg; rw [skip_stop isDg T n p (by omega) hd]

/-! ### Literals -/
def hasAt (T : Nat → Int) (n p : Nat) (l : List Int) : Bool := decide (p + l.length ≤ n) && (List.range l.length).all fun k => T (p + k) == l.getD k 0
def lTrue : List Int := [116, 114, 117, 101]
def lFalse : List Int := [102, 97, 108, 115, 101]
def lNull : List Int := [110, 117, 108, 108]
def litL (T : Nat → Int) (n p : Nat) : Nat := if hasAt T n p lTrue = true then 4 else if hasAt T n p lFalse = true then 5 else if hasAt T n p lNull = true then 4 else 0

theorem lit_bound (T : Nat → Int) (n p : Nat) (h : litL T n p ≠ 0) : p + litL T n p ≤ n := by
  unfold litL at *
  by_cases h1 : hasAt T n p lTrue = true
  · rw [if_pos h1] at *; simp [hasAt, lTrue] at h1; omega
  · rw [if_neg h1] at *
    by_cases h2 : hasAt T n p lFalse = true
    · rw [if_pos h2] at *; simp [hasAt, lFalse] at h2; omega
    · rw [if_neg h2] at *
      by_cases h3 : hasAt T n p lNull = true
      · rw [if_pos h3] at *; simp [hasAt, lNull] at h3; omega
      · rw [if_neg h3] at *; omega

/-! ### The pushdown machine -/
def top (S : List Bool) : Bool := S.headD false
def clo (b : Bool) : Int := if b = true then 125 else 93

def valB (T : Nat → Int) (n : Nat) (d0 : Int) (k : List Bool → Nat → Nat → Option Nat) (S : List Bool) (q : Nat) : Option Nat :=
  if T q = 123 ∨ T q = 91 then (if 10000 - (S.length : Int) < d0 then none else k (decide (T q = 123) :: S) 0 (q + 1))
  else if T q = 34 then (match sm T n 0 (q + 1) with | some e => k S 4 e | none => none)
  else if T q = 45 ∨ isDg (T q) = true then (match nm T n 0 q with | some e => k S 4 e | none => none)
  else if litL T n q = 0 then none else k S 4 (q + litL T n q)

def stepB (T : Nat → Int) (n : Nat) (d0 : Int) (k : List Bool → Nat → Nat → Option Nat) (S : List Bool) (st p : Nat) : Option Nat :=
  if n ≤ sp T n p then none
  else if (st = 0 ∨ st = 4) ∧ T (sp T n p) = clo (top S) then (if S.tail = [] then some (sp T n p + 1) else k S.tail 4 (sp T n p + 1))
  else if st = 4 then (if T (sp T n p) = 44 then k S (if top S = true then 1 else 3) (sp T n p + 1) else none)
  else if st = 1 ∨ (st = 0 ∧ top S = true) then (if T (sp T n p) = 34 then (match sm T n 0 (sp T n p + 1) with | some e => k S 2 e | none => none) else none)
  else if st = 2 then (if T (sp T n p) = 58 then k S 3 (sp T n p + 1) else none)
  else valB T n d0 k S (sp T n p)

def runF (T : Nat → Int) (n : Nat) (d0 : Int) : Nat → List Bool → Nat → Nat → Option Nat
  | 0, _, _, _ => none
  | f + 1, S, st, p => stepB T n d0 (runF T n d0 f) S st p
def run (T : Nat → Int) (n : Nat) (d0 : Int) (S : List Bool) (st p : Nat) : Option Nat := runF T n d0 (n + 1) S st p

theorem stepB_congr (T : Nat → Int) (n : Nat) (d0 : Int) (k k' : List Bool → Nat → Nat → Option Nat) (S : List Bool) (st p : Nat) (h : ∀ S' st' p', p < p' → k S' st' p' = k' S' st' p') :
    stepB T n d0 k S st p = stepB T n d0 k' S st p := by
  have hq : p ≤ sp T n p := skip_ge _ _ _ _
  unfold stepB valB
  generalize sp T n p = q at hq
  by_cases h0 : n ≤ q
  · rw [if_pos h0, if_pos h0]
  · rw [if_neg h0, if_neg h0, h S.tail 4 (q + 1) (by omega), h S _ (q + 1) (by omega), h S 3 (q + 1) (by omega), h (decide (T q = 123) :: S) 0 (q + 1) (by omega)]
    have e1 : (match sm T n 0 (q + 1) with | some e => k S 2 e | none => none) = (match sm T n 0 (q + 1) with | some e => k' S 2 e | none => none) := by
      cases hs : sm T n 0 (q + 1) with
      | none => rfl
      | some e => have := sm_bound T n _ 0 (q + 1) e rfl hs; exact h S 2 e (by omega)
    have e2 : (match sm T n 0 (q + 1) with | some e => k S 4 e | none => none) = (match sm T n 0 (q + 1) with | some e => k' S 4 e | none => none) := by
      cases hs : sm T n 0 (q + 1) with
      | none => rfl
      | some e => have := sm_bound T n _ 0 (q + 1) e rfl hs; exact h S 4 e (by omega)
    have e3 : (match nm T n 0 q with | some e => k S 4 e | none => none) = (match nm T n 0 q with | some e => k' S 4 e | none => none) := by
      cases hs : nm T n 0 q with
      | none => rfl
      | some e => have := (nm_bound T n _ 0 q e rfl (by omega) hs).2.2 rfl; exact h S 4 e (by omega)
    rw [e1, e2, e3]
    by_cases hl : litL T n q = 0
    · rw [if_pos hl, if_pos hl]
    · rw [if_neg hl, if_neg hl, h S 4 (q + litL T n q) (by omega)]

theorem runF_more (T : Nat → Int) (n : Nat) (d0 : Int) : ∀ f S st p, n + 1 ≤ f + p → runF T n d0 (f + 1) S st p = runF T n d0 f S st p
  | 0, S, st, p, h => by
    rw [runF, runF]
    unfold stepB
    rw [if_pos]
    have := skip_ge isSp T n p
    unfold sp; omega
  | f + 1, S, st, p, h => by
    rw [runF, runF]
    exact stepB_congr T n d0 _ _ S st p fun S' st' p' hp => runF_more T n d0 f S' st' p' (by omega)

theorem run_eq (T : Nat → Int) (n : Nat) (d0 : Int) (S : List Bool) (st p : Nat) : run T n d0 S st p = stepB T n d0 (run T n d0) S st p := by
  have := runF_more T n d0 (n + 1) S st p (by omega)
  unfold run
  rw [← this, runF]

/-- White space is skipped first, whatever the state. -/
theorem run_sp (T : Nat → Int) (n : Nat) (d0 : Int) (S : List Bool) (st p : Nat) : run T n d0 S st (sp T n p) = run T n d0 S st p := by
  rw [run_eq, run_eq T n d0 S st p]
  unfold stepB
  have : sp T n (sp T n p) = sp T n p := skip_idem _ _ _ _
  rw [this]

theorem run_out (T : Nat → Int) (n : Nat) (d0 : Int) (S : List Bool) (st p : Nat) (h : n ≤ sp T n p) : run T n d0 S st p = none := by
  rw [run_eq]; unfold stepB; rw [if_pos h]

/-- What a close leaves. -/
def shut (T : Nat → Int) (n : Nat) (d0 : Int) (S : List Bool) (e : Nat) : Option Nat := if S = [] then some e else run T n d0 S 4 e

theorem run_close (T : Nat → Int) (n : Nat) (d0 : Int) (b : Bool) (S : List Bool) (st p : Nat) (hst : st = 0 ∨ st = 4) (h : sp T n p < n) (hc : T (sp T n p) = clo b) : run T n d0 (b :: S) st p = shut T n d0 S (sp T n p + 1) := by
  rw [run_eq]; unfold stepB
  rw [if_neg (by omega), if_pos ⟨hst, hc⟩]; rfl

theorem run_open (T : Nat → Int) (n : Nat) (d0 : Int) (b : Bool) (S : List Bool) (p : Nat) (h : sp T n p < n → T (sp T n p) ≠ clo b) : run T n d0 (b :: S) 0 p = run T n d0 (b :: S) (if b = true then 1 else 3) p := by
  rw [run_eq, run_eq T n d0 _ (if b = true then 1 else 3)]; unfold stepB
  by_cases h0 : n ≤ sp T n p
  · rw [if_pos h0, if_pos h0]
  · have hne : ¬ T (sp T n p) = clo (top (b :: S)) := h (by omega)
    rw [if_neg h0, if_neg h0]
    rw [if_neg (fun c => hne c.2)]
    cases b with
    | true => simp [top]
    | false => simp [top]

theorem run_comma (T : Nat → Int) (n : Nat) (d0 : Int) (b : Bool) (S : List Bool) (p : Nat) (h : sp T n p < n) (hc : T (sp T n p) ≠ clo b) (h4 : T (sp T n p) = 44) : run T n d0 (b :: S) 4 p = run T n d0 (b :: S) (if b = true then 1 else 3) (sp T n p + 1) := by
  rw [run_eq]; unfold stepB
  rw [if_neg (by omega), if_neg (fun c => hc c.2), if_pos rfl, if_pos h4]; rfl
theorem run_nocomma (T : Nat → Int) (n : Nat) (d0 : Int) (b : Bool) (S : List Bool) (p : Nat) (h : sp T n p < n) (hc : T (sp T n p) ≠ clo b) (h4 : T (sp T n p) ≠ 44) : run T n d0 (b :: S) 4 p = none := by
  rw [run_eq]; unfold stepB
  rw [if_neg (by omega), if_neg (fun c => hc c.2), if_pos rfl, if_neg h4]

theorem run_key (T : Nat → Int) (n : Nat) (d0 : Int) (S : List Bool) (p : Nat) (h : sp T n p < n) :
    run T n d0 S 1 p = if T (sp T n p) = 34 then (match sm T n 0 (sp T n p + 1) with | some e => run T n d0 S 2 e | none => none) else none := by
  rw [run_eq]; unfold stepB
  rw [if_neg (by omega), if_neg (by omega), if_neg (by omega), if_pos (.inl rfl)]
theorem run_colon (T : Nat → Int) (n : Nat) (d0 : Int) (S : List Bool) (p : Nat) (h : sp T n p < n) :
    run T n d0 S 2 p = if T (sp T n p) = 58 then run T n d0 S 3 (sp T n p + 1) else none := by
  rw [run_eq]; unfold stepB
  rw [if_neg (by omega), if_neg (by omega), if_neg (by omega), if_neg (by omega), if_pos rfl]
theorem run_value (T : Nat → Int) (n : Nat) (d0 : Int) (S : List Bool) (p : Nat) (h : sp T n p < n) :
    run T n d0 S 3 p = valB T n d0 (run T n d0) S (sp T n p) := by
  rw [run_eq]; unfold stepB
  rw [if_neg (by omega), if_neg (by omega), if_neg (by omega), if_neg (by omega), if_neg (by omega)]
end Go.Proofs.Qxb6605207a
