/-
  Seat b6605207a. PLAIN: the steps of the machine as the reader takes them.
-/
import Derived.Test.Qxb6605207aPlainA
set_option linter.unusedVariables false
namespace Go.Proofs.Qxb6605207a
variable (T : Nat → Int) (n : Nat) (d0 : Int)

theorem sp_ge (p : Nat) : p ≤ sp T n p := skip_ge _ _ _ _
theorem sp_le (p : Nat) (h : p ≤ n) : sp T n p ≤ n := skip_le _ _ _ _ h
theorem sp_idem (p : Nat) : sp T n (sp T n p) = sp T n p := skip_idem _ _ _ _

theorem key_no (S : List Bool) (p : Nat) (hs : sp T n p = p) (h : ¬ (p < n ∧ T p = 34)) : run T n d0 S 1 p = none := by
  rcases Nat.lt_or_ge p n with hp | hp
  · rw [run_key T n d0 S p (by rw [hs]; exact hp), hs, if_neg (fun c => h ⟨hp, c⟩)]
  · exact run_out T n d0 S 1 p (by rw [hs]; exact hp)
theorem key_bad (S : List Bool) (p : Nat) (hs : sp T n p = p) (hp : p < n) (h : sm T n 0 (p + 1) = none) : run T n d0 S 1 p = none := by
  rw [run_key T n d0 S p (by rw [hs]; exact hp), hs, h]
  simp
theorem key_ok (S : List Bool) (p e : Nat) (hs : sp T n p = p) (hp : p < n) (h34 : T p = 34) (h : sm T n 0 (p + 1) = some e) : run T n d0 S 1 p = run T n d0 S 2 e := by
  rw [run_key T n d0 S p (by rw [hs]; exact hp), hs, h, if_pos h34]
theorem colon_no (S : List Bool) (p q : Nat) (hq : q = sp T n p) (h : ¬ (q < n ∧ T q = 58)) : run T n d0 S 2 p = none := by
  subst hq
  rcases Nat.lt_or_ge (sp T n p) n with hp | hp
  · rw [run_colon T n d0 S p hp, if_neg (fun c => h ⟨hp, c⟩)]
  · exact run_out T n d0 S 2 p hp
theorem colon_ok (S : List Bool) (p q r : Nat) (hq : q = sp T n p) (hr : r = sp T n (q + 1)) (h : q < n) (hc : T q = 58) : run T n d0 S 2 p = run T n d0 S 3 r := by
  subst hr
  rw [run_sp]
  subst hq
  rw [run_colon T n d0 S p h, if_pos hc]
theorem comma_ok (b : Bool) (S : List Bool) (p q r : Nat) (hq : q = sp T n p) (hr : r = sp T n (q + 1)) (h : q < n) (hc : T q = 44) : run T n d0 (b :: S) 4 p = run T n d0 (b :: S) (if b = true then 1 else 3) r := by
  subst hr
  rw [run_sp]
  subst hq
  exact run_comma T n d0 b S p h (by rw [hc]; cases b <;> decide) hc
theorem open_sp (b : Bool) (S : List Bool) (p q : Nat) (hq : q = sp T n p) (h : q < n → T q ≠ clo b) : run T n d0 (b :: S) 0 p = run T n d0 (b :: S) (if b = true then 1 else 3) q := by
  subst hq
  rw [run_sp]
  exact run_open T n d0 b S p h

/-- What a value's reading says. -/
theorem val_sm (S : List Bool) (p e : Nat) (hs : sp T n p = p) (hp : p < n) (h34 : T p = 34) (h : sm T n 0 (p + 1) = some e) : run T n d0 S 3 p = run T n d0 S 4 e := by
  rw [run_value T n d0 S p (by rw [hs]; exact hp), hs]; unfold valB
  rw [if_neg (by omega), if_pos h34, h]
theorem val_smno (S : List Bool) (p : Nat) (hs : sp T n p = p) (hp : p < n) (h34 : T p = 34) (h : sm T n 0 (p + 1) = none) : run T n d0 S 3 p = none := by
  rw [run_value T n d0 S p (by rw [hs]; exact hp), hs]; unfold valB
  rw [if_neg (by omega), if_pos h34, h]
theorem val_nm (S : List Bool) (p e : Nat) (hs : sp T n p = p) (hp : p < n) (h : T p = 45 ∨ isDg (T p) = true) (hn : nm T n 0 p = some e) : run T n d0 S 3 p = run T n d0 S 4 e := by
  rw [run_value T n d0 S p (by rw [hs]; exact hp), hs]; unfold valB
  have hb : T p = 45 ∨ (48 ≤ T p ∧ T p ≤ 57) := by simpa [isDg] using h
  rw [if_neg (by omega), if_neg (by omega), if_pos h, hn]
theorem val_nmno (S : List Bool) (p : Nat) (hs : sp T n p = p) (hp : p < n) (h : T p = 45 ∨ isDg (T p) = true) (hn : nm T n 0 p = none) : run T n d0 S 3 p = none := by
  rw [run_value T n d0 S p (by rw [hs]; exact hp), hs]; unfold valB
  have hb : T p = 45 ∨ (48 ≤ T p ∧ T p ≤ 57) := by simpa [isDg] using h
  rw [if_neg (by omega), if_neg (by omega), if_pos h, hn]
theorem val_open (S : List Bool) (p : Nat) (hs : sp T n p = p) (hp : p < n) (h : T p = 123 ∨ T p = 91) : run T n d0 S 3 p = if 10000 < d0 + S.length then none else run T n d0 (decide (T p = 123) :: S) 0 (p + 1) := by
  rw [run_value T n d0 S p (by rw [hs]; exact hp), hs]; unfold valB
  rw [if_pos h]
  by_cases hd : 10000 < d0 + S.length
  · rw [if_pos hd, if_pos (by omega)]
  · rw [if_neg hd, if_neg (by omega)]
theorem val_lit (S : List Bool) (p : Nat) (hs : sp T n p = p) (hp : p < n) (h1 : ¬ (T p = 123 ∨ T p = 91)) (h2 : T p ≠ 34) (h3 : ¬ (T p = 45 ∨ isDg (T p) = true)) :
    run T n d0 S 3 p = if litL T n p = 0 then none else run T n d0 S 4 (p + litL T n p) := by
  rw [run_value T n d0 S p (by rw [hs]; exact hp), hs]; unfold valB
  rw [if_neg h1, if_neg h2, if_neg h3]
end Go.Proofs.Qxb6605207a
