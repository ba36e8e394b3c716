/-
  Seat b6605195a. THE TWO WORDS OF THE BITMAP: a word is told by its bits.
-/
import Derived.Test.Qxb6605195aBase
import Derived.Laws.BitsAllLaws
set_option linter.unusedVariables false
namespace Go.Proofs.Qxb6605195a
open Go.RowKit

/-- Word j of the bitmap of S: bit i is set just where j * 64 + i is in S. -/
def Word (S : Nat → Prop) (j : Nat) (A : Int) : Prop := ∃ a : Nat, A = a ∧ ∀ i, a.testBit i = true ↔ (i < 64 ∧ S (j * 64 + i))

theorem wrap_pow (m : Nat) (h : m < 64) : IntKind.u64.wrap ((2 : Int) ^ m) = ((2 ^ m : Nat) : Int) := by
  have h1 : 2 ^ m < 2 ^ 64 := Nat.pow_lt_pow_right (by omega) h
  have h2 : ((2 : Int) ^ m) = ((2 ^ m : Nat) : Int) := by simp
  rw [h2]
  generalize 2 ^ m = x at h1 ⊢
  simp only [IntKind.wrap, IntKind.bits, IntKind.signed]
  simp
  omega

theorem Word.lt {S : Nat → Prop} {j a : Nat} (h : ∀ i, a.testBit i = true ↔ (i < 64 ∧ S (j * 64 + i))) : a < 18446744073709551616 := by
  have : a < 2 ^ 64 := by
    apply Nat.lt_pow_two_of_testBit
    intro i hi
    rcases hb : a.testBit i with _ | _
    · rfl
    · have := ((h i).1 hb).1; omega
  simpa using this

theorem Word.set {S : Nat → Prop} {j c : Nat} {A : Int} (h : Word S j A) (hc : c / 64 = j) : Word (fun x => S x ∨ x = c) j (bits .or .u64 A (IntKind.u64.wrap ((2 : Int) ^ (c % 64)))) := by
  obtain ⟨a, rfl, ha⟩ := h
  have hl := Word.lt ha
  have hp : 2 ^ (c % 64) < 18446744073709551616 := by
    have := Nat.pow_lt_pow_right (a := 2) (by omega) (show c % 64 < 64 by omega)
    simpa using this
  refine ⟨a ||| 2 ^ (c % 64), ?_, fun i => ?_⟩
  · rw [wrap_pow _ (by omega), u64_or_nat a _ hl hp]
  · rw [Nat.testBit_or, Bool.or_eq_true, ha, Nat.testBit_two_pow]
    simp only [decide_eq_true_eq]
    constructor
    · rintro (⟨h1, h2⟩ | h1)
      · exact ⟨h1, .inl h2⟩
      · exact ⟨by omega, .inr (by omega)⟩
    · rintro ⟨h1, h2 | h2⟩
      · exact .inl ⟨h1, h2⟩
      · exact .inr (by omega)

theorem Word.other {S : Nat → Prop} {j c : Nat} {A : Int} (h : Word S j A) (hc : c / 64 ≠ j) : Word (fun x => S x ∨ x = c) j A := by
  obtain ⟨a, rfl, ha⟩ := h
  refine ⟨a, rfl, fun i => ?_⟩
  rw [ha]
  constructor
  · rintro ⟨h1, h2⟩
    exact ⟨h1, .inl h2⟩
  · rintro ⟨h1, h2 | h2⟩
    · exact ⟨h1, h2⟩
    · omega

theorem Word.congr {S T : Nat → Prop} {j : Nat} {A : Int} (h : Word S j A) (hj : j < 2) (e : ∀ x, x < 128 → (S x ↔ T x)) : Word T j A := by
  obtain ⟨a, rfl, ha⟩ := h
  refine ⟨a, rfl, fun i => ?_⟩
  rw [ha]
  constructor
  · rintro ⟨h1, h2⟩
    exact ⟨h1, (e _ (by omega)).1 h2⟩
  · rintro ⟨h1, h2⟩
    exact ⟨h1, (e _ (by omega)).2 h2⟩

theorem Word.unique {S : Nat → Prop} {j : Nat} {A B : Int} (h : Word S j A) (h' : Word S j B) : A = B := by
  obtain ⟨a, rfl, ha⟩ := h
  obtain ⟨b, rfl, hb⟩ := h'
  have : a = b := by
    apply Nat.eq_of_testBit_eq
    intro i
    rw [Bool.eq_iff_iff, ha, hb]
  rw [this]

theorem Word.zero (j : Nat) : Word (fun _ => False) j 0 := ⟨0, rfl, fun i => by simp⟩

/-- Both words. -/
def Words (S : Nat → Prop) (A : Nat → Int) : Prop := Word S 0 (A 0) ∧ Word S 1 (A 1)

/-- A bit set. -/
def setBit (A : Nat → Int) (c : Nat) : Nat → Int := fun j => if j = c / 64 then bits .or .u64 (A (c / 64)) (IntKind.u64.wrap ((2 : Int) ^ (c % 64))) else A j

theorem Words.set {S : Nat → Prop} {A : Nat → Int} (h : Words S A) (c : Nat) (hc : c < 128) : Words (fun x => S x ∨ x = c) (setBit A c) := by
  unfold setBit
  rcases (show c / 64 = 0 ∨ c / 64 = 1 by omega) with e | e
  · exact ⟨by show Word _ _ (if _ then _ else _); rw [if_pos e.symm, e]; exact h.1.set e, by show Word _ _ (if _ then _ else _); rw [if_neg (by omega)]; exact h.2.other (by omega)⟩
  · exact ⟨by show Word _ _ (if _ then _ else _); rw [if_neg (by omega)]; exact h.1.other (by omega), by show Word _ _ (if _ then _ else _); rw [if_pos e.symm, e]; exact h.2.set e⟩

theorem Words.congr {S T : Nat → Prop} {A : Nat → Int} (h : Words S A) (e : ∀ x, x < 128 → (S x ↔ T x)) : Words T A := ⟨h.1.congr (by omega) e, h.2.congr (by omega) e⟩

theorem setBit_cells (A : Nat → Int) (c : Nat) (hc : c < 128) :
    (#[Value.int .u64 (A 0), .int .u64 (A 1)]).setIfInBounds (c / 64) (.int .u64 (bits .or .u64 (A (c / 64)) (IntKind.u64.wrap ((2 : Int) ^ (c % 64))))) = #[Value.int .u64 (setBit A c 0), .int .u64 (setBit A c 1)] := by
  unfold setBit
  rcases (show c / 64 = 0 ∨ c / 64 = 1 by omega) with e | e <;> rw [e] <;> simp

end Go.Proofs.Qxb6605195a
