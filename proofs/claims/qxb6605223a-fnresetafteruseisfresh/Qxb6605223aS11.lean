/-
  Seat b6605223a. WALK: slices.Compact[[]uint64,uint64] (26); Sort and Compact of no element.
-/
import Derived.Test.Qxb6605223aS10
import Derived.Lib.SliceRun
set_option linter.unusedVariables false
set_option linter.unusedSimpArgs false
namespace Go.Proofs.Qxb6605223a
open Go.RowKit

/-- Strictly rising below m. -/
def Up (D : Nat → Int) (m : Nat) : Prop := ∀ x y, x < y → y < m → D x < D y
/-- The first m of E hold just the values of the first n of D. -/
def Vals (E D : Nat → Int) (m n : Nat) : Prop := (∀ i, i < m → ∃ j, j < n ∧ E i = D j) ∧ (∀ j, j < n → ∃ i, i < m ∧ D j = E i)

theorem Up.more {D : Nat → Int} {k : Nat} (h : Up D (k + 1)) (hlt : D k < D (k + 1)) : Up D (k + 1 + 1) := fun x y h1 h2 => by
  by_cases e : y = k + 1
  · subst e
    by_cases e2 : x = k
    · subst e2; exact hlt
    · have := h x k (by omega) (by omega); omega
  · exact h x y h1 (by omega)
theorem Vals.refl (D : Nat → Int) (n : Nat) : Vals D D n n := ⟨fun i h => ⟨i, h, rfl⟩, fun j h => ⟨j, h, rfl⟩⟩

/-- Compacting: the first i of E stand for the first j of D; from i on E is D. -/
def Cp (E D : Nat → Int) (i j : Nat) : Prop := Up E i ∧ Vals E D i j ∧ (∀ x, i ≤ x → E x = D x) ∧ 0 < i ∧ i < j ∧ E (i - 1) = D (j - 1)

theorem Cp.start {D : Nat → Int} {k : Nat} (h : Up D (k + 1)) (he : D (k + 1) = D k) : Cp D D (k + 1) (k + 2) := by
  refine ⟨h, ⟨fun i hi => ⟨i, by omega, rfl⟩, fun j hj => ?_⟩, fun x _ => rfl, by omega, by omega, by simpa using he.symm⟩
  by_cases e : j = k + 1
  · subst e; exact ⟨k, by omega, he⟩
  · exact ⟨j, by omega, rfl⟩
theorem Cp.skip {E D : Nat → Int} {i j : Nat} (h : Cp E D i j) (he : D j = D (j - 1)) : Cp E D i (j + 1) := by
  obtain ⟨h1, ⟨h2, h3⟩, h4, h5, h6, h7⟩ := h
  refine ⟨h1, ⟨fun x hx => ?_, fun x hx => ?_⟩, h4, h5, by omega, by rw [h7, ← he]; simp⟩
  · obtain ⟨y, hy, e⟩ := h2 x hx
    exact ⟨y, by omega, e⟩
  · by_cases e : x = j
    · subst e
      obtain ⟨y, hy, e'⟩ := h3 (x - 1) (by omega)
      exact ⟨y, hy, he.trans e'⟩
    · exact h3 x (by omega)
theorem Cp.take {E D : Nat → Int} {i j : Nat} (h : Cp E D i j) (hlt : D (j - 1) < D j) : Cp (fun k => if k = i then D j else E k) D (i + 1) (j + 1) := by
  obtain ⟨h1, ⟨h2, h3⟩, h4, h5, h6, h7⟩ := h
  refine ⟨fun x y hxy hy => ?_, ⟨fun x hx => ?_, fun x hx => ?_⟩, fun x hx => ?_, by omega, by omega, by simp⟩
  · by_cases e : y = i
    · subst e
      have : ¬ x = y := by omega
      simp only [if_neg this, if_true]
      by_cases e2 : x = y - 1
      · rw [e2, h7]; exact hlt
      · have := h1 x (y - 1) (by omega) (by omega); omega
    · have e3 : ¬ x = i := by omega
      simp only [if_neg e, if_neg e3]
      exact h1 x y hxy (by omega)
  · by_cases e : x = i
    · exact ⟨j, by omega, by simp [e]⟩
    · simp only [if_neg e]
      obtain ⟨y, hy, e'⟩ := h2 x (by omega)
      exact ⟨y, by omega, e'⟩
  · by_cases e : x = j
    · exact ⟨i, by omega, by simp [e]⟩
    · obtain ⟨y, hy, e'⟩ := h3 x (by omega)
      refine ⟨y, by omega, ?_⟩
      have : ¬ y = i := by omega
      simp only [if_neg this]
      exact e'
  · have : ¬ x = i := by omega
    simp only [if_neg this]
    exact h4 x (by omega)

def CoPost (g n c cp : Nat) (D : Nat → Int) (w : World) (e : Ending) (w' : World) : Prop :=
  ∃ (m : Nat) (E : Nat → Int), e = .returned (.slice (some ⟨g, 0, none⟩) m cp) ∧ m ≤ n ∧ Fr g w w' ∧ Rw w' g m c E ∧ Up E m ∧ Vals E D m n

theorem Rw.less {w : World} {g n c m : Nat} {D : Nat → Int} (h : Rw w g n c D) (hm : m ≤ n) : Rw w g m c D := by
  obtain ⟨cur, h1, h2, h3, h4⟩ := h
  exact ⟨cur, h1, h2, by omega, fun i hi => h4 i (by omega)⟩

/-- Behind 'clear(s[i:])'. -/
theorem Rw.cleared {w : World} {g n c : Nat} {D : Nat → Int} (h : Rw w g n c D) (i : Nat) : ∀ k o, i ≤ o → o + k ≤ n → Rw (w.setCells g o (List.replicate k (.int .u64 0))) g n c (fun x => if o ≤ x ∧ x < o + k then 0 else D x)
  | 0, o, h1, h2 => by
    refine Rw.congr (D := D) ?_ fun x hx => by rw [if_neg (by omega)]
    simpa [World.setCells] using h
  | k + 1, o, h1, h2 => by
    rw [List.replicate_succ]
    have h3 := (h.set o (by omega) 0)
    have h4 := Rw.cleared h3 i k (o + 1) (by omega) (by omega)
    refine Rw.congr h4 fun x hx => ?_
    by_cases e : x = o
    · subst e
      rw [if_pos (by omega), if_neg (by omega), if_pos rfl]
    · by_cases e2 : o + 1 ≤ x ∧ x < o + 1 + k
      · rw [if_pos (by omega), if_pos e2]
      · rw [if_neg (by omega), if_neg e2, if_neg e]
theorem Fr.setCells {g : Nat} {a : World} : ∀ (l : List Value) (o : Nat) (w : World), Fr g a w → Fr g a (w.setCells g o l)
  | [], o, w, h => by simpa [World.setCells] using h
  | v :: l, o, w, h => Fr.setCells l (o + 1) _ (h.set o none v)
theorem Try.zero64 (w : World) : (zeroValue 64).run Try.prog w = .ok (.int .u64 0) w := by simp [Try.zeroValue64]

set_option maxRecDepth 100000 in
set_option maxHeartbeats 2000000 in
theorem compact_any (g n c cp : Nat) (D : Nat → Int) (w : World) (h : Rw w g n c D) (hn : n ≤ 1048576) (hcp : n ≤ cp) (hs : Srt D 0 n) :
    Calls Try.prog 26 #[.slice (some ⟨g, 0, none⟩) n cp] w (CoPost g n c cp D w) := by
  have HD : Hid (Rw w g n c D) := h
  have HS : Hid (Srt D 0 n) := hs
  clear h hs
  by_cases h2 : n < 2
  · have h2' : (n : Int) < 2 := by omega
    go_enter Try.func26, Try.ntmps26
    go_wp2_with fail
    go_ret
    exact ⟨n, D, rfl, Nat.le_refl _, Fr.refl _ _, HD.out, fun x y h1 h2 => by omega, Vals.refl _ _⟩
  · have h2' : ¬ (n : Int) < 2 := by omega
    go_enter Try.func26, Try.ntmps26
    go_wp2_with fail
    go_loopw [3] (fun v wr => ∃ (k : Nat) (x : Int), v = .int .i64 x ∧ x = (k : Int) + 1 ∧ k + 1 ≤ n ∧ Hid (Rw wr g n c D) ∧ Hid (Up D (k + 1)) ∧ Hid (Fr g w wr)) (fun v _ => n - (intOf v).toNat)
    case atStart => exact ⟨0, 1, rfl, by omega, by omega, HD, fun x y h1 h2 => by omega, Fr.refl _ _⟩
    case round =>
      clear HD
      obtain ⟨k, x, rfl, hx, hkn, HR, HU, HF⟩ := hrel
      subst hx
      by_cases hk : k + 1 < n
      · have e0 : decide ((k : Int) + 1 < (n : Int)) = true := decide_eq_true (by omega)
        have e0' : decide (k + 1 < n) = true := decide_eq_true hk
        have hc1 := HR.out.cell (k + 1) hk
        have hc2 := HR.out.cell k (by omega)
        by_cases he : D (k + 1) = D k
        · have b1 : (D (k + 1) == D k) = true := by simp [he]
          have HC : Hid (Cp D D (k + 1) (k + 2)) := Cp.start HU.out he
          clear he HU
          have hne : ¬ n = k + 1 := by omega
          go_wp2_with fail
          go_big_quiet (fail)
          obtain ⟨w1, hw1⟩ : ∃ x, x = wr.drewN nq := ⟨_, rfl⟩
          rw [← hw1]
          have HR1 : Hid (Rw w1 g n c D) := by show Rw ..; rw [hw1]; exact HR.out
          have HF1 : Hid (Fr g w w1) := by show Fr ..; rw [hw1]; exact HF.out.drewN _
          clear hw1 HR HF hc1 hc2 b1
          go_wp2_with fail
          obtain ⟨M, hM⟩ : ∃ M, M = n - (k + 1) := ⟨_, rfl⟩
          rw [← hM]
          have hM1 : k + 1 + M ≤ n := by omega
          have hM2 : n ≤ k + 1 + M := by omega
          have hM3 : 0 < M := by omega
          clear hM
          go_loopw [3, 5] (fun v3 v5 wr => ∃ (i t : Nat) (x y : Int) (E : Nat → Int), v3 = .int .i64 x ∧ x = (i : Int) ∧ v5 = .int .i64 y ∧ y = (t : Int) + 1 ∧ t + 1 ≤ M ∧ Hid (Rw wr g n c E) ∧ Hid (Cp E D i (k + 2 + t)) ∧ Hid (Fr g w wr)) (fun _ v5 _ => M - (intOf v5).toNat)
          case atStart => exact ⟨k + 1, 0, _, _, D, rfl, by omega, rfl, by omega, by omega, HR1, HC, HF1⟩
          case round =>
            clear HR1 HC HF1
            obtain ⟨i, t, x, y, E, rfl, hx, rfl, hy, htM, HR, HC, HF⟩ := hrel
            subst hx
            subst hy
            have hij : i < k + 2 + t := HC.out.2.2.2.2.1
            have hi0 : 0 < i := HC.out.2.2.2.1
            by_cases ht : t + 1 < M
            · have e1 : decide ((t : Int) + 1 < (M : Int)) = true := decide_eq_true (by omega)
              have e1' : decide (t + 1 < M) = true := decide_eq_true ht
              have hE1 : E (k + 1 + (t + 1)) = D (k + 1 + (t + 1)) := HC.out.2.2.1 _ (by omega)
              have hE2 : E (k + 1 + t) = D (k + 1 + t) := HC.out.2.2.1 _ (by omega)
              have hc1 := HR.out.cell (k + 1 + (t + 1)) (by omega)
              have hc2 := HR.out.cell (k + 1 + t) (by omega)
              rw [hE1] at hc1
              rw [hE2] at hc2
              clear hE1 hE2
              by_cases he : D (k + 1 + (t + 1)) = D (k + 1 + t)
              · have b1 : (D (k + 1 + (t + 1)) != D (k + 1 + t)) = false := by simp [he]
                have HC' : Hid (Cp E D i (k + 2 + (t + 1))) := by
                  have := Cp.skip HC.out (by rw [show k + 2 + t = k + 1 + (t + 1) by omega, show k + 1 + (t + 1) - 1 = k + 1 + t by omega]; exact he)
                  exact this
                clear he HC
                go_wp2_with fail
                go_big_quiet (fail)
                go_wp2_with fail
                go_roundw
                case rel => exact ⟨i, t + 1, _, _, E, rfl, rfl, rfl, by omega, by omega, HR, HC', HF.out.drewN _⟩
                case measure => simp [intOf]; omega
              · have b1 : (D (k + 1 + (t + 1)) != D (k + 1 + t)) = true := by simp [he]
                have hlt : D (k + 1 + t) < D (k + 1 + (t + 1)) := by
                  have := HS.out (k + 1 + t) (k + 1 + (t + 1)) (by omega) (by omega) (by omega)
                  omega
                have HC' : Hid (Cp (fun x => if x = i then D (k + 1 + (t + 1)) else E x) D (i + 1) (k + 2 + (t + 1))) := by
                  have := Cp.take HC.out (by rw [show k + 2 + t = k + 1 + (t + 1) by omega, show k + 1 + (t + 1) - 1 = k + 1 + t by omega]; exact hlt)
                  rw [show k + 2 + t = k + 1 + (t + 1) by omega] at this
                  show Cp ..
                  rw [show k + 2 + (t + 1) = k + 1 + (t + 1) + 1 by omega]
                  exact this
                have hc3 := HR.out.cell i (by omega)
                have hf3 := HR.out.frozen i
                have HR' : Hid (∀ q, Rw ((wr.drewN q).setCell ⟨g, i, none⟩ (.int .u64 (D (k + 1 + (t + 1))))) g n c (fun x => if x = i then D (k + 1 + (t + 1)) else E x)) := fun q => (HR.out.drewN q).set i (by omega) _
                clear he HC hlt
                go_wp2_with fail
                go_big_quiet (fail)
                go_wp2_with fail
                go_roundw
                case rel => exact ⟨i + 1, t + 1, _, _, _, rfl, by omega, rfl, by omega, by omega, HR'.out _, HC', (HF.out.drewN _).set _ _ _⟩
                case measure => simp [intOf]; omega
            · have e1 : decide ((t : Int) + 1 < (M : Int)) = false := decide_eq_false (by omega)
              have e1' : decide (t + 1 < M) = false := decide_eq_false ht
              have hkt : k + 2 + t = n := by omega
              have HC' : Hid (Cp E D i n) := by rw [hkt] at HC; exact HC
              clear HC hkt
              have hin : i < n := by omega
              have hne2 : ¬ n = i := by omega
              have hcl := fun ty => Lib.run_clear_slice (P := Try.prog) wr 44 64 ty (.int .u64 0) Try.underlying44 Try.zero64 rfl rfl g i (n - i) (cp - i) (by omega) (fun j hj => by rw [HR.out.cell (i + j) (by omega)]; rfl) (fun j hj => HR.out.frozen (i + j))
              go_wp2_with fail
              go_ret
              exact ⟨i, E, rfl, by omega, Fr.setCells _ _ _ HF.out, ((Rw.cleared HR.out i (n - i) i (Nat.le_refl _) (by omega)).less (m := i) (by omega)).congr (fun x hx => by
                show E x = if _ then _ else _
                rw [if_neg (by omega)]), HC'.out.1, HC'.out.2.1⟩
        · have b1 : (D (k + 1) == D k) = false := by simp [he]
          have HU' : Hid (Up D (k + 1 + 1)) := Up.more HU.out (by have := HS.out k (k + 1) (by omega) (by omega) hk; omega)
          clear he HU
          go_wp2_with fail
          go_big_quiet (fail)
          go_wp2_with fail
          go_roundw
          case rel => exact ⟨k + 1, _, rfl, by omega, by omega, HR, HU', HF.out.drewN _⟩
          case measure => simp [intOf]; omega
      · have e0 : decide ((k : Int) + 1 < (n : Int)) = false := decide_eq_false (by omega)
        have e0' : decide (k + 1 < n) = false := decide_eq_false hk
        have hkn2 : k + 1 = n := by omega
        have HU' : Hid (Up D n) := by rw [hkn2] at HU; exact HU
        clear hkn2 HU
        go_wp2_with fail
        go_ret
        exact ⟨n, D, rfl, Nat.le_refl _, HF.out, HR.out, HU'.out, Vals.refl _ _⟩

/-- Sorting and compacting no element. -/
theorem insertion_nil (v : Option Addr) (c : Nat) (w : World) : Calls Try.prog 31 #[.slice v 0 c, .int .i64 0, .int .i64 0] w fun e w' => e = .returned (.tuple #[]) ∧ w' = w := by
  go_enter Try.func31, Try.ntmps31
  go_wp2_with fail
  go_loopw [6] (fun vi wr => vi = .int .i64 1 ∧ wr = w) (fun _ _ => 0)
  case atStart => exact ⟨rfl, rfl⟩
  case round =>
    obtain ⟨rfl, rfl⟩ := hrel
    go_wp2_with fail
    go_end0
    exact ⟨rfl, rfl⟩
set_option maxRecDepth 100000 in
theorem pdq_nil (v : Option Addr) (c l : Nat) (w : World) : Calls Try.prog 29 #[.slice v 0 c, .int .i64 0, .int .i64 0, .int .i64 l] w fun e w' => e = .returned (.tuple #[]) ∧ w' = w := by
  have cI := insertion_nil v c w
  go_enter Try.func29, Try.ntmps29
  go_wp2_with fail
  go_loopw [1, 2] (fun vi vj wr => vi = .int .i64 0 ∧ vj = .int .i64 0 ∧ wr = w) (fun _ _ _ => 0)
  case atStart => exact ⟨rfl, rfl, rfl⟩
  case round =>
    obtain ⟨rfl, rfl, hw⟩ := hrel
    obtain rfl := hw.symm
    go_wp2_with fail
    refine cI.mono ?_
    rintro e w2 ⟨rfl, hw2⟩
    obtain rfl := hw2.symm
    go_wp2_with fail
    refine bodyPost_ret (results_none rfl _ _ _) rfl ?_
    exact ⟨rfl, rfl⟩
theorem sort_nil (v : Option Addr) (c : Nat) (w : World) : Calls Try.prog 25 #[.slice v 0 c] w fun e w' => e = .returned (.tuple #[]) ∧ w' = w := by
  have cL := len_any 0 (by omega) w
  have cQ := fun l => pdq_nil v c l w
  go_enter Try.func25, Try.ntmps25
  go_wp2_with fail
  refine cL.mono ?_
  rintro e w2 ⟨⟨l, hl, rfl⟩, hw2⟩
  obtain rfl := hw2.symm
  go_wp2_with fail
  refine (cQ l).mono ?_
  rintro e w3 ⟨rfl, hw3⟩
  obtain rfl := hw3.symm
  go_wp2_with fail
  go_end0
  exact ⟨rfl, rfl⟩
theorem compact_nil (v : Option Addr) (c : Nat) (w : World) : Calls Try.prog 26 #[.slice v 0 c] w fun e w' => e = .returned (.slice v 0 c) ∧ w' = w := by
  go_enter Try.func26, Try.ntmps26
  go_wp2_with fail
  go_ret
  exact ⟨rfl, rfl⟩
end Go.Proofs.Qxb6605223a
