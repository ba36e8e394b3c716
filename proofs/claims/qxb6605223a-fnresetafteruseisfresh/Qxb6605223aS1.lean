/-
  Seat b6605223a. WALK: slices.insertionSortOrdered[uint64] (31).
-/
import Derived.Test.Qxb6605223aS0
set_option linter.unusedVariables false
set_option linter.unusedSimpArgs false
namespace Go.Proofs.Qxb6605223a
open Go.RowKit

/-- All of [a, i] is in order but for what j may have below it. -/
def InsJ (D : Nat → Int) (a i j : Nat) : Prop := ∀ x y, a ≤ x → x < y → y ≤ i → y ≠ j → D x ≤ D y

theorem InsJ.start {D : Nat → Int} {a i : Nat} (h : Srt D a i) : InsJ D a i i := fun x y h1 h2 h3 h4 => h x y h1 h2 (by omega)
theorem InsJ.stop {D : Nat → Int} {a i j : Nat} (h : InsJ D a i j) (hj : j = a ∨ (a < j ∧ D (j - 1) ≤ D j)) : Srt D a (i + 1) := by
  intro x y h1 h2 h3
  by_cases e : y = j
  · subst e
    rcases hj with rfl | ⟨hj, hle⟩
    · omega
    · by_cases e2 : x = y - 1
      · rw [e2]; exact hle
      · have := h x (y - 1) h1 (by omega) (by omega) (by omega)
        omega
  · exact h x y h1 h2 (by omega) e
theorem InsJ.step {D : Nat → Int} {a i j : Nat} (h : InsJ D a i j) (ha : a < j) (hji : j ≤ i) (hlt : D j < D (j - 1)) : InsJ (swp D j (j - 1)) a i (j - 1) := by
  intro x y h1 h2 h3 h4
  by_cases ex : x = j
  · subst ex
    rw [swp_l, swp_o D x (x - 1) y (by omega) h4]
    have := h (x - 1) y (by omega) (by omega) h3 (by omega)
    exact this
  · by_cases ey : y = j
    · subst ey
      rw [swp_l]
      by_cases ex2 : x = y - 1
      · subst ex2
        rw [swp_r]
        omega
      · rw [swp_o D y (y - 1) x ex ex2]
        exact h x (y - 1) h1 (by omega) (by omega) (by omega)
    · rw [swp_o D j (j - 1) y ey h4]
      by_cases ex2 : x = j - 1
      · subst ex2
        rw [swp_r]
        exact h j y (by omega) (by omega) h3 ey
      · rw [swp_o D j (j - 1) x ex ex2]
        exact h x y h1 h2 h3 ey
theorem Srt.short (D : Nat → Int) (a b : Nat) (h : b ≤ a + 1) : Srt D a b := fun x y h1 h2 h3 => by omega

set_option maxRecDepth 100000 in
set_option maxHeartbeats 1000000 in
theorem insertion_any (g n c cp a b : Nat) (D : Nat → Int) (w : World) (h : Rw w g n c D) (hn : n ≤ 1048576) (hb : b ≤ n) (hab : a ≤ b) :
    Calls Try.prog 31 #[.slice (some ⟨g, 0, none⟩) n cp, .int .i64 a, .int .i64 b] w (SPost g n c D a b (fun D' => Srt D' a b) (.tuple #[]) w) := by
  have HD : Hid (Rw w g n c D) := h
  clear h
  go_enter Try.func31, Try.ntmps31
  go_wp2_with fail
  go_loopw [6, 7] (fun vi vj wr => ∃ (i : Nat) (D' : Nat → Int), vi = .int .i64 i ∧ a < i ∧ i ≤ n + 1 ∧ Hid (Rw wr g n c D') ∧ Hid (Same D D' a b) ∧ Hid (Srt D' a (min i b)) ∧ Hid (Fr g w wr)) (fun vi _ _ => n + 1 - (intOf vi).toNat)
  case atStart => exact ⟨a + 1, D, by go_num, by omega, by omega, HD, Same.refl _ _ _, Srt.short _ _ _ (by omega), Fr.refl _ _⟩
  case round =>
    obtain ⟨i, D1, rfl, hai, hin, HR, HS, HO, HF⟩ := hrel
    by_cases hib : i < b
    · go_wp2_with fail
      obtain ⟨w1, hw1⟩ : ∃ x, x = wr := ⟨wr, rfl⟩
      subst hw1
      go_loopw [7] (fun vj wr => ∃ (j : Nat) (D' : Nat → Int), vj = .int .i64 j ∧ a ≤ j ∧ j ≤ i ∧ Hid (Rw wr g n c D') ∧ Hid (Same D D' a b) ∧ Hid (InsJ D' a i j) ∧ Hid (Fr g w wr)) (fun vj _ => (intOf vj).toNat)
      case atStart => exact ⟨i, D1, rfl, by omega, by omega, HR, HS, by have := HO.out; rw [Nat.min_eq_left (by omega)] at this; exact InsJ.start this, HF⟩
      case round =>
        clear HR HS HO HF
        obtain ⟨j, D2, rfl, haj, hji, HR, HS, HO, HF⟩ := hrel
        by_cases hja : a < j
        · obtain ⟨k, rfl⟩ : ∃ k, j = k + 1 := ⟨j - 1, by omega⟩
          have hc1 := HR.out.cell (k + 1) (by omega)
          have hc2 := HR.out.cell k (by omega)
          have hf1 := HR.out.frozen (k + 1)
          have hf2 := HR.out.frozen k
          have d1 : decide ((a : Int) < (k : Int) + 1) = true := decide_eq_true (by omega)
          have d2 : decide (a < k + 1) = true := decide_eq_true (by omega)
          by_cases hls : D2 (k + 1) < D2 k
          · have cl := less_t hls
            have HO' : Hid (InsJ (swp D2 (k + 1) k) a i k) := InsJ.step HO.out (by omega) hji hls
            have HS' : Hid (Same D (swp D2 (k + 1) k) a b) := HS.out.trans (Same.swap D2 (k + 1) k (by omega) (by omega) (by omega) (by omega))
            clear hls HO HS
            go_wp2_with fail
            go_big_quiet (first | (go_at_call 37; exact Calls.quiet_of_same (cl _)) | fail)
            go_wp2_with fail
            go_big_region
            all_goals
              go_wp2_with fail
              go_roundw
              case rel => exact ⟨k, swp D2 (k + 1) k, by go_num, by omega, by omega, (HR.out.drewN _).swap (k + 1) k (by omega) (by omega), HS', HO', ((HF.out.drewN _).set _ _ _).set _ _ _⟩
              case measure => simp [intOf]
          · have cl := less_f hls
            have HO' : Hid (Srt D2 a (min (i + 1) b)) := by show Srt ..; rw [Nat.min_eq_left (by omega)]; exact InsJ.stop HO.out (.inr ⟨by omega, by simp; omega⟩)
            clear hls HO
            go_wp2_with fail
            go_big_quiet (first | (go_at_call 37; exact Calls.quiet_of_same (cl _)) | fail)
            go_wp2_with fail
            go_roundw
            case rel => exact ⟨i + 1, D2, by go_num, by omega, by omega, HR, HS, HO', HF.out.drewN _⟩
            case measure => simp [intOf]; omega
        · have d1 : decide ((a : Int) < (j : Int)) = false := decide_eq_false (by omega)
          have d2 : decide (a < j) = false := decide_eq_false (by omega)
          have HO' : Hid (Srt D2 a (min (i + 1) b)) := by show Srt ..; rw [Nat.min_eq_left (by omega)]; exact InsJ.stop HO.out (.inl (by omega))
          clear HO
          go_wp2_with fail
          go_big_quiet (fail)
          go_wp2_with fail
          go_roundw
          case rel => exact ⟨i + 1, D2, by go_num, by omega, by omega, HR, HS, HO', HF.out.drewN _⟩
          case measure => simp [intOf]; omega
    · have HO' : Hid (Srt D1 a b) := by have := HO.out; rw [Nat.min_eq_right (by omega)] at this; exact this
      go_wp2_with fail
      go_end0
      exact ⟨rfl, HF.out, D1, HR.out, HS.out, HO'.out⟩
end Go.Proofs.Qxb6605223a
