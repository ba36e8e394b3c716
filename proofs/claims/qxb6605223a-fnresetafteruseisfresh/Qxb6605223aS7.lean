/-
  Seat b6605223a. WALK: slices.partitionEqualOrdered[uint64] (38).
-/
import Derived.Test.Qxb6605223aS6
set_option linter.unusedVariables false
set_option linter.unusedSimpArgs false
namespace Go.Proofs.Qxb6605223a
open Go.RowKit

/-- Left of i at most p, right of j (= k - 1) more than p. -/
def PE (D : Nat → Int) (a b i k : Nat) (p : Int) : Prop := D a = p ∧ (∀ x, a < x → x < i → D x ≤ p) ∧ (∀ x, k ≤ x → x < b → p < D x)
def PEPost (g n c : Nat) (D : Nat → Int) (a b : Nat) (p : Int) (w : World) (e : Ending) (w' : World) : Prop :=
  ∃ m : Nat, e = .returned (.int .i64 m) ∧ a < m ∧ m ≤ b ∧ Fr g w w' ∧ ∃ D', Rw w' g n c D' ∧ Same D D' a b ∧ (∀ x, a ≤ x → x < m → D' x ≤ p) ∧ (∀ x, m ≤ x → x < b → p < D' x)

theorem PE.start {D : Nat → Int} {a b pv : Nat} (h1 : a ≤ pv) : PE (swp D a pv) a b (a + 1) b (D pv) := ⟨swp_l D a pv, fun x h1 h2 => by omega, fun x h1 h2 => by omega⟩
theorem PE.left {D : Nat → Int} {a b i k : Nat} {p : Int} (h : PE D a b i k p) (hx : D i ≤ p) : PE D a b (i + 1) k p :=
  ⟨h.1, fun x h1 h2 => by by_cases e : x = i
                          · subst e; exact hx
                          · exact h.2.1 x h1 (by omega), h.2.2⟩
theorem PE.right {D : Nat → Int} {a b i k : Nat} {p : Int} (h : PE D a b i (k + 1) p) (hx : p < D k) : PE D a b i k p :=
  ⟨h.1, h.2.1, fun x h1 h2 => by by_cases e : x = k
                                 · subst e; exact hx
                                 · exact h.2.2 x (by omega) h2⟩
theorem PE.swap {D : Nat → Int} {a b i k : Nat} {p : Int} (h : PE D a b i (k + 1) p) (hai : a < i) (hik : i ≤ k) (h1 : D k ≤ p) (h2 : p < D i) : PE (swp D i k) a b (i + 1) k p := by
  have hne : i ≠ k := by intro e; subst e; omega
  refine ⟨by rw [swp_o D i k a (by omega) (by omega)]; exact h.1, fun x h3 h4 => ?_, fun x h3 h4 => ?_⟩
  · by_cases e : x = i
    · subst e; rw [swp_l]; exact h1
    · rw [swp_o D i k x e (by omega)]; exact h.2.1 x h3 (by omega)
  · by_cases e : x = k
    · subst e; rw [swp_r]; exact h2
    · rw [swp_o D i k x (by omega) e]; exact h.2.2 x (by omega) h4

set_option maxRecDepth 100000 in
set_option maxHeartbeats 2000000 in
theorem partEq_any (g n c cp a b pv : Nat) (D : Nat → Int) (w : World) (h : Rw w g n c D) (hn : n ≤ 1048576) (hb : b ≤ n) (hap : a ≤ pv) (hpb : pv < b) :
    Calls Try.prog 38 #[.slice (some ⟨g, 0, none⟩) n cp, .int .i64 a, .int .i64 b, .int .i64 pv] w (PEPost g n c D a b (D pv) w) := by
  have HD : Hid (Rw w g n c D) := h
  have HF0 : Hid (Fr g w w) := Fr.refl _ _
  have HS0 : Hid (Same D D a b) := Same.refl _ _ _
  clear h
  have hc1 := HD.out.cell (a) (by omega)
  have hf1 := HD.out.frozen (a)
  have hc2 := HD.out.cell (pv) (by omega)
  have hf2 := HD.out.frozen (pv)
  have hs1 : (w.setCell ⟨g, a, none⟩ (.int .u64 (D (pv)))).drew.cell? ⟨g, pv, none⟩ = _ := (HD.out.set (a) (by omega) (D (pv))).cell (pv) (by omega)
  have hs2 : (w.setCell ⟨g, a, none⟩ (.int .u64 (D (pv)))).drew.frozen? ⟨g, pv, none⟩ = false := (HD.out.set (a) (by omega) (D (pv))).frozen (pv)
  have hs3 : (w.setCell ⟨g, pv, none⟩ (.int .u64 (D (a)))).drew.cell? ⟨g, a, none⟩ = _ := (HD.out.set (pv) (by omega) (D (a))).cell (a) (by omega)
  have hs4 : (w.setCell ⟨g, pv, none⟩ (.int .u64 (D (a)))).drew.frozen? ⟨g, a, none⟩ = false := (HD.out.set (pv) (by omega) (D (a))).frozen (a)
  have HSs : Hid (Same D (swp D (a) (pv)) a b) := HS0.out.trans (Same.swap D (a) (pv) (by omega) (by omega) (by omega) (by omega))
  have HP0 : Hid (PE (swp D a pv) a b (a + 1) b (D pv)) := PE.start hap
  obtain ⟨P, hP⟩ : ∃ P, P = D pv := ⟨_, rfl⟩
  have HP1 : Hid (PE (swp D a pv) a b (a + 1) b P) := by show PE ..; rw [hP]; exact HP0.out
  have hPP : Hid (P = D pv) := hP
  clear HP0 HS0 hP
  go_enter Try.func38, Try.ntmps38
  go_wp2_with fail
  go_big_region
  all_goals
    obtain ⟨w1, hww1⟩ : ∃ x, x = ((w.setCell ⟨g, a, none⟩ (.int .u64 (D (pv)))).setCell ⟨g, pv, none⟩ (.int .u64 (D (a)))).drew := ⟨_, rfl⟩
    rw [← hww1]
    have HRw1 : Hid (Rw w1 g n c (swp D (a) (pv))) := by show Rw ..; rw [hww1]; exact HD.out.swap (a) (pv) (by omega) (by omega)
    have HFw1 : Hid (Fr g w w1) := by show Fr ..; rw [hww1]; exact ((HF0.out.set _ _ _).set _ _ _).drew
    clear hww1 hc1 hf1 hc2 hf2 hs1 hs2 hs3 hs4 HD HF0
    go_wp2_with fail
    go_loopw [9, 10] (fun vi vj wr => ∃ (i k : Nat) (y : Int) (D' : Nat → Int), vi = .int .i64 i ∧ vj = .int .i64 y ∧ y = (k : Int) - 1 ∧ a < i ∧ i ≤ b ∧ a < k ∧ k ≤ b ∧ Hid (Rw wr g n c D') ∧ Hid (Same D D' a b) ∧ Hid (PE D' a b i k P) ∧ Hid (Fr g w wr)) (fun vi _ _ => b - (intOf vi).toNat)
    case atStart => exact ⟨a + 1, b, _, _, by go_num, rfl, by omega, by omega, by omega, by omega, by omega, HRw1, HSs, HP1, HFw1⟩
    case round =>
      clear HRw1 HFw1 HSs HP1
      clear w1
      obtain ⟨i0, k0, y0, D0, rfl, rfl, hy0, hai0, hib0, hak0, hkb0, HR0, HS0, HP0, HF0⟩ := hrel
      have HY0 : Hid (y0 = (k0 : Int) - 1) := hy0
      have hy1 : y0 + 1 ≤ (k0 : Int) := by omega
      have hy2 : (k0 : Int) ≤ y0 + 1 := by omega
      clear hy0
      obtain ⟨w0, hw0⟩ : ∃ x, x = wr := ⟨wr, rfl⟩
      subst hw0
      go_wp2_with fail
      go_loopw [9] (fun vi wr => ∃ i : Nat, vi = .int .i64 i ∧ i0 ≤ i ∧ i ≤ b ∧ Hid (Rw wr g n c D0) ∧ Hid (PE D0 a b i k0 P) ∧ Hid (Fr g w wr)) (fun vi _ => b - (intOf vi).toNat)
      case atStart => exact ⟨i0, rfl, Nat.le_refl _, hib0, HR0, HP0, HF0⟩
      case round =>
        clear HR0 HF0 HP0
        obtain ⟨i, rfl, hii, hib, HR, HP, HF⟩ := hrel
        have hai : a < i := by omega
        by_cases hle : (i : Int) ≤ y0
        · have hik : i < k0 := by omega
          have e1 : decide ((i : Int) ≤ y0) = true := decide_eq_true hle
          have gc1 := HR.out.cell a (by omega)
          have gc2 := HR.out.cell i (by omega)
          by_cases hl : D0 a < D0 i
          · have cl := less_t hl
            have HX : Hid (k0 ≤ i ∨ P < D0 i) := .inr (by have := HP.out.1; omega)
            clear hl
            go_wp2_with fail
            go_big_quiet (first | (go_at_call 37; exact Calls.quiet_of_same (cl _)) | fail)
            obtain ⟨w4, hww4⟩ : ∃ x, x = wr.drewN nq := ⟨_, rfl⟩
            rw [← hww4]
            have HRw4 : Hid (Rw w4 g n c D0) := by show Rw ..; rw [hww4]; exact HR.out
            have HFw4 : Hid (Fr g w w4) := by show Fr ..; rw [hww4]; exact HF.out.drewN _
            clear hww4 HR HF gc1 gc2 e1
            go_wp2_with fail
            go_loopw [10] (fun vj wr => ∃ (k : Nat) (y : Int), vj = .int .i64 y ∧ y = (k : Int) - 1 ∧ a < k ∧ k ≤ k0 ∧ Hid (Rw wr g n c D0) ∧ Hid (PE D0 a b i k P) ∧ Hid (Fr g w wr)) (fun vj _ => (intOf vj + 1).toNat)
            case atStart => exact ⟨k0, y0, rfl, HY0.out, hak0, Nat.le_refl _, HRw4, HP, HFw4⟩
            case round =>
              clear HRw4 HFw4 HP
              obtain ⟨k, y, rfl, hy, hak, hkk, HR, HP, HF⟩ := hrel
              by_cases hle2 : (i : Int) ≤ y
              · obtain ⟨j, hj⟩ : ∃ j, k = j + 1 := ⟨k - 1, by omega⟩
                subst hj
                obtain rfl : y = (j : Int) := by omega
                have e1 : decide ((i : Int) ≤ (j : Int)) = true := decide_eq_true hle2
                have e2 : decide (i ≤ j) = true := decide_eq_true (by omega)
                have hij : i ≤ j := by omega
                have gc1 := HR.out.cell a (by omega)
                have gc2 := HR.out.cell j (by omega)
                by_cases hl2 : D0 a < D0 j
                · have cl2 := less_t hl2
                  have HP' : Hid (PE D0 a b i j P) := PE.right HP.out (by have := HP.out.1; omega)
                  clear hl2 HP hy
                  go_wp2_with fail
                  go_big_quiet (first | (go_at_call 37; exact Calls.quiet_of_same (cl2 _)) | fail)
                  go_wp2_with fail
                  go_roundw
                  case rel => exact ⟨j, (j : Int) - 1, rfl, by omega, by omega, by omega, HR, HP', HF.out.drewN _⟩
                  case measure => simp [intOf]
                · have cl2 := less_f hl2
                  have HP' : Hid (PE (swp D0 i j) a b (i + 1) j P) := PE.swap HP.out hai hij (by have := HP.out.1; omega) (by have := HX.out; omega)
                  clear hl2 HP hy
                  go_wp2_with fail
                  go_big_quiet (first | (go_at_call 37; exact Calls.quiet_of_same (cl2 _)) | fail)
                  obtain ⟨w5, hww5⟩ : ∃ x, x = wr.drewN nq := ⟨_, rfl⟩
                  rw [← hww5]
                  have HRw5 : Hid (Rw w5 g n c D0) := by show Rw ..; rw [hww5]; exact HR.out
                  have HFw5 : Hid (Fr g w w5) := by show Fr ..; rw [hww5]; exact HF.out.drewN _
                  clear hww5 HR HF gc1 gc2
                  have hc1 := HRw5.out.cell (i) (by omega)
                  have hf1 := HRw5.out.frozen (i)
                  have hc2 := HRw5.out.cell (j) (by omega)
                  have hf2 := HRw5.out.frozen (j)
                  have hs1 : (w5.setCell ⟨g, i, none⟩ (.int .u64 (D0 (j)))).drew.cell? ⟨g, j, none⟩ = _ := (HRw5.out.set (i) (by omega) (D0 (j))).cell (j) (by omega)
                  have hs2 : (w5.setCell ⟨g, i, none⟩ (.int .u64 (D0 (j)))).drew.frozen? ⟨g, j, none⟩ = false := (HRw5.out.set (i) (by omega) (D0 (j))).frozen (j)
                  have hs3 : (w5.setCell ⟨g, j, none⟩ (.int .u64 (D0 (i)))).drew.cell? ⟨g, i, none⟩ = _ := (HRw5.out.set (j) (by omega) (D0 (i))).cell (i) (by omega)
                  have hs4 : (w5.setCell ⟨g, j, none⟩ (.int .u64 (D0 (i)))).drew.frozen? ⟨g, i, none⟩ = false := (HRw5.out.set (j) (by omega) (D0 (i))).frozen (i)
                  have HSs : Hid (Same D (swp D0 (i) (j)) a b) := HS0.out.trans (Same.swap D0 (i) (j) (by omega) (by omega) (by omega) (by omega))
                  go_wp2_with fail
                  go_big_region
                  all_goals
                    obtain ⟨w6, hww6⟩ : ∃ x, x = ((w5.setCell ⟨g, i, none⟩ (.int .u64 (D0 (j)))).setCell ⟨g, j, none⟩ (.int .u64 (D0 (i)))).drew := ⟨_, rfl⟩
                    rw [← hww6]
                    have HRw6 : Hid (Rw w6 g n c (swp D0 (i) (j))) := by show Rw ..; rw [hww6]; exact HRw5.out.swap (i) (j) (by omega) (by omega)
                    have HFw6 : Hid (Fr g w w6) := by show Fr ..; rw [hww6]; exact ((HFw5.out.set _ _ _).set _ _ _).drew
                    clear hww6 hc1 hf1 hc2 hf2 hs1 hs2 hs3 hs4 HRw5 HFw5
                    go_wp2_with fail
                    go_roundw
                    case rel => exact ⟨i + 1, j, (j : Int) - 1, _, by go_num, rfl, by omega, by omega, by omega, by omega, by omega, HRw6, HSs, HP', HFw6⟩
                    case measure => simp [intOf]; omega
              · have e1 : decide ((i : Int) ≤ y) = false := decide_eq_false hle2
                have hgt : y < (i : Int) := by omega
                have e3 : decide (y < (i : Int)) = true := decide_eq_true hgt
                have HE : Hid ((∀ x, a ≤ x → x < i → D0 x ≤ P) ∧ (∀ x, i ≤ x → x < b → P < D0 x)) := by
                  refine ⟨fun x h1 h2 => ?_, fun x h1 h2 => HP.out.2.2 x (by omega) h2⟩
                  by_cases ex : x = a
                  · subst ex; exact Int.le_of_eq HP.out.1
                  · exact HP.out.2.1 x (by omega) h2
                clear HP hy
                go_wp2_with fail
                go_big_quiet (fail)
                go_wp2_with fail
                go_ret
                exact ⟨i, rfl, hai, hib, HF.out.drewN _, D0, HR.out, HS0.out, by rw [← hPP.out]; exact HE.out.1, by rw [← hPP.out]; exact HE.out.2⟩
          · have cl := less_f hl
            have HP' : Hid (PE D0 a b (i + 1) k0 P) := PE.left HP.out (by have := HP.out.1; omega)
            clear hl HP
            go_wp2_with fail
            go_big_quiet (first | (go_at_call 37; exact Calls.quiet_of_same (cl _)) | fail)
            go_wp2_with fail
            go_roundw
            case rel => exact ⟨i + 1, by go_num, by omega, by omega, HR, HP', HF.out.drewN _⟩
            case measure => simp [intOf]; omega
        · have e1 : decide ((i : Int) ≤ y0) = false := decide_eq_false hle
          have HX : Hid (k0 ≤ i ∨ P < D0 i) := .inl (by omega)
          go_wp2_with fail
          go_big_quiet (fail)
          obtain ⟨w4, hww4⟩ : ∃ x, x = wr.drewN nq := ⟨_, rfl⟩
          rw [← hww4]
          have HRw4 : Hid (Rw w4 g n c D0) := by show Rw ..; rw [hww4]; exact HR.out
          have HFw4 : Hid (Fr g w w4) := by show Fr ..; rw [hww4]; exact HF.out.drewN _
          clear hww4 HR HF e1
          go_wp2_with fail
          go_loopw [10] (fun vj wr => ∃ (k : Nat) (y : Int), vj = .int .i64 y ∧ y = (k : Int) - 1 ∧ a < k ∧ k ≤ k0 ∧ Hid (Rw wr g n c D0) ∧ Hid (PE D0 a b i k P) ∧ Hid (Fr g w wr)) (fun vj _ => (intOf vj + 1).toNat)
          case atStart => exact ⟨k0, y0, rfl, HY0.out, hak0, Nat.le_refl _, HRw4, HP, HFw4⟩
          case round =>
            clear HRw4 HFw4 HP
            obtain ⟨k, y, rfl, hy, hak, hkk, HR, HP, HF⟩ := hrel
            by_cases hle2 : (i : Int) ≤ y
            · exfalso
              omega
            · have e1 : decide ((i : Int) ≤ y) = false := decide_eq_false hle2
              have hgt : y < (i : Int) := by omega
              have e3 : decide (y < (i : Int)) = true := decide_eq_true hgt
              have HE : Hid ((∀ x, a ≤ x → x < i → D0 x ≤ P) ∧ (∀ x, i ≤ x → x < b → P < D0 x)) := by
                refine ⟨fun x h1 h2 => ?_, fun x h1 h2 => HP.out.2.2 x (by omega) h2⟩
                by_cases ex : x = a
                · subst ex; exact Int.le_of_eq HP.out.1
                · exact HP.out.2.1 x (by omega) h2
              clear HP hy
              go_wp2_with fail
              go_big_quiet (fail)
              go_wp2_with fail
              go_ret
              exact ⟨i, rfl, hai, hib, HF.out.drewN _, D0, HR.out, HS0.out, by rw [← hPP.out]; exact HE.out.1, by rw [← hPP.out]; exact HE.out.2⟩
end Go.Proofs.Qxb6605223a
