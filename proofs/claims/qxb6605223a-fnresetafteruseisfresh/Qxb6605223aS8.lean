/-
  Seat b6605223a. WALK: slices.partitionOrdered[uint64] (39).
-/
import Derived.Test.Qxb6605223aS7
set_option linter.unusedVariables false
set_option linter.unusedSimpArgs false
namespace Go.Proofs.Qxb6605223a
open Go.RowKit

/-- Left of i less than p, right of j (= k - 1) at least p. -/
def PT (D : Nat → Int) (a b i k : Nat) (p : Int) : Prop := D a = p ∧ (∀ x, a < x → x < i → D x < p) ∧ (∀ x, k ≤ x → x < b → p ≤ D x)
def PTd (D : Nat → Int) (a b m : Nat) (p : Int) : Prop := D m = p ∧ (∀ x, a ≤ x → x < m → D x < p) ∧ (∀ x, m < x → x < b → p ≤ D x)
def PTPost (g n c : Nat) (D : Nat → Int) (a b : Nat) (p : Int) (w : World) (e : Ending) (w' : World) : Prop :=
  ∃ (m : Nat) (f : Bool), e = .returned (.tuple #[.int .i64 m, .bool f]) ∧ a ≤ m ∧ m < b ∧ Fr g w w' ∧ ∃ D', Rw w' g n c D' ∧ Same D D' a b ∧ PTd D' a b m p

theorem PT.start {D : Nat → Int} {a b pv : Nat} (h1 : a ≤ pv) : PT (swp D a pv) a b (a + 1) b (D pv) := ⟨swp_l D a pv, fun x h1 h2 => by omega, fun x h1 h2 => by omega⟩
theorem PT.left {D : Nat → Int} {a b i k : Nat} {p : Int} (h : PT D a b i k p) (hx : D i < p) : PT D a b (i + 1) k p :=
  ⟨h.1, fun x h1 h2 => by by_cases e : x = i
                          · subst e; exact hx
                          · exact h.2.1 x h1 (by omega), h.2.2⟩
theorem PT.right {D : Nat → Int} {a b i k : Nat} {p : Int} (h : PT D a b i (k + 1) p) (hx : p ≤ D k) : PT D a b i k p :=
  ⟨h.1, h.2.1, fun x h1 h2 => by by_cases e : x = k
                                 · subst e; exact hx
                                 · exact h.2.2 x (by omega) h2⟩
theorem PT.swap {D : Nat → Int} {a b i k : Nat} {p : Int} (h : PT D a b i (k + 1) p) (hai : a < i) (hik : i ≤ k) (h1 : D k < p) (h2 : p ≤ D i) : PT (swp D i k) a b (i + 1) k p := by
  have hne : i ≠ k := by intro e; subst e; omega
  refine ⟨by rw [swp_o D i k a (by omega) (by omega)]; exact h.1, fun x h3 h4 => ?_, fun x h3 h4 => ?_⟩
  · by_cases e : x = i
    · subst e; rw [swp_l]; exact h1
    · rw [swp_o D i k x e (by omega)]; exact h.2.1 x h3 (by omega)
  · by_cases e : x = k
    · subst e; rw [swp_r]; exact h2
    · rw [swp_o D i k x (by omega) e]; exact h.2.2 x (by omega) h4
theorem PT.fin {D : Nat → Int} {a b i j : Nat} {p : Int} (h : PT D a b i (j + 1) p) (hji : j < i) (haj : a ≤ j) (hjb : j < b) : PTd (swp D j a) a b j p := by
  refine ⟨by rw [swp_l]; exact h.1, fun x h1 h2 => ?_, fun x h1 h2 => ?_⟩
  · by_cases e : x = a
    · subst e; rw [swp_r]; exact h.2.1 j h2 hji
    · rw [swp_o D j a x (by omega) e]; exact h.2.1 x (by omega) (by omega)
  · rw [swp_o D j a x (by omega) (by omega)]; exact h.2.2 x (by omega) h2

set_option maxRecDepth 100000 in
set_option maxHeartbeats 4000000 in
theorem part_any (g n c cp a b pv : Nat) (D : Nat → Int) (w : World) (h : Rw w g n c D) (hn : n ≤ 1048576) (hb : b ≤ n) (hap : a ≤ pv) (hpb : pv < b) :
    Calls Try.prog 39 #[.slice (some ⟨g, 0, none⟩) n cp, .int .i64 a, .int .i64 b, .int .i64 pv] w (PTPost g n c D a b (D pv) w) := by
  have HD : Hid (Rw w g n c D) := h
  have HFz : Hid (Fr g w w) := Fr.refl _ _
  have HSz : Hid (Same D D a b) := Same.refl _ _ _
  clear h
  have hc1 := HD.out.cell (a) (by omega)
  have hf1 := HD.out.frozen (a)
  have hc2 := HD.out.cell (pv) (by omega)
  have hf2 := HD.out.frozen (pv)
  have hs1 : (w.setCell ⟨g, a, none⟩ (.int .u64 (D (pv)))).drew.cell? ⟨g, pv, none⟩ = _ := (HD.out.set (a) (by omega) (D (pv))).cell (pv) (by omega)
  have hs2 : (w.setCell ⟨g, a, none⟩ (.int .u64 (D (pv)))).drew.frozen? ⟨g, pv, none⟩ = false := (HD.out.set (a) (by omega) (D (pv))).frozen (pv)
  have hs3 : (w.setCell ⟨g, pv, none⟩ (.int .u64 (D (a)))).drew.cell? ⟨g, a, none⟩ = _ := (HD.out.set (pv) (by omega) (D (a))).cell (a) (by omega)
  have hs4 : (w.setCell ⟨g, pv, none⟩ (.int .u64 (D (a)))).drew.frozen? ⟨g, a, none⟩ = false := (HD.out.set (pv) (by omega) (D (a))).frozen (a)
  have HSs : Hid (Same D (swp D (a) (pv)) a b) := HSz.out.trans (Same.swap D (a) (pv) (by omega) (by omega) (by omega) (by omega))
  obtain ⟨P, hP⟩ : ∃ P, P = D pv := ⟨_, rfl⟩
  have HPz : Hid (PT (swp D a pv) a b (a + 1) b P) := by show PT ..; rw [hP]; exact PT.start hap
  have hPP : Hid (P = D pv) := hP
  clear HSz hP
  go_enter Try.func39, Try.ntmps39
  go_wp2_with fail
  go_big_region
  all_goals
    obtain ⟨w1, hww1⟩ : ∃ x, x = ((w.setCell ⟨g, a, none⟩ (.int .u64 (D (pv)))).setCell ⟨g, pv, none⟩ (.int .u64 (D (a)))).drew := ⟨_, rfl⟩
    rw [← hww1]
    have HRw1 : Hid (Rw w1 g n c (swp D (a) (pv))) := by show Rw ..; rw [hww1]; exact HD.out.swap (a) (pv) (by omega) (by omega)
    have HFw1 : Hid (Fr g w w1) := by show Fr ..; rw [hww1]; exact ((HFz.out.set _ _ _).set _ _ _).drew
    clear hww1 hc1 hf1 hc2 hf2 hs1 hs2 hs3 hs4 HD HFz
    obtain ⟨D0, hD0⟩ : ∃ D0, D0 = swp D a pv := ⟨_, rfl⟩
    rw [← hD0] at HPz HRw1 HSs
    have HR0 := HRw1
    have HF0 := HFw1
    have HS0 := HSs
    have HP0 := HPz
    clear hD0 HRw1 HFw1 HSs HPz
    go_wp2_with fail
    obtain ⟨y0, HY⟩ : ∃ y0, y0 = (b : Int) - 1 := ⟨_, rfl⟩
    rw [← HY]
    have HY0 : Hid (y0 = (b : Int) - 1) := HY
    have hy1 : y0 + 1 ≤ (b : Int) := by omega
    have hy2 : (b : Int) ≤ y0 + 1 := by omega
    have hib0 : a + 1 ≤ b := by omega
    have hak0 : a < b := by omega
    clear HY
    go_wp2_with fail
    go_loopw [10] (fun vi wr => ∃ i : Nat, vi = .int .i64 i ∧ (a + 1) ≤ i ∧ i ≤ b ∧ Hid (Rw wr g n c D0) ∧ Hid (PT D0 a b i b P) ∧ Hid (Fr g w wr)) (fun vi _ => b - (intOf vi).toNat)
    case atStart => exact ⟨a + 1, by go_num, Nat.le_refl _, hib0, HR0, HP0, HF0⟩
    case round =>
      clear HR0 HF0 HP0
      obtain ⟨i, rfl, hii, hib, HR, HP, HF⟩ := hrel
      have hai : a < i := by omega
      by_cases hle : (i : Int) ≤ y0
      · have hik : i < b := by omega
        have e1 : decide ((i : Int) ≤ y0) = true := decide_eq_true hle
        have gc1 := HR.out.cell a (by omega)
        have gc2 := HR.out.cell i (by omega)
        by_cases hl : D0 i < D0 a
        · have cl := less_t hl
          have HP' : Hid (PT D0 a b (i + 1) b P) := PT.left HP.out (by have := HP.out.1; omega)
          clear hl HP
          go_wp2_with fail
          go_big_quiet (first | (go_at_call 37; exact Calls.quiet_of_same (cl _)) | fail)
          go_wp2_with fail
          go_roundw
          case rel => exact ⟨i + 1, by go_num, by omega, by omega, HR, HP', HF.out.drewN _⟩
          case measure => simp [intOf]; omega
        · have cl := less_f hl
          have HX : Hid (b ≤ i ∨ P ≤ D0 i) := .inr (by have := HP.out.1; omega)
          clear hl
          go_wp2_with fail
          go_big_quiet (first | (go_at_call 37; exact Calls.quiet_of_same (cl _)) | fail)
          obtain ⟨w4, hww4⟩ : ∃ x, x = wr.drewN nq := ⟨_, rfl⟩
          rw [← hww4]
          have HRw4 : Hid (Rw w4 g n c D0) := by show Rw ..; rw [hww4]; exact HR.out
          have HFw4 : Hid (Fr g w w4) := by show Fr ..; rw [hww4]; exact HF.out.drewN _
          clear hww4 HR HF gc1 gc2 e1
          go_wp2_with fail
          go_loopw [11] (fun vj wr => ∃ (k : Nat) (y : Int), vj = .int .i64 y ∧ y = (k : Int) - 1 ∧ a < k ∧ k ≤ b ∧ Hid (Rw wr g n c D0) ∧ Hid (PT D0 a b i k P) ∧ Hid (Fr g w wr)) (fun vj _ => (intOf vj + 1).toNat)
          case atStart => exact ⟨b, y0, rfl, HY0.out, hak0, Nat.le_refl _, HRw4, HP, HFw4⟩
          case round =>
            clear HRw4 HFw4 HP
            obtain ⟨k, y, rfl, hy, hak, hkk, HR, HP, HF⟩ := hrel
            by_cases hle2 : (i : Int) ≤ y
            · obtain ⟨j, hj⟩ : ∃ j, k = j + 1 := ⟨k - 1, by omega⟩
              subst hj
              obtain rfl : y = (j : Int) := by omega
              have e1 : decide ((i : Int) ≤ (j : Int)) = true := decide_eq_true hle2
              have e2 : decide (i ≤ j) = true := decide_eq_true (by omega)
              have hij : i ≤ j := by omega
              have gc1 := HR.out.cell a (by omega)
              have gc2 := HR.out.cell j (by omega)
              by_cases hl2 : D0 j < D0 a
              · have cl2 := less_t hl2
                have HP' : Hid (PT (swp D0 i j) a b (i + 1) j P) := PT.swap HP.out hai hij (by have := HP.out.1; omega) (by have := HX.out; omega)
                clear hl2 HP hy
                go_wp2_with fail
                go_big_quiet (first | (go_at_call 37; exact Calls.quiet_of_same (cl2 _)) | fail)
                obtain ⟨w5, hww5⟩ : ∃ x, x = wr.drewN nq := ⟨_, rfl⟩
                rw [← hww5]
                have HRw5 : Hid (Rw w5 g n c D0) := by show Rw ..; rw [hww5]; exact HR.out
                have HFw5 : Hid (Fr g w w5) := by show Fr ..; rw [hww5]; exact HF.out.drewN _
                clear hww5 HR HF gc1 gc2
                have hc1 := HRw5.out.cell (i) (by omega)
                have hf1 := HRw5.out.frozen (i)
                have hc2 := HRw5.out.cell (j) (by omega)
                have hf2 := HRw5.out.frozen (j)
                have hs1 : (w5.setCell ⟨g, i, none⟩ (.int .u64 (D0 (j)))).drew.cell? ⟨g, j, none⟩ = _ := (HRw5.out.set (i) (by omega) (D0 (j))).cell (j) (by omega)
                have hs2 : (w5.setCell ⟨g, i, none⟩ (.int .u64 (D0 (j)))).drew.frozen? ⟨g, j, none⟩ = false := (HRw5.out.set (i) (by omega) (D0 (j))).frozen (j)
                have hs3 : (w5.setCell ⟨g, j, none⟩ (.int .u64 (D0 (i)))).drew.cell? ⟨g, i, none⟩ = _ := (HRw5.out.set (j) (by omega) (D0 (i))).cell (i) (by omega)
                have hs4 : (w5.setCell ⟨g, j, none⟩ (.int .u64 (D0 (i)))).drew.frozen? ⟨g, i, none⟩ = false := (HRw5.out.set (j) (by omega) (D0 (i))).frozen (i)
                have HSs : Hid (Same D (swp D0 (i) (j)) a b) := HS0.out.trans (Same.swap D0 (i) (j) (by omega) (by omega) (by omega) (by omega))
                go_wp2_with fail
                go_big_region
                all_goals
                  obtain ⟨w6, hww6⟩ : ∃ x, x = ((w5.setCell ⟨g, i, none⟩ (.int .u64 (D0 (j)))).setCell ⟨g, j, none⟩ (.int .u64 (D0 (i)))).drew := ⟨_, rfl⟩
                  rw [← hww6]
                  have HRw6 : Hid (Rw w6 g n c (swp D0 (i) (j))) := by show Rw ..; rw [hww6]; exact HRw5.out.swap (i) (j) (by omega) (by omega)
                  have HFw6 : Hid (Fr g w w6) := by show Fr ..; rw [hww6]; exact ((HFw5.out.set _ _ _).set _ _ _).drew
                  clear hww6 hc1 hf1 hc2 hf2 hs1 hs2 hs3 hs4 HRw5 HFw5
                  go_wp2_with fail
                  go_loopw [10, 11] (fun vi vj wr => ∃ (i k : Nat) (y : Int) (D' : Nat → Int), vi = .int .i64 i ∧ vj = .int .i64 y ∧ y = (k : Int) - 1 ∧ a < i ∧ i ≤ b ∧ a < k ∧ k ≤ b ∧ Hid (Rw wr g n c D') ∧ Hid (Same D D' a b) ∧ Hid (PT D' a b i k P) ∧ Hid (Fr g w wr)) (fun vi _ _ => b - (intOf vi).toNat)
                  case atStart => exact ⟨i + 1, j, _, _, by go_num, rfl, by omega, by omega, by omega, by omega, by omega, HRw6, HSs, HP', HFw6⟩
                  case round =>
                    clear HRw6 HFw6 HSs HP' HS0 HX
                    obtain ⟨i0, k0, y0, D0, rfl, rfl, hy0, hai0, hib0, hak0, hkb0, HR0, HS0, HP0, HF0⟩ := hrel
                    have HY0 : Hid (y0 = (k0 : Int) - 1) := hy0
                    have hy1 : y0 + 1 ≤ (k0 : Int) := by omega
                    have hy2 : (k0 : Int) ≤ y0 + 1 := by omega
                    clear hy0
                    obtain ⟨w0, hw0⟩ : ∃ x, x = wr := ⟨wr, rfl⟩
                    subst hw0
                    go_wp2_with fail
                    go_loopw [10] (fun vi wr => ∃ i : Nat, vi = .int .i64 i ∧ i0 ≤ i ∧ i ≤ b ∧ Hid (Rw wr g n c D0) ∧ Hid (PT D0 a b i k0 P) ∧ Hid (Fr g w wr)) (fun vi _ => b - (intOf vi).toNat)
                    case atStart => exact ⟨i0, rfl, Nat.le_refl _, hib0, HR0, HP0, HF0⟩
                    case round =>
                      clear HR0 HF0 HP0
                      obtain ⟨i, rfl, hii, hib, HR, HP, HF⟩ := hrel
                      have hai : a < i := by omega
                      by_cases hle : (i : Int) ≤ y0
                      · have hik : i < k0 := by omega
                        have e1 : decide ((i : Int) ≤ y0) = true := decide_eq_true hle
                        have gc1 := HR.out.cell a (by omega)
                        have gc2 := HR.out.cell i (by omega)
                        by_cases hl : D0 i < D0 a
                        · have cl := less_t hl
                          have HP' : Hid (PT D0 a b (i + 1) k0 P) := PT.left HP.out (by have := HP.out.1; omega)
                          clear hl HP
                          go_wp2_with fail
                          go_big_quiet (first | (go_at_call 37; exact Calls.quiet_of_same (cl _)) | fail)
                          go_wp2_with fail
                          go_roundw
                          case rel => exact ⟨i + 1, by go_num, by omega, by omega, HR, HP', HF.out.drewN _⟩
                          case measure => simp [intOf]; omega
                        · have cl := less_f hl
                          have HX : Hid (k0 ≤ i ∨ P ≤ D0 i) := .inr (by have := HP.out.1; omega)
                          clear hl
                          go_wp2_with fail
                          go_big_quiet (first | (go_at_call 37; exact Calls.quiet_of_same (cl _)) | fail)
                          obtain ⟨w4, hww4⟩ : ∃ x, x = wr.drewN nq := ⟨_, rfl⟩
                          rw [← hww4]
                          have HRw4 : Hid (Rw w4 g n c D0) := by show Rw ..; rw [hww4]; exact HR.out
                          have HFw4 : Hid (Fr g w w4) := by show Fr ..; rw [hww4]; exact HF.out.drewN _
                          clear hww4 HR HF gc1 gc2 e1
                          go_wp2_with fail
                          go_loopw [11] (fun vj wr => ∃ (k : Nat) (y : Int), vj = .int .i64 y ∧ y = (k : Int) - 1 ∧ a < k ∧ k ≤ k0 ∧ Hid (Rw wr g n c D0) ∧ Hid (PT D0 a b i k P) ∧ Hid (Fr g w wr)) (fun vj _ => (intOf vj + 1).toNat)
                          case atStart => exact ⟨k0, y0, rfl, HY0.out, hak0, Nat.le_refl _, HRw4, HP, HFw4⟩
                          case round =>
                            clear HRw4 HFw4 HP
                            obtain ⟨k, y, rfl, hy, hak, hkk, HR, HP, HF⟩ := hrel
                            by_cases hle2 : (i : Int) ≤ y
                            · obtain ⟨j, hj⟩ : ∃ j, k = j + 1 := ⟨k - 1, by omega⟩
                              subst hj
                              obtain rfl : y = (j : Int) := by omega
                              have e1 : decide ((i : Int) ≤ (j : Int)) = true := decide_eq_true hle2
                              have e2 : decide (i ≤ j) = true := decide_eq_true (by omega)
                              have hij : i ≤ j := by omega
                              have gc1 := HR.out.cell a (by omega)
                              have gc2 := HR.out.cell j (by omega)
                              by_cases hl2 : D0 j < D0 a
                              · have cl2 := less_t hl2
                                have HP' : Hid (PT (swp D0 i j) a b (i + 1) j P) := PT.swap HP.out hai hij (by have := HP.out.1; omega) (by have := HX.out; omega)
                                clear hl2 HP hy
                                go_wp2_with fail
                                go_big_quiet (first | (go_at_call 37; exact Calls.quiet_of_same (cl2 _)) | fail)
                                obtain ⟨w5, hww5⟩ : ∃ x, x = wr.drewN nq := ⟨_, rfl⟩
                                rw [← hww5]
                                have HRw5 : Hid (Rw w5 g n c D0) := by show Rw ..; rw [hww5]; exact HR.out
                                have HFw5 : Hid (Fr g w w5) := by show Fr ..; rw [hww5]; exact HF.out.drewN _
                                clear hww5 HR HF gc1 gc2
                                have hc1 := HRw5.out.cell (i) (by omega)
                                have hf1 := HRw5.out.frozen (i)
                                have hc2 := HRw5.out.cell (j) (by omega)
                                have hf2 := HRw5.out.frozen (j)
                                have hs1 : (w5.setCell ⟨g, i, none⟩ (.int .u64 (D0 (j)))).drew.cell? ⟨g, j, none⟩ = _ := (HRw5.out.set (i) (by omega) (D0 (j))).cell (j) (by omega)
                                have hs2 : (w5.setCell ⟨g, i, none⟩ (.int .u64 (D0 (j)))).drew.frozen? ⟨g, j, none⟩ = false := (HRw5.out.set (i) (by omega) (D0 (j))).frozen (j)
                                have hs3 : (w5.setCell ⟨g, j, none⟩ (.int .u64 (D0 (i)))).drew.cell? ⟨g, i, none⟩ = _ := (HRw5.out.set (j) (by omega) (D0 (i))).cell (i) (by omega)
                                have hs4 : (w5.setCell ⟨g, j, none⟩ (.int .u64 (D0 (i)))).drew.frozen? ⟨g, i, none⟩ = false := (HRw5.out.set (j) (by omega) (D0 (i))).frozen (i)
                                have HSs : Hid (Same D (swp D0 (i) (j)) a b) := HS0.out.trans (Same.swap D0 (i) (j) (by omega) (by omega) (by omega) (by omega))
                                go_wp2_with fail
                                go_big_region
                                all_goals
                                  obtain ⟨w6, hww6⟩ : ∃ x, x = ((w5.setCell ⟨g, i, none⟩ (.int .u64 (D0 (j)))).setCell ⟨g, j, none⟩ (.int .u64 (D0 (i)))).drew := ⟨_, rfl⟩
                                  rw [← hww6]
                                  have HRw6 : Hid (Rw w6 g n c (swp D0 (i) (j))) := by show Rw ..; rw [hww6]; exact HRw5.out.swap (i) (j) (by omega) (by omega)
                                  have HFw6 : Hid (Fr g w w6) := by show Fr ..; rw [hww6]; exact ((HFw5.out.set _ _ _).set _ _ _).drew
                                  clear hww6 hc1 hf1 hc2 hf2 hs1 hs2 hs3 hs4 HRw5 HFw5
                                  go_wp2_with fail
                                  go_roundw
                                  case rel => exact ⟨i + 1, j, (j : Int) - 1, _, by go_num, rfl, by omega, by omega, by omega, by omega, by omega, HRw6, HSs, HP', HFw6⟩
                                  case measure => simp [intOf]; omega
                              · have cl2 := less_f hl2
                                have HP' : Hid (PT D0 a b i j P) := PT.right HP.out (by have := HP.out.1; omega)
                                clear hl2 HP hy
                                go_wp2_with fail
                                go_big_quiet (first | (go_at_call 37; exact Calls.quiet_of_same (cl2 _)) | fail)
                                go_wp2_with fail
                                go_roundw
                                case rel => exact ⟨j, (j : Int) - 1, rfl, by omega, by omega, by omega, HR, HP', HF.out.drewN _⟩
                                case measure => simp [intOf]
                            · obtain ⟨j, hj⟩ : ∃ j, k = j + 1 := ⟨k - 1, by omega⟩
                              subst hj
                              obtain rfl : y = (j : Int) := by omega
                              have e1 : decide ((i : Int) ≤ (j : Int)) = false := decide_eq_false hle2
                              have e1' : decide (i ≤ j) = false := decide_eq_false (by omega)
                              have hgt : (j : Int) < (i : Int) := by omega
                              have e3 : decide ((j : Int) < (i : Int)) = true := decide_eq_true hgt
                              have HE : Hid (PTd (swp D0 j a) a b j P) := PT.fin HP.out (by omega) (by omega) (by omega)
                              clear HP hy
                              go_wp2_with fail
                              go_big_quiet (fail)
                              obtain ⟨w5, hww5⟩ : ∃ x, x = wr.drewN nq := ⟨_, rfl⟩
                              rw [← hww5]
                              have HRw5 : Hid (Rw w5 g n c D0) := by show Rw ..; rw [hww5]; exact HR.out
                              have HFw5 : Hid (Fr g w w5) := by show Fr ..; rw [hww5]; exact HF.out.drewN _
                              clear hww5 HR HF 
                              have hc1 := HRw5.out.cell (j) (by omega)
                              have hf1 := HRw5.out.frozen (j)
                              have hc2 := HRw5.out.cell (a) (by omega)
                              have hf2 := HRw5.out.frozen (a)
                              have hs1 : (w5.setCell ⟨g, j, none⟩ (.int .u64 (D0 (a)))).drew.cell? ⟨g, a, none⟩ = _ := (HRw5.out.set (j) (by omega) (D0 (a))).cell (a) (by omega)
                              have hs2 : (w5.setCell ⟨g, j, none⟩ (.int .u64 (D0 (a)))).drew.frozen? ⟨g, a, none⟩ = false := (HRw5.out.set (j) (by omega) (D0 (a))).frozen (a)
                              have hs3 : (w5.setCell ⟨g, a, none⟩ (.int .u64 (D0 (j)))).drew.cell? ⟨g, j, none⟩ = _ := (HRw5.out.set (a) (by omega) (D0 (j))).cell (j) (by omega)
                              have hs4 : (w5.setCell ⟨g, a, none⟩ (.int .u64 (D0 (j)))).drew.frozen? ⟨g, j, none⟩ = false := (HRw5.out.set (a) (by omega) (D0 (j))).frozen (j)
                              have HSs : Hid (Same D (swp D0 (j) (a)) a b) := HS0.out.trans (Same.swap D0 (j) (a) (by omega) (by omega) (by omega) (by omega))
                              go_wp2_with fail
                              go_big_region
                              all_goals
                                obtain ⟨w6, hww6⟩ : ∃ x, x = ((w5.setCell ⟨g, j, none⟩ (.int .u64 (D0 (a)))).setCell ⟨g, a, none⟩ (.int .u64 (D0 (j)))).drew := ⟨_, rfl⟩
                                rw [← hww6]
                                have HRw6 : Hid (Rw w6 g n c (swp D0 (j) (a))) := by show Rw ..; rw [hww6]; exact HRw5.out.swap (j) (a) (by omega) (by omega)
                                have HFw6 : Hid (Fr g w w6) := by show Fr ..; rw [hww6]; exact ((HFw5.out.set _ _ _).set _ _ _).drew
                                clear hww6 hc1 hf1 hc2 hf2 hs1 hs2 hs3 hs4 HRw5 HFw5
                                go_wp2_with fail
                                go_ret2
                                exact ⟨j, false, rfl, by omega, by omega, HFw6.out, _, HRw6.out, HSs.out, by rw [← hPP.out]; exact HE.out⟩
                      · have e1 : decide ((i : Int) ≤ y0) = false := decide_eq_false hle
                        have HX : Hid (k0 ≤ i ∨ P ≤ D0 i) := .inl (by omega)
                        go_wp2_with fail
                        go_big_quiet (fail)
                        obtain ⟨w4, hww4⟩ : ∃ x, x = wr.drewN nq := ⟨_, rfl⟩
                        rw [← hww4]
                        have HRw4 : Hid (Rw w4 g n c D0) := by show Rw ..; rw [hww4]; exact HR.out
                        have HFw4 : Hid (Fr g w w4) := by show Fr ..; rw [hww4]; exact HF.out.drewN _
                        clear hww4 HR HF e1
                        go_wp2_with fail
                        go_loopw [11] (fun vj wr => ∃ (k : Nat) (y : Int), vj = .int .i64 y ∧ y = (k : Int) - 1 ∧ a < k ∧ k ≤ k0 ∧ Hid (Rw wr g n c D0) ∧ Hid (PT D0 a b i k P) ∧ Hid (Fr g w wr)) (fun vj _ => (intOf vj + 1).toNat)
                        case atStart => exact ⟨k0, y0, rfl, HY0.out, hak0, Nat.le_refl _, HRw4, HP, HFw4⟩
                        case round =>
                          clear HRw4 HFw4 HP
                          obtain ⟨k, y, rfl, hy, hak, hkk, HR, HP, HF⟩ := hrel
                          by_cases hle2 : (i : Int) ≤ y
                          · exfalso
                            omega
                          · obtain ⟨j, hj⟩ : ∃ j, k = j + 1 := ⟨k - 1, by omega⟩
                            subst hj
                            obtain rfl : y = (j : Int) := by omega
                            have e1 : decide ((i : Int) ≤ (j : Int)) = false := decide_eq_false hle2
                            have e1' : decide (i ≤ j) = false := decide_eq_false (by omega)
                            have hgt : (j : Int) < (i : Int) := by omega
                            have e3 : decide ((j : Int) < (i : Int)) = true := decide_eq_true hgt
                            have HE : Hid (PTd (swp D0 j a) a b j P) := PT.fin HP.out (by omega) (by omega) (by omega)
                            clear HP hy
                            go_wp2_with fail
                            go_big_quiet (fail)
                            obtain ⟨w5, hww5⟩ : ∃ x, x = wr.drewN nq := ⟨_, rfl⟩
                            rw [← hww5]
                            have HRw5 : Hid (Rw w5 g n c D0) := by show Rw ..; rw [hww5]; exact HR.out
                            have HFw5 : Hid (Fr g w w5) := by show Fr ..; rw [hww5]; exact HF.out.drewN _
                            clear hww5 HR HF 
                            have hc1 := HRw5.out.cell (j) (by omega)
                            have hf1 := HRw5.out.frozen (j)
                            have hc2 := HRw5.out.cell (a) (by omega)
                            have hf2 := HRw5.out.frozen (a)
                            have hs1 : (w5.setCell ⟨g, j, none⟩ (.int .u64 (D0 (a)))).drew.cell? ⟨g, a, none⟩ = _ := (HRw5.out.set (j) (by omega) (D0 (a))).cell (a) (by omega)
                            have hs2 : (w5.setCell ⟨g, j, none⟩ (.int .u64 (D0 (a)))).drew.frozen? ⟨g, a, none⟩ = false := (HRw5.out.set (j) (by omega) (D0 (a))).frozen (a)
                            have hs3 : (w5.setCell ⟨g, a, none⟩ (.int .u64 (D0 (j)))).drew.cell? ⟨g, j, none⟩ = _ := (HRw5.out.set (a) (by omega) (D0 (j))).cell (j) (by omega)
                            have hs4 : (w5.setCell ⟨g, a, none⟩ (.int .u64 (D0 (j)))).drew.frozen? ⟨g, j, none⟩ = false := (HRw5.out.set (a) (by omega) (D0 (j))).frozen (j)
                            have HSs : Hid (Same D (swp D0 (j) (a)) a b) := HS0.out.trans (Same.swap D0 (j) (a) (by omega) (by omega) (by omega) (by omega))
                            go_wp2_with fail
                            go_big_region
                            all_goals
                              obtain ⟨w6, hww6⟩ : ∃ x, x = ((w5.setCell ⟨g, j, none⟩ (.int .u64 (D0 (a)))).setCell ⟨g, a, none⟩ (.int .u64 (D0 (j)))).drew := ⟨_, rfl⟩
                              rw [← hww6]
                              have HRw6 : Hid (Rw w6 g n c (swp D0 (j) (a))) := by show Rw ..; rw [hww6]; exact HRw5.out.swap (j) (a) (by omega) (by omega)
                              have HFw6 : Hid (Fr g w w6) := by show Fr ..; rw [hww6]; exact ((HFw5.out.set _ _ _).set _ _ _).drew
                              clear hww6 hc1 hf1 hc2 hf2 hs1 hs2 hs3 hs4 HRw5 HFw5
                              go_wp2_with fail
                              go_ret2
                              exact ⟨j, false, rfl, by omega, by omega, HFw6.out, _, HRw6.out, HSs.out, by rw [← hPP.out]; exact HE.out⟩
              · have cl2 := less_f hl2
                have HP' : Hid (PT D0 a b i j P) := PT.right HP.out (by have := HP.out.1; omega)
                clear hl2 HP hy
                go_wp2_with fail
                go_big_quiet (first | (go_at_call 37; exact Calls.quiet_of_same (cl2 _)) | fail)
                go_wp2_with fail
                go_roundw
                case rel => exact ⟨j, (j : Int) - 1, rfl, by omega, by omega, by omega, HR, HP', HF.out.drewN _⟩
                case measure => simp [intOf]
            · obtain ⟨j, hj⟩ : ∃ j, k = j + 1 := ⟨k - 1, by omega⟩
              subst hj
              obtain rfl : y = (j : Int) := by omega
              have e1 : decide ((i : Int) ≤ (j : Int)) = false := decide_eq_false hle2
              have e1' : decide (i ≤ j) = false := decide_eq_false (by omega)
              have hgt : (j : Int) < (i : Int) := by omega
              have e3 : decide ((j : Int) < (i : Int)) = true := decide_eq_true hgt
              have HE : Hid (PTd (swp D0 j a) a b j P) := PT.fin HP.out (by omega) (by omega) (by omega)
              clear HP hy
              go_wp2_with fail
              go_big_quiet (fail)
              obtain ⟨w5, hww5⟩ : ∃ x, x = wr.drewN nq := ⟨_, rfl⟩
              rw [← hww5]
              have HRw5 : Hid (Rw w5 g n c D0) := by show Rw ..; rw [hww5]; exact HR.out
              have HFw5 : Hid (Fr g w w5) := by show Fr ..; rw [hww5]; exact HF.out.drewN _
              clear hww5 HR HF 
              have hc1 := HRw5.out.cell (j) (by omega)
              have hf1 := HRw5.out.frozen (j)
              have hc2 := HRw5.out.cell (a) (by omega)
              have hf2 := HRw5.out.frozen (a)
              have hs1 : (w5.setCell ⟨g, j, none⟩ (.int .u64 (D0 (a)))).drew.cell? ⟨g, a, none⟩ = _ := (HRw5.out.set (j) (by omega) (D0 (a))).cell (a) (by omega)
              have hs2 : (w5.setCell ⟨g, j, none⟩ (.int .u64 (D0 (a)))).drew.frozen? ⟨g, a, none⟩ = false := (HRw5.out.set (j) (by omega) (D0 (a))).frozen (a)
              have hs3 : (w5.setCell ⟨g, a, none⟩ (.int .u64 (D0 (j)))).drew.cell? ⟨g, j, none⟩ = _ := (HRw5.out.set (a) (by omega) (D0 (j))).cell (j) (by omega)
              have hs4 : (w5.setCell ⟨g, a, none⟩ (.int .u64 (D0 (j)))).drew.frozen? ⟨g, j, none⟩ = false := (HRw5.out.set (a) (by omega) (D0 (j))).frozen (j)
              have HSs : Hid (Same D (swp D0 (j) (a)) a b) := HS0.out.trans (Same.swap D0 (j) (a) (by omega) (by omega) (by omega) (by omega))
              go_wp2_with fail
              go_big_region
              all_goals
                obtain ⟨w6, hww6⟩ : ∃ x, x = ((w5.setCell ⟨g, j, none⟩ (.int .u64 (D0 (a)))).setCell ⟨g, a, none⟩ (.int .u64 (D0 (j)))).drew := ⟨_, rfl⟩
                rw [← hww6]
                have HRw6 : Hid (Rw w6 g n c (swp D0 (j) (a))) := by show Rw ..; rw [hww6]; exact HRw5.out.swap (j) (a) (by omega) (by omega)
                have HFw6 : Hid (Fr g w w6) := by show Fr ..; rw [hww6]; exact ((HFw5.out.set _ _ _).set _ _ _).drew
                clear hww6 hc1 hf1 hc2 hf2 hs1 hs2 hs3 hs4 HRw5 HFw5
                go_wp2_with fail
                go_ret2
                exact ⟨j, true, rfl, by omega, by omega, HFw6.out, _, HRw6.out, HSs.out, by rw [← hPP.out]; exact HE.out⟩
      · have e1 : decide ((i : Int) ≤ y0) = false := decide_eq_false hle
        have HX : Hid (b ≤ i ∨ P ≤ D0 i) := .inl (by omega)
        go_wp2_with fail
        go_big_quiet (fail)
        obtain ⟨w4, hww4⟩ : ∃ x, x = wr.drewN nq := ⟨_, rfl⟩
        rw [← hww4]
        have HRw4 : Hid (Rw w4 g n c D0) := by show Rw ..; rw [hww4]; exact HR.out
        have HFw4 : Hid (Fr g w w4) := by show Fr ..; rw [hww4]; exact HF.out.drewN _
        clear hww4 HR HF e1
        go_wp2_with fail
        go_loopw [11] (fun vj wr => ∃ (k : Nat) (y : Int), vj = .int .i64 y ∧ y = (k : Int) - 1 ∧ a < k ∧ k ≤ b ∧ Hid (Rw wr g n c D0) ∧ Hid (PT D0 a b i k P) ∧ Hid (Fr g w wr)) (fun vj _ => (intOf vj + 1).toNat)
        case atStart => exact ⟨b, y0, rfl, HY0.out, hak0, Nat.le_refl _, HRw4, HP, HFw4⟩
        case round =>
          clear HRw4 HFw4 HP
          obtain ⟨k, y, rfl, hy, hak, hkk, HR, HP, HF⟩ := hrel
          by_cases hle2 : (i : Int) ≤ y
          · exfalso
            omega
          · obtain ⟨j, hj⟩ : ∃ j, k = j + 1 := ⟨k - 1, by omega⟩
            subst hj
            obtain rfl : y = (j : Int) := by omega
            have e1 : decide ((i : Int) ≤ (j : Int)) = false := decide_eq_false hle2
            have e1' : decide (i ≤ j) = false := decide_eq_false (by omega)
            have hgt : (j : Int) < (i : Int) := by omega
            have e3 : decide ((j : Int) < (i : Int)) = true := decide_eq_true hgt
            have HE : Hid (PTd (swp D0 j a) a b j P) := PT.fin HP.out (by omega) (by omega) (by omega)
            clear HP hy
            go_wp2_with fail
            go_big_quiet (fail)
            obtain ⟨w5, hww5⟩ : ∃ x, x = wr.drewN nq := ⟨_, rfl⟩
            rw [← hww5]
            have HRw5 : Hid (Rw w5 g n c D0) := by show Rw ..; rw [hww5]; exact HR.out
            have HFw5 : Hid (Fr g w w5) := by show Fr ..; rw [hww5]; exact HF.out.drewN _
            clear hww5 HR HF 
            have hc1 := HRw5.out.cell (j) (by omega)
            have hf1 := HRw5.out.frozen (j)
            have hc2 := HRw5.out.cell (a) (by omega)
            have hf2 := HRw5.out.frozen (a)
            have hs1 : (w5.setCell ⟨g, j, none⟩ (.int .u64 (D0 (a)))).drew.cell? ⟨g, a, none⟩ = _ := (HRw5.out.set (j) (by omega) (D0 (a))).cell (a) (by omega)
            have hs2 : (w5.setCell ⟨g, j, none⟩ (.int .u64 (D0 (a)))).drew.frozen? ⟨g, a, none⟩ = false := (HRw5.out.set (j) (by omega) (D0 (a))).frozen (a)
            have hs3 : (w5.setCell ⟨g, a, none⟩ (.int .u64 (D0 (j)))).drew.cell? ⟨g, j, none⟩ = _ := (HRw5.out.set (a) (by omega) (D0 (j))).cell (j) (by omega)
            have hs4 : (w5.setCell ⟨g, a, none⟩ (.int .u64 (D0 (j)))).drew.frozen? ⟨g, j, none⟩ = false := (HRw5.out.set (a) (by omega) (D0 (j))).frozen (j)
            have HSs : Hid (Same D (swp D0 (j) (a)) a b) := HS0.out.trans (Same.swap D0 (j) (a) (by omega) (by omega) (by omega) (by omega))
            go_wp2_with fail
            go_big_region
            all_goals
              obtain ⟨w6, hww6⟩ : ∃ x, x = ((w5.setCell ⟨g, j, none⟩ (.int .u64 (D0 (a)))).setCell ⟨g, a, none⟩ (.int .u64 (D0 (j)))).drew := ⟨_, rfl⟩
              rw [← hww6]
              have HRw6 : Hid (Rw w6 g n c (swp D0 (j) (a))) := by show Rw ..; rw [hww6]; exact HRw5.out.swap (j) (a) (by omega) (by omega)
              have HFw6 : Hid (Fr g w w6) := by show Fr ..; rw [hww6]; exact ((HFw5.out.set _ _ _).set _ _ _).drew
              clear hww6 hc1 hf1 hc2 hf2 hs1 hs2 hs3 hs4 HRw5 HFw5
              go_wp2_with fail
              go_ret2
              exact ⟨j, true, rfl, by omega, by omega, HFw6.out, _, HRw6.out, HSs.out, by rw [← hPP.out]; exact HE.out⟩
end Go.Proofs.Qxb6605223a
