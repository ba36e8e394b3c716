/-
  Seat b6605223a. WALK: slices.partialInsertionSortOrdered[uint64] (36).
-/
import Derived.Test.Qxb6605223aS8
import Derived.Deep.DeepCutAuto
import Derived.Deep.CutBlock
set_option linter.unusedVariables false
set_option linter.unusedSimpArgs false
namespace Go.Proofs.Qxb6605223a
open Go.RowKit

/-- What lies just below the range is not above it. -/
def Lo (D : Nat → Int) (a b : Nat) : Prop := 0 < a → ∀ i, a ≤ i → i < b → D (a - 1) ≤ D i
theorem Lo.same {D D' : Nat → Int} {a b : Nat} (h : Lo D a b) (hs : Same D D' a b) : Lo D' a b := fun h0 i h1 h2 => by
  rw [hs.out (i := a - 1) (.inl (by omega))]
  exact hs.all (p := fun v => D (a - 1) ≤ v) (h h0) i h1 h2

def PIPost (g n c : Nat) (D : Nat → Int) (a b : Nat) (w : World) (e : Ending) (w' : World) : Prop :=
  ∃ f : Bool, e = .returned (.bool f) ∧ Fr g w w' ∧ ∃ D', Rw w' g n c D' ∧ Same D D' a b ∧ (f = true → Srt D' a b)

theorem Srt.more {D : Nat → Int} {a h : Nat} (hs : Srt D a (h + 1)) (hle : D h ≤ D (h + 1)) (hah : a ≤ h) : Srt D a (h + 1 + 1) := fun x y h1 h2 h3 => by
  by_cases e : y = h + 1
  · subst e
    by_cases e2 : x = h
    · subst e2; exact hle
    · have := hs x h h1 (by omega) (by omega); omega
  · exact hs x y h1 h2 (by omega)
theorem Srt.cut {D : Nat → Int} {a h : Nat} (hs : Srt D a (h + 1)) : InsJ (swp D (h + 1) h) a h h := InsJ.start fun x y h1 h2 h3 => by
  rw [swp_o D _ _ x (by omega) (by omega), swp_o D _ _ y (by omega) (by omega)]
  exact hs x y h1 h2 (by omega)
theorem Srt.keep {D : Nat → Int} {a i p q : Nat} (hs : Srt D a i) (hp : i ≤ p) (hq : i ≤ q) : Srt (swp D p q) a i := fun x y h1 h2 h3 => by
  rw [swp_o D _ _ x (by omega) (by omega), swp_o D _ _ y (by omega) (by omega)]
  exact hs x y h1 h2 h3

set_option maxRecDepth 100000 in
set_option maxHeartbeats 4000000 in
theorem partial_any (g n c cp a b : Nat) (D : Nat → Int) (w : World) (h : Rw w g n c D) (hn : n ≤ 1048576) (hb : b ≤ n) (hab : a < b) (hlo : Lo D a b) :
    Calls Try.prog 36 #[.slice (some ⟨g, 0, none⟩) n cp, .int .i64 a, .int .i64 b] w (PIPost g n c D a b w) := by
  have HD : Hid (Rw w g n c D) := h
  have HL : Hid (Lo D a b) := hlo
  clear h hlo
  go_enter Try.func36, Try.ntmps36
  go_wp2_with fail
  go_loopw [7, 8] (fun vi vs wr => ∃ (h s : Nat) (x : Int) (D' : Nat → Int), vi = .int .i64 x ∧ x = (h : Int) + 1 ∧ vs = .int .i64 s ∧ a ≤ h ∧ h + 1 ≤ b ∧ s ≤ 5 ∧ Hid (Rw wr g n c D') ∧ Hid (Same D D' a b) ∧ Hid (Srt D' a (h + 1)) ∧ Hid (Fr g w wr)) (fun _ vs _ => 5 - (intOf vs).toNat)
  case atStart => exact ⟨a, 0, _, D, rfl, rfl, rfl, by omega, by omega, by omega, HD, Same.refl _ _ _, Srt.short _ _ _ (by omega), Fr.refl _ _⟩
  case round =>
    clear HD
    obtain ⟨h0, s, x0, D0, rfl, hx0, rfl, hah0, hhb0, hs5, HR0, HS0, HO0, HF0⟩ := hrel
    subst hx0
    by_cases hs : s < 5
    · have e0 : decide ((s : Int) < 5) = true := decide_eq_true (by omega)
      obtain ⟨w0, hw0⟩ : ∃ x, x = wr := ⟨wr, rfl⟩
      subst hw0
      go_wp2_with fail
      go_loopw [7] (fun vi wr => ∃ (h : Nat) (x : Int), vi = .int .i64 x ∧ x = (h : Int) + 1 ∧ a ≤ h ∧ h + 1 ≤ b ∧ Hid (Rw wr g n c D0) ∧ Hid (Srt D0 a (h + 1)) ∧ Hid (Fr g w wr)) (fun vi _ => b - (intOf vi).toNat)
      case atStart => exact ⟨h0, _, rfl, rfl, hah0, hhb0, HR0, HO0, HF0⟩
      case round =>
        clear HR0 HO0 HF0
        obtain ⟨h, x, rfl, hx, hah, hhb, HR, HO, HF⟩ := hrel
        subst hx
        by_cases hib : h + 1 < b
        · have e1 : decide ((h : Int) + 1 < (b : Int)) = true := decide_eq_true (by omega)
          have e2 : decide (h + 1 < b) = true := decide_eq_true hib
          have e3 : ((h : Int) + 1 == (b : Int)) = false := by simpa using (fun e : (h : Int) + 1 = (b : Int) => by omega)
          have gc1 := HR.out.cell (h + 1) (by omega)
          have gc2 := HR.out.cell h (by omega)
          by_cases hl : D0 (h + 1) < D0 h
          · have cl := less_t hl
            go_wp2_with fail
            go_big_quiet (first | (go_at_call 37; exact Calls.quiet_of_same (cl _)) | fail)
            obtain ⟨w4, hww4⟩ : ∃ x, x = wr.drewN nq := ⟨_, rfl⟩
            rw [← hww4]
            have HRw4 : Hid (Rw w4 g n c D0) := by show Rw ..; rw [hww4]; exact HR.out
            have HFw4 : Hid (Fr g w w4) := by show Fr ..; rw [hww4]; exact HF.out.drewN _
            clear hww4 HR HF gc1 gc2 e1 e2
            by_cases h50 : (b : Int) - (a : Int) < 50
            · go_wp2_with fail
              go_ret
              exact ⟨false, rfl, HFw4.out, D0, HRw4.out, HS0.out, fun h => by cases h⟩
            · have hc1 := HRw4.out.cell (h + 1) (by omega)
              have hf1 := HRw4.out.frozen (h + 1)
              have hc2 := HRw4.out.cell (h) (by omega)
              have hf2 := HRw4.out.frozen (h)
              have hs1 : (w4.setCell ⟨g, h + 1, none⟩ (.int .u64 (D0 (h)))).drew.cell? ⟨g, h, none⟩ = _ := (HRw4.out.set (h + 1) (by omega) (D0 (h))).cell (h) (by omega)
              have hs2 : (w4.setCell ⟨g, h + 1, none⟩ (.int .u64 (D0 (h)))).drew.frozen? ⟨g, h, none⟩ = false := (HRw4.out.set (h + 1) (by omega) (D0 (h))).frozen (h)
              have hs3 : (w4.setCell ⟨g, h, none⟩ (.int .u64 (D0 (h + 1)))).drew.cell? ⟨g, h + 1, none⟩ = _ := (HRw4.out.set (h) (by omega) (D0 (h + 1))).cell (h + 1) (by omega)
              have hs4 : (w4.setCell ⟨g, h, none⟩ (.int .u64 (D0 (h + 1)))).drew.frozen? ⟨g, h + 1, none⟩ = false := (HRw4.out.set (h) (by omega) (D0 (h + 1))).frozen (h + 1)
              have HSs : Hid (Same D (swp D0 (h + 1) (h)) a b) := HS0.out.trans (Same.swap D0 (h + 1) (h) (by omega) (by omega) (by omega) (by omega))
              have HC : Hid (InsJ (swp D0 (h + 1) h) a h h) := Srt.cut HO.out
              clear HO hl cl
              go_wp2_with fail
              go_big_region
              all_goals
                obtain ⟨w5, hww5⟩ : ∃ x, x = ((w4.setCell ⟨g, h + 1, none⟩ (.int .u64 (D0 (h)))).setCell ⟨g, h, none⟩ (.int .u64 (D0 (h + 1)))).drew := ⟨_, rfl⟩
                rw [← hww5]
                have HRw5 : Hid (Rw w5 g n c (swp D0 (h + 1) (h))) := by show Rw ..; rw [hww5]; exact HRw4.out.swap (h + 1) (h) (by omega) (by omega)
                have HFw5 : Hid (Fr g w w5) := by show Fr ..; rw [hww5]; exact ((HFw4.out.set _ _ _).set _ _ _).drew
                clear hww5 hc1 hf1 hc2 hf2 hs1 hs2 hs3 hs4 HRw4 HFw4
                obtain ⟨D1, hD1⟩ : ∃ D1, D1 = swp D0 (h + 1) h := ⟨_, rfl⟩
                rw [← hD1] at HC HRw5 HSs
                clear hD1
                go_upto_if 61 with fail
                go_cut [9] from 13 to 132 (fun v9 wx => ∃ D2 : Nat → Int, Hid (Rw wx g n c D2) ∧ Hid (Same D D2 a b) ∧ Hid (Srt D2 a (h + 1)) ∧ Hid (Fr g w wx))
                case first =>
                  by_cases h2 : (2 : Int) ≤ (h : Int) + 1 - (a : Int)
                  · go_wp2_with fail
                    go_loopw [9] (fun v9 wr => ∃ (j : Nat) (D2 : Nat → Int), v9 = .int .i64 j ∧ a ≤ j ∧ j ≤ h ∧ Hid (Rw wr g n c D2) ∧ Hid (Same D D2 a b) ∧ Hid (InsJ D2 a h j) ∧ Hid (Fr g w wr)) (fun v9 _ => (intOf v9).toNat)
                    case atStart => exact ⟨h, D1, rfl, hah, Nat.le_refl _, HRw5, HSs, HC, HFw5⟩
                    case round =>
                      clear HRw5 HFw5 HSs HC
                      obtain ⟨j, D2, rfl, haj, hjh, HR, HS, HC, HF⟩ := hrel
                      by_cases hj1 : 1 ≤ j
                      · obtain ⟨k, hk⟩ : ∃ k, j = k + 1 := ⟨j - 1, by omega⟩
                        subst hk
                        have gc1 := HR.out.cell (k + 1) (by omega)
                        have gc2 := HR.out.cell k (by omega)
                        have e5 : decide ((1 : Int) ≤ (k : Int) + 1) = true := decide_eq_true (by omega)
                        by_cases hl : D2 (k + 1) < D2 k
                        · have hak : a ≤ k := by
                            rcases Nat.lt_or_ge k a with hka | hka
                            · have := HL.out.same HS.out (by omega) a (Nat.le_refl _) hab
                              rw [show a - 1 = k by omega, show a = k + 1 by omega] at this
                              omega
                            · exact hka
                          have cl := less_t hl
                          have HC' : Hid (InsJ (swp D2 (k + 1) k) a h k) := InsJ.step HC.out (by omega) hjh hl
                          clear hl HC
                          go_wp2_with fail
                          go_big_quiet (first | (go_at_call 37; exact Calls.quiet_of_same (cl _)) | fail)
                          obtain ⟨w7, hww7⟩ : ∃ x, x = wr.drewN nq := ⟨_, rfl⟩
                          rw [← hww7]
                          have HRw7 : Hid (Rw w7 g n c D2) := by show Rw ..; rw [hww7]; exact HR.out
                          have HFw7 : Hid (Fr g w w7) := by show Fr ..; rw [hww7]; exact HF.out.drewN _
                          clear hww7 HR HF gc1 gc2
                          have hc1x := HRw7.out.cell (k + 1) (by omega)
                          have hf1x := HRw7.out.frozen (k + 1)
                          have hc2x := HRw7.out.cell (k) (by omega)
                          have hf2x := HRw7.out.frozen (k)
                          have hs1x : (w7.setCell ⟨g, k + 1, none⟩ (.int .u64 (D2 (k)))).drew.cell? ⟨g, k, none⟩ = _ := (HRw7.out.set (k + 1) (by omega) (D2 (k))).cell (k) (by omega)
                          have hs2x : (w7.setCell ⟨g, k + 1, none⟩ (.int .u64 (D2 (k)))).drew.frozen? ⟨g, k, none⟩ = false := (HRw7.out.set (k + 1) (by omega) (D2 (k))).frozen (k)
                          have hs3x : (w7.setCell ⟨g, k, none⟩ (.int .u64 (D2 (k + 1)))).drew.cell? ⟨g, k + 1, none⟩ = _ := (HRw7.out.set (k) (by omega) (D2 (k + 1))).cell (k + 1) (by omega)
                          have hs4x : (w7.setCell ⟨g, k, none⟩ (.int .u64 (D2 (k + 1)))).drew.frozen? ⟨g, k + 1, none⟩ = false := (HRw7.out.set (k) (by omega) (D2 (k + 1))).frozen (k + 1)
                          have HSsx : Hid (Same D (swp D2 (k + 1) (k)) a b) := HS.out.trans (Same.swap D2 (k + 1) (k) (by omega) (by omega) (by omega) (by omega))
                          go_wp2_with fail
                          go_big_region
                          all_goals
                            obtain ⟨w8, hww8⟩ : ∃ x, x = ((w7.setCell ⟨g, k + 1, none⟩ (.int .u64 (D2 (k)))).setCell ⟨g, k, none⟩ (.int .u64 (D2 (k + 1)))).drew := ⟨_, rfl⟩
                            rw [← hww8]
                            have HRw8 : Hid (Rw w8 g n c (swp D2 (k + 1) (k))) := by show Rw ..; rw [hww8]; exact HRw7.out.swap (k + 1) (k) (by omega) (by omega)
                            have HFw8 : Hid (Fr g w w8) := by show Fr ..; rw [hww8]; exact ((HFw7.out.set _ _ _).set _ _ _).drew
                            clear hww8 hc1x hf1x hc2x hf2x hs1x hs2x hs3x hs4x HRw7 HFw7
                            go_wp2_with fail
                            go_roundw
                            case rel => exact ⟨k, swp D2 (k + 1) k, by go_num, by omega, by omega, HRw8, HSsx, HC', HFw8⟩
                            case measure => simp [intOf]
                        · have cl := less_f hl
                          have HO' : Hid (Srt D2 a (h + 1)) := InsJ.stop HC.out (by
                            rcases Nat.lt_or_ge a (k + 1) with h1 | h1
                            · exact .inr ⟨h1, by simp; omega⟩
                            · exact .inl (by omega))
                          clear hl HC
                          go_wp2_with fail
                          go_big_quiet (first | (go_at_call 37; exact Calls.quiet_of_same (cl _)) | fail)
                          go_wp2_with fail
                          go_meet
                          exact ⟨D2, HR, HS, HO', HF.out.drewN _⟩
                      · obtain rfl : j = 0 := by omega
                        have HO' : Hid (Srt D2 a (h + 1)) := InsJ.stop HC.out (.inl (by omega))
                        clear HC
                        go_wp2_with fail
                        go_meet
                        exact ⟨D2, HR, HS, HO', HF⟩
                  · have HO' : Hid (Srt D1 a (h + 1)) := Srt.short _ _ _ (by omega)
                    clear HC
                    go_wp2_with fail
                    go_meet
                    exact ⟨D1, HRw5, HSs, HO', HFw5⟩
                case rest =>
                  clear HC HRw5 HFw5 HSs HS0
                  obtain ⟨D2, HR, HS, HO, HF⟩ := hcut
                  by_cases h2 : (2 : Int) ≤ (b : Int) - ((h : Int) + 1)
                  · go_wp2_with fail
                    go_loopw [10] (fun v10 wr => ∃ (k : Nat) (y : Int) (D3 : Nat → Int), v10 = .int .i64 y ∧ y = (k : Int) + 1 ∧ h + 1 ≤ k ∧ k + 1 ≤ b ∧ Hid (Rw wr g n c D3) ∧ Hid (Same D D3 a b) ∧ Hid (Srt D3 a (h + 1)) ∧ Hid (Fr g w wr)) (fun v10 _ => b - (intOf v10).toNat)
                    case atStart => exact ⟨h + 1, _, D2, rfl, by omega, Nat.le_refl _, by omega, HR, HS, HO, HF⟩
                    case round =>
                      clear HR HS HO HF
                      obtain ⟨k, y, D3, rfl, hy, hhk, hkb, HR, HS, HO, HF⟩ := hrel
                      subst hy
                      by_cases hkb2 : k + 1 < b
                      · have gc1 := HR.out.cell (k + 1) (by omega)
                        have gc2 := HR.out.cell k (by omega)
                        have e5 : decide ((k : Int) + 1 < (b : Int)) = true := decide_eq_true (by omega)
                        have e6 : decide (k + 1 < b) = true := decide_eq_true (by omega)
                        by_cases hl : D3 (k + 1) < D3 k
                        · have cl := less_t hl
                          have HO' : Hid (Srt (swp D3 (k + 1) k) a (h + 1)) := Srt.keep HO.out (by omega) (by omega)
                          clear hl HO
                          go_wp2_with fail
                          go_big_quiet (first | (go_at_call 37; exact Calls.quiet_of_same (cl _)) | fail)
                          obtain ⟨w7, hww7⟩ : ∃ x, x = wr.drewN nq := ⟨_, rfl⟩
                          rw [← hww7]
                          have HRw7 : Hid (Rw w7 g n c D3) := by show Rw ..; rw [hww7]; exact HR.out
                          have HFw7 : Hid (Fr g w w7) := by show Fr ..; rw [hww7]; exact HF.out.drewN _
                          clear hww7 HR HF gc1 gc2
                          have hc1x := HRw7.out.cell (k + 1) (by omega)
                          have hf1x := HRw7.out.frozen (k + 1)
                          have hc2x := HRw7.out.cell (k) (by omega)
                          have hf2x := HRw7.out.frozen (k)
                          have hs1x : (w7.setCell ⟨g, k + 1, none⟩ (.int .u64 (D3 (k)))).drew.cell? ⟨g, k, none⟩ = _ := (HRw7.out.set (k + 1) (by omega) (D3 (k))).cell (k) (by omega)
                          have hs2x : (w7.setCell ⟨g, k + 1, none⟩ (.int .u64 (D3 (k)))).drew.frozen? ⟨g, k, none⟩ = false := (HRw7.out.set (k + 1) (by omega) (D3 (k))).frozen (k)
                          have hs3x : (w7.setCell ⟨g, k, none⟩ (.int .u64 (D3 (k + 1)))).drew.cell? ⟨g, k + 1, none⟩ = _ := (HRw7.out.set (k) (by omega) (D3 (k + 1))).cell (k + 1) (by omega)
                          have hs4x : (w7.setCell ⟨g, k, none⟩ (.int .u64 (D3 (k + 1)))).drew.frozen? ⟨g, k + 1, none⟩ = false := (HRw7.out.set (k) (by omega) (D3 (k + 1))).frozen (k + 1)
                          have HSsx : Hid (Same D (swp D3 (k + 1) (k)) a b) := HS.out.trans (Same.swap D3 (k + 1) (k) (by omega) (by omega) (by omega) (by omega))
                          go_wp2_with fail
                          go_big_region
                          all_goals
                            obtain ⟨w8, hww8⟩ : ∃ x, x = ((w7.setCell ⟨g, k + 1, none⟩ (.int .u64 (D3 (k)))).setCell ⟨g, k, none⟩ (.int .u64 (D3 (k + 1)))).drew := ⟨_, rfl⟩
                            rw [← hww8]
                            have HRw8 : Hid (Rw w8 g n c (swp D3 (k + 1) (k))) := by show Rw ..; rw [hww8]; exact HRw7.out.swap (k + 1) (k) (by omega) (by omega)
                            have HFw8 : Hid (Fr g w w8) := by show Fr ..; rw [hww8]; exact ((HFw7.out.set _ _ _).set _ _ _).drew
                            clear hww8 hc1x hf1x hc2x hf2x hs1x hs2x hs3x hs4x HRw7 HFw7
                            go_wp2_with fail
                            go_roundw
                            case rel => exact ⟨k + 1, (k : Int) + 1 + 1, swp D3 (k + 1) k, rfl, by omega, by omega, by omega, HRw8, HSsx, HO', HFw8⟩
                            case measure => simp [intOf]; omega
                        · have cl := less_f hl
                          clear hl
                          go_wp2_with fail
                          go_big_quiet (first | (go_at_call 37; exact Calls.quiet_of_same (cl _)) | fail)
                          go_wp2_with fail
                          go_roundw
                          case rel => exact ⟨h, s + 1, _, D3, rfl, rfl, by go_num, hah, by omega, by omega, HR, HS, HO, HF.out.drewN _⟩
                          case measure => simp [intOf]; omega
                      · have e5 : decide ((k : Int) + 1 < (b : Int)) = false := decide_eq_false (by omega)
                        have e6 : decide (k + 1 < b) = false := decide_eq_false (by omega)
                        go_wp2_with fail
                        go_roundw
                        case rel => exact ⟨h, s + 1, _, D3, rfl, rfl, by go_num, hah, by omega, by omega, HR, HS, HO, HF⟩
                        case measure => simp [intOf]; omega
                  · go_wp2_with fail
                    go_roundw
                    case rel => exact ⟨h, s + 1, _, D2, rfl, rfl, by go_num, hah, by omega, by omega, HR, HS, HO, HF⟩
                    case measure => simp [intOf]; omega
          · have cl := less_f hl
            have HO' : Hid (Srt D0 a (h + 1 + 1)) := Srt.more HO.out (by omega) hah
            clear hl HO
            go_wp2_with fail
            go_big_quiet (first | (go_at_call 37; exact Calls.quiet_of_same (cl _)) | fail)
            go_wp2_with fail
            go_roundw
            case rel => exact ⟨h + 1, (h : Int) + 1 + 1, rfl, by omega, by omega, by omega, HR, HO', HF.out.drewN _⟩
            case measure => simp [intOf]; omega
        · obtain rfl : b = h + 1 := by omega
          have e1 : decide ((h : Int) + 1 < ((h + 1 : Nat) : Int)) = false := decide_eq_false (by omega)
          have e1' : decide ((h : Int) + 1 < (h : Int) + 1) = false := decide_eq_false (by omega)
          go_wp2_with fail
          go_big_quiet (fail)
          go_wp2_with fail
          go_ret
          exact ⟨true, rfl, HF.out.drewN _, D0, HR.out, HS0.out, fun _ => HO.out⟩
    · have e0 : decide ((s : Int) < 5) = false := decide_eq_false (by omega)
      go_wp2_with fail
      go_ret
      exact ⟨false, rfl, HF0.out, D0, HR0.out, HS0.out, fun h => by cases h⟩
end Go.Proofs.Qxb6605223a
