/-
  Seat b6605223a. WALKS: choosePivot (34), reverseRange (35), at uint64.
-/
import Derived.Test.Qxb6605223aS5
set_option linter.unusedVariables false
set_option linter.unusedSimpArgs false
namespace Go.Proofs.Qxb6605223a
open Go.RowKit

def PivPost (a b : Nat) (w : World) (e : Ending) (w' : World) : Prop :=
  ∃ p h : Nat, e = .returned (.tuple #[.int .i64 p, .int .i64 h]) ∧ a ≤ p ∧ p < b ∧ h ≤ 2 ∧ Below w.heap.size w w'

set_option maxRecDepth 100000 in
set_option maxHeartbeats 1000000 in
theorem pivot_any (g n c cp a b : Nat) (D : Nat → Int) (w : World) (h : Rw w g n c D) (hn : n ≤ 1048576) (hb : b ≤ n) (hab : a + 12 < b) :
    Calls Try.prog 34 #[.slice (some ⟨g, 0, none⟩) n cp, .int .i64 a, .int .i64 b] w (PivPost a b w) := by
  have hgl := h.lt
  have hne : g ≠ w.heap.size := by omega
  obtain ⟨L, hL⟩ : ∃ L, b = a + L := ⟨b - a, by omega⟩
  obtain ⟨q, hq⟩ : ∃ q, q = L / 4 := ⟨_, rfl⟩
  have e0 : (b : Int) - (a : Int) = (L : Int) := by omega
  have e1 : (L : Int) / 4 = (q : Int) := by omega
  have hL8 : (8 : Int) ≤ (L : Int) := by omega
  have hq2 : 3 ≤ q := by omega
  have hq3 : q * 4 ≤ L := by omega
  have hb2 : a + L ≤ b := by omega
  have HD0 : Hid (Rw (w.alloc (.cells #[.int .i64 0] 3)) g n c D) := h.alloc _
  have HC0 : Hid (Cnt (w.alloc (.cells #[.int .i64 0] 3)) w.heap.size 0) := ⟨by simp, by simp⟩
  have HB0 : Hid (Below w.heap.size w (w.alloc (.cells #[.int .i64 0] 3))) := (Below.refl _ w).alloc (Nat.le_refl _) _
  have HD : Hid (Rw w g n c D) := h
  clear h hL hq
  by_cases h50 : 50 ≤ L
  · have h50' : (50 : Int) ≤ (L : Int) := by omega
    have cA := medAdj_any g n c cp (a + q) w.heap.size 0 D _ HD0.out hn (by omega) (by omega) (by omega) HC0.out hne
    rw [show ((a + q : Nat) : Int) = (a : Int) + (q : Int) by omega] at cA
    clear HC0
    go_enter Try.func34, Try.ntmps34
    go_wp2_with fail
    refine cA.mono ?_
    rintro e w1 ⟨x1, s1, rfl, hx1, hs1, hr1, hf1⟩
    have HD1 : Hid (Rw w1 g n c D) := HD0.out.fr hf1 hne
    have HB1 : Hid (Below w.heap.size w w1) := Fr.below HB0.out hf1 (by simp) (Nat.le_refl _)
    obtain ⟨hx1a, hx1b⟩ := hx1
    have cB := medAdj_any g n c cp (a + q * 2) w.heap.size s1 D w1 HD1.out hn (by omega) (by omega) (by omega) hr1 hne
    rw [show ((a + q * 2 : Nat) : Int) = (a : Int) + (q : Int) * 2 by omega] at cB
    clear hf1 hr1 HB0 HD0 cA
    go_wp2_with fail
    refine cB.mono ?_
    rintro e w2 ⟨x2, s2, rfl, hx2, hs2, hr2, hf2⟩
    have HD2 : Hid (Rw w2 g n c D) := HD1.out.fr hf2 hne
    have HB2 : Hid (Below w.heap.size w w2) := Fr.below HB1.out hf2 (by have := HB1.out.size; exact this) (Nat.le_refl _)
    obtain ⟨hx2a, hx2b⟩ := hx2
    have cC := medAdj_any g n c cp (a + q * 3) w.heap.size s2 D w2 HD2.out hn (by omega) (by omega) (by omega) hr2 hne
    rw [show ((a + q * 3 : Nat) : Int) = (a : Int) + (q : Int) * 3 by omega] at cC
    clear hf2 hr2 HB1 HD1 cB
    go_wp2_with fail
    refine cC.mono ?_
    rintro e w3 ⟨x3, s3, rfl, hx3, hs3, hr3, hf3⟩
    have HD3 : Hid (Rw w3 g n c D) := HD2.out.fr hf3 hne
    have HB : Hid (Below w.heap.size w w3) := Fr.below HB2.out hf3 (by have := HB2.out.size; exact this) (Nat.le_refl _)
    obtain ⟨hx3a, hx3b⟩ := hx3
    have cM := median_any g n c cp x1 x2 x3 w.heap.size s3 D w3 HD3.out hn (by omega) (by omega) (by omega) (by omega) hr3 hne
    clear hf3 hr3 HB2 HD2 HD3 cC
    go_wp2_with fail
    refine cM.mono ?_
    rintro e wz ⟨x, sz, rfl, hx, hsz, hrz, hfz⟩
    have HBz : Hid (Below w.heap.size w wz) := Fr.below HB.out hfz (by have := HB.out.size; exact this) (Nat.le_refl _)
    have hxa : a ≤ x ∧ x < b := by omega
    obtain ⟨hxa1, hxa2⟩ := hxa
    obtain ⟨hz1, hz2⟩ := hrz
    clear hx hfz cM HB
    by_cases z0 : sz = 0
    · subst z0
      go_wp2_with fail
      go_ret2
      exact ⟨x, 1, rfl, hxa1, hxa2, by omega, HBz.out⟩
    · have y0 : ((sz : Int) == 0) = false := by simpa using z0
      by_cases z12 : sz = 12
      · subst z12
        go_wp2_with fail
        go_ret2
        exact ⟨x, 2, rfl, hxa1, hxa2, by omega, HBz.out⟩
      · have y12 : ((sz : Int) == 12) = false := by simpa using (fun h : (sz : Int) = 12 => z12 (by omega))
        go_wp2_with fail
        go_ret2
        exact ⟨x, 0, rfl, hxa1, hxa2, by omega, HBz.out⟩
  · have h50' : ¬ (50 : Int) ≤ (L : Int) := by omega
    have cM := median_any g n c cp (a + q) (a + q * 2) (a + q * 3) w.heap.size 0 D _ HD0.out hn (by omega) (by omega) (by omega) (by omega) HC0.out hne
    rw [show ((a + q : Nat) : Int) = (a : Int) + (q : Int) by omega, show ((a + q * 2 : Nat) : Int) = (a : Int) + (q : Int) * 2 by omega, show ((a + q * 3 : Nat) : Int) = (a : Int) + (q : Int) * 3 by omega] at cM
    have HB : Hid (Below w.heap.size w (w.alloc (.cells #[.int .i64 0] 3))) := HB0
    clear HC0 HB0 HD0
    go_enter Try.func34, Try.ntmps34
    go_wp2_with fail
    refine cM.mono ?_
    rintro e wz ⟨x, sz, rfl, hx, hsz, hrz, hfz⟩
    have HBz : Hid (Below w.heap.size w wz) := Fr.below HB.out hfz (by have := HB.out.size; exact this) (Nat.le_refl _)
    have hxa : a ≤ x ∧ x < b := by omega
    obtain ⟨hxa1, hxa2⟩ := hxa
    obtain ⟨hz1, hz2⟩ := hrz
    clear hx hfz cM HB
    by_cases z0 : sz = 0
    · subst z0
      go_wp2_with fail
      go_ret2
      exact ⟨x, 1, rfl, hxa1, hxa2, by omega, HBz.out⟩
    · have y0 : ((sz : Int) == 0) = false := by simpa using z0
      by_cases z12 : sz = 12
      · subst z12
        go_wp2_with fail
        go_ret2
        exact ⟨x, 2, rfl, hxa1, hxa2, by omega, HBz.out⟩
      · have y12 : ((sz : Int) == 12) = false := by simpa using (fun h : (sz : Int) = 12 => z12 (by omega))
        go_wp2_with fail
        go_ret2
        exact ⟨x, 0, rfl, hxa1, hxa2, by omega, HBz.out⟩

set_option maxRecDepth 100000 in
set_option maxHeartbeats 1000000 in
theorem reverse_any (g n c cp a b : Nat) (D : Nat → Int) (w : World) (h : Rw w g n c D) (hn : n ≤ 1048576) (hb : b ≤ n) (hab : a < b) :
    Calls Try.prog 35 #[.slice (some ⟨g, 0, none⟩) n cp, .int .i64 a, .int .i64 b] w (SPost g n c D a b (fun _ => True) (.tuple #[]) w) := by
  have HD : Hid (Rw w g n c D) := h
  clear h
  go_enter Try.func35, Try.ntmps35
  go_wp2_with fail
  go_loopw [6, 7] (fun vi vj wr => ∃ (i k : Nat) (y : Int) (D' : Nat → Int), vi = .int .i64 i ∧ vj = .int .i64 y ∧ y = (k : Int) - 1 ∧ a ≤ i ∧ i ≤ b ∧ k ≤ b ∧ a ≤ k ∧ Hid (Rw wr g n c D') ∧ Hid (Same D D' a b) ∧ Hid (Fr g w wr)) (fun vi _ _ => b - (intOf vi).toNat)
  case atStart => exact ⟨a, b, _, D, rfl, rfl, rfl, by omega, by omega, by omega, by omega, HD, Same.refl _ _ _, Fr.refl _ _⟩
  case round =>
    clear HD
    obtain ⟨i, k, y, D1, rfl, rfl, hy, hai, hib, hkb, hak, HR, HS, HF⟩ := hrel
    by_cases hlt : (i : Int) < y
    · obtain ⟨j, hj⟩ : ∃ j, k = j + 1 := ⟨k - 1, by omega⟩
      subst hj
      obtain rfl : y = (j : Int) := by omega
      have hc1 := HR.out.cell i (by omega)
      have hf1 := HR.out.frozen i
      have hc2 := HR.out.cell j (by omega)
      have hf2 := HR.out.frozen j
      have hs1 : (wr.setCell ⟨g, i, none⟩ (.int .u64 (D1 j))).drew.cell? ⟨g, j, none⟩ = _ := (HR.out.set i (by omega) (D1 j)).cell j (by omega)
      have hs2 : (wr.setCell ⟨g, i, none⟩ (.int .u64 (D1 j))).drew.frozen? ⟨g, j, none⟩ = false := (HR.out.set i (by omega) (D1 j)).frozen j
      have hs3 : (wr.setCell ⟨g, j, none⟩ (.int .u64 (D1 i))).drew.cell? ⟨g, i, none⟩ = _ := (HR.out.set j (by omega) (D1 i)).cell i (by omega)
      have hs4 : (wr.setCell ⟨g, j, none⟩ (.int .u64 (D1 i))).drew.frozen? ⟨g, i, none⟩ = false := (HR.out.set j (by omega) (D1 i)).frozen i
      have HS' : Hid (Same D (swp D1 i j) a b) := HS.out.trans (Same.swap D1 i j (by omega) (by omega) (by omega) (by omega))
      have HR3 : Hid (Rw (((wr.setCell ⟨g, i, none⟩ (.int .u64 (D1 j))).setCell ⟨g, j, none⟩ (.int .u64 (D1 i))).drew) g n c (swp D1 i j)) := HR.out.swap i j (by omega) (by omega)
      have HF3 : Hid (Fr g w (((wr.setCell ⟨g, i, none⟩ (.int .u64 (D1 j))).setCell ⟨g, j, none⟩ (.int .u64 (D1 i))).drew)) := ((HF.out.set _ _ _).set _ _ _).drew
      clear hy
      go_wp2_with fail
      go_big_region
      all_goals
        go_wp2_with fail
        go_roundw
        case rel => exact ⟨i + 1, j, (j : Int) - 1, _, by go_num, rfl, rfl, by omega, by omega, by omega, by omega, HR3, HS', HF3⟩
        case measure => simp [intOf]; omega
    · clear hy
      go_wp2_with fail
      go_end0
      exact ⟨rfl, HF.out, D1, HR.out, HS.out, trivial⟩
end Go.Proofs.Qxb6605223a
