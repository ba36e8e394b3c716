/-
  Seat b6605223a. WALK: slices.heapSortOrdered[uint64] (32).
-/
import Derived.Test.Qxb6605223aS2
set_option linter.unusedVariables false
set_option linter.unusedSimpArgs false
namespace Go.Proofs.Qxb6605223a
open Go.RowKit

/-- The root of a heap is its greatest. -/
theorem Hp.max {D : Nat → Int} {f m : Nat} (h : Hp D f 0 m) : ∀ k c, c ≤ k → c < m → D (f + c) ≤ D (f + 0)
  | 0, c, h1, h2 => by obtain rfl : c = 0 := by omega
                       exact Int.le_refl _
  | k + 1, c, h1, h2 => by
    by_cases e : c = 0
    · subst e; exact Int.le_refl _
    · have h3 := Hp.max h k ((c - 1) / 2) (by omega) (by omega)
      have h4 := h ((c - 1) / 2) c (by omega) h2 (by unfold Kid; omega)
      omega

/-- From place i of the range on all is settled. -/
def Dn (D : Nat → Int) (f i hi : Nat) : Prop := ∀ x y, x < y → y < hi → i ≤ y → D (f + x) ≤ D (f + y)

theorem Dn.swap {D : Nat → Int} {f i hi : Nat} (h : Dn D f (i + 1) hi) (hp : Hp D f 0 (i + 1)) (hi' : i < hi) : Dn (swp D f (f + i)) f i hi := by
  intro x y h1 h2 h3
  have hm : ∀ c, c < i + 1 → D (f + c) ≤ D f := fun c hc => by have := Hp.max hp c c (Nat.le_refl _) hc; simpa using this
  by_cases ey : y = i
  · subst ey
    rw [swp_r]
    by_cases ex : x = 0
    · subst ex
      have : swp D f (f + y) (f + 0) = D (f + y) := swp_l D f (f + y)
      rw [this]
      exact hm y (by omega)
    · rw [swp_o D f (f + y) (f + x) (by omega) (by omega)]
      exact hm x (by omega)
  · rw [swp_o D f (f + i) (f + y) (by omega) (by omega)]
    by_cases ex : x = 0
    · subst ex
      have : swp D f (f + i) (f + 0) = D (f + i) := swp_l D f (f + i)
      rw [this]
      exact h i y (by omega) h2 (by omega)
    · by_cases exi : x = i
      · subst exi
        rw [swp_r]
        have := h 0 y (by omega) h2 (by omega)
        simpa using this
      · rw [swp_o D f (f + i) (f + x) (by omega) (by omega)]
        exact h x y h1 h2 (by omega)
theorem Dn.same {D D' : Nat → Int} {f i hi : Nat} (h : Dn D f i hi) (hs : Same D D' f (f + i)) : Dn D' f i hi := by
  intro x y h1 h2 h3
  rw [hs.out (i := f + y) (.inr (by omega))]
  by_cases ex : x < i
  · obtain ⟨j, j1, j2, e⟩ := hs.2.1 (f + x) (by omega) (by omega)
    obtain ⟨k, rfl⟩ : ∃ k, j = f + k := ⟨j - f, by omega⟩
    rw [e]
    exact h k y (by omega) h2 h3
  · rw [hs.out (i := f + x) (.inr (by omega))]
    exact h x y h1 h2 h3
theorem Hp.afterSwap {D : Nat → Int} {f i : Nat} (hp : Hp D f 0 (i + 1)) : Hp (swp D f (f + i)) f (0 + 1) i := fun r c h1 h2 h3 => by
  have : r < c := by unfold Kid at h3; omega
  rw [swp_o D f (f + i) (f + r) (by omega) (by omega), swp_o D f (f + i) (f + c) (by omega) (by omega)]
  exact hp r c (by omega) (by omega) h3

set_option maxRecDepth 100000 in
set_option maxHeartbeats 1000000 in
theorem heap_any (g n c cp a b : Nat) (D : Nat → Int) (w : World) (h : Rw w g n c D) (hn : n ≤ 1048576) (hb : b ≤ n) (hab : a < b) :
    Calls Try.prog 32 #[.slice (some ⟨g, 0, none⟩) n cp, .int .i64 a, .int .i64 b] w (SPost g n c D a b (fun D' => Srt D' a b) (.tuple #[]) w) := by
  obtain ⟨k, hk⟩ : ∃ k, b = a + (k + 1) := ⟨b - a - 1, by omega⟩
  have HD : Hid (Rw w g n c D) := h
  clear h
  have e0 : (b : Int) - (a : Int) = (k : Int) + 1 := by omega
  have hk2 : Hid (b = a + (k + 1)) := hk
  have hb2 : a + (k + 1) ≤ n := by omega
  have hb3 : b ≤ a + (k + 1) := by omega
  have hb4 : a + (k + 1) ≤ b := by omega
  clear hk
  go_enter Try.func32, Try.ntmps32
  go_wp2_with fail
  go_loopw [9] (fun v wr => ∃ (m : Nat) (x : Int) (D' : Nat → Int), v = .int .i64 x ∧ x = (m : Int) - 1 ∧ m ≤ k + 1 ∧ Hid (Rw wr g n c D') ∧ Hid (Same D D' a b) ∧ Hid (Hp D' a m (k + 1)) ∧ Hid (Fr g w wr)) (fun v _ => (intOf v + 1).toNat)
  case atStart => exact ⟨k / 2 + 1, _, D, rfl, by omega, by omega, HD, Same.refl _ _ _, (fun r c h1 h2 h3 => by unfold Kid at h3; omega), Fr.refl _ _⟩
  case round =>
    obtain ⟨m, x, D1, rfl, hx, hm, HR, HS, HO, HF⟩ := hrel
    cases m with
    | zero =>
      obtain rfl : x = -1 := by omega
      clear hx HD
      go_wp2_with fail
      obtain ⟨w1, hw1⟩ : ∃ y, y = wr := ⟨wr, rfl⟩
      subst hw1
      go_loopw [10] (fun v wr => ∃ (m : Nat) (x : Int) (D' : Nat → Int), v = .int .i64 x ∧ x = (m : Int) - 1 ∧ m ≤ k + 1 ∧ Hid (Rw wr g n c D') ∧ Hid (Same D D' a b) ∧ Hid (Hp D' a 0 m) ∧ Hid (Dn D' a m (k + 1)) ∧ Hid (Fr g w wr)) (fun v _ => (intOf v + 1).toNat)
      case atStart => exact ⟨k + 1, _, D1, rfl, by omega, by omega, HR, HS, HO, (fun x y h1 h2 h3 => by omega), HF⟩
      case round =>
        clear HR HS HO HF
        obtain ⟨m, x, D2, rfl, hx, hm, HR, HS, HO, HN, HF⟩ := hrel
        cases m with
        | zero =>
          obtain rfl : x = -1 := by omega
          have HF' : Hid (Srt D2 a b) := fun x y h1 h2 h3 => by
            have := HN.out (x - a) (y - a) (by omega) (by omega) (by omega)
            rwa [show a + (x - a) = x by omega, show a + (y - a) = y by omega] at this
          clear hx HN HO
          go_wp2_with fail
          go_end0
          exact ⟨rfl, HF.out, D2, HR.out, HS.out, HF'.out⟩
        | succ j =>
          obtain rfl : x = (j : Int) := by omega
          have hc1 := HR.out.cell a (by omega)
          have hf1 := HR.out.frozen a
          have hc2 := HR.out.cell (a + j) (by omega)
          have hf2 := HR.out.frozen (a + j)
          have HP' : Hid (Hp (swp D2 a (a + j)) a (0 + 1) j) := Hp.afterSwap HO.out
          have HN' : Hid (Dn (swp D2 a (a + j)) a j (k + 1)) := Dn.swap HN.out HO.out (by omega)
          have HS' : Hid (Same D (swp D2 a (a + j)) a b) := HS.out.trans (Same.swap D2 a (a + j) (by omega) (by omega) (by omega) (by omega))
          have hs1 : (wr.setCell ⟨g, a, none⟩ (.int .u64 (D2 (a + j)))).drew.cell? ⟨g, a + j, none⟩ = _ := (HR.out.set a (by omega) (D2 (a + j))).cell (a + j) (by omega)
          have hs2 : (wr.setCell ⟨g, a, none⟩ (.int .u64 (D2 (a + j)))).drew.frozen? ⟨g, a + j, none⟩ = false := (HR.out.set a (by omega) (D2 (a + j))).frozen (a + j)
          have hs3 : (wr.setCell ⟨g, a + j, none⟩ (.int .u64 (D2 a))).drew.cell? ⟨g, a, none⟩ = _ := (HR.out.set (a + j) (by omega) (D2 a)).cell a (by omega)
          have hs4 : (wr.setCell ⟨g, a + j, none⟩ (.int .u64 (D2 a))).drew.frozen? ⟨g, a, none⟩ = false := (HR.out.set (a + j) (by omega) (D2 a)).frozen a
          clear HS HO HN hx
          go_wp2_with fail
          go_big_region
          all_goals
            obtain ⟨w2, hw2⟩ : ∃ x, x = ((wr.setCell ⟨g, a, none⟩ (.int .u64 (D2 (a + j)))).setCell ⟨g, a + j, none⟩ (.int .u64 (D2 a))).drew := ⟨_, rfl⟩
            rw [← hw2]
            have HR2 : Hid (Rw w2 g n c (swp D2 a (a + j))) := by show Rw ..; rw [hw2]; exact HR.out.swap a (a + j) (by omega) (by omega)
            have HF2 : Hid (Fr g w w2) := by show Fr ..; rw [hw2]; exact ((HF.out.set _ _ _).set _ _ _).drew
            have cS := sift_any g n c cp 0 j a (swp D2 a (a + j)) w2 HR2.out hn (by omega) (by omega) HP'.out
            clear hw2 HR HF hs1 hs2 hs3 hs4 hc1 hc2 hf1 hf2 HP'
            go_wp2_with fail
            refine cS.mono ?_
            rintro e w3 ⟨rfl, hf, D3, h1, h2, h3⟩
            have HR3 : Hid (Rw w3 g n c D3) := h1
            have HS3 : Hid (Same D D3 a b) := HS'.out.trans (h2.mono (Nat.le_refl _) (by omega))
            have HO3 : Hid (Hp D3 a 0 j) := h3
            have HN3 : Hid (Dn D3 a j (k + 1)) := Dn.same HN'.out h2
            have HF3 : Hid (Fr g w w3) := HF2.out.trans hf
            clear h1 h2 h3 hf HR2 HF2 HS' HN' cS
            go_wp2_with fail
            go_roundw
            case rel => exact ⟨j, (j : Int) - 1, D3, rfl, by omega, by omega, HR3, HS3, HO3, HN3, HF3⟩
            case measure => simp [intOf]
    | succ j =>
      obtain rfl : x = (j : Int) := by omega
      have cS := sift_any g n c cp j (k + 1) a D1 wr HR.out hn (by omega) (by omega) HO.out
      rw [show ((k + 1 : Nat) : Int) = (k : Int) + 1 by omega] at cS
      clear hx HO HD
      go_wp2_with fail
      refine cS.mono ?_
      rintro e w2 ⟨rfl, hf, D2, h1, h2, h3⟩
      have HR2 : Hid (Rw w2 g n c D2) := h1
      have HS2 : Hid (Same D D2 a b) := HS.out.trans (by rw [hk2.out]; exact h2)
      have HO2 : Hid (Hp D2 a j (k + 1)) := h3
      have HF2 : Hid (Fr g w w2) := HF.out.trans hf
      clear h1 h2 h3 hf HR HS HF
      go_wp2_with fail
      go_roundw
      case rel => exact ⟨j, (j : Int) - 1, D2, rfl, by omega, by omega, HR2, HS2, HO2, HF2⟩
      case measure => simp [intOf]
end Go.Proofs.Qxb6605223a
