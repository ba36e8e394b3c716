/-
  Seat b6605294a. WALK: familySymmetric (10).
-/
import Derived.Test.Qxb6605294aE0
import Derived.Test.Qxb6605294aD18
set_option linter.unusedVariables false
set_option linter.unusedSimpArgs false
namespace Go.Proofs.Qxb6605294a
open Go.RowKit

/-- a's lists name b. -/
def Lk (n : Nat) (PE : Nat → Int) (L : Nat → Nat → Nat) (Z : Nat → Nat → Nat → Int) (a b : Int) : Prop := ∃ i, i < n ∧ PE i = a ∧ ∃ k, k < 4 ∧ ∃ t, t < L k i ∧ Z k i t = b
def SymPost (n : Nat) (PE : Nat → Int) (L : Nat → Nat → Nat) (Z : Nat → Nat → Nat → Int) (w : World) (r : Ending) (w' : World) : Prop :=
  ∃ f : Bool, r = .returned (.bool f) ∧ (f = true → ∀ i, i < n → ∀ k, k < 4 → ∀ t, t < L k i → Lk n PE L Z (Z k i t) (PE i)) ∧ Below w.heap.size w w'

set_option maxRecDepth 100000 in
set_option maxHeartbeats 8000000 in
theorem sym_any (a b1 b2 b3 b4 : Option Addr) (n c c1 c2 c3 c4 : Nat) (PE : Nat → Int) (A1 A2 A3 A4 : Nat → Option Addr) (L1 L2 L3 L4 C1 C2 C3 C4 : Nat → Nat) (Z1 Z2 Z3 Z4 : Nat → Nat → Int) (w : World) (hn : n ≤ 1048576)
    (l1 : ∀ q, q < n → L1 q ≤ 1048576) (l2 : ∀ q, q < n → L2 q ≤ 1048576) (l3 : ∀ q, q < n → L3 q ≤ 1048576) (l4 : ∀ q, q < n → L4 q ≤ 1048576)
    (h0 : RdI .i64 w a n PE) (h1 : RdL w b1 n A1 L1 C1 Z1) (h2 : RdL w b2 n A2 L2 C2 Z2) (h3 : RdL w b3 n A3 L3 C3 Z3) (h4 : RdL w b4 n A4 L4 C4 Z4)
    (hwf : ∀ i, i < n → (Lit.int .i64 (PE i)).wf = true) (hW : Wf n PE (pick4 L1 L2 L3 L4) (pick4 Z1 Z2 Z3 Z4)) :
    Calls Try.prog 10 #[.slice a n c, .slice b1 n c1, .slice b2 n c2, .slice b3 n c3, .slice b4 n c4] w (SymPost n PE (pick4 L1 L2 L3 L4) (pick4 Z1 Z2 Z3 Z4) w) := by
  have H0 : Hid (RdI .i64 w a n PE) := h0
  have H1 : Hid (RdL w b1 n A1 L1 C1 Z1) := h1
  have H2 : Hid (RdL w b2 n A2 L2 C2 Z2) := h2
  have H3 : Hid (RdL w b3 n A3 L3 C3 Z3) := h3
  have H4 : Hid (RdL w b4 n A4 L4 C4 Z4) := h4
  have HL : Hid ((∀ q, q < n → L1 q ≤ 1048576) ∧ (∀ q, q < n → L2 q ≤ 1048576) ∧ (∀ q, q < n → L3 q ≤ 1048576) ∧ (∀ q, q < n → L4 q ≤ 1048576)) := ⟨l1, l2, l3, l4⟩
  have HWF : Hid (∀ i, i < n → (Lit.int .i64 (PE i)).wf = true) := hwf
  have HZF : Hid (∀ i, i < n → ∀ k, k < 4 → ∀ t, t < pick4 L1 L2 L3 L4 k i → (Lit.int .i64 (pick4 Z1 Z2 Z3 Z4 k i t)).wf = true) := fun i hi k hk t ht => by
    obtain ⟨j, hj, e⟩ := hW.rel i hi k hk t ht
    rw [e]
    exact hwf j hj
  obtain ⟨R, HR0⟩ : ∃ x, Hid (x = Lk n PE (pick4 L1 L2 L3 L4) (pick4 Z1 Z2 Z3 Z4)) := ⟨_, rfl⟩
  have HRD : Hid (∀ i, i < n → ∀ k, k < 4 → ∀ (w' : World), Below w.heap.size w w' → RdI .i64 w' (pick4 A1 A2 A3 A4 k i) (pick4 L1 L2 L3 L4 k i) (pick4 Z1 Z2 Z3 Z4 k i) ∧ pick4 L1 L2 L3 L4 k i ≤ 1048576) := fun i hi k hk w' hb => by
    have : k = 0 ∨ k = 1 ∨ k = 2 ∨ k = 3 := by omega
    rcases this with rfl | rfl | rfl | rfl
    · obtain ⟨x, hx⟩ := h1.at' (by omega)
      exact ⟨(((h1.below hb).2 x hx).2 i hi).2, l1 i hi⟩
    · obtain ⟨x, hx⟩ := h2.at' (by omega)
      exact ⟨(((h2.below hb).2 x hx).2 i hi).2, l2 i hi⟩
    · obtain ⟨x, hx⟩ := h3.at' (by omega)
      exact ⟨(((h3.below hb).2 x hx).2 i hi).2, l3 i hi⟩
    · obtain ⟨x, hx⟩ := h4.at' (by omega)
      exact ⟨(((h4.below hb).2 x hx).2 i hi).2, l4 i hi⟩
  clear h0 h1 h2 h3 h4 l1 l2 l3 l4 hwf hW
  have hmk := run_mkMap0 w
  go_enter Try.func10, Try.ntmps10
  go_wp2_with fail
  obtain ⟨w1, hw1⟩ : ∃ x, x = w.alloc (.map #[] 0) := ⟨_, rfl⟩
  rw [← hw1]
  obtain ⟨gM, HGM⟩ : ∃ x, Hid (x = w.heap.size) := ⟨_, rfl⟩
  rw [← HGM.out]
  have HM0 : Hid (Mq w1 gM R) := by rw [hw1, HGM.out]; exact Mq.made w R
  have HT0 : Hid (Below w.heap.size w w1) := by rw [hw1]; exact (Below.refl _ _).alloc (Nat.le_refl _) _
  have hgM : w.heap.size ≤ gM := Nat.le_of_eq HGM.out.symm
  clear hw1 hmk HGM
  go_loopw [13] (fun v wr => ∃ (i : Nat), v = .int .i64 i ∧ i ≤ n ∧ Hid (Mq wr gM R) ∧ Hid (Below w.heap.size w wr)) (fun v _ => n - (intOf v).toNat)
  case atStart => exact ⟨0, rfl, Nat.zero_le _, HM0, HT0⟩
  case round =>
    clear HM0 HT0
    obtain ⟨i, rfl, hi, HM, HB⟩ := hrel
    by_cases hlt : i < n
    · have e1 : decide ((i : Int) < (n : Int)) = true := decide_eq_true (by omega)
      have e1' : decide (i < n) = true := decide_eq_true hlt
      obtain ⟨x1, hx1⟩ := H1.out.at' (by omega)
      obtain ⟨x2, hx2⟩ := H2.out.at' (by omega)
      obtain ⟨x3, hx3⟩ := H3.out.at' (by omega)
      obtain ⟨x4, hx4⟩ := H4.out.at' (by omega)
      obtain ⟨k1, _⟩ := ((H1.out.below HB.out).2 x1 hx1).2 i hlt
      obtain ⟨k2, _⟩ := ((H2.out.below HB.out).2 x2 hx2).2 i hlt
      obtain ⟨k3, _⟩ := ((H3.out.below HB.out).2 x3 hx3).2 i hlt
      obtain ⟨k4, _⟩ := ((H4.out.below HB.out).2 x4 hx4).2 i hlt
      have HKK : Hid (∀ w' : World, Below wr.heap.size wr w' → w'.cell? (x1.add i) = some (.slice (A1 i) (L1 i) (C1 i)) ∧ w'.cell? (x2.add i) = some (.slice (A2 i) (L2 i) (C2 i)) ∧ w'.cell? (x3.add i) = some (.slice (A3 i) (L3 i) (C3 i)) ∧ w'.cell? (x4.add i) = some (.slice (A4 i) (L4 i) (C4 i))) := fun w' hb =>
        ⟨by rw [hb.cell (World.block_lt_of_cell? wr _ k1)]; exact k1, by rw [hb.cell (World.block_lt_of_cell? wr _ k2)]; exact k2, by rw [hb.cell (World.block_lt_of_cell? wr _ k3)]; exact k3, by rw [hb.cell (World.block_lt_of_cell? wr _ k4)]; exact k4⟩
      subst hx1 hx2 hx3 hx4
      go_wp2_with fail
      go_region_held3 (fun (w' : World) => w'.cell? (x1.add i) = some (.slice (A1 i) (L1 i) (C1 i)) ∧ w'.cell? (x2.add i) = some (.slice (A2 i) (L2 i) (C2 i)) ∧ w'.cell? (x3.add i) = some (.slice (A3 i) (L3 i) (C3 i)) ∧ w'.cell? (x4.add i) = some (.slice (A4 i) (L4 i) (C4 i)))
        (first | exact HKK.out _ (Below.refl _ _).drew | exact HKK.out _ (((Below.refl _ _).alloc (Nat.le_refl _) _).drew))
        (fail)
      obtain ⟨w5, hw5⟩ : ∃ x, x = (wr.alloc (.cells #[.slice (A1 i) (L1 i) (C1 i), .slice (A2 i) (L2 i) (C2 i), .slice (A3 i) (L3 i) (C3 i), .slice (A4 i) (L4 i) (C4 i)] 35)).drew := ⟨_, rfl⟩
      rw [← hw5]
      obtain ⟨hA, HHA⟩ : ∃ x, Hid (x = wr.heap.size) := ⟨_, rfl⟩
      rw [← HHA.out]
      have hb5 : Below wr.heap.size wr w5 := by rw [hw5]; exact ((Below.refl _ _).alloc (Nat.le_refl _) _).drew
      have HB5 : Hid (Below w.heap.size w w5) := HB.out.trans (hb5.mono HB.out.size)
      have HM5 : Hid (Mq w5 gM R) := HM.out.alloc (hb5.block gM HM.out.lt)
      have hne : hA ≠ gM := by rw [HHA.out]; have := HM.out.lt; omega
      have HAR : Hid (Bk w5 hA 35 4 (fun k => .slice (pick4 A1 A2 A3 A4 k i) (pick4 L1 L2 L3 L4 k i) (pick4 C1 C2 C3 C4 k i))) := by
        show Bk _ _ _ _ _
        rw [hw5, HHA.out]
        refine (Bk.new wr _ 35).congr (fun k hk => ?_)
        have hk : k < 4 := hk
        have hk' : k = 0 ∨ k = 1 ∨ k = 2 ∨ k = 3 := by omega
        rcases hk' with rfl | rfl | rfl | rfl <;> rfl
      clear hw5 HKK HHA k1 k2 k3 k4 hb5
      go_wp2_with fail
      go_loopw [15] (fun v wr => ∃ (k : Nat), v = .int .i64 k ∧ k ≤ 4 ∧ Hid (Mq wr gM R) ∧ Hid (Below w.heap.size w wr) ∧ Hid (Bk wr hA 35 4 (fun k => .slice (pick4 A1 A2 A3 A4 k i) (pick4 L1 L2 L3 L4 k i) (pick4 C1 C2 C3 C4 k i)))) (fun v _ => 4 - (intOf v).toNat)
      case atStart => exact ⟨0, rfl, by omega, HM5, HB5, HAR⟩
      case round =>
        clear HM5 HB5 HAR
        obtain ⟨k, rfl, hk, HM2, HB2, HA2⟩ := hrel
        by_cases hlt3 : k < 4
        · have e2 : decide ((k : Int) < 4) = true := decide_eq_true (by omega)
          have e2' : decide (k < 4) = true := decide_eq_true hlt3
          have hki : (k : Int) < 4 := by omega
          have ka : wr.cell? ⟨hA, k, none⟩ = some (.slice (pick4 A1 A2 A3 A4 k i) (pick4 L1 L2 L3 L4 k i) (pick4 C1 C2 C3 C4 k i)) := HA2.out.cell k hlt3
          obtain ⟨ak, HAK⟩ : ∃ x, Hid (x = pick4 A1 A2 A3 A4 k i) := ⟨_, rfl⟩
          obtain ⟨lk', HLK⟩ : ∃ x, Hid (x = pick4 L1 L2 L3 L4 k i) := ⟨_, rfl⟩
          obtain ⟨ck, HCK⟩ : ∃ x, Hid (x = pick4 C1 C2 C3 C4 k i) := ⟨_, rfl⟩
          rw [← HAK.out, ← HLK.out, ← HCK.out] at ka
          have lk : lk' ≤ 1048576 := by rw [HLK.out]; exact (HRD.out i hlt k hlt3 w (Below.refl _ _)).2
          go_wp2_with fail
          go_loopw [56] (fun v wr => ∃ (t : Nat), v = .int .i64 t ∧ t ≤ lk' ∧ Hid (Mq wr gM R) ∧ Hid (Below w.heap.size w wr) ∧ Hid (Bk wr hA 35 4 (fun k => .slice (pick4 A1 A2 A3 A4 k i) (pick4 L1 L2 L3 L4 k i) (pick4 C1 C2 C3 C4 k i)))) (fun v _ => lk' - (intOf v).toNat)
          case atStart => exact ⟨0, rfl, Nat.zero_le _, HM2, HB2, HA2⟩
          case round =>
            clear HM2 HB2 HA2 ka
            obtain ⟨t, rfl, ht, HM3, HB3, HA3⟩ := hrel
            by_cases hlt4 : t < lk'
            · have e3 : decide ((t : Int) < (lk' : Int)) = true := decide_eq_true (by omega)
              have e3' : decide (t < lk') = true := decide_eq_true hlt4
              have hrd := (HRD.out i hlt k hlt3 wr HB3.out).1
              rw [← HAK.out, ← HLK.out] at hrd
              obtain ⟨x, hx, kx⟩ := hrd.cell t hlt4
              clear hrd
              obtain ⟨u, HUU⟩ : ∃ u, Hid (u = pick4 Z1 Z2 Z3 Z4 k i t) := ⟨_, rfl⟩
              rw [← HUU.out] at kx
              obtain ⟨x0, hx0, kp⟩ := (H0.out.below HB3.out).cell i hlt
              obtain ⟨p, HPP⟩ : ∃ u, Hid (u = PE i) := ⟨_, rfl⟩
              rw [← HPP.out] at kp
              have wu : (Lit.int .i64 u).wf = true := by rw [HUU.out]; exact HZF.out i hlt k hlt3 t (by rw [← HLK.out]; exact hlt4)
              have wp : (Lit.int .i64 p).wf = true := by rw [HPP.out]; exact HWF.out i hlt
              have hRpu : R p u := by
                rw [HR0.out]
                exact ⟨i, hlt, HPP.out.symm, k, hlt3, t, by rw [← HLK.out]; exact hlt4, HUU.out.symm⟩
              obtain ⟨w6, hrun, hM6, hT6⟩ := HM3.out.store wp wu hRpu
              have HM6 := hide hM6
              have HB6 : Hid (Below w.heap.size w w6) := hT6.below HB3.out hgM
              have HA6 : Hid (Bk w6 hA 35 4 (fun k => .slice (pick4 A1 A2 A3 A4 k i) (pick4 L1 L2 L3 L4 k i) (pick4 C1 C2 C3 C4 k i))) := HA3.out.sameBlock (hT6.block hA hne)
              clear hM6 hT6 hRpu wu wp
              subst hx hx0
              go_wp2_with fail
              go_roundw
              case rel => exact ⟨t + 1, by go_num, by omega, HM6, HB6, HA6⟩
              case measure => simp [intOf]; omega
            · have e3 : decide ((t : Int) < (lk' : Int)) = false := decide_eq_false (by omega)
              have e3' : decide (t < lk') = false := decide_eq_false hlt4
              go_wp2_with fail
              go_roundw
              case rel => exact ⟨k + 1, by go_num, by omega, HM3, HB3, HA3⟩
              case measure => simp [intOf]; omega
        · have e2 : decide ((k : Int) < 4) = false := decide_eq_false (by omega)
          have e2' : decide (k < 4) = false := decide_eq_false hlt3
          go_wp2_with fail
          go_roundw
          case rel => exact ⟨i + 1, by go_num, by omega, HM2, HB2⟩
          case measure => simp [intOf]; omega
    · have e1 : decide ((i : Int) < (n : Int)) = false := decide_eq_false (by omega)
      have e1' : decide (i < n) = false := decide_eq_false hlt
      go_wp2_with fail
      obtain ⟨wM, rfl⟩ : ∃ x, x = wr := ⟨wr, rfl⟩
      clear hlt e1 e1' hi
      go_loopw [18] (fun v wr => ∃ (i : Nat), v = .int .i64 i ∧ i ≤ n ∧ Hid (Mq wr gM R) ∧ Hid (Below w.heap.size w wr) ∧ Hid (∀ i', i' < i → ∀ k, k < 4 → ∀ t, t < pick4 L1 L2 L3 L4 k i' → R (pick4 Z1 Z2 Z3 Z4 k i' t) (PE i'))) (fun v _ => n - (intOf v).toNat)
      case atStart => exact ⟨0, rfl, Nat.zero_le _, HM, HB, fun i' hi' => absurd hi' (Nat.not_lt_zero _)⟩
      case round =>
        clear HM HB
        obtain ⟨i, rfl, hi, HM, HB, HQ⟩ := hrel
        by_cases hlt : i < n
        · have e1 : decide ((i : Int) < (n : Int)) = true := decide_eq_true (by omega)
          have e1' : decide (i < n) = true := decide_eq_true hlt
          obtain ⟨x1, hx1⟩ := H1.out.at' (by omega)
          obtain ⟨x2, hx2⟩ := H2.out.at' (by omega)
          obtain ⟨x3, hx3⟩ := H3.out.at' (by omega)
          obtain ⟨x4, hx4⟩ := H4.out.at' (by omega)
          obtain ⟨k1, _⟩ := ((H1.out.below HB.out).2 x1 hx1).2 i hlt
          obtain ⟨k2, _⟩ := ((H2.out.below HB.out).2 x2 hx2).2 i hlt
          obtain ⟨k3, _⟩ := ((H3.out.below HB.out).2 x3 hx3).2 i hlt
          obtain ⟨k4, _⟩ := ((H4.out.below HB.out).2 x4 hx4).2 i hlt
          have HKK : Hid (∀ w' : World, Below wr.heap.size wr w' → w'.cell? (x1.add i) = some (.slice (A1 i) (L1 i) (C1 i)) ∧ w'.cell? (x2.add i) = some (.slice (A2 i) (L2 i) (C2 i)) ∧ w'.cell? (x3.add i) = some (.slice (A3 i) (L3 i) (C3 i)) ∧ w'.cell? (x4.add i) = some (.slice (A4 i) (L4 i) (C4 i))) := fun w' hb =>
            ⟨by rw [hb.cell (World.block_lt_of_cell? wr _ k1)]; exact k1, by rw [hb.cell (World.block_lt_of_cell? wr _ k2)]; exact k2, by rw [hb.cell (World.block_lt_of_cell? wr _ k3)]; exact k3, by rw [hb.cell (World.block_lt_of_cell? wr _ k4)]; exact k4⟩
          subst hx1 hx2 hx3 hx4
          go_wp2_with fail
          go_region_held3 (fun (w' : World) => w'.cell? (x1.add i) = some (.slice (A1 i) (L1 i) (C1 i)) ∧ w'.cell? (x2.add i) = some (.slice (A2 i) (L2 i) (C2 i)) ∧ w'.cell? (x3.add i) = some (.slice (A3 i) (L3 i) (C3 i)) ∧ w'.cell? (x4.add i) = some (.slice (A4 i) (L4 i) (C4 i)))
            (first | exact HKK.out _ (Below.refl _ _).drew | exact HKK.out _ (((Below.refl _ _).alloc (Nat.le_refl _) _).drew))
            (fail)
          obtain ⟨w5, hw5⟩ : ∃ x, x = (wr.alloc (.cells #[.slice (A1 i) (L1 i) (C1 i), .slice (A2 i) (L2 i) (C2 i), .slice (A3 i) (L3 i) (C3 i), .slice (A4 i) (L4 i) (C4 i)] 35)).drew := ⟨_, rfl⟩
          rw [← hw5]
          obtain ⟨hA, HHA⟩ : ∃ x, Hid (x = wr.heap.size) := ⟨_, rfl⟩
          rw [← HHA.out]
          have hb5 : Below wr.heap.size wr w5 := by rw [hw5]; exact ((Below.refl _ _).alloc (Nat.le_refl _) _).drew
          have HB5 : Hid (Below w.heap.size w w5) := HB.out.trans (hb5.mono HB.out.size)
          have HM5 : Hid (Mq w5 gM R) := HM.out.alloc (hb5.block gM HM.out.lt)
          have hne : hA ≠ gM := by rw [HHA.out]; have := HM.out.lt; omega
          have HAR : Hid (Bk w5 hA 35 4 (fun k => .slice (pick4 A1 A2 A3 A4 k i) (pick4 L1 L2 L3 L4 k i) (pick4 C1 C2 C3 C4 k i))) := by
            show Bk _ _ _ _ _
            rw [hw5, HHA.out]
            refine (Bk.new wr _ 35).congr (fun k hk => ?_)
            have hk : k < 4 := hk
            have hk' : k = 0 ∨ k = 1 ∨ k = 2 ∨ k = 3 := by omega
            rcases hk' with rfl | rfl | rfl | rfl <;> rfl
          clear hw5 HKK HHA k1 k2 k3 k4 hb5
          go_wp2_with fail
          go_loopw [20] (fun v wr => ∃ (k : Nat), v = .int .i64 k ∧ k ≤ 4 ∧ Hid (Mq wr gM R) ∧ Hid (Below w.heap.size w wr) ∧ Hid (Bk wr hA 35 4 (fun k => .slice (pick4 A1 A2 A3 A4 k i) (pick4 L1 L2 L3 L4 k i) (pick4 C1 C2 C3 C4 k i))) ∧ Hid (∀ k', k' < k → ∀ t, t < pick4 L1 L2 L3 L4 k' i → R (pick4 Z1 Z2 Z3 Z4 k' i t) (PE i))) (fun v _ => 4 - (intOf v).toNat)
          case atStart => exact ⟨0, rfl, by omega, HM5, HB5, HAR, fun k' hk' => absurd hk' (Nat.not_lt_zero _)⟩
          case round =>
            clear HM5 HB5 HAR
            obtain ⟨k, rfl, hk, HM2, HB2, HA2, HQ2⟩ := hrel
            by_cases hlt3 : k < 4
            · have e2 : decide ((k : Int) < 4) = true := decide_eq_true (by omega)
              have e2' : decide (k < 4) = true := decide_eq_true hlt3
              have hki : (k : Int) < 4 := by omega
              have ka : wr.cell? ⟨hA, k, none⟩ = some (.slice (pick4 A1 A2 A3 A4 k i) (pick4 L1 L2 L3 L4 k i) (pick4 C1 C2 C3 C4 k i)) := HA2.out.cell k hlt3
              obtain ⟨ak, HAK⟩ : ∃ x, Hid (x = pick4 A1 A2 A3 A4 k i) := ⟨_, rfl⟩
              obtain ⟨lk', HLK⟩ : ∃ x, Hid (x = pick4 L1 L2 L3 L4 k i) := ⟨_, rfl⟩
              obtain ⟨ck, HCK⟩ : ∃ x, Hid (x = pick4 C1 C2 C3 C4 k i) := ⟨_, rfl⟩
              rw [← HAK.out, ← HLK.out, ← HCK.out] at ka
              have lk : lk' ≤ 1048576 := by rw [HLK.out]; exact (HRD.out i hlt k hlt3 w (Below.refl _ _)).2
              go_wp2_with fail
              go_loopw [98] (fun v wr => ∃ (t : Nat), v = .int .i64 t ∧ t ≤ lk' ∧ Hid (Mq wr gM R) ∧ Hid (Below w.heap.size w wr) ∧ Hid (Bk wr hA 35 4 (fun k => .slice (pick4 A1 A2 A3 A4 k i) (pick4 L1 L2 L3 L4 k i) (pick4 C1 C2 C3 C4 k i))) ∧ Hid (∀ t', t' < t → R (pick4 Z1 Z2 Z3 Z4 k i t') (PE i))) (fun v _ => lk' - (intOf v).toNat)
              case atStart => exact ⟨0, rfl, Nat.zero_le _, HM2, HB2, HA2, fun t' ht' => absurd ht' (Nat.not_lt_zero _)⟩
              case round =>
                clear HM2 HB2 HA2 ka
                obtain ⟨t, rfl, ht, HM3, HB3, HA3, HQ3⟩ := hrel
                by_cases hlt4 : t < lk'
                · have e3 : decide ((t : Int) < (lk' : Int)) = true := decide_eq_true (by omega)
                  have e3' : decide (t < lk') = true := decide_eq_true hlt4
                  have hrd := (HRD.out i hlt k hlt3 wr HB3.out).1
                  rw [← HAK.out, ← HLK.out] at hrd
                  obtain ⟨x, hx, kx⟩ := hrd.cell t hlt4
                  clear hrd
                  obtain ⟨u, HUU⟩ : ∃ u, Hid (u = pick4 Z1 Z2 Z3 Z4 k i t) := ⟨_, rfl⟩
                  rw [← HUU.out] at kx
                  obtain ⟨x0, hx0, kp⟩ := (H0.out.below HB3.out).cell i hlt
                  obtain ⟨p, HPP⟩ : ∃ u, Hid (u = PE i) := ⟨_, rfl⟩
                  rw [← HPP.out] at kp
                  have wu : (Lit.int .i64 u).wf = true := by rw [HUU.out]; exact HZF.out i hlt k hlt3 t (by rw [← HLK.out]; exact hlt4)
                  have wp : (Lit.int .i64 p).wf = true := by rw [HPP.out]; exact HWF.out i hlt
                  obtain ⟨v, hrun, hv⟩ := HM3.out.look wu wp
                  have HVV := hide hv
                  clear hv wu wp
                  subst hx hx0
                  cases v with
                  | false =>
                    go_wp2_with fail
                    go_ret
                    exact ⟨false, rfl, fun h => (by cases h), HB3.out⟩
                  | true =>
                    have HQ3' : Hid (∀ t', t' < t + 1 → R (pick4 Z1 Z2 Z3 Z4 k i t') (PE i)) := fun t' ht' => by
                      rcases Nat.lt_or_ge t' t with h | h
                      · exact HQ3.out t' h
                      · obtain rfl : t' = t := by omega
                        rw [← HUU.out, ← HPP.out]
                        exact HVV.out rfl
                    go_wp2_with fail
                    go_roundw
                    case rel => exact ⟨t + 1, by go_num, by omega, HM3, HB3, HA3, HQ3'⟩
                    case measure => simp [intOf]; omega
                · have e3 : decide ((t : Int) < (lk' : Int)) = false := decide_eq_false (by omega)
                  have e3' : decide (t < lk') = false := decide_eq_false hlt4
                  have HQ2' : Hid (∀ k', k' < k + 1 → ∀ t, t < pick4 L1 L2 L3 L4 k' i → R (pick4 Z1 Z2 Z3 Z4 k' i t) (PE i)) := fun k' hk' t' ht' => by
                    rcases Nat.lt_or_ge k' k with h | h
                    · exact HQ2.out k' h t' ht'
                    · obtain rfl : k' = k := by omega
                      rw [← HLK.out] at ht'
                      exact HQ3.out t' (by omega)
                  go_wp2_with fail
                  go_roundw
                  case rel => exact ⟨k + 1, by go_num, by omega, HM3, HB3, HA3, HQ2'⟩
                  case measure => simp [intOf]; omega
            · have e2 : decide ((k : Int) < 4) = false := decide_eq_false (by omega)
              have e2' : decide (k < 4) = false := decide_eq_false hlt3
              have HQ' : Hid (∀ i', i' < i + 1 → ∀ k, k < 4 → ∀ t, t < pick4 L1 L2 L3 L4 k i' → R (pick4 Z1 Z2 Z3 Z4 k i' t) (PE i')) := fun i' hi' k' hk' t' ht' => by
                rcases Nat.lt_or_ge i' i with h | h
                · exact HQ.out i' h k' hk' t' ht'
                · obtain rfl : i' = i := by omega
                  exact HQ2.out k' (by omega) t' ht'
              go_wp2_with fail
              go_roundw
              case rel => exact ⟨i + 1, by go_num, by omega, HM2, HB2, HQ'⟩
              case measure => simp [intOf]; omega
        · have e1 : decide ((i : Int) < (n : Int)) = false := decide_eq_false (by omega)
          have e1' : decide (i < n) = false := decide_eq_false hlt
          go_wp2_with fail
          go_ret
          refine ⟨true, rfl, fun _ i' hi' k hk t ht => ?_, HB.out⟩
          rw [← HR0.out]
          exact HQ.out i' (by omega) k hk t ht
end Go.Proofs.Qxb6605294a
