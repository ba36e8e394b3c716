/-
  Seat b6605294a. WALKS: zzBytes (7, 22), bytesOf (55), satAdd (56), nestedIntBytes (57), familyBytes (8).
-/
import Derived.Test.Qxb6605294aD4
set_option linter.unusedVariables false
set_option linter.unusedSimpArgs false
namespace Go.Proofs.Qxb6605294a
open Go.RowKit

def BPost (n P1 P2 P3 P4 : Nat) (L1 L2 L3 L4 : Nat → Nat) (w : World) (r : Ending) (w' : World) : Prop :=
  ∃ f : Bool, r = .returned (.bool f) ∧ (f = true → n ≤ 1048576 ∧ P1 ≤ 1048576 ∧ P2 ≤ 1048576 ∧ P3 ≤ 1048576 ∧ P4 ≤ 1048576 ∧ (∀ q, q < P1 → L1 q ≤ 1048576) ∧ (∀ q, q < P2 → L2 q ≤ 1048576) ∧ (∀ q, q < P3 → L3 q ≤ 1048576) ∧ (∀ q, q < P4 → L4 q ≤ 1048576)) ∧ Below w.heap.size w w'
theorem bNo {n P1 P2 P3 P4 : Nat} {L1 L2 L3 L4 : Nat → Nat} {w w' : World} (h : Below w.heap.size w w') : BPost n P1 P2 P3 P4 L1 L2 L3 L4 w (.returned (.bool false)) w' := ⟨false, rfl, fun h => (by cases h), h⟩

set_option maxRecDepth 100000 in
set_option maxHeartbeats 4000000 in
theorem bytes22_any (a b1 b2 b3 b4 : Option Addr) (n P1 P2 P3 P4 c c1 c2 c3 c4 : Nat) (A1 A2 A3 A4 : Nat → Option Addr) (L1 L2 L3 L4 C1 C2 C3 C4 : Nat → Nat) (Z1 Z2 Z3 Z4 : Nat → Nat → Int) (w : World)
    (m0 : n ≤ 9223372036854775807) (m1 : P1 ≤ 9223372036854775807) (m2 : P2 ≤ 9223372036854775807) (m3 : P3 ≤ 9223372036854775807) (m4 : P4 ≤ 9223372036854775807) (l1 : ∀ q, q < P1 → L1 q ≤ 9223372036854775807) (l2 : ∀ q, q < P2 → L2 q ≤ 9223372036854775807) (l3 : ∀ q, q < P3 → L3 q ≤ 9223372036854775807) (l4 : ∀ q, q < P4 → L4 q ≤ 9223372036854775807)
    (h1 : RdL w b1 P1 A1 L1 C1 Z1) (h2 : RdL w b2 P2 A2 L2 C2 Z2) (h3 : RdL w b3 P3 A3 L3 C3 Z3) (h4 : RdL w b4 P4 A4 L4 C4 Z4) :
    Calls Try.prog 22 #[.slice a n c, .slice b1 P1 c1, .slice b2 P2 c2, .slice b3 P3 c3, .slice b4 P4 c4] w (BPost n P1 P2 P3 P4 L1 L2 L3 L4 w) := by
  have H1 : Hid (RdL w b1 P1 A1 L1 C1 Z1) := h1
  have H2 : Hid (RdL w b2 P2 A2 L2 C2 Z2) := h2
  have H3 : Hid (RdL w b3 P3 A3 L3 C3 Z3) := h3
  have H4 : Hid (RdL w b4 P4 A4 L4 C4 Z4) := h4
  have ML1 : Hid (∀ q, q < P1 → L1 q ≤ 9223372036854775807) := l1
  have ML2 : Hid (∀ q, q < P2 → L2 q ≤ 9223372036854775807) := l2
  have ML3 : Hid (∀ q, q < P3 → L3 q ≤ 9223372036854775807) := l3
  have ML4 : Hid (∀ q, q < P4 → L4 q ≤ 9223372036854775807) := l4
  have HB : Hid (Below w.heap.size w w) := Below.refl _ _
  clear h1 h2 h3 h4 l1 l2 l3 l4
  go_enter Try.func22, Try.ntmps22
  by_cases hn1 : n ≤ 1048576
  · have hz : n ≤ 1048576 := hn1
    by_cases g0 : P1 ≤ 1048576 ∧ n + P1 ≤ 1048576
    · obtain ⟨g0, g0'⟩ := g0
      go_wp2_with fail
      go_loopw [11, 12] (fun v v' wr => ∃ (z q : Nat), v = .int .i64 z ∧ v' = .int .i64 q ∧ z ≤ 1048576 ∧ q ≤ P1 ∧ Hid (Below w.heap.size w wr) ∧ Hid (∀ j, j < q → L1 j ≤ 1048576)) (fun _ v' _ => P1 - (intOf v').toNat)
      case atStart => exact ⟨n + P1, 0, by go_num, rfl, g0', Nat.zero_le _, HB, fun j hj => absurd hj (Nat.not_lt_zero _)⟩
      case round =>
        clear HB
        obtain ⟨z, q, rfl, rfl, hz, hq, HB, HA⟩ := hrel
        by_cases hlt : q < P1
        · have e0 : decide ((q : Int) < (P1 : Int)) = true := decide_eq_true (by omega)
          have e0' : decide (q < P1) = true := decide_eq_true hlt
          obtain ⟨x3, hx3⟩ : ∃ x, b1 = some x := by
            cases b1 with
            | none => have := H1.out.1 rfl; omega
            | some x => exact ⟨x, rfl⟩
          obtain ⟨k3, hrow⟩ := ((H1.out.below HB.out).2 x3 hx3).2 q hlt
          have hLq := ML1.out q hlt
          clear hrow
          subst hx3
          by_cases hb1 : L1 q ≤ 1048576
          · by_cases hb2 : z + L1 q ≤ 1048576
            · have HA' : Hid (∀ j, j < q + 1 → L1 j ≤ 1048576) := fun j hj => by
                by_cases e' : j = q
                · subst e'; exact hb1
                · exact HA.out j (by omega)
              clear HA
              go_wp2_with fail
              go_roundw
              case rel => exact ⟨z + L1 q, q + 1, by go_num, by go_num, hb2, by omega, HB, HA'⟩
              case measure => simp [intOf]; omega
            · go_wp2_with fail
              go_ret
              exact bNo HB.out
          · go_wp2_with fail
            go_ret
            exact bNo HB.out
        · have e0 : decide ((q : Int) < (P1 : Int)) = false := decide_eq_false (by omega)
          have e0' : decide (q < P1) = false := decide_eq_false hlt
          have HQ0 : Hid (∀ j, j < P1 → L1 j ≤ 1048576) := fun j hj => HA.out j (by omega)
          obtain rfl : P1 = q := by omega
          clear HA hlt
          by_cases g1 : P2 ≤ 1048576 ∧ z + P2 ≤ 1048576
          · obtain ⟨g1, g1'⟩ := g1
            go_wp2_with fail
            go_loopw [11, 13] (fun v v' wr => ∃ (z q : Nat), v = .int .i64 z ∧ v' = .int .i64 q ∧ z ≤ 1048576 ∧ q ≤ P2 ∧ Hid (Below w.heap.size w wr) ∧ Hid (∀ j, j < q → L2 j ≤ 1048576)) (fun _ v' _ => P2 - (intOf v').toNat)
            case atStart => exact ⟨z + P2, 0, by go_num, rfl, g1', Nat.zero_le _, HB, fun j hj => absurd hj (Nat.not_lt_zero _)⟩
            case round =>
              clear HB
              obtain ⟨z, q, rfl, rfl, hz, hq, HB, HA⟩ := hrel
              by_cases hlt : q < P2
              · have e0 : decide ((q : Int) < (P2 : Int)) = true := decide_eq_true (by omega)
                have e0' : decide (q < P2) = true := decide_eq_true hlt
                obtain ⟨x3, hx3⟩ : ∃ x, b2 = some x := by
                  cases b2 with
                  | none => have := H2.out.1 rfl; omega
                  | some x => exact ⟨x, rfl⟩
                obtain ⟨k3, hrow⟩ := ((H2.out.below HB.out).2 x3 hx3).2 q hlt
                have hLq := ML2.out q hlt
                clear hrow
                subst hx3
                by_cases hb1 : L2 q ≤ 1048576
                · by_cases hb2 : z + L2 q ≤ 1048576
                  · have HA' : Hid (∀ j, j < q + 1 → L2 j ≤ 1048576) := fun j hj => by
                      by_cases e' : j = q
                      · subst e'; exact hb1
                      · exact HA.out j (by omega)
                    clear HA
                    go_wp2_with fail
                    go_roundw
                    case rel => exact ⟨z + L2 q, q + 1, by go_num, by go_num, hb2, by omega, HB, HA'⟩
                    case measure => simp [intOf]; omega
                  · go_wp2_with fail
                    go_ret
                    exact bNo HB.out
                · go_wp2_with fail
                  go_ret
                  exact bNo HB.out
              · have e0 : decide ((q : Int) < (P2 : Int)) = false := decide_eq_false (by omega)
                have e0' : decide (q < P2) = false := decide_eq_false hlt
                have HQ1 : Hid (∀ j, j < P2 → L2 j ≤ 1048576) := fun j hj => HA.out j (by omega)
                obtain rfl : P2 = q := by omega
                clear HA hlt
                by_cases g2 : P3 ≤ 1048576 ∧ z + P3 ≤ 1048576
                · obtain ⟨g2, g2'⟩ := g2
                  go_wp2_with fail
                  go_loopw [11, 14] (fun v v' wr => ∃ (z q : Nat), v = .int .i64 z ∧ v' = .int .i64 q ∧ z ≤ 1048576 ∧ q ≤ P3 ∧ Hid (Below w.heap.size w wr) ∧ Hid (∀ j, j < q → L3 j ≤ 1048576)) (fun _ v' _ => P3 - (intOf v').toNat)
                  case atStart => exact ⟨z + P3, 0, by go_num, rfl, g2', Nat.zero_le _, HB, fun j hj => absurd hj (Nat.not_lt_zero _)⟩
                  case round =>
                    clear HB
                    obtain ⟨z, q, rfl, rfl, hz, hq, HB, HA⟩ := hrel
                    by_cases hlt : q < P3
                    · have e0 : decide ((q : Int) < (P3 : Int)) = true := decide_eq_true (by omega)
                      have e0' : decide (q < P3) = true := decide_eq_true hlt
                      obtain ⟨x3, hx3⟩ : ∃ x, b3 = some x := by
                        cases b3 with
                        | none => have := H3.out.1 rfl; omega
                        | some x => exact ⟨x, rfl⟩
                      obtain ⟨k3, hrow⟩ := ((H3.out.below HB.out).2 x3 hx3).2 q hlt
                      have hLq := ML3.out q hlt
                      clear hrow
                      subst hx3
                      by_cases hb1 : L3 q ≤ 1048576
                      · by_cases hb2 : z + L3 q ≤ 1048576
                        · have HA' : Hid (∀ j, j < q + 1 → L3 j ≤ 1048576) := fun j hj => by
                            by_cases e' : j = q
                            · subst e'; exact hb1
                            · exact HA.out j (by omega)
                          clear HA
                          go_wp2_with fail
                          go_roundw
                          case rel => exact ⟨z + L3 q, q + 1, by go_num, by go_num, hb2, by omega, HB, HA'⟩
                          case measure => simp [intOf]; omega
                        · go_wp2_with fail
                          go_ret
                          exact bNo HB.out
                      · go_wp2_with fail
                        go_ret
                        exact bNo HB.out
                    · have e0 : decide ((q : Int) < (P3 : Int)) = false := decide_eq_false (by omega)
                      have e0' : decide (q < P3) = false := decide_eq_false hlt
                      have HQ2 : Hid (∀ j, j < P3 → L3 j ≤ 1048576) := fun j hj => HA.out j (by omega)
                      obtain rfl : P3 = q := by omega
                      clear HA hlt
                      by_cases g3 : P4 ≤ 1048576 ∧ z + P4 ≤ 1048576
                      · obtain ⟨g3, g3'⟩ := g3
                        go_wp2_with fail
                        go_loopw [11, 15] (fun v v' wr => ∃ (z q : Nat), v = .int .i64 z ∧ v' = .int .i64 q ∧ z ≤ 1048576 ∧ q ≤ P4 ∧ Hid (Below w.heap.size w wr) ∧ Hid (∀ j, j < q → L4 j ≤ 1048576)) (fun _ v' _ => P4 - (intOf v').toNat)
                        case atStart => exact ⟨z + P4, 0, by go_num, rfl, g3', Nat.zero_le _, HB, fun j hj => absurd hj (Nat.not_lt_zero _)⟩
                        case round =>
                          clear HB
                          obtain ⟨z, q, rfl, rfl, hz, hq, HB, HA⟩ := hrel
                          by_cases hlt : q < P4
                          · have e0 : decide ((q : Int) < (P4 : Int)) = true := decide_eq_true (by omega)
                            have e0' : decide (q < P4) = true := decide_eq_true hlt
                            obtain ⟨x3, hx3⟩ : ∃ x, b4 = some x := by
                              cases b4 with
                              | none => have := H4.out.1 rfl; omega
                              | some x => exact ⟨x, rfl⟩
                            obtain ⟨k3, hrow⟩ := ((H4.out.below HB.out).2 x3 hx3).2 q hlt
                            have hLq := ML4.out q hlt
                            clear hrow
                            subst hx3
                            by_cases hb1 : L4 q ≤ 1048576
                            · by_cases hb2 : z + L4 q ≤ 1048576
                              · have HA' : Hid (∀ j, j < q + 1 → L4 j ≤ 1048576) := fun j hj => by
                                  by_cases e' : j = q
                                  · subst e'; exact hb1
                                  · exact HA.out j (by omega)
                                clear HA
                                go_wp2_with fail
                                go_roundw
                                case rel => exact ⟨z + L4 q, q + 1, by go_num, by go_num, hb2, by omega, HB, HA'⟩
                                case measure => simp [intOf]; omega
                              · go_wp2_with fail
                                go_ret
                                exact bNo HB.out
                            · go_wp2_with fail
                              go_ret
                              exact bNo HB.out
                          · have e0 : decide ((q : Int) < (P4 : Int)) = false := decide_eq_false (by omega)
                            have e0' : decide (q < P4) = false := decide_eq_false hlt
                            have HQ3 : Hid (∀ j, j < P4 → L4 j ≤ 1048576) := fun j hj => HA.out j (by omega)
                            obtain rfl : P4 = q := by omega
                            clear HA hlt
                            go_wp2_with fail
                            go_ret
                            exact ⟨true, rfl, fun _ => ⟨hn1, g0, g1, g2, g3, HQ0.out, HQ1.out, HQ2.out, HQ3.out⟩, HB.out⟩
                      · rcases (show 1048576 < P4 ∨ (P4 ≤ 1048576 ∧ 1048576 < z + P4) by omega) with h | ⟨h, h'⟩
                        all_goals
                          go_wp2_with fail
                          go_ret
                          exact bNo HB.out
                · rcases (show 1048576 < P3 ∨ (P3 ≤ 1048576 ∧ 1048576 < z + P3) by omega) with h | ⟨h, h'⟩
                  all_goals
                    go_wp2_with fail
                    go_ret
                    exact bNo HB.out
          · rcases (show 1048576 < P2 ∨ (P2 ≤ 1048576 ∧ 1048576 < z + P2) by omega) with h | ⟨h, h'⟩
            all_goals
              go_wp2_with fail
              go_ret
              exact bNo HB.out
    · rcases (show 1048576 < P1 ∨ (P1 ≤ 1048576 ∧ 1048576 < n + P1) by omega) with h | ⟨h, h'⟩
      all_goals
        go_wp2_with fail
        go_ret
        exact bNo HB.out
  · go_wp2_with fail
    go_ret
    exact bNo HB.out

set_option maxRecDepth 100000 in
set_option maxHeartbeats 4000000 in
theorem bytes7_any (a b1 b2 b3 b4 : Option Addr) (n P1 P2 P3 P4 c c1 c2 c3 c4 : Nat) (A1 A2 A3 A4 : Nat → Option Addr) (L1 L2 L3 L4 C1 C2 C3 C4 : Nat → Nat) (Z1 Z2 Z3 Z4 : Nat → Nat → Int) (w : World)
    (m0 : n ≤ 9223372036854775807) (m1 : P1 ≤ 9223372036854775807) (m2 : P2 ≤ 9223372036854775807) (m3 : P3 ≤ 9223372036854775807) (m4 : P4 ≤ 9223372036854775807) (l1 : ∀ q, q < P1 → L1 q ≤ 9223372036854775807) (l2 : ∀ q, q < P2 → L2 q ≤ 9223372036854775807) (l3 : ∀ q, q < P3 → L3 q ≤ 9223372036854775807) (l4 : ∀ q, q < P4 → L4 q ≤ 9223372036854775807)
    (h1 : RdL w b1 P1 A1 L1 C1 Z1) (h2 : RdL w b2 P2 A2 L2 C2 Z2) (h3 : RdL w b3 P3 A3 L3 C3 Z3) (h4 : RdL w b4 P4 A4 L4 C4 Z4) :
    Calls Try.prog 7 #[.slice a n c, .slice b1 P1 c1, .slice b2 P2 c2, .slice b3 P3 c3, .slice b4 P4 c4] w (BPost n P1 P2 P3 P4 L1 L2 L3 L4 w) := by
  have H1 : Hid (RdL w b1 P1 A1 L1 C1 Z1) := h1
  have H2 : Hid (RdL w b2 P2 A2 L2 C2 Z2) := h2
  have H3 : Hid (RdL w b3 P3 A3 L3 C3 Z3) := h3
  have H4 : Hid (RdL w b4 P4 A4 L4 C4 Z4) := h4
  have ML1 : Hid (∀ q, q < P1 → L1 q ≤ 9223372036854775807) := l1
  have ML2 : Hid (∀ q, q < P2 → L2 q ≤ 9223372036854775807) := l2
  have ML3 : Hid (∀ q, q < P3 → L3 q ≤ 9223372036854775807) := l3
  have ML4 : Hid (∀ q, q < P4 → L4 q ≤ 9223372036854775807) := l4
  have HB : Hid (Below w.heap.size w w) := Below.refl _ _
  clear h1 h2 h3 h4 l1 l2 l3 l4
  go_enter Try.func7, Try.ntmps7
  by_cases hn1 : n ≤ 1048576
  · have hz : n ≤ 1048576 := hn1
    by_cases g0 : P1 ≤ 1048576 ∧ n + P1 ≤ 1048576
    · obtain ⟨g0, g0'⟩ := g0
      go_wp2_with fail
      go_loopw [11, 12] (fun v v' wr => ∃ (z q : Nat), v = .int .i64 z ∧ v' = .int .i64 q ∧ z ≤ 1048576 ∧ q ≤ P1 ∧ Hid (Below w.heap.size w wr) ∧ Hid (∀ j, j < q → L1 j ≤ 1048576)) (fun _ v' _ => P1 - (intOf v').toNat)
      case atStart => exact ⟨n + P1, 0, by go_num, rfl, g0', Nat.zero_le _, HB, fun j hj => absurd hj (Nat.not_lt_zero _)⟩
      case round =>
        clear HB
        obtain ⟨z, q, rfl, rfl, hz, hq, HB, HA⟩ := hrel
        by_cases hlt : q < P1
        · have e0 : decide ((q : Int) < (P1 : Int)) = true := decide_eq_true (by omega)
          have e0' : decide (q < P1) = true := decide_eq_true hlt
          obtain ⟨x3, hx3⟩ : ∃ x, b1 = some x := by
            cases b1 with
            | none => have := H1.out.1 rfl; omega
            | some x => exact ⟨x, rfl⟩
          obtain ⟨k3, hrow⟩ := ((H1.out.below HB.out).2 x3 hx3).2 q hlt
          have hLq := ML1.out q hlt
          clear hrow
          subst hx3
          by_cases hb1 : L1 q ≤ 1048576
          · by_cases hb2 : z + L1 q ≤ 1048576
            · have HA' : Hid (∀ j, j < q + 1 → L1 j ≤ 1048576) := fun j hj => by
                by_cases e' : j = q
                · subst e'; exact hb1
                · exact HA.out j (by omega)
              clear HA
              go_wp2_with fail
              go_roundw
              case rel => exact ⟨z + L1 q, q + 1, by go_num, by go_num, hb2, by omega, HB, HA'⟩
              case measure => simp [intOf]; omega
            · go_wp2_with fail
              go_ret
              exact bNo HB.out
          · go_wp2_with fail
            go_ret
            exact bNo HB.out
        · have e0 : decide ((q : Int) < (P1 : Int)) = false := decide_eq_false (by omega)
          have e0' : decide (q < P1) = false := decide_eq_false hlt
          have HQ0 : Hid (∀ j, j < P1 → L1 j ≤ 1048576) := fun j hj => HA.out j (by omega)
          obtain rfl : P1 = q := by omega
          clear HA hlt
          by_cases g1 : P2 ≤ 1048576 ∧ z + P2 ≤ 1048576
          · obtain ⟨g1, g1'⟩ := g1
            go_wp2_with fail
            go_loopw [11, 13] (fun v v' wr => ∃ (z q : Nat), v = .int .i64 z ∧ v' = .int .i64 q ∧ z ≤ 1048576 ∧ q ≤ P2 ∧ Hid (Below w.heap.size w wr) ∧ Hid (∀ j, j < q → L2 j ≤ 1048576)) (fun _ v' _ => P2 - (intOf v').toNat)
            case atStart => exact ⟨z + P2, 0, by go_num, rfl, g1', Nat.zero_le _, HB, fun j hj => absurd hj (Nat.not_lt_zero _)⟩
            case round =>
              clear HB
              obtain ⟨z, q, rfl, rfl, hz, hq, HB, HA⟩ := hrel
              by_cases hlt : q < P2
              · have e0 : decide ((q : Int) < (P2 : Int)) = true := decide_eq_true (by omega)
                have e0' : decide (q < P2) = true := decide_eq_true hlt
                obtain ⟨x3, hx3⟩ : ∃ x, b2 = some x := by
                  cases b2 with
                  | none => have := H2.out.1 rfl; omega
                  | some x => exact ⟨x, rfl⟩
                obtain ⟨k3, hrow⟩ := ((H2.out.below HB.out).2 x3 hx3).2 q hlt
                have hLq := ML2.out q hlt
                clear hrow
                subst hx3
                by_cases hb1 : L2 q ≤ 1048576
                · by_cases hb2 : z + L2 q ≤ 1048576
                  · have HA' : Hid (∀ j, j < q + 1 → L2 j ≤ 1048576) := fun j hj => by
                      by_cases e' : j = q
                      · subst e'; exact hb1
                      · exact HA.out j (by omega)
                    clear HA
                    go_wp2_with fail
                    go_roundw
                    case rel => exact ⟨z + L2 q, q + 1, by go_num, by go_num, hb2, by omega, HB, HA'⟩
                    case measure => simp [intOf]; omega
                  · go_wp2_with fail
                    go_ret
                    exact bNo HB.out
                · go_wp2_with fail
                  go_ret
                  exact bNo HB.out
              · have e0 : decide ((q : Int) < (P2 : Int)) = false := decide_eq_false (by omega)
                have e0' : decide (q < P2) = false := decide_eq_false hlt
                have HQ1 : Hid (∀ j, j < P2 → L2 j ≤ 1048576) := fun j hj => HA.out j (by omega)
                obtain rfl : P2 = q := by omega
                clear HA hlt
                by_cases g2 : P3 ≤ 1048576 ∧ z + P3 ≤ 1048576
                · obtain ⟨g2, g2'⟩ := g2
                  go_wp2_with fail
                  go_loopw [11, 14] (fun v v' wr => ∃ (z q : Nat), v = .int .i64 z ∧ v' = .int .i64 q ∧ z ≤ 1048576 ∧ q ≤ P3 ∧ Hid (Below w.heap.size w wr) ∧ Hid (∀ j, j < q → L3 j ≤ 1048576)) (fun _ v' _ => P3 - (intOf v').toNat)
                  case atStart => exact ⟨z + P3, 0, by go_num, rfl, g2', Nat.zero_le _, HB, fun j hj => absurd hj (Nat.not_lt_zero _)⟩
                  case round =>
                    clear HB
                    obtain ⟨z, q, rfl, rfl, hz, hq, HB, HA⟩ := hrel
                    by_cases hlt : q < P3
                    · have e0 : decide ((q : Int) < (P3 : Int)) = true := decide_eq_true (by omega)
                      have e0' : decide (q < P3) = true := decide_eq_true hlt
                      obtain ⟨x3, hx3⟩ : ∃ x, b3 = some x := by
                        cases b3 with
                        | none => have := H3.out.1 rfl; omega
                        | some x => exact ⟨x, rfl⟩
                      obtain ⟨k3, hrow⟩ := ((H3.out.below HB.out).2 x3 hx3).2 q hlt
                      have hLq := ML3.out q hlt
                      clear hrow
                      subst hx3
                      by_cases hb1 : L3 q ≤ 1048576
                      · by_cases hb2 : z + L3 q ≤ 1048576
                        · have HA' : Hid (∀ j, j < q + 1 → L3 j ≤ 1048576) := fun j hj => by
                            by_cases e' : j = q
                            · subst e'; exact hb1
                            · exact HA.out j (by omega)
                          clear HA
                          go_wp2_with fail
                          go_roundw
                          case rel => exact ⟨z + L3 q, q + 1, by go_num, by go_num, hb2, by omega, HB, HA'⟩
                          case measure => simp [intOf]; omega
                        · go_wp2_with fail
                          go_ret
                          exact bNo HB.out
                      · go_wp2_with fail
                        go_ret
                        exact bNo HB.out
                    · have e0 : decide ((q : Int) < (P3 : Int)) = false := decide_eq_false (by omega)
                      have e0' : decide (q < P3) = false := decide_eq_false hlt
                      have HQ2 : Hid (∀ j, j < P3 → L3 j ≤ 1048576) := fun j hj => HA.out j (by omega)
                      obtain rfl : P3 = q := by omega
                      clear HA hlt
                      by_cases g3 : P4 ≤ 1048576 ∧ z + P4 ≤ 1048576
                      · obtain ⟨g3, g3'⟩ := g3
                        go_wp2_with fail
                        go_loopw [11, 15] (fun v v' wr => ∃ (z q : Nat), v = .int .i64 z ∧ v' = .int .i64 q ∧ z ≤ 1048576 ∧ q ≤ P4 ∧ Hid (Below w.heap.size w wr) ∧ Hid (∀ j, j < q → L4 j ≤ 1048576)) (fun _ v' _ => P4 - (intOf v').toNat)
                        case atStart => exact ⟨z + P4, 0, by go_num, rfl, g3', Nat.zero_le _, HB, fun j hj => absurd hj (Nat.not_lt_zero _)⟩
                        case round =>
                          clear HB
                          obtain ⟨z, q, rfl, rfl, hz, hq, HB, HA⟩ := hrel
                          by_cases hlt : q < P4
                          · have e0 : decide ((q : Int) < (P4 : Int)) = true := decide_eq_true (by omega)
                            have e0' : decide (q < P4) = true := decide_eq_true hlt
                            obtain ⟨x3, hx3⟩ : ∃ x, b4 = some x := by
                              cases b4 with
                              | none => have := H4.out.1 rfl; omega
                              | some x => exact ⟨x, rfl⟩
                            obtain ⟨k3, hrow⟩ := ((H4.out.below HB.out).2 x3 hx3).2 q hlt
                            have hLq := ML4.out q hlt
                            clear hrow
                            subst hx3
                            by_cases hb1 : L4 q ≤ 1048576
                            · by_cases hb2 : z + L4 q ≤ 1048576
                              · have HA' : Hid (∀ j, j < q + 1 → L4 j ≤ 1048576) := fun j hj => by
                                  by_cases e' : j = q
                                  · subst e'; exact hb1
                                  · exact HA.out j (by omega)
                                clear HA
                                go_wp2_with fail
                                go_roundw
                                case rel => exact ⟨z + L4 q, q + 1, by go_num, by go_num, hb2, by omega, HB, HA'⟩
                                case measure => simp [intOf]; omega
                              · go_wp2_with fail
                                go_ret
                                exact bNo HB.out
                            · go_wp2_with fail
                              go_ret
                              exact bNo HB.out
                          · have e0 : decide ((q : Int) < (P4 : Int)) = false := decide_eq_false (by omega)
                            have e0' : decide (q < P4) = false := decide_eq_false hlt
                            have HQ3 : Hid (∀ j, j < P4 → L4 j ≤ 1048576) := fun j hj => HA.out j (by omega)
                            obtain rfl : P4 = q := by omega
                            clear HA hlt
                            go_wp2_with fail
                            go_ret
                            exact ⟨true, rfl, fun _ => ⟨hn1, g0, g1, g2, g3, HQ0.out, HQ1.out, HQ2.out, HQ3.out⟩, HB.out⟩
                      · rcases (show 1048576 < P4 ∨ (P4 ≤ 1048576 ∧ 1048576 < z + P4) by omega) with h | ⟨h, h'⟩
                        all_goals
                          go_wp2_with fail
                          go_ret
                          exact bNo HB.out
                · rcases (show 1048576 < P3 ∨ (P3 ≤ 1048576 ∧ 1048576 < z + P3) by omega) with h | ⟨h, h'⟩
                  all_goals
                    go_wp2_with fail
                    go_ret
                    exact bNo HB.out
          · rcases (show 1048576 < P2 ∨ (P2 ≤ 1048576 ∧ 1048576 < z + P2) by omega) with h | ⟨h, h'⟩
            all_goals
              go_wp2_with fail
              go_ret
              exact bNo HB.out
    · rcases (show 1048576 < P1 ∨ (P1 ≤ 1048576 ∧ 1048576 < n + P1) by omega) with h | ⟨h, h'⟩
      all_goals
        go_wp2_with fail
        go_ret
        exact bNo HB.out
  · go_wp2_with fail
    go_ret
    exact bNo HB.out

end Go.Proofs.Qxb6605294a
