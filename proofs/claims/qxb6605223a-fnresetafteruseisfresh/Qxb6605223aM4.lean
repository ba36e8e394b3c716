/-
  Seat b6605223a. WALKS: zzBytes_FnResetExact (6), zzBytes (7).
-/
import Derived.Test.Qxb6605223aM3
set_option linter.unusedVariables false
set_option linter.unusedSimpArgs false
namespace Go.Proofs.Qxb6605223a
open Go.RowKit

def ByPost (P : Nat) (L : Nat → Nat) (w : World) (r : Ending) (w' : World) : Prop := ∃ f : Bool, r = .returned (.bool f) ∧ (f = true → ∀ q, q < P → L q ≤ 1048576) ∧ Below w.heap.size w w'
theorem byNo {P : Nat} {L : Nat → Nat} {w w' : World} (h : Below w.heap.size w w') : ByPost P L w (.returned (.bool false)) w' := ⟨false, rfl, fun h => (by cases h), h⟩

set_option maxRecDepth 100000 in
set_option maxHeartbeats 2000000 in
theorem bytes6_any (a1 a2 a3 a4 a5 a6 a7 : Option Addr) (n1 n2 P n4 n5 n6 n7 c1 c2 c3 c4 c5 c6 c7 : Nat) (A : Nat → Option Addr) (L C : Nat → Nat) (Z : Nat → Nat → Int) (w : World)
    (m1 : n1 ≤ 9223372036854775807) (m2 : n2 ≤ 9223372036854775807) (m3 : P ≤ 9223372036854775807) (m4 : n4 ≤ 9223372036854775807) (m5 : n5 ≤ 9223372036854775807) (m6 : n6 ≤ 9223372036854775807) (m7 : n7 ≤ 9223372036854775807) (mL : ∀ q, q < P → L q ≤ 9223372036854775807)
    (h3 : RdL w a3 P A L C Z) :
    Calls Try.prog 6 #[.slice a1 n1 c1, .slice a2 n2 c2, .slice a3 P c3, .slice a4 n4 c4, .slice a5 n5 c5, .slice a6 n6 c6, .slice a7 n7 c7] w (ByPost P L w) := by
  have H3 : Hid (RdL w a3 P A L C Z) := h3
  have ML : Hid (∀ q, q < P → L q ≤ 9223372036854775807) := mL
  have HB0 : Hid (Below w.heap.size w w) := Below.refl _ _
  clear h3 mL
  by_cases g1 : n1 ≤ 1048576 ∧ n1 + n2 ≤ 1048576 ∧ n1 + n2 + P ≤ 1048576
  · obtain ⟨g1, g2, g3⟩ := g1
    go_enter Try.func6, Try.ntmps6
    go_wp2_with fail
    go_loopw [15, 16] (fun v15 v16 wr => ∃ (z q : Nat), v15 = .int .i64 z ∧ v16 = .int .i64 q ∧ z ≤ 1048576 ∧ q ≤ P ∧ Hid (Below w.heap.size w wr) ∧ Hid (∀ j, j < q → L j ≤ 1048576)) (fun _ v16 _ => P - (intOf v16).toNat)
    case atStart => exact ⟨n1 + n2 + P, 0, by go_num, rfl, g3, Nat.zero_le _, HB0, fun j hj => absurd hj (Nat.not_lt_zero _)⟩
    case round =>
      obtain ⟨z, q, rfl, rfl, hz, hq, HB, HA⟩ := hrel
      by_cases hlt : q < P
      · have e0 : decide ((q : Int) < (P : Int)) = true := decide_eq_true (by omega)
        have e0' : decide (q < P) = true := decide_eq_true hlt
        obtain ⟨x3, hx3⟩ : ∃ x, a3 = some x := by
          cases a3 with
          | none => have := H3.out.1 rfl; omega
          | some x => exact ⟨x, rfl⟩
        subst hx3
        obtain ⟨k3, hrow⟩ := ((H3.out.below HB.out).2 x3 rfl).2 q hlt
        have hLq := ML.out q hlt
        clear hrow
        by_cases hb1 : L q ≤ 1048576
        · by_cases hb2 : z + L q ≤ 1048576
          · have HA' : Hid (∀ j, j < q + 1 → L j ≤ 1048576) := fun j hj => by
              by_cases e' : j = q
              · subst e'; exact hb1
              · exact HA.out j (by omega)
            clear HA
            go_wp2_with fail
            go_roundw
            case rel => exact ⟨z + L q, q + 1, by go_num, by go_num, hb2, by omega, HB, HA'⟩
            case measure => simp [intOf]; omega
          · go_wp2_with fail
            go_ret
            exact byNo HB.out
        · go_wp2_with fail
          go_ret
          exact byNo HB.out
      · have e0 : decide ((q : Int) < (P : Int)) = false := decide_eq_false (by omega)
        have e0' : decide (q < P) = false := decide_eq_false hlt
        have HA' : Hid (∀ j, j < P → L j ≤ 1048576) := fun j hj => HA.out j (by omega)
        clear HA
        go_wp2
        all_goals first
          | (go_ret; exact byNo HB.out)
          | (go_ret; exact ⟨true, rfl, fun _ => HA'.out, HB.out⟩)
  · have hw : 1048576 < n1 ∨ (n1 ≤ 1048576 ∧ 1048576 < n2) ∨ (n1 ≤ 1048576 ∧ n2 ≤ 1048576 ∧ 1048576 < n1 + n2) ∨ (n1 ≤ 1048576 ∧ n2 ≤ 1048576 ∧ n1 + n2 ≤ 1048576 ∧ 1048576 < P) ∨ (n1 ≤ 1048576 ∧ n2 ≤ 1048576 ∧ n1 + n2 ≤ 1048576 ∧ P ≤ 1048576 ∧ 1048576 < n1 + n2 + P) := by omega
    clear g1
    go_enter Try.func6, Try.ntmps6
    rcases hw with h | ⟨h, h'⟩ | ⟨h, h', h''⟩ | ⟨h, h', h'', h3⟩ | ⟨h, h', h'', h3, h4⟩
    all_goals
      go_wp2_with fail
      go_ret
      exact byNo HB0.out

set_option maxRecDepth 100000 in
set_option maxHeartbeats 2000000 in
theorem zzb_any (a1 a2 a3 a4 a5 a6 a7 a8 : Option Addr) (n1 n2 P n4 n5 n6 n7 n8 c1 c2 c3 c4 c5 c6 c7 c8 : Nat) (A : Nat → Option Addr) (L C : Nat → Nat) (Z : Nat → Nat → Int) (w : World)
    (m1 : n1 ≤ 4096) (m2 : n2 ≤ 4096) (m3 : P ≤ 4096) (m4 : n4 ≤ 4096) (m5 : n5 ≤ 4096) (m6 : n6 ≤ 4096) (m7 : n7 ≤ 4096) (m8 : n8 ≤ 4096) (mL : ∀ q, q < P → L q ≤ 1048576)
    (h3 : RdL w a3 P A L C Z) :
    Calls Try.prog 7 #[.slice a1 n1 c1, .slice a2 n2 c2, .slice a3 P c3, .slice a4 n4 c4, .slice a5 n5 c5, .slice a6 n6 c6, .slice a7 n7 c7, .slice a8 n8 c8] w fun r w' => (∃ t : Int, r = .returned (.int .i64 t)) ∧ Below w.heap.size w w' := by
  have H3 : Hid (RdL w a3 P A L C Z) := h3
  have ML : Hid (∀ q, q < P → L q ≤ 1048576) := mL
  have HB0 : Hid (Below w.heap.size w w) := Below.refl _ _
  clear h3 mL
  obtain ⟨T, hT⟩ : ∃ T : Nat, T = 8 * n1 + 4 * n2 + 24 * P + 8 * n4 + 4 * n5 + 4 * n6 + 8 * n7 + 8 * n8 := ⟨_, rfl⟩
  by_cases hbig : 8 * n1 + 4 * n2 + 24 * P + 8 * n4 + 4 * n5 + 4 * n6 + 8 * n7 + 8 * n8 ≤ 1048576
  · go_enter Try.func7, Try.ntmps7
    go_wp2_with fail
    go_loopw [17, 18] (fun v17 v18 wr => ∃ (z q : Nat), v17 = .int .i64 z ∧ v18 = .int .i64 q ∧ z ≤ 1048576 ∧ q ≤ P ∧ Hid (Below w.heap.size w wr)) (fun _ v18 _ => P - (intOf v18).toNat)
    case atStart => exact ⟨8 * n1 + 4 * n2 + 24 * P + 8 * n4 + 4 * n5 + 4 * n6 + 8 * n7 + 8 * n8, 0, by go_num, rfl, hbig, Nat.zero_le _, HB0⟩
    case round =>
      obtain ⟨z, q, rfl, rfl, hz, hq, HB⟩ := hrel
      by_cases hlt : q < P
      · have e0 : decide ((q : Int) < (P : Int)) = true := decide_eq_true (by omega)
        have e0' : decide (q < P) = true := decide_eq_true hlt
        obtain ⟨x3, hx3⟩ : ∃ x, a3 = some x := by
          cases a3 with
          | none => have := H3.out.1 rfl; omega
          | some x => exact ⟨x, rfl⟩
        subst hx3
        obtain ⟨k3, hrow⟩ := ((H3.out.below HB.out).2 x3 rfl).2 q hlt
        have hLq := ML.out q hlt
        clear hrow
        by_cases hb2 : z + 8 * L q ≤ 1048576
        · go_wp2_with fail
          go_roundw
          case rel => exact ⟨z + 8 * L q, q + 1, by go_num, by go_num, hb2, by omega, HB⟩
          case measure => simp [intOf]; omega
        · go_wp2_with fail
          go_ret
          exact ⟨⟨_, rfl⟩, HB.out⟩
      · have e0 : decide ((q : Int) < (P : Int)) = false := decide_eq_false (by omega)
        have e0' : decide (q < P) = false := decide_eq_false hlt
        go_wp2_with fail
        go_ret
        exact ⟨⟨_, rfl⟩, HB.out⟩
  · exfalso
    omega
end Go.Proofs.Qxb6605223a
