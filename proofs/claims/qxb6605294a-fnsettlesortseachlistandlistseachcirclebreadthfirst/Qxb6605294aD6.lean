/-
  Seat b6605294a. WALKS: bytesOf (55), satAdd (56), nestedIntBytes (57), familyBytes (8): they come back with a number.
-/
import Derived.Test.Qxb6605294aD5
set_option linter.unusedVariables false
set_option linter.unusedSimpArgs false
namespace Go.Proofs.Qxb6605294a
open Go.RowKit

theorem bytesOf_any (l k : Nat) (w : World) (hl : l ≤ 9223372036854775807) (hk : k ≤ 24) :
    Calls Try.prog 55 #[.int .i64 l, .int .i64 k] w fun e w' => (∃ t : Nat, e = .returned (.int .i64 t) ∧ t ≤ 33554432) ∧ w' = w := by
  by_cases h : 1048576 < l
  · have e0 : decide ((1048576 : Int) < (l : Int)) = true := decide_eq_true (by omega)
    have e0' : decide (1048576 < l) = true := decide_eq_true h
    go_enter Try.func55, Try.ntmps55
    go_wp2_with fail
    go_ret
    exact ⟨⟨1048577, rfl, by omega⟩, rfl⟩
  · have e0 : decide ((1048576 : Int) < (l : Int)) = false := decide_eq_false (by omega)
    have e0' : decide (1048576 < l) = false := decide_eq_false h
    have hb : l * k ≤ 25165824 := by
      have : l * k ≤ 1048576 * 24 := Nat.mul_le_mul (by omega) hk
      omega
    obtain ⟨t, HT⟩ : ∃ t : Nat, Hid (t = l * k) := ⟨_, rfl⟩
    have ht : t ≤ 25165824 := by rw [HT.out]; exact hb
    have e1 : (l : Int) * (k : Int) = (t : Int) := by rw [HT.out]; simp
    clear hb
    go_enter Try.func55, Try.ntmps55
    go_wp2_with fail
    go_ret
    exact ⟨⟨t, by simp, by omega⟩, rfl⟩
theorem satAdd_any (a b : Nat) (w : World) (ha : a ≤ 33554432) (hb : b ≤ 33554432) :
    Calls Try.prog 56 #[.int .i64 a, .int .i64 b] w fun e w' => (∃ t : Nat, e = .returned (.int .i64 t) ∧ t ≤ 33554432) ∧ w' = w := by
  by_cases h1 : 1048576 < a
  · have e0 : decide ((1048576 : Int) < (a : Int)) = true := decide_eq_true (by omega)
    have e0' : decide (1048576 < a) = true := decide_eq_true h1
    go_enter Try.func56, Try.ntmps56
    go_wp2_with fail
    go_ret
    exact ⟨⟨1048577, rfl, by omega⟩, rfl⟩
  · have e0 : decide ((1048576 : Int) < (a : Int)) = false := decide_eq_false (by omega)
    have e0' : decide (1048576 < a) = false := decide_eq_false h1
    by_cases h2 : 1048576 < b
    · have e1 : decide ((1048576 : Int) < (b : Int)) = true := decide_eq_true (by omega)
      have e1' : decide (1048576 < b) = true := decide_eq_true h2
      go_enter Try.func56, Try.ntmps56
      go_wp2_with fail
      go_ret
      exact ⟨⟨1048577, rfl, by omega⟩, rfl⟩
    · have e1 : decide ((1048576 : Int) < (b : Int)) = false := decide_eq_false (by omega)
      have e1' : decide (1048576 < b) = false := decide_eq_false h2
      by_cases h3 : 1048576 < a + b
      · have e2 : decide ((1048576 : Int) < (a : Int) + (b : Int)) = true := decide_eq_true (by omega)
        go_enter Try.func56, Try.ntmps56
        go_wp2_with fail
        go_ret
        exact ⟨⟨1048577, rfl, by omega⟩, rfl⟩
      · have e2 : decide ((1048576 : Int) < (a : Int) + (b : Int)) = false := decide_eq_false (by omega)
        go_enter Try.func56, Try.ntmps56
        go_wp2_with fail
        go_ret
        exact ⟨⟨a + b, by simp, by omega⟩, rfl⟩

set_option maxRecDepth 100000 in
set_option maxHeartbeats 2000000 in
theorem nested_any (b : Option Addr) (P c : Nat) (A : Nat → Option Addr) (L C : Nat → Nat) (Z : Nat → Nat → Int) (w : World) (hP : P ≤ 1048576) (hL : ∀ q, q < P → L q ≤ 1048576) (h : RdL w b P A L C Z) :
    Calls Try.prog 57 #[.slice b P c] w fun e w' => (∃ t : Nat, e = .returned (.int .i64 t) ∧ t ≤ 33554432) ∧ w' = w := by
  have H : Hid (RdL w b P A L C Z) := h
  have HL : Hid (∀ q, q < P → L q ≤ 1048576) := hL
  have c1 : Hid _ := bytesOf_any P 24 w (by omega) (by omega)
  clear h hL
  go_enter Try.func57, Try.ntmps57
  go_wp2_with fail
  refine Calls.mono c1.out ?_
  rintro e w1 ⟨⟨t, rfl, ht⟩, hw⟩
  obtain rfl := hw.symm
  clear c1
  by_cases h0 : 1048576 < t
  · have e0 : decide ((1048576 : Int) < (t : Int)) = true := decide_eq_true (by omega)
    have e0' : decide (1048576 < t) = true := decide_eq_true h0
    go_wp2_with fail
    go_ret
    exact ⟨⟨1048577, rfl, by omega⟩, rfl⟩
  · have e0 : decide ((1048576 : Int) < (t : Int)) = false := decide_eq_false (by omega)
    have e0' : decide (1048576 < t) = false := decide_eq_false h0
    go_wp2_with fail
    go_loopw [3, 4] (fun v v' wr => ∃ (t i : Nat), v = .int .i64 t ∧ v' = .int .i64 i ∧ t ≤ 33554432 ∧ i ≤ P ∧ Hid (wr = w)) (fun _ v' _ => P - (intOf v').toNat)
    case atStart => exact ⟨t, 0, rfl, rfl, ht, Nat.zero_le _, rfl⟩
    case round =>
      clear e0 e0' h0 ht
      obtain ⟨t, i, rfl, rfl, ht, hi, HW⟩ := hrel
      obtain rfl : w = wr := HW.out.symm
      by_cases hlt : i < P
      · have e0 : decide ((i : Int) < (P : Int)) = true := decide_eq_true (by omega)
        have e0' : decide (i < P) = true := decide_eq_true hlt
        obtain ⟨x, hx⟩ : ∃ x, b = some x := by
          cases b with
          | none => have := H.out.1 rfl; omega
          | some x => exact ⟨x, rfl⟩
        have kx := ((H.out.2 x hx).2 i hlt).1
        have hl := HL.out i hlt
        have c1 : Hid _ := bytesOf_any (L i) 8 w (by omega) (by omega)
        clear HW
        subst hx
        go_wp2_with fail
        refine Calls.mono c1.out ?_
        rintro e w1 ⟨⟨s, rfl, hs⟩, hw⟩
        obtain rfl := hw.symm
        have c2 : Hid _ := satAdd_any t s w ht hs
        clear c1
        go_wp2_with fail
        refine Calls.mono c2.out ?_
        rintro e w1 ⟨⟨r, rfl, hr⟩, hw⟩
        obtain rfl := hw.symm
        clear c2
        by_cases h0 : 1048576 < r
        · have q0 : decide ((1048576 : Int) < (r : Int)) = true := decide_eq_true (by omega)
          have q0' : decide (1048576 < r) = true := decide_eq_true h0
          go_wp2_with fail
          go_ret
          exact ⟨⟨1048577, rfl, by omega⟩, rfl⟩
        · have q0 : decide ((1048576 : Int) < (r : Int)) = false := decide_eq_false (by omega)
          have q0' : decide (1048576 < r) = false := decide_eq_false h0
          go_wp2_with fail
          go_roundw
          case rel => exact ⟨r, i + 1, rfl, by go_num, by omega, by omega, (by first | rfl | trivial)⟩
          case measure => simp [intOf]; omega
      · have e0 : decide ((i : Int) < (P : Int)) = false := decide_eq_false (by omega)
        have e0' : decide (i < P) = false := decide_eq_false hlt
        go_wp2_with fail
        go_ret
        exact ⟨⟨t, rfl, ht⟩, rfl⟩

set_option maxRecDepth 100000 in
set_option maxHeartbeats 2000000 in
theorem family_any (a b1 b2 b3 b4 : Option Addr) (n P1 P2 P3 P4 c c1 c2 c3 c4 : Nat) (A1 A2 A3 A4 : Nat → Option Addr) (L1 L2 L3 L4 C1 C2 C3 C4 : Nat → Nat) (Z1 Z2 Z3 Z4 : Nat → Nat → Int) (w : World)
    (m0 : n ≤ 1048576) (m1 : P1 ≤ 1048576) (m2 : P2 ≤ 1048576) (m3 : P3 ≤ 1048576) (m4 : P4 ≤ 1048576) (l1 : ∀ q, q < P1 → L1 q ≤ 1048576) (l2 : ∀ q, q < P2 → L2 q ≤ 1048576) (l3 : ∀ q, q < P3 → L3 q ≤ 1048576) (l4 : ∀ q, q < P4 → L4 q ≤ 1048576)
    (h1 : RdL w b1 P1 A1 L1 C1 Z1) (h2 : RdL w b2 P2 A2 L2 C2 Z2) (h3 : RdL w b3 P3 A3 L3 C3 Z3) (h4 : RdL w b4 P4 A4 L4 C4 Z4) :
    Calls Try.prog 8 #[.slice a n c, .slice b1 P1 c1, .slice b2 P2 c2, .slice b3 P3 c3, .slice b4 P4 c4] w fun e w' => (∃ t : Nat, e = .returned (.int .i64 t) ∧ t ≤ 33554432) ∧ w' = w := by
  have k0 : Hid _ := bytesOf_any n 8 w (by omega) (by omega)
  have k1 : Hid _ := nested_any b1 P1 c1 A1 L1 C1 Z1 w m1 l1 h1
  have k2 : Hid _ := nested_any b2 P2 c2 A2 L2 C2 Z2 w m2 l2 h2
  have k3 : Hid _ := nested_any b3 P3 c3 A3 L3 C3 Z3 w m3 l3 h3
  have k4 : Hid _ := nested_any b4 P4 c4 A4 L4 C4 Z4 w m4 l4 h4
  clear h1 h2 h3 h4 l1 l2 l3 l4
  go_enter Try.func8, Try.ntmps8
  go_wp2_with fail
  refine Calls.mono k0.out ?_
  rintro e w1 ⟨⟨t, rfl, ht⟩, hw⟩
  obtain rfl := hw.symm
  go_wp2_with fail
  refine Calls.mono k1.out ?_
  rintro e w1 ⟨⟨t1, rfl, ht1⟩, hw⟩
  obtain rfl := hw.symm
  have s1 : Hid _ := satAdd_any t t1 w ht ht1
  go_wp2_with fail
  refine Calls.mono s1.out ?_
  rintro e w1 ⟨⟨u1, rfl, hu1⟩, hw⟩
  obtain rfl := hw.symm
  go_wp2_with fail
  refine Calls.mono k2.out ?_
  rintro e w1 ⟨⟨t2, rfl, ht2⟩, hw⟩
  obtain rfl := hw.symm
  have s2 : Hid _ := satAdd_any u1 t2 w hu1 ht2
  go_wp2_with fail
  refine Calls.mono s2.out ?_
  rintro e w1 ⟨⟨u2, rfl, hu2⟩, hw⟩
  obtain rfl := hw.symm
  go_wp2_with fail
  refine Calls.mono k3.out ?_
  rintro e w1 ⟨⟨t3, rfl, ht3⟩, hw⟩
  obtain rfl := hw.symm
  have s3 : Hid _ := satAdd_any u2 t3 w hu2 ht3
  go_wp2_with fail
  refine Calls.mono s3.out ?_
  rintro e w1 ⟨⟨u3, rfl, hu3⟩, hw⟩
  obtain rfl := hw.symm
  go_wp2_with fail
  refine Calls.mono k4.out ?_
  rintro e w1 ⟨⟨t4, rfl, ht4⟩, hw⟩
  obtain rfl := hw.symm
  have s4 : Hid _ := satAdd_any u3 t4 w hu3 ht4
  go_wp2_with fail
  refine Calls.mono s4.out ?_
  rintro e w1 ⟨⟨u4, rfl, hu4⟩, hw⟩
  obtain rfl := hw.symm
  go_wp2_with fail
  go_ret
  exact ⟨⟨u4, rfl, hu4⟩, rfl⟩
end Go.Proofs.Qxb6605294a
