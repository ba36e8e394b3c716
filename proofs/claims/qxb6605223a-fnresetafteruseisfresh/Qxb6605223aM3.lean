/-
  Seat b6605223a. WALK: zzWellFormed (8).
-/
import Derived.Test.Qxb6605223aM2
set_option linter.unusedVariables false
set_option linter.unusedSimpArgs false
namespace Go.Proofs.Qxb6605223a
open Go.RowKit

/-- One operation is in its place. -/
def OkAt (n P : Nat) (PR PO F : Nat → Int) (L : Nat → Nat) (Z : Nat → Nat → Int) (i : Nat) : Prop :=
  0 ≤ PR i ∧ PR i < P ∧ 1 ≤ PO i ∧ PO i ≤ L (PR i).toNat ∧ Z (PR i).toNat (PO i - 1).toNat = i ∧ -1 ≤ F i ∧ F i < n

def WfPost (n n2 P n4 r5 r6 : Nat) (PR PO F : Nat → Int) (L : Nat → Nat) (Z : Nat → Nat → Int) (w : World) (r : Ending) (w' : World) : Prop :=
  ∃ f : Bool, r = .returned (.bool f) ∧ (f = true → n2 = n ∧ n4 = n ∧ r5 = P ∧ r6 = P ∧ ∀ i, i < n → OkAt n P PR PO F L Z i) ∧ Below w.heap.size w w'

theorem neq_f {a b : Nat} (h : a = b) : ((a : Int) != (b : Int)) = false := by simp [h]
theorem neq_t {a b : Nat} (h : a ≠ b) : ((a : Int) != (b : Int)) = true := by simpa using (fun e : (a : Int) = b => h (by omega))

set_option maxRecDepth 100000 in
set_option maxHeartbeats 2000000 in
theorem wf_lens (a1 a2 a3 a4 a5 a6 : Option Addr) (n n2 P n4 r5 r6 c1 c2 c3 c4 c5 c6 : Nat) (PR PO F : Nat → Int) (L : Nat → Nat) (Z : Nat → Nat → Int) (w : World) (h : ¬ (n2 = n ∧ n4 = n ∧ r5 = P ∧ r6 = P)) :
    Calls Try.prog 8 #[.slice a1 n c1, .slice a2 n2 c2, .slice a3 P c3, .slice a4 n4 c4, .slice a5 r5 c5, .slice a6 r6 c6] w (WfPost n n2 P n4 r5 r6 PR PO F L Z w) := by
  have hw : ((n2 : Int) != (n : Int)) = true ∨ (((n2 : Int) != (n : Int)) = false ∧ ((n4 : Int) != (n : Int)) = true) ∨ (((n2 : Int) != (n : Int)) = false ∧ ((n4 : Int) != (n : Int)) = false ∧ ((r5 : Int) != (P : Int)) = true) ∨
      (((n2 : Int) != (n : Int)) = false ∧ ((n4 : Int) != (n : Int)) = false ∧ ((r5 : Int) != (P : Int)) = false ∧ ((r6 : Int) != (P : Int)) = true) := by
    by_cases h1 : n2 = n
    · by_cases h2 : n4 = n
      · by_cases h3 : r5 = P
        · by_cases h4 : r6 = P
          · exact absurd ⟨h1, h2, h3, h4⟩ h
          · exact .inr (.inr (.inr ⟨neq_f h1, neq_f h2, neq_f h3, neq_t h4⟩))
        · exact .inr (.inr (.inl ⟨neq_f h1, neq_f h2, neq_t h3⟩))
      · exact .inr (.inl ⟨neq_f h1, neq_t h2⟩)
    · exact .inl (neq_t h1)
  clear h
  go_enter Try.func8, Try.ntmps8
  rcases hw with d1 | ⟨d1, d2⟩ | ⟨d1, d2, d3⟩ | ⟨d1, d2, d3, d4⟩
  all_goals
    go_wp2_with fail
    first | (go_big_quiet (fail); go_wp2_with fail) | skip
    go_ret
    exact ⟨false, rfl, fun h => (by cases h), by first | exact Below.refl _ _ | exact below_drewN (Below.refl _ _) _⟩

set_option maxRecDepth 100000 in
set_option maxHeartbeats 2000000 in
theorem wf_main (a1 a2 a3 a4 a5 a6 : Option Addr) (n P c1 c2 c3 c4 c5 c6 : Nat) (PR PO F : Nat → Int) (A : Nat → Option Addr) (L C : Nat → Nat) (Z : Nat → Nat → Int) (w : World) (hn : n ≤ 1048576) (hP : P ≤ 1048576) (hL : ∀ q, q < P → L q ≤ 1048576) (hPO : ∀ i, i < n → -2147483648 ≤ PO i ∧ PO i ≤ 2147483647)
    (h1 : RdI .i64 w a1 n PR) (h2 : RdI .i32 w a2 n PO) (h3 : RdL w a3 P A L C Z) (h4 : RdI .i64 w a4 n F) :
    Calls Try.prog 8 #[.slice a1 n c1, .slice a2 n c2, .slice a3 P c3, .slice a4 n c4, .slice a5 P c5, .slice a6 P c6] w (WfPost n n P n P P PR PO F L Z w) := by
  have H1 : Hid (RdI .i64 w a1 n PR) := h1
  have H2 : Hid (RdI .i32 w a2 n PO) := h2
  have H3 : Hid (RdL w a3 P A L C Z) := h3
  have H4 : Hid (RdI .i64 w a4 n F) := h4
  have HL : Hid (∀ q, q < P → L q ≤ 1048576) := hL
  have HPO : Hid (∀ i, i < n → -2147483648 ≤ PO i ∧ PO i ≤ 2147483647) := hPO
  clear h1 h2 h3 h4 hL hPO
  go_enter Try.func8, Try.ntmps8
  go_wp2_with fail
  go_loopw [14] (fun v wr => ∃ i : Nat, v = .int .i64 i ∧ i ≤ n ∧ Hid (Below w.heap.size w wr) ∧ Hid (∀ j, j < i → OkAt n P PR PO F L Z j)) (fun v _ => n - (intOf v).toNat)
  case atStart => exact ⟨0, rfl, Nat.zero_le _, Below.refl _ _, fun j hj => absurd hj (Nat.not_lt_zero _)⟩
  case round =>
    obtain ⟨i, rfl, hi, HB, HA⟩ := hrel
    by_cases hlt : i < n
    · have e0 : decide ((i : Int) < (n : Int)) = true := decide_eq_true (by omega)
      have e0' : decide (i < n) = true := decide_eq_true hlt
      obtain ⟨x1, hx1⟩ := H1.out.at' (by omega)
      subst hx1
      obtain ⟨x2, hx2⟩ := H2.out.at' (by omega)
      subst hx2
      obtain ⟨x4, hx4⟩ := H4.out.at' (by omega)
      subst hx4
      have k1 : wr.cell? (x1.add i) = some (.int .i64 (PR i)) := ((H1.out.below HB.out).2 x1 rfl).2 i hlt
      have k2 : wr.cell? (x2.add i) = some (.int .i32 (PO i)) := ((H2.out.below HB.out).2 x2 rfl).2 i hlt
      have k4 : wr.cell? (x4.add i) = some (.int .i64 (F i)) := ((H4.out.below HB.out).2 x4 rfl).2 i hlt
      by_cases hq : 0 ≤ PR i ∧ PR i < P
      · obtain ⟨q, hqe⟩ : ∃ q : Nat, PR i = (q : Int) := ⟨(PR i).toNat, by omega⟩
        have hqP : q < P := by omega
        obtain ⟨x3, hx3⟩ : ∃ x, a3 = some x := by
          cases a3 with
          | none => have := H3.out.1 rfl; omega
          | some x => exact ⟨x, rfl⟩
        subst hx3
        obtain ⟨k3, hrow⟩ := ((H3.out.below HB.out).2 x3 rfl).2 q hqP
        have HRow : Hid (RdI .i64 wr (A q) (L q) (Z q)) := hrow
        have hLq := HL.out q hqP
        have HQ : Hid (PR i = (q : Int)) := hqe
        rw [hqe] at k1
        clear hqe hq hrow
        have d1 : decide ((P : Int) ≤ (q : Int)) = false := decide_eq_false (by omega)
        have d1' : decide (P ≤ q) = false := decide_eq_false (by omega)
        by_cases hp : 1 ≤ PO i ∧ PO i ≤ L q
        · obtain ⟨p, hpe⟩ : ∃ p : Nat, PO i = (p : Int) + 1 := ⟨(PO i - 1).toNat, by omega⟩
          have hpL : p < L q := by omega
          obtain ⟨y, hy⟩ := HRow.out.at' (by omega)
          have k5 : wr.cell? (y.add p) = some (.int .i64 (Z q p)) := (HRow.out.2 y hy).2 p hpL
          rw [hy] at k3
          have HP : Hid (PO i = (p : Int) + 1) := hpe
          rw [hpe] at k2
          have d2 : decide ((p : Int) + 1 < 1) = false := decide_eq_false (by omega)
          have d3 : decide ((L q : Int) < (p : Int) + 1) = false := decide_eq_false (by omega)
          clear hpe hp hy
          by_cases hz : Z q p = (i : Int)
          · have d4 : (Z q p != (i : Int)) = false := by simp [hz]
            by_cases hf : -1 ≤ F i ∧ F i < n
            · obtain ⟨hf1, hf2⟩ := hf
              have d5 : decide (F i < -1) = false := decide_eq_false (by omega)
              have d6 : decide ((n : Int) ≤ F i) = false := decide_eq_false (by omega)
              have HA' : Hid (∀ j, j < i + 1 → OkAt n P PR PO F L Z j) := fun j hj => by
                by_cases e' : j = i
                · subst e'
                  refine ⟨by rw [HQ.out]; omega, by rw [HQ.out]; omega, by rw [HP.out]; omega, by rw [HP.out, HQ.out]; simp; omega, ?_, hf1, hf2⟩
                  rw [HP.out, HQ.out, show ((q : Int)).toNat = q by omega, show ((p : Int) + 1 - 1).toNat = p by omega]
                  exact hz
                · exact HA.out j (by omega)
              clear hz HA HQ HP
              go_wp2_with fail
              go_roundw
              case rel => exact ⟨i + 1, by go_num, by omega, HB, HA'⟩
              case measure => simp [intOf]; omega
            · have hw : decide (F i < -1) = true ∨ (decide (F i < -1) = false ∧ decide ((n : Int) ≤ F i) = true) := by
                by_cases h0 : F i < -1
                · exact .inl (decide_eq_true h0)
                · exact .inr ⟨decide_eq_false h0, decide_eq_true (by omega)⟩
              clear hf hz HQ HP
              rcases hw with d5 | ⟨d5, d6⟩
              all_goals
                go_wp2_with fail
                go_ret
                exact ⟨false, rfl, fun h => (by cases h), HB.out⟩
          · have d4 : (Z q p != (i : Int)) = true := by simpa using hz
            clear hz HQ HP
            go_wp2_with fail
            go_ret
            exact ⟨false, rfl, fun h => (by cases h), HB.out⟩
        · have hw : decide (PO i < 1) = true ∨ (decide (PO i < 1) = false ∧ decide ((L q : Int) < PO i) = true) := by
            by_cases h0 : PO i < 1
            · exact .inl (decide_eq_true h0)
            · exact .inr ⟨decide_eq_false h0, decide_eq_true (by omega)⟩
          obtain ⟨hb1, hb2⟩ := HPO.out i hlt
          clear hp HQ
          rcases hw with d5 | ⟨d5, d6⟩
          all_goals
            go_wp2_with fail
            go_ret
            exact ⟨false, rfl, fun h => (by cases h), HB.out⟩
      · have hw : PR i < 0 ∨ (0 ≤ PR i ∧ (P : Int) ≤ PR i) := by omega
        clear hq
        rcases hw with d5 | ⟨d5, d6⟩
        all_goals
          go_wp2_with fail
          go_ret
          exact ⟨false, rfl, fun h => (by cases h), HB.out⟩
    · have e0 : decide ((i : Int) < (n : Int)) = false := decide_eq_false (by omega)
      have e0' : decide (i < n) = false := decide_eq_false hlt
      go_wp2_with fail
      go_ret
      exact ⟨true, rfl, fun _ => ⟨rfl, rfl, rfl, rfl, fun j hj => HA.out j (by omega)⟩, HB.out⟩
end Go.Proofs.Qxb6605223a
