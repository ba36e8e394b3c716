/-
  Seat b6605294a. WALK: isSortedSetOf (16).
-/
import Derived.Test.Qxb6605294aD3
set_option linter.unusedVariables false
set_option linter.unusedSimpArgs false
namespace Go.Proofs.Qxb6605294a
open Go.RowKit

/-- Of what was there only block g may have turned. -/
structure Tn (g : Nat) (w w' : World) : Prop where
  os : w'.os = w.os
  tape : w'.tape = w.tape
  output : w'.output = w.output
  size : w'.heap.size = w.heap.size
  block : ∀ b, b ≠ g → w'.heap[b]? = w.heap[b]?
theorem Tn.below {g B : Nat} {a w w' : World} (h : Tn g w w') (hb : Below B a w) (hg : B ≤ g) : Below B a w' :=
  ⟨h.os.trans hb.os, h.tape.trans hb.tape, h.output.trans hb.output, by rw [h.size]; exact hb.size, fun k hk => (h.block k (by omega)).trans (hb.block k hk)⟩
theorem Mi.store' {P : Program} {w : World} {g : Nat} {f : Int → Option Value} {n : Nat} (h : Mi w g f n) {t kt et : TypeId} (ht : P.underlying t = some (.map kt et)) (hk : P.underlying kt = some (.int .i64)) (k : Int) (u : Value) :
    ∃ w', (Instr.mapUpdate t (.map (some g)) (.int .i64 k) u).run P w = .ok () w' ∧ Mi w' g (fun j => if j = k then some u else f j) (if (f k).isSome then n else n + 1) ∧ Tn g w w' := by
  obtain ⟨w', h1, h2, h3, h4, h5, h6, h7⟩ := h.store ht hk k u
  exact ⟨w', h1, h2, h3, h4, h5, h6, h7⟩

theorem run_mkMap {P : Program} {t kt et : TypeId} (ht : P.underlying t = some (.map kt et)) (n : Int) (w : World) : (Instr.makeMap t (some (.int .i64 n))).run P w = .ok (.map (some w.heap.size)) (w.alloc (.map #[] 0)) := by
  unfold Instr.makeMap
  simp only [Sem.run_bind, run_underlying ht, Result.andThen_ok]
  rfl

set_option maxRecDepth 100000 in
set_option maxHeartbeats 2000000 in
theorem isSet_yes (a b : Option Addr) (n m c d : Nat) (V U : Nat → Int) (w : World) (hn : n ≤ 1048576) (hm : m ≤ 1048576) (h : RdI .i64 w a n V) (h' : RdI .i64 w b m U) (hu : ∀ i j, i < j → j < n → V i < V j)
    (h1 : ∀ i, i < n → ∃ j, j < m ∧ V i = U j) (h2 : ∀ j, j < m → ∃ i, i < n ∧ U j = V i) :
    Calls Try.prog 16 #[.slice a n c, .slice b m d] w fun e w' => e = .returned (.bool true) ∧ Below w.heap.size w w' := by
  have H : Hid (RdI .i64 w a n V) := h
  have H' : Hid (RdI .i64 w b m U) := h'
  have HU : Hid (∀ i j, i < j → j < n → V i < V j) := hu
  have H1 : Hid (∀ i, i < n → ∃ j, j < m ∧ V i = U j) := h1
  have H2 : Hid (∀ j, j < m → ∃ i, i < n ∧ U j = V i) := h2
  have cR : Hid (Calls Try.prog 59 #[.slice a n c] w fun e w' => e = .returned (.bool true) ∧ Below w.heap.size w w') := rising_yes a n c V w hn h (fun i hi => hu i (i + 1) (by omega) hi)
  clear h h' hu h1 h2
  go_enter Try.func16, Try.ntmps16
  go_wp2_with fail
  refine Calls.mono cR.out ?_
  rintro e w1 ⟨rfl, T1⟩
  have HT1 : Hid (Below w.heap.size w w1) := T1
  clear T1 cR
  have hmk := fun w => run_mkMap (P := Try.prog) Try.underlying91 (m : Int) w
  go_wp2_with fail
  obtain ⟨w2, hw2⟩ : ∃ x, x = w1.alloc (.map #[] 0) := ⟨_, rfl⟩
  rw [← hw2]
  obtain ⟨gM, HGM⟩ : ∃ x, Hid (x = w1.heap.size) := ⟨_, rfl⟩
  rw [← HGM.out]
  have HM0 : Hid (Mi w2 gM (fun _ => none) 0) := by rw [hw2, HGM.out]; exact Mi.made w1
  have HT2 : Hid (Below w.heap.size w w2) := by rw [hw2]; exact HT1.out.alloc HT1.out.size _
  have HGL : Hid (w.heap.size ≤ gM) := by rw [HGM.out]; exact HT1.out.size
  clear hw2 hmk HT1
  go_loopw [20] (fun v wr => ∃ (i q : Nat) (f : Int → Option Value), v = .int .i64 i ∧ i ≤ m ∧ Hid (Mi wr gM f q) ∧ Hid (∀ j, j < i → f (U j) = some (.bool true)) ∧ Hid (Below w.heap.size w wr)) (fun v _ => m - (intOf v).toNat)
  case atStart => exact ⟨0, 0, _, rfl, Nat.zero_le _, HM0, fun j hj => absurd hj (Nat.not_lt_zero _), HT2⟩
  case round =>
    clear HM0 HT2
    obtain ⟨i, q, f, rfl, hi, HM, HF, HB⟩ := hrel
    by_cases hlt : i < m
    · have e0 : decide ((i : Int) < (m : Int)) = true := decide_eq_true (by omega)
      have e0' : decide (i < m) = true := decide_eq_true hlt
      obtain ⟨x, hx, kx⟩ := (H'.out.below HB.out).cell i hlt
      obtain ⟨u, HUU⟩ : ∃ u, Hid (u = U i) := ⟨_, rfl⟩
      rw [← HUU.out] at kx
      obtain ⟨w3, hrun, hM3, hT3⟩ := HM.out.store' (P := Try.prog) Try.underlying91 Try.underlying3 u (.bool true)
      have HM3 : Hid (∃ q', Mi w3 gM (fun j => if j = u then some (.bool true) else f j) q') := ⟨_, hM3⟩
      have HB3 : Hid (Below w.heap.size w w3) := hT3.below HB.out HGL.out
      have HF3 : Hid (∀ j, j < i + 1 → (if U j = u then some (Value.bool true) else f (U j)) = some (.bool true)) := fun j hj => by
        by_cases e : U j = u
        · rw [if_pos e]
        · rw [if_neg e]
          rcases Nat.lt_or_ge j i with h | h
          · exact HF.out j h
          · obtain rfl : j = i := by omega
            exact absurd HUU.out.symm e
      clear hM3 hT3
      subst hx
      go_wp2_with fail
      go_roundw
      case rel => exact ⟨i + 1, _, _, by go_num, by omega, HM3.out.choose_spec, HF3, HB3⟩
      case measure => simp [intOf]; omega
    · have e0 : decide ((i : Int) < (m : Int)) = false := decide_eq_false (by omega)
      have e0' : decide (i < m) = false := decide_eq_false hlt
      obtain rfl : m = i := by omega
      obtain ⟨w4, rfl⟩ : ∃ x, x = wr := ⟨wr, rfl⟩
      go_wp2_with fail
      go_loopw [29] (fun v wr' => ∃ (i : Nat), v = .int .i64 i ∧ i ≤ n ∧ Hid (wr' = w4)) (fun v _ => n - (intOf v).toNat)
      case atStart => exact ⟨0, rfl, Nat.zero_le _, rfl⟩
      case round =>
        obtain ⟨i, rfl, hi, HW⟩ := hrel
        obtain rfl : w4 = wr := HW.out.symm
        by_cases hlt2 : i < n
        · have e1 : decide ((i : Int) < (n : Int)) = true := decide_eq_true (by omega)
          have e1' : decide (i < n) = true := decide_eq_true hlt2
          obtain ⟨x, hx, kx⟩ := (H.out.below HB.out).cell i hlt2
          obtain ⟨j, hj, ej⟩ := H1.out i hlt2
          obtain ⟨u, HUU⟩ : ∃ u, Hid (u = V i) := ⟨_, rfl⟩
          rw [← HUU.out] at kx ej
          have hl := HM.out.look (P := Try.prog) Try.underlying91 Try.underlying3 Try.zeroValue4 u false
          have hfu := HF.out j hj
          rw [← ej] at hfu
          rw [hfu] at hl
          simp only [Bool.false_eq_true, if_false, Option.getD_some] at hl
          clear hfu ej
          subst hx
          go_wp2_with fail
          go_roundw
          case rel => exact ⟨i + 1, by go_num, by omega, (by first | rfl | trivial)⟩
          case measure => simp [intOf]; omega
        · have e1 : decide ((i : Int) < (n : Int)) = false := decide_eq_false (by omega)
          have e1' : decide (i < n) = false := decide_eq_false hlt2
          clear HW
          go_wp2_with fail
          go_loopw [40] (fun v wr' => ∃ (i : Nat), v = .int .i64 i ∧ i ≤ m ∧ Hid (Below w.heap.size w wr')) (fun v _ => m - (intOf v).toNat)
          case atStart => exact ⟨0, rfl, Nat.zero_le _, HB⟩
          case round =>
            clear HB HM
            obtain ⟨i, rfl, hi, HB⟩ := hrel
            by_cases hlt3 : i < m
            · have e2 : decide ((i : Int) < (m : Int)) = true := decide_eq_true (by omega)
              have e2' : decide (i < m) = true := decide_eq_true hlt3
              obtain ⟨x, hx, kx⟩ := (H'.out.below HB.out).cell i hlt3
              obtain ⟨j, hj, ej⟩ := H2.out i hlt3
              obtain ⟨u, HUU⟩ : ∃ u, Hid (u = U i) := ⟨_, rfl⟩
              rw [← HUU.out] at kx ej
              have cC : Hid (Calls Try.prog 60 #[.slice a n c, .int .i64 u] wr fun e w' => e = .returned (.bool true) ∧ w' = wr) := contains_yes a n c V u wr hn (H.out.below HB.out) HU.out j hj ej.symm
              clear ej
              subst hx
              go_wp2_with fail
              refine Calls.mono cC.out ?_
              rintro e w5 ⟨rfl, hw5⟩
              obtain rfl := hw5.symm
              clear cC
              go_wp2_with fail
              go_roundw
              case rel => exact ⟨i + 1, by go_num, by omega, HB⟩
              case measure => simp [intOf]; omega
            · have e2 : decide ((i : Int) < (m : Int)) = false := decide_eq_false (by omega)
              have e2' : decide (i < m) = false := decide_eq_false hlt3
              go_wp2_with fail
              go_ret
              exact ⟨rfl, HB.out⟩
end Go.Proofs.Qxb6605294a
