/-
  Seat b6605294a. WALKS: sameInts (26), sameLists (25), strictlyIncreasing (59), containsSorted (60): true where it holds.
-/
import Derived.Test.Qxb6605294aD2
import Derived.Deep.RegionHeld3
set_option linter.unusedVariables false
set_option linter.unusedSimpArgs false
namespace Go.Proofs.Qxb6605294a
open Go.RowKit

theorem RdI.at' {k : IntKind} {w : World} {a : Option Addr} {n : Nat} {V : Nat → Int} (h : RdI k w a n V) (h0 : 0 < n) : ∃ x, a = some x := by
  cases a with
  | none => have := h.1 rfl; omega
  | some x => exact ⟨x, rfl⟩
theorem RdI.cell {k : IntKind} {w : World} {a : Option Addr} {n : Nat} {V : Nat → Int} (h : RdI k w a n V) (i : Nat) (hi : i < n) : ∃ x, a = some x ∧ w.cell? (x.add i) = some (.int k (V i)) := by
  obtain ⟨x, hx⟩ := h.at' (by omega)
  exact ⟨x, hx, (h.2 x hx).2 i hi⟩
theorem below_drewN {B : Nat} {a w : World} (h : Below B a w) (q : Nat) : Below B a (w.drewN q) := ⟨h.os, h.tape, h.output, h.size, h.block⟩

set_option maxRecDepth 100000 in
set_option maxHeartbeats 1000000 in
theorem sameInts_yes (a b : Option Addr) (n c d : Nat) (V : Nat → Int) (w : World) (hn : n ≤ 1048576) (h : RdI .i64 w a n V) (h' : RdI .i64 w b n V) :
    Calls Try.prog 26 #[.slice a n c, .slice b n d] w fun e w' => e = .returned (.bool true) ∧ Below w.heap.size w w' := by
  have H : Hid (RdI .i64 w a n V) := h
  have H' : Hid (RdI .i64 w b n V) := h'
  clear h h'
  go_enter Try.func26, Try.ntmps26
  go_wp2_with fail
  go_loopw [5] (fun v wr => ∃ (i : Nat), v = .int .i64 i ∧ i ≤ n ∧ Hid (Below w.heap.size w wr)) (fun v _ => n - (intOf v).toNat)
  case atStart => exact ⟨0, rfl, Nat.zero_le _, Below.refl _ _⟩
  case round =>
    obtain ⟨i, rfl, hi, HB⟩ := hrel
    by_cases hlt : i < n
    · have e0 : decide ((i : Int) < (n : Int)) = true := decide_eq_true (by omega)
      have e0' : decide (i < n) = true := decide_eq_true hlt
      obtain ⟨x, hx, kx⟩ := (H.out.below HB.out).cell i hlt
      obtain ⟨y, hy, ky⟩ := (H'.out.below HB.out).cell i hlt
      obtain ⟨v, HV⟩ : ∃ v, Hid (v = V i) := ⟨_, rfl⟩
      rw [← HV.out] at kx ky
      subst hx hy
      go_wp2_with fail
      go_big_quiet (fail)
      go_wp2_with fail
      go_roundw
      case rel => exact ⟨i + 1, by go_num, by omega, below_drewN HB.out _⟩
      case measure => simp [intOf]; omega
    · have e0 : decide ((i : Int) < (n : Int)) = false := decide_eq_false (by omega)
      have e0' : decide (i < n) = false := decide_eq_false hlt
      go_wp2_with fail
      go_ret
      exact ⟨rfl, HB.out⟩

set_option maxRecDepth 100000 in
set_option maxHeartbeats 1000000 in
theorem rising_yes (a : Option Addr) (n c : Nat) (V : Nat → Int) (w : World) (hn : n ≤ 1048576) (h : RdI .i64 w a n V) (hu : ∀ i, i + 1 < n → V i < V (i + 1)) :
    Calls Try.prog 59 #[.slice a n c] w fun e w' => e = .returned (.bool true) ∧ Below w.heap.size w w' := by
  have H : Hid (RdI .i64 w a n V) := h
  have HU : Hid (∀ i, i + 1 < n → V i < V (i + 1)) := hu
  clear h hu
  go_enter Try.func59, Try.ntmps59
  go_wp2_with fail
  go_loopw [3] (fun v wr => ∃ (i : Nat), v = .int .i64 i ∧ 1 ≤ i ∧ i ≤ n + 1 ∧ Hid (Below w.heap.size w wr)) (fun v _ => n + 1 - (intOf v).toNat)
  case atStart => exact ⟨1, rfl, Nat.le_refl _, by omega, Below.refl _ _⟩
  case round =>
    obtain ⟨i, rfl, h1, hi, HB⟩ := hrel
    by_cases hlt : i < n
    · have e0 : decide ((i : Int) < (n : Int)) = true := decide_eq_true (by omega)
      have e0' : decide (i < n) = true := decide_eq_true hlt
      obtain ⟨s, hs⟩ : ∃ s, i = s + 1 := ⟨i - 1, by omega⟩
      have es : (i : Int) - 1 = (s : Int) := by omega
      have hsn : s < n := by omega
      have hsi : (s : Int) < (n : Int) := by omega
      obtain ⟨x, hx, kx⟩ := (H.out.below HB.out).cell i hlt
      obtain ⟨y, hy, ky⟩ := (H.out.below HB.out).cell s hsn
      rw [hx] at hy
      cases hy
      have hv := HU.out s (by omega)
      rw [← hs] at hv
      obtain ⟨v, HV⟩ : ∃ v, Hid (v = V i) := ⟨_, rfl⟩
      obtain ⟨u, HUU⟩ : ∃ v, Hid (v = V s) := ⟨_, rfl⟩
      rw [← HV.out] at kx hv
      rw [← HUU.out] at ky hv
      have t1 : decide (v ≤ u) = false := decide_eq_false (by omega)
      have t2 : decide (u ≥ v) = false := decide_eq_false (by omega)
      clear hs
      subst hx
      go_wp2_with fail
      go_big_quiet (fail)
      go_wp2_with fail
      go_roundw
      case rel => exact ⟨i + 1, by go_num, by omega, by omega, below_drewN HB.out _⟩
      case measure => simp [intOf]; omega
    · have e0 : decide ((i : Int) < (n : Int)) = false := decide_eq_false (by omega)
      have e0' : decide (i < n) = false := decide_eq_false hlt
      go_wp2_with fail
      go_ret
      exact ⟨rfl, HB.out⟩

set_option maxRecDepth 100000 in
set_option maxHeartbeats 1000000 in
theorem sameLists_yes (a b : Option Addr) (P c d : Nat) (A A' : Nat → Option Addr) (L C C' : Nat → Nat) (Z : Nat → Nat → Int) (w : World) (hn : P ≤ 1048576) (hL : ∀ q, q < P → L q ≤ 1048576) (h : RdL w a P A L C Z) (h' : RdL w b P A' L C' Z) :
    Calls Try.prog 25 #[.slice a P c, .slice b P d] w fun e w' => e = .returned (.bool true) ∧ Below w.heap.size w w' := by
  have H : Hid (RdL w a P A L C Z) := h
  have H' : Hid (RdL w b P A' L C' Z) := h'
  have HL : Hid (∀ q, q < P → L q ≤ 1048576) := hL
  clear h h' hL
  go_enter Try.func25, Try.ntmps25
  go_wp2_with fail
  go_loopw [5] (fun v wr => ∃ (i : Nat), v = .int .i64 i ∧ i ≤ P ∧ Hid (Below w.heap.size w wr)) (fun v _ => P - (intOf v).toNat)
  case atStart => exact ⟨0, rfl, Nat.zero_le _, Below.refl _ _⟩
  case round =>
    obtain ⟨i, rfl, hi, HB⟩ := hrel
    by_cases hlt : i < P
    · have e0 : decide ((i : Int) < (P : Int)) = true := decide_eq_true (by omega)
      have e0' : decide (i < P) = true := decide_eq_true hlt
      obtain ⟨x, hx⟩ : ∃ x, a = some x := by
        cases a with
        | none => have := H.out.1 rfl; omega
        | some x => exact ⟨x, rfl⟩
      obtain ⟨y, hy⟩ : ∃ x, b = some x := by
        cases b with
        | none => have := H'.out.1 rfl; omega
        | some x => exact ⟨x, rfl⟩
      obtain ⟨kx, rx⟩ := ((H.out.below HB.out).2 x hx).2 i hlt
      obtain ⟨ky, ry⟩ := ((H'.out.below HB.out).2 y hy).2 i hlt
      have cC : ∀ wq : World, Below wr.heap.size wr wq → Calls Try.prog 26 #[.slice (A i) (L i) (C i), .slice (A' i) (L i) (C' i)] wq fun e w' => e = .returned (.bool true) ∧ Below wq.heap.size wq w' := fun wq hq =>
        sameInts_yes (A i) (A' i) (L i) (C i) (C' i) (Z i) wq (HL.out i hlt) (rx.below hq) (ry.below hq)
      have HC : Hid _ := cC
      have lx : (x.add i).block < wr.heap.size := World.block_lt_of_cell? wr _ kx
      have ly : (y.add i).block < wr.heap.size := World.block_lt_of_cell? wr _ ky
      have HLL : Hid ((x.add i).block < wr.heap.size ∧ (y.add i).block < wr.heap.size) := ⟨lx, ly⟩
      have HKK : Hid (wr.cell? (x.add i) = some (.slice (A i) (L i) (C i)) ∧ wr.cell? (y.add i) = some (.slice (A' i) (L i) (C' i))) := ⟨kx, ky⟩
      clear cC rx ry lx ly
      subst hx hy
      go_wp2_with fail
      go_region_held3 (fun (w' : World) => w'.cell? (x.add i) = some (.slice (A i) (L i) (C i)) ∧ w'.cell? (y.add i) = some (.slice (A' i) (L i) (C' i)))
        (first | exact HKK.out | (exact ⟨by rw [HB2.out.cell HLL.out.1]; exact HKK.out.1, by rw [HB2.out.cell HLL.out.2]; exact HKK.out.2⟩))
        ((go_at_call 26; refine Calls.mono (HC.out _ ((Below.refl _ _).drew)) ?_; rintro e w2 ⟨rfl, hB2⟩; have HB2 : Hid (Below wr.heap.size wr w2) := ⟨hB2.os, hB2.tape, hB2.output, hB2.size, hB2.block⟩; clear hB2))
      go_wp2_with fail
      go_roundw
      case rel => exact ⟨i + 1, by go_num, by omega, HB.out.trans (HB2.out.mono HB.out.size)⟩
      case measure => simp [intOf]; omega
    · have e0 : decide ((i : Int) < (P : Int)) = false := decide_eq_false (by omega)
      have e0' : decide (i < P) = false := decide_eq_false hlt
      go_wp2_with fail
      go_ret
      exact ⟨rfl, HB.out⟩

set_option maxRecDepth 100000 in
set_option maxHeartbeats 1000000 in
theorem contains_yes (a : Option Addr) (n c : Nat) (V : Nat → Int) (v : Int) (w : World) (hn : n ≤ 1048576) (h : RdI .i64 w a n V) (hu : ∀ i j, i < j → j < n → V i < V j) (k : Nat) (hk : k < n) (hv : V k = v) :
    Calls Try.prog 60 #[.slice a n c, .int .i64 v] w fun e w' => e = .returned (.bool true) ∧ w' = w := by
  have HU : Hid (∀ i j, i < j → j < n → V i < V j) := hu
  have HK : Hid (V k = v) := hv
  obtain ⟨x, hx⟩ := h.at' (by omega)
  have HC : Hid (∀ i, i < n → w.cell? (x.add i) = some (.int .i64 (V i))) := (h.2 x hx).2
  subst hx
  clear h hu hv
  go_enter Try.func60, Try.ntmps60
  go_wp2_with fail
  go_loopw [5, 6] (fun v5 v6 wr => ∃ (lo hi : Nat), v5 = .int .i64 lo ∧ v6 = .int .i64 hi ∧ lo ≤ k ∧ k ≤ hi ∧ hi ≤ n ∧ (k < hi ∨ lo < hi ∨ lo = k) ∧ Hid (wr = w)) (fun v5 v6 _ => (intOf v6).toNat - (intOf v5).toNat)
  case atStart => exact ⟨0, n, rfl, rfl, Nat.zero_le _, by omega, Nat.le_refl _, by omega, rfl⟩
  case round =>
    obtain ⟨lo, hi, rfl, rfl, h1, h2, h3, h4, HW⟩ := hrel
    obtain rfl := HW.out
    by_cases hlt : lo < hi
    · have e0 : decide ((lo : Int) < (hi : Int)) = true := decide_eq_true (by omega)
      have e0' : decide (lo < hi) = true := decide_eq_true hlt
      obtain ⟨mid, HM⟩ : ∃ mid : Nat, Hid (mid = lo + (hi - lo) / 2) := ⟨_, rfl⟩
      have hm1 : lo ≤ mid := by rw [HM.out]; omega
      have hm2 : mid < hi := by rw [HM.out]; omega
      obtain ⟨hf, HHF⟩ : ∃ hf : Nat, Hid (hf = (hi - lo) / 2) := ⟨_, rfl⟩
      have d1 : ((hi : Int) - (lo : Int)) / 2 = (hf : Int) := by rw [HHF.out]; omega
      have d2 : Int.tdiv ((hi : Int) - (lo : Int)) 2 = (hf : Int) := by rw [← d1]; exact Int.tdiv_eq_ediv_of_nonneg (by omega)
      have d3 : (lo : Int) + (hf : Int) = (mid : Int) := by rw [HHF.out, HM.out]; omega
      have kc := HC.out mid (by omega)
      have hcmp : (V mid < v → mid < k) ∧ (¬ V mid < v → k ≤ mid) := by
        rw [← HK.out]
        constructor
        · intro h
          rcases Nat.lt_trichotomy mid k with e | e | e
          · exact e
          · rw [e] at h; omega
          · have := HU.out k mid e (by omega); omega
        · intro h
          rcases Nat.lt_or_ge mid k with e | e
          · exact absurd (HU.out mid k e hk) h
          · exact e
      have hmn : mid < n := by omega
      obtain ⟨y, HY⟩ : ∃ y, Hid (y = V mid) := ⟨_, rfl⟩
      rw [← HY.out] at kc hcmp
      by_cases ht : y < v
      · have t1 : decide (y < v) = true := decide_eq_true ht
        have h5 := hcmp.1 ht
        clear hcmp ht
        go_wp2_with fail
        go_roundw
        case rel => exact ⟨mid + 1, hi, by go_num, rfl, by omega, by omega, by omega, by omega, (by first | rfl | trivial)⟩
        case measure => simp [intOf]; omega
      · have t1 : decide (y < v) = false := decide_eq_false ht
        have h5 := hcmp.2 ht
        clear hcmp ht
        go_wp2_with fail
        go_roundw
        case rel => exact ⟨lo, mid, rfl, rfl, by omega, by omega, by omega, by omega, (by first | rfl | trivial)⟩
        case measure => simp [intOf]; omega
    · have e0 : decide ((lo : Int) < (hi : Int)) = false := decide_eq_false (by omega)
      have e0' : decide (lo < hi) = false := decide_eq_false hlt
      obtain rfl : k = lo := by omega
      have kc := HC.out k hk
      rw [HK.out] at kc
      have t1 : decide ((k : Int) < (n : Int)) = true := decide_eq_true (by omega)
      have t2 : decide (k < n) = true := decide_eq_true hk
      go_wp2_with fail
      go_ret
      exact ⟨by simp, rfl⟩
end Go.Proofs.Qxb6605294a
