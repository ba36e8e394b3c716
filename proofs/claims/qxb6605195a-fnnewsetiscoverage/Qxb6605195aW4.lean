/-
  Seat b6605195a. WALKS: inRaw (33), asciiOf (15), sameRanges (13), ZZSetData (12).
-/
import Derived.Test.Qxb6605195aBase
import Derived.Test.Qxb6605195aPlainB
import Derived.Test.Qxb6605195aPlainC
import Derived.Deep.QuietTactic
import Derived.BigQuiet
set_option linter.unusedVariables false
namespace Go.Proofs.Qxb6605195a
open Go.RowKit

def RawPost (n : Nat) (L H : Nat → Int) (x : Int) (w : World) (e : Ending) (w' : World) : Prop :=
  ∃ r : Bool, e = .returned (.bool r) ∧ (r = true ↔ ∃ i, i < n ∧ L i ≤ x ∧ x ≤ H i) ∧ Below w.heap.size w w'

set_option maxHeartbeats 400000 in
theorem raw_core (a : Option Addr) (b off n c : Nat) (L H : Nat → Int) (x : Int) (w : World) (hm : n ≤ 131072) (ha : 0 < n → a = some ⟨b, off, none⟩ ∧ b < w.heap.size)
    (hc : Hid (∀ i, i < n → w.cell? ⟨b, off + i * 2, none⟩ = some (.int .i32 (L i)) ∧ w.cell? ⟨b, off + i * 2 + 1, none⟩ = some (.int .i32 (H i))))
    (hdom : Hid (∀ i, i < n → 0 ≤ L i ∧ L i ≤ 1114111 ∧ 0 ≤ H i ∧ H i ≤ 1114111)) :
    Calls Try.prog 33 #[.slice a n c, .int .i64 x] w (RawPost n L H x w) := by
  go_enter Try.func33, Try.ntmps33
  go_wp2
  go_loopw [9] (fun i wr => ∃ k : Nat, k ≤ n ∧ i = .int .i64 k ∧ Below w.heap.size w wr ∧ Hid (∀ j, j < k → ¬ (L j ≤ x ∧ x ≤ H j))) (fun i _ => n - (intOf i).toNat)
  case atStart => exact ⟨0, Nat.zero_le _, rfl, Below.refl _ _, fun j h => absurd h (Nat.not_lt_zero _)⟩
  case round =>
    obtain ⟨k, hk, rfl, hbel, hno⟩ := hrel
    have hz := hbel.size
    by_cases hlt : k < n
    · obtain ⟨rfl, hb⟩ := ha (by omega)
      have g0 := (hbel.cell (p := ⟨b, off + k * 2, none⟩) hb).trans (hc.out k hlt).1
      have g1 := (hbel.cell (p := ⟨b, off + k * 2 + 1, none⟩) hb).trans (hc.out k hlt).2
      obtain ⟨q1, q2, q3, q4⟩ := hdom.out k hlt
      clear hc hdom ha
      by_cases hin : L k ≤ x ∧ x ≤ H k
      · obtain ⟨h1, h2⟩ := hin
        go_wp2
        go_ret
        exact ⟨true, rfl, ⟨fun _ => ⟨k, hlt, h1, h2⟩, fun _ => rfl⟩, hbel.alloc hz _⟩
      · have hno' : Hid (∀ j, j < k + 1 → ¬ (L j ≤ x ∧ x ≤ H j)) := fun j hj => by
          rcases Nat.lt_or_ge j k with h | h
          · exact hno.out j h
          · obtain rfl : j = k := by omega
            exact hin
        have hin' : x < L k ∨ H k < x := by omega
        clear hno hin
        rcases hin' with h | h
        · have d : decide (L k ≤ x) = false := decide_eq_false (by omega)
          go_wp2
          go_roundw
          case rel => exact ⟨k + 1, by omega, by go_num, hbel.alloc hz _, hno'⟩
          case measure => simp [intOf]; omega
        · go_wp2
          all_goals
            go_roundw
            case rel => exact ⟨k + 1, by omega, by go_num, hbel.alloc hz _, hno'⟩
            case measure => simp [intOf]; omega
    · go_wp2
      go_ret
      exact ⟨false, rfl, ⟨fun h => absurd h (by decide), fun ⟨i, hi, h12⟩ => absurd h12 (hno.out i (by omega))⟩, hbel⟩

theorem raw_any {v : Value} {xs : List (Int × Int)} (x : Int) (w : World) (h : Sl2 .i32 w v xs) (hm : xs.length ≤ 131072) (hd : ∀ x ∈ xs, 0 ≤ x.1 ∧ x.1 ≤ 1114111 ∧ 0 ≤ x.2 ∧ x.2 ≤ 1114111) :
    Calls Try.prog 33 #[v, .int .i64 x] w fun e w' => ∃ r : Bool, e = .returned (.bool r) ∧ (r = true ↔ Cov xs x) ∧ Below w.heap.size w w' := by
  obtain ⟨a, b, off, c, rfl, hcc, hcm, ha, hc⟩ := h
  refine (raw_core a b off xs.length c (fun i => (xs.getD i (0, 0)).1) (fun i => (xs.getD i (0, 0)).2) x w hm ha hc (fun i hi => by have := hd (xs.getD i (0, 0)) (by simp [hi]); exact this)).mono ?_
  rintro e w' ⟨r, he, hr, hb⟩
  refine ⟨r, he, ?_, hb⟩
  rw [hr]
  constructor
  · rintro ⟨i, hi, h12⟩
    exact ⟨xs.getD i (0, 0), by simp [hi], h12⟩
  · rintro ⟨y, hy, h12⟩
    obtain ⟨i, hi, rfl⟩ := List.getElem_of_mem hy
    exact ⟨i, hi, by simpa [hi] using h12⟩

def AscPost (xs : List (Int × Int)) (w : World) (e : Ending) (w' : World) : Prop :=
  ∃ A : Nat → Int, e = .returned (.agg #[.int .u64 (A 0), .int .u64 (A 1)]) ∧ Words (fun x => Cov xs (x : Int)) A ∧ Below w.heap.size w w'

set_option maxRecDepth 100000 in
set_option maxHeartbeats 1000000 in
theorem ascii_any (v : Value) (xs : List (Int × Int)) (w : World) (h : Sl2 .i32 w v xs) (hm : Hid (xs.length ≤ 131072)) (hd : Hid (∀ x ∈ xs, 0 ≤ x.1 ∧ x.1 ≤ 1114111 ∧ 0 ≤ x.2 ∧ x.2 ≤ 1114111)) :
    Calls Try.prog 15 #[v] w (AscPost xs w) := by
  go_enter Try.func15, Try.ntmps15
  go_wp2_with fail
  go_loopw [4] (fun i wr => ∃ (k : Nat) (A : Nat → Int), k ≤ 128 ∧ i = .int .i64 k ∧ Below w.heap.size w wr ∧ Blk wr (w.heap.size + 1) #[.int .u64 (A 0), .int .u64 (A 1)] 31 ∧ Blk wr w.heap.size #[.int .u64 0, .int .u64 0] 31 ∧ Words (fun x => x < k ∧ Cov xs (x : Int)) A) (fun i _ => 128 - (intOf i).toNat)
  case atStart =>
    refine ⟨0, fun _ => 0, by omega, rfl, ((Below.refl _ _).alloc (Nat.le_refl _) _).alloc (by simp) _, ?_, (Blk.new _ _ _).alloc _, ?_⟩
    · have := Blk.new (w.alloc (.cells #[Value.int .u64 0, .int .u64 0] 31)) #[Value.int .u64 0, .int .u64 0] 31
      simpa using this
    · exact Words.congr (S := fun _ => False) ⟨Word.zero 0, Word.zero 1⟩ (fun x _ => by simp)
  case round =>
    obtain ⟨k, A, hk, rfl, hbel, hblk, hblk0, hwd⟩ := hrel
    have hz := hblk.lt
    have hz0 := hblk0.lt
    by_cases hlt : k < 128
    · go_wp2_with fail
      refine (raw_any _ wr (h.below hbel) hm.out hd.out).mono ?_
      rintro e w1 ⟨r, rfl, hr, hb1⟩
      have hblk1 := hblk.below hb1 hz
      have hblk2 := hblk0.below hb1 hz0
      have hbel1 := hbel.trans (hb1.mono hbel.size)
      have f0 := hblk1.frozen (k / 64)
      have c0 : w1.cell? ⟨w.heap.size + 1, k / 64, none⟩ = some (.int .u64 (A (k / 64))) := by
        rw [hblk1.cell]
        rcases (show k / 64 = 0 ∨ k / 64 = 1 by omega) with e | e <;> rw [e] <;> rfl
      cases r with
      | false =>
        have hno : ¬ Cov xs (k : Int) := fun h => absurd (hr.2 h) (by decide)
        have hwd' : Words (fun x => x < k + 1 ∧ Cov xs (x : Int)) A := hwd.congr fun x _ => by
          constructor
          · rintro ⟨h1, h2⟩; exact ⟨by omega, h2⟩
          · rintro ⟨h1, h2⟩
            refine ⟨?_, h2⟩
            rcases Nat.lt_or_ge x k with h | h
            · exact h
            · obtain rfl : x = k := by omega
              exact absurd h2 hno
        clear hr hno hwd
        go_wp2
        go_roundw
        case rel => exact ⟨k + 1, A, by omega, by go_num, hbel1, hblk1, hblk2, hwd'⟩
        case measure => simp [intOf]; omega
      | true =>
        have hyes : Cov xs (k : Int) := hr.1 rfl
        have hwd' : Words (fun x => x < k + 1 ∧ Cov xs (x : Int)) (setBit A k) := (hwd.set k hlt).congr fun x _ => by
          constructor
          · rintro (⟨h1, h2⟩ | rfl)
            · exact ⟨by omega, h2⟩
            · exact ⟨by omega, hyes⟩
          · rintro ⟨h1, h2⟩
            rcases Nat.lt_or_ge x k with h | h
            · exact .inl ⟨h, h2⟩
            · exact .inr (by omega)
        clear hr hyes hwd
        go_wp2
        go_roundw
        case rel =>
          have hb := hblk1.set (k / 64) (.int .u64 (bits .or .u64 (A (k / 64)) (IntKind.u64.wrap ((2 : Int) ^ (k % 64)))))
          rw [setBit_cells A k hlt] at hb
          exact ⟨k + 1, setBit A k, by omega, by go_num, hbel1.setCell (by simp) _, hb, hblk2.setOther _ _ (by simp), hwd'⟩
        case measure => simp [intOf]; omega
    · have c0 : wr.cell? ⟨w.heap.size + 1, 0, none⟩ = some (.int .u64 (A 0)) := by rw [hblk.cell]; rfl
      have c1 : wr.cell? ⟨w.heap.size + 1, 1, none⟩ = some (.int .u64 (A 1)) := by rw [hblk.cell]; rfl
      have f0 := hblk0.frozen 0
      have f1 := hblk0.frozen 1
      have d0 : wr.cell? ⟨w.heap.size, 0, none⟩ = some (.int .u64 0) := by rw [hblk0.cell]; rfl
      have d1 : wr.cell? ⟨w.heap.size, 1, none⟩ = some (.int .u64 0) := by rw [hblk0.cell]; rfl
      have hwd' : Words (fun x => Cov xs (x : Int)) A := hwd.congr fun x hx => ⟨fun h => h.2, fun h => ⟨by omega, h⟩⟩
      go_wp2
      exact bodyPost_ret (v := .agg #[.int .u64 (A 0), .int .u64 (A 1)]) (by simp [results, Try.results15, go_sem, d0, d1]) rfl ⟨A, rfl, hwd', (hbel.setCell (Nat.le_refl _) _).setCell (Nat.le_refl _) _⟩
end Go.Proofs.Qxb6605195a
