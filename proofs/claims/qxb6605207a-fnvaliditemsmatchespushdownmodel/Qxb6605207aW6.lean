/-
  Seat b6605207a. WALKS: bytes.Equal (38), bytes.HasPrefix (37).
-/
import Derived.Test.Qxb6605207aW5
import Derived.Lib.Strings
import Derived.Lib.Slices
import Derived.Lib.Walk
import Derived.Lib.Bytes
import Derived.Laws.BytesArg
import Derived.Laws.IdiomStrings
set_option linter.unusedVariables false
namespace Go.Proofs.Qxb6605207a
open Go.RowKit

set_option maxHeartbeats 1000000 in
theorem equal_any (v1 v2 : Value) (xs ys : List Int) (w : World)
    (h1 : (convert 22 9 v1).run Try.prog w = .ok (.string (strOfNums xs)) w) (h2 : (convert 22 9 v2).run Try.prog w = .ok (.string (strOfNums ys)) w) :
    Calls Try.prog 38 #[v1, v2] w fun e w' => e = .returned (.bool (Lib.bytesOf xs == Lib.bytesOf ys)) ∧ w' = w := by
  rw [← Lib.strOfNums_toList, ← Lib.strOfNums_toList]
  go_enter Try.func38, Try.ntmps38
  go_wp2
  go_ret
  exact ⟨rfl, rfl⟩

set_option maxHeartbeats 1000000 in
theorem prefix_core (b1 o1 n c b2 o2 m d : Nat) (xs ys : List Int) (w : World) (hx : xs.length = n) (hy : ys.length = m) (hnc : n ≤ c)
    (hc1 : ∀ i, i < n → w.cell? ⟨b1, o1 + i, none⟩ = some (.int .u8 (xs.getD i 0))) (hc2 : ∀ i, i < m → w.cell? ⟨b2, o2 + i, none⟩ = some (.int .u8 (ys.getD i 0))) :
    Calls Try.prog 37 #[.slice (some ⟨b1, o1, none⟩) n c, .slice (some ⟨b2, o2, none⟩) m d] w fun e w' => e = .returned (.bool (decide (m ≤ n) && (Lib.bytesOf (xs.take m) == Lib.bytesOf ys))) ∧ w' = w := by
  have g2 := run_convert_bytes_arg (P := Try.prog) w 22 5 Try.underlying22 Try.underlying5 b2 o2 m d ys hy hc2 9 Try.underlying9
  have g1 : m ≤ n → (convert 22 9 (.slice (some ⟨b1, o1, none⟩) m c)).run Try.prog w = .ok (.string (strOfNums (xs.take m))) w := fun h =>
    run_convert_bytes_arg (P := Try.prog) w 22 5 Try.underlying22 Try.underlying5 b1 o1 m c (xs.take m) (by simp; omega) (fun i hi => by rw [Lib.getD_take _ _ _ hi]; exact hc1 i (by omega)) 9 Try.underlying9
  go_enter Try.func37, Try.ntmps37
  go_wp2_with (go_at_call 38; refine (equal_any _ _ (xs.take m) ys _ (g1 (by assumption)) g2).mono ?_; rintro e w' ⟨rfl, rfl⟩)
  · have h : m ≤ n := by assumption
    go_ret
    refine ⟨?_, rfl⟩
    rw [decide_eq_true h, Bool.true_and]
    rfl
  · have h : ¬ m ≤ n := by assumption
    go_ret
    refine ⟨?_, rfl⟩
    rw [decide_eq_false h, Bool.false_and]
    rfl

theorem bytes_inj {x y : Int} (hx : 0 ≤ x ∧ x < 256) (hy : 0 ≤ y ∧ y < 256) (h : UInt8.ofNat x.toNat = UInt8.ofNat y.toNat) : x = y := by
  have := congrArg UInt8.toNat h
  simp at this
  omega

theorem bytesOf_iff : ∀ (a b : List Int), (∀ x ∈ a, 0 ≤ x ∧ x < 256) → (∀ x ∈ b, 0 ≤ x ∧ x < 256) → Lib.bytesOf a = Lib.bytesOf b → a = b
  | [], [], _, _, _ => rfl
  | [], y :: b, _, _, h => by simp [Lib.bytesOf] at h
  | x :: a, [], _, _, h => by simp [Lib.bytesOf] at h
  | x :: a, y :: b, ha, hb, h => by
    simp only [Lib.bytesOf, List.map_cons, List.cons.injEq] at h
    rw [bytes_inj (ha x (by simp)) (hb y (by simp)) h.1, bytesOf_iff a b (fun z hz => ha z (by simp [hz])) (fun z hz => hb z (by simp [hz])) h.2]

def seg (T : Nat → Int) (i k : Nat) : List Int := (List.range k).map fun j => T (i + j)
theorem seg_len (T : Nat → Int) (i k : Nat) : (seg T i k).length = k := by simp [seg]
theorem seg_getD (T : Nat → Int) (i k j : Nat) (h : j < k) : (seg T i k).getD j 0 = T (i + j) := by simp [seg, List.getD, h]
theorem seg_take (T : Nat → Int) (i k m : Nat) (h : m ≤ k) : (seg T i k).take m = seg T i m := by
  unfold seg
  rw [← List.map_take, List.take_range, Nat.min_eq_left h]

theorem prefix_any (b n i g d : Nat) (T : Nat → Int) (l : List Int) (w : World) (h : Txt w b T n) (hi : i ≤ n) (hT : ∀ k, k < n → 0 ≤ T k ∧ T k < 256) (hl : ∀ x ∈ l, 0 ≤ x ∧ x < 256)
    (hg : ∀ k, k < l.length → w.cell? ⟨g, k, none⟩ = some (.int .u8 (l.getD k 0))) :
    Calls Try.prog 37 #[.slice (some ⟨b, i, none⟩) (n - i) (n - i), .slice (some ⟨g, 0, none⟩) l.length d] w fun e w' => e = .returned (.bool (hasAt T n i l)) ∧ w' = w := by
  refine (prefix_core b i (n - i) (n - i) g 0 l.length d (seg T i (n - i)) l w (seg_len _ _ _) rfl (Nat.le_refl _) (fun k hk => by rw [seg_getD _ _ _ _ hk]; exact h.2 (i + k) (by omega)) (fun k hk => by rw [Nat.zero_add]; exact hg k hk)).mono ?_
  rintro e w' ⟨rfl, rfl⟩
  refine ⟨ret_bool ?_, rfl⟩
  rw [Bool.eq_iff_iff, has_iff]
  simp only [Bool.and_eq_true, decide_eq_true_eq, beq_iff_eq]
  constructor
  · rintro ⟨h1, h2⟩
    rw [seg_take _ _ _ _ h1] at h2
    have := bytesOf_iff _ _ (fun x hx => by
      unfold seg at hx
      obtain ⟨j, hj, rfl⟩ := List.mem_map.1 hx
      rw [List.mem_range] at hj
      exact hT _ (by omega)) hl h2
    refine ⟨by omega, fun k hk => ?_⟩
    rw [← seg_getD T i _ k hk, this]
  · rintro ⟨h1, h2⟩
    refine ⟨by omega, ?_⟩
    rw [seg_take _ _ _ _ (by omega)]
    congr 1
    apply List.ext_getElem
    · rw [seg_len]
    · intro k h3 h4
      have := h2 k h4
      simp only [seg, List.getElem_map, List.getElem_range]
      rw [this]
      simp [List.getD, h4]
end Go.Proofs.Qxb6605207a
