/-
  Seat b6605195a. WALKS: slices.Clone at runeRange (42), newSet's comparison (44).
-/
import Derived.Test.Qxb6605195aW6
import Derived.Lib.SliceRun
set_option linter.unusedVariables false
namespace Go.Proofs.Qxb6605195a
open Go.RowKit

set_option maxHeartbeats 1000000 in
theorem cloneS_core (ad : Addr) (b off n c : Nat) (xs : List (Int × Int)) (w : World) (hn : Hid (n = xs.length)) (hnx : n ≤ 131072) (ha : Hid (0 < n → ad = ⟨b, off, none⟩))
    (hc : Hid (∀ i, i < n → w.cell? ⟨b, off + i * 2, none⟩ = some (.int .i32 (xs.getD i (0, 0)).1) ∧ w.cell? ⟨b, off + i * 2 + 1, none⟩ = some (.int .i32 (xs.getD i (0, 0)).2))) :
    Calls Try.prog 42 #[.slice (some ad) n c] w fun e w' => ∃ v', e = .returned v' ∧ Own2 .i32 w' w.heap.size 60 v' xs ∧ Below w.heap.size w w' := by
  obtain ⟨i0, hi, hz0, hz1, hz2⟩ := info_parts Try.info60
  have hnil := fun w => Lib.run_eql_slice_nil (P := Try.prog) w 27 60 (some ad) n c 0 0 Try.underlying27
  go_enter Try.func42, Try.ntmps42
  go_wp2_with (at_builtin; refine wpList_append_own _ rfl _ _ 27 rfl w.heap.size 60 i0 _ 2 8 Try.underlying27 hi hz0 hz1 hz2 rfl (by omega) _ _ _ rfl (World.ownsRow_made w #[] 0 (Nat.le_refl _) (Nat.zero_le _) (by simp)) ad n c (flat .i32 xs) rfl ?qc1 ?qc2 ?qc3 ?qc4 ?qc5 ?qc6 ?_)
  case qc1 => rw [flat_length, hn.out]
  case qc2 =>
    intro j u hj
    have hjl : j < n * 2 := by
      have := (List.getElem?_eq_some_iff.1 hj).1
      rw [flat_length, ← hn.out] at this; exact this
    have hcell : w.cell? ⟨b, off + j, none⟩ = some u := by
      rcases Nat.mod_two_eq_zero_or_one j with hm | hm
      · obtain ⟨i, rfl⟩ : ∃ i, j = i * 2 := ⟨j / 2, by omega⟩
        rw [flat_get0 _ _ _ (by rw [← hn.out]; omega)] at hj
        rw [(hc.out i (by omega)).1]; exact hj
      · obtain ⟨i, rfl⟩ : ∃ i, j = i * 2 + 1 := ⟨j / 2, by omega⟩
        rw [flat_get1 _ _ _ (by rw [← hn.out]; omega)] at hj
        rw [← Nat.add_assoc, (hc.out i (by omega)).2]; exact hj
    rw [ha.out (by omega)]
    have hlt : b < w.heap.size := World.block_lt_of_cell? w _ hcell
    rw [show (Addr.add ⟨b, off, none⟩ j) = ⟨b, off + j, none⟩ from by unfold Addr.add; split <;> simp_all]
    rw [(((Below.refl w.heap.size w).alloc (Nat.le_refl _) _)).cell hlt]
    exact hcell
  case qc3 => exact flat_oneCell _ _
  case qc4 => unfold maxLen; omega
  case qc5 => omega
  case qc6 => simp
  intro v' w1 hown hgrow _
  go_wp2
  go_ret
  refine ⟨v', rfl, ?_, ((Below.refl _ w).alloc (Nat.le_refl _) _).grown hgrow (by simp) (by intro k hk; simp [Value.ownBlock] at hk; omega)⟩
  unfold Own2
  rw [← hn.out]
  simpa using hown

set_option maxHeartbeats 400000 in
theorem cloneS_nil (n c : Nat) (w : World) : Calls Try.prog 42 #[.slice none n c] w fun e w' => e = .returned (.slice none 0 0) ∧ w' = w := by
  have hnil := fun w => Lib.run_eql_slice_nil (P := Try.prog) w 27 60 none n c 0 0 Try.underlying27
  go_enter Try.func42, Try.ntmps42
  go_wp2
  go_ret
  exact ⟨rfl, rfl⟩

theorem clone_c : CloneC := by
  intro w v xs h hm
  obtain ⟨a, b, off, c, rfl, hcc, hcm, ha, hc⟩ := h
  cases a with
  | none =>
    have h0 : xs.length = 0 := by
      rcases Nat.eq_zero_or_pos xs.length with h | h
      · exact h
      · exact absurd (ha h).1 (by simp)
    have hx : xs = [] := List.eq_nil_of_length_eq_zero h0
    subst hx
    refine (cloneS_nil _ c w).mono ?_
    rintro e w' ⟨rfl, rfl⟩
    exact ⟨_, rfl, Own2.nil _ _ _ _, Below.refl _ _⟩
  | some ad => exact cloneS_core ad b off xs.length c xs w rfl hm (fun h => by simpa using (ha h).1) hc

/-- newSet's comparison: the difference of the two los. -/
theorem cmp_any (a b c d : Int) (w : World) (h1 : 0 ≤ a ∧ a ≤ 1114111) (h2 : 0 ≤ c ∧ c ≤ 1114111) :
    Calls Try.prog 44 #[.agg #[.int .i32 a, .int .i32 b], .agg #[.int .i32 c, .int .i32 d]] w fun e w' => e = .returned (.int .i64 (a - c)) ∧ w' = (w.alloc (.cells #[.int .i32 a, .int .i32 b] 60)).alloc (.cells #[.int .i32 c, .int .i32 d] 60) := by
  obtain ⟨a1, a2⟩ := h1
  obtain ⟨c1, c2⟩ := h2
  go_enter Try.func44, Try.ntmps44
  go_wp2
  go_ret
  exact ⟨rfl, rfl⟩
end Go.Proofs.Qxb6605195a
