/-
  Seat b6605207a. WALK: the law (7) with zzBytes (19) and ZZvalidItems (20).
-/
import Derived.Test.Qxb6605207aW9
import Derived.Laws.CopyRow
import Derived.Laws.CopyOwn
set_option linter.unusedVariables false
namespace Go.Proofs.Qxb6605207a
open Go.RowKit

theorem Try.info5 : (Try.prog.info? 5).map (fun i => (i.zero, i.size, i.bytes)) = some (some (.int .u8 0), 1, 1) := by kernel_rfl
theorem Try.size5 : (Try.prog.info? 5).map (·.size) = some 1 := by kernel_rfl

theorem madeCells_size1 (n : Nat) : (madeCells (Value.cells (.int .u8 0)) n).size = n := by
  simp [madeCells, Value.cells]

/-- make, then copy: the text lies in a block of the call's own. -/
theorem run_mkT (n : Nat) (hn : n ≤ 1048576) : ∃ X : Array Value, X.size = n ∧ ∀ w : World, (Instr.makeSlice 22 (.int .i64 (n : Int)) (.int .i64 (n : Int))).run Try.prog w = .ok (.slice (some ⟨w.heap.size, 0, none⟩) n n) (w.alloc (.cells X 5)) := by
  obtain ⟨i0, hi, hz0, hz1, hz2⟩ := info_parts Try.info5
  refine ⟨madeCells (Value.cells (.int .u8 0)) n, madeCells_size1 n, fun w => ?_⟩
  have := run_make (P := Try.prog) w 22 5 i0 (.int .u8 0) Try.underlying22 hi hz0 .i64 .i64 (n : Int) (n : Int) (by omega) (by omega) (by rw [hz2]; omega) (by omega)
  rw [hz1] at this
  simpa using this

theorem seg0 (T : Nat → Int) (n j : Nat) (v : Value) (h : ((seg T 0 n).map (Value.int .u8))[j]? = some v) : j < n ∧ v = .int .u8 (T j) := by
  have hl : ((seg T 0 n).map (Value.int .u8)).length = n := by simp [seg]
  obtain ⟨h1, h2⟩ := List.getElem?_eq_some_iff.1 h
  refine ⟨by rw [← hl]; exact h1, ?_⟩
  rw [← h2]
  simp [seg]

theorem copied (w : World) (n : Nat) (X : Array Value) (hX : X.size = n) (x : Addr) (cap : Nat) (T : Nat → Int) (hc : ∀ k, k < n → (w.alloc (.cells X 5)).cell? (x.add k) = some (.int .u8 (T k))) :
    ∃ W : World, Below w.heap.size w W ∧ Txt W w.heap.size T n ∧ ∀ ty, (Builtin.copy_ #[22, 22] ty #[.slice (some ⟨w.heap.size, 0, none⟩) n n, .slice (some x) n cap]).run Try.prog (w.alloc (.cells X 5)) = .ok (goInt n) W := by
  have hcs : ((seg T 0 n).map (Value.int .u8)).length = n := by simp [seg]
  have hrun := fun ty => run_copy_row (P := Try.prog) (w.alloc (.cells X 5)) 22 22 ty 5 w.heap.size 0 n n x n cap X 5 ((seg T 0 n).map (Value.int .u8)) Try.underlying22 Try.size5 (heap_alloc_new w _) (by rw [hcs]; exact (Nat.min_self n).symm) (fun j v hj => by
      obtain ⟨h1, rfl⟩ := seg0 T n j v hj
      exact hc j h1) (by rw [hcs]; omega) (by simp [Value.oneCell'])
  rw [hcs] at hrun
  refine ⟨_, ?_, ?_, hrun⟩
  · exact below_setRow ((Below.refl _ w).alloc (Nat.le_refl _) _) (Nat.le_refl _) _
  · refine ⟨?_, fun k hk => ?_⟩
    · simp [World.setRow]
    · have hh := setRow_heap (w.alloc (.cells X 5)) w.heap.size X (X.toList.take 0 ++ (seg T 0 n).map (Value.int .u8) ++ X.toList.drop (0 + n)).toArray 5 (0, 0) (heap_alloc_new w _)
      simp only [World.cell?]
      rw [hh]
      have hk' : k < ((seg T 0 n).map (Value.int .u8)).length := by rw [hcs]; exact hk
      simp [List.getElem?_append_left, seg, hk]

set_option maxRecDepth 100000 in
set_option maxHeartbeats 1000000 in
theorem zz_any (v : Option Addr) (n c : Nat) (a1 a2 : Int) (w : World) (hn : n ≤ 9223372036854775807) : Calls Try.prog 19 #[.slice v n c, .int .i64 a1, .int .i64 a2] w fun e w' => e = .returned (.bool (decide (n ≤ 1048576))) ∧ w' = w := by
  by_cases h : n ≤ 1048576
  · rw [decide_eq_true h]
    go_enter Try.func19, Try.ntmps19
    go_wp2_with fail
    go_ret
    exact ⟨rfl, rfl⟩
  · rw [decide_eq_false h]
    have h2 : (1048576 : Int) < (n : Int) := by omega
    go_enter Try.func19, Try.ntmps19
    go_wp2_with fail
    go_ret
    exact ⟨rfl, rfl⟩

/-- The two answers are one. -/
theorem law_long (v : Option Addr) (n c : Nat) (a1 a2 : Int) (w : World) (hn : n ≤ 9223372036854775807) (h : ¬ n ≤ 1048576) : Calls Try.prog 7 #[.slice v n c, .int .i64 a1, .int .i64 a2] w fun e w' => e = .returned (.bool true) ∧ Below w.heap.size w w' := by
  have c1 := zz_any v n c a1 a2 w hn
  rw [decide_eq_false h] at c1
  go_enter Try.func7, Try.ntmps7
  go_wp2_with fail
  refine c1.mono ?_
  rintro e w3 ⟨rfl, hw3⟩
  obtain rfl := hw3.symm
  go_wp2_with fail
  go_ret
  exact ⟨rfl, Below.refl _ _⟩

theorem law_out (v : Option Addr) (n c : Nat) (a1 a2 : Int) (w : World) (h : n ≤ 1048576) (ha : a1 < 0 ∨ (0 ≤ a1 ∧ (n : Int) ≤ a1)) : Calls Try.prog 7 #[.slice v n c, .int .i64 a1, .int .i64 a2] w fun e w' => e = .returned (.bool true) ∧ Below w.heap.size w w' := by
  have c1 := zz_any v n c a1 a2 w (by omega)
  rw [decide_eq_true h] at c1
  go_enter Try.func7, Try.ntmps7
  rcases ha with ha | ⟨ha1, ha2⟩
  all_goals
    go_wp2_with fail
    refine c1.mono ?_
    rintro e w3 ⟨rfl, hw3⟩
    obtain rfl := hw3.symm
    go_wp2_with fail
    go_ret
    exact ⟨rfl, Below.refl _ _⟩

theorem law_off (x : Addr) (n c : Nat) (i : Nat) (a2 : Int) (T : Nat → Int) (w : World) (h : n ≤ 1048576) (hi : i < n) (hc : w.cell? (x.add i) = some (.int .u8 (T i))) (h1 : ¬ (T i = 123 ∨ T i = 91)) :
    Calls Try.prog 7 #[.slice (some x) n c, .int .i64 i, .int .i64 a2] w fun e w' => e = .returned (.bool true) ∧ Below w.heap.size w w' := by
  have c1 := zz_any (some x) n c i a2 w (by omega)
  rw [decide_eq_true h] at c1
  have b1 : (T i != 123) = true := by simpa using fun e => h1 (.inl e)
  have b2 : (T i != 91) = true := by simpa using fun e => h1 (.inr e)
  clear h1
  go_enter Try.func7, Try.ntmps7
  go_wp2_with fail
  refine c1.mono ?_
  rintro e w3 ⟨rfl, hw3⟩
  obtain rfl := hw3.symm
  go_wp2_with fail
  go_ret
  exact ⟨rfl, Below.refl _ _⟩

set_option maxRecDepth 100000 in
set_option maxHeartbeats 2000000 in
theorem law_main (x : Addr) (n c : Nat) (i : Nat) (a2 : Int) (T : Nat → Int) (w : World) (h : n ≤ 1048576) (hi : i < n) (hx : x.block < w.heap.size) (hc : ∀ k, k < n → w.cell? (x.add k) = some (.int .u8 (T k))) (hT : ∀ k, k < n → 0 ≤ T k ∧ T k < 256) (ha2 : -9223372036854775808 ≤ a2)
    (h1 : T i = 123 ∨ T i = 91) :
    Calls Try.prog 7 #[.slice (some x) n c, .int .i64 i, .int .i64 a2] w fun e w' => e = .returned (.bool true) ∧ Below w.heap.size w w' := by
  have c1 := zz_any (some x) n c i a2 w (by omega)
  rw [decide_eq_true h] at c1
  obtain ⟨X, hX, hmk⟩ := run_mkT n h
  have hmk0 := hmk w
  obtain ⟨W, hW1, hW2, hcp⟩ := copied w n X hX x c T (fun k hk => by
    have hb := ((Below.refl _ w).alloc (Nat.le_refl _) (.cells X 5)).cell (p := x.add k) (by unfold Addr.add; split <;> simpa using hx)
    rw [hb]
    exact hc k hk)
  have hci := hc i hi
  have cI := items_any T w.heap.size n i a2 W h hT ha2 hi h1 hW2
  have cM := fun w2 (hb : Below W.heap.size W w2) => model_any T w.heap.size n i a2 w2 h ha2 hi h1 (hW2.below hb)
  have hw : (T i != 123) = false ∨ ((T i != 123) = true ∧ (T i != 91) = false) := by
    rcases h1 with h | h
    · exact .inl (by simp [h])
    · exact .inr ⟨by simp [h], by simp [h]⟩
  obtain ⟨R, hR⟩ : ∃ R, R = (if 10000 < a2 then none else run T n a2 [decide (T i = 123)] 0 (i + 1)) := ⟨_, rfl⟩
  rw [← hR] at cI cM
  have CM : Hid (∀ w2, Below W.heap.size W w2 → Calls Try.prog 21 #[.slice (some ⟨w.heap.size, 0, none⟩) n n, .int .i64 i, .int .i64 a2] w2 (VPost R some i n w2)) := cM
  have HW1 : Hid (Below w.heap.size w W) := hW1
  clear hR hmk hX hW2 cM hc hT h1 hW1
  have c20 : Calls Try.prog 20 #[.slice (some ⟨w.heap.size, 0, none⟩) n n, .int .i64 i, .int .i64 a2] W (VPost R some i n W) := by
    clear hcp hmk0 hw c1 hci CM
    go_enter Try.func20, Try.ntmps20
    go_wp2_with fail
    refine cI.mono ?_
    rintro e w2 ⟨hB, hE⟩
    have HB : Hid (Below W.heap.size W w2) := hB
    clear hB
    rcases hE with ⟨q, rfl, h1, h2, h3⟩ | ⟨rfl, h3⟩
    · have HF : Hid (R = some q) := h3
      clear h3
      go_wp2_with fail
      go_ret2
      exact vYes HB.out h1 h2 HF.out
    · have HF : Hid (R = none) := h3
      clear h3
      go_wp2_with fail
      go_ret2
      exact vNo HB.out HF.out
  clear cI
  go_enter Try.func7, Try.ntmps7
  rcases hw with x1 | ⟨x1, x2⟩
  all_goals
    go_wp2_with fail
    refine c1.mono ?_
    rintro e w3 ⟨rfl, hw3⟩
    obtain rfl := hw3.symm
    go_wp2_with fail
    refine c20.mono ?_
    rintro e w2 ⟨hB2, hE2⟩
    have c21 := CM.out w2 hB2
    have HB2 : Hid (Below w.heap.size w w2) := HW1.out.trans (hB2.mono HW1.out.size)
    clear hB2 c20 CM hcp hmk0 HW1 c1
    rcases hE2 with ⟨q, rfl, h1, h2, h3⟩ | ⟨rfl, h3⟩
    · have HF : Hid (R = some q) := h3
      clear h3
      go_wp2_with fail
      refine c21.mono ?_
      rintro e w4 ⟨hB4, hE4⟩
      have HB4 : Hid (Below w.heap.size w w4) := HB2.out.trans (hB4.mono HB2.out.size)
      clear hB4
      rcases hE4 with ⟨q', rfl, h1', h2', h3'⟩ | ⟨rfl, h3'⟩
      · obtain rfl : q' = q := by have := HF.out.symm.trans h3'; cases this; rfl
        clear h3'
        go_wp2_with fail
        go_ret
        exact ⟨rfl, HB4.out⟩
      · have := HF.out.symm.trans h3'
        cases this
    · have HF : Hid (R = none) := h3
      clear h3
      go_wp2_with fail
      refine c21.mono ?_
      rintro e w4 ⟨hB4, hE4⟩
      have HB4 : Hid (Below w.heap.size w w4) := HB2.out.trans (hB4.mono HB2.out.size)
      clear hB4
      rcases hE4 with ⟨q', rfl, h1', h2', h3'⟩ | ⟨rfl, h3'⟩
      · have := HF.out.symm.trans h3'
        cases this
      · clear h3'
        go_wp2_with fail
        go_ret
        exact ⟨rfl, HB4.out⟩
end Go.Proofs.Qxb6605207a
