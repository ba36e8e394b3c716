/-
  Seat b6605207a. WALKS: zzNumStep (23), zzNumAccepting (24), zzNumberModel (11), digits (32), validNumber (22).
-/
import Derived.Test.Qxb6605207aW1
set_option linter.unusedVariables false
set_option linter.unusedSimpArgs false
namespace Go.Proofs.Qxb6605207a
open Go.RowKit

theorem hide {p : Prop} (h : p) : Hid p := h
theorem unhide {p : Prop} (h : Hid p) : p := h
def stpI (st : Nat) (c : Int) : Int := match stp st c with | some s => (s : Int) | none => -1

theorem ret_int {k : IntKind} {a b : Int} (h : a = b) : Ending.returned (.int k a) = .returned (.int k b) := by rw [h]

theorem acc_any (st : Nat) (w : World) : Calls Try.prog 24 #[.int .i64 st] w fun e w' => e = .returned (.bool (accB st)) ∧ w' = w := by
  go_enter Try.func24, Try.ntmps24
  go_wp2
  all_goals
    go_ret
    refine ⟨ret_bool ?_, rfl⟩
    unfold accB
    rw [Bool.eq_iff_iff]
    simp
    try omega

theorem dg101 : isDg 101 = false := by decide
theorem dg69 : isDg 69 = false := by decide
theorem dg45 : isDg 45 = false := by decide
theorem dg46 : isDg 46 = false := by decide
theorem dg43 : isDg 43 = false := by decide
theorem dg48 : isDg 48 = true := by decide

set_option maxRecDepth 100000 in
set_option maxHeartbeats 1000000 in
theorem step_0 (c : Int) (w : World) : Calls Try.prog 23 #[.int .i64 0, .int .u8 c] w fun e w' => e = .returned (.int .i64 (stpI 0 c)) ∧ w' = w := by
  have HI := isDg_any c w
  cases hd : isDg c
  all_goals
    rw [hd] at HI
    have HD := hide hd
    clear hd
    go_enter Try.func23, Try.ntmps23
    go_wp2_with (go_at_call 30; refine HI.mono ?_; rintro e w' ⟨rfl, rfl⟩)
    all_goals
      go_ret
      refine ⟨ret_int ?_, rfl⟩
      have hd := unhide HD
      clear HI HD
      unfold stpI stp
      simp_all [dg101, dg69, dg45, dg46, dg43, dg48]

set_option maxRecDepth 100000 in
set_option maxHeartbeats 1000000 in
theorem step_1 (c : Int) (w : World) : Calls Try.prog 23 #[.int .i64 1, .int .u8 c] w fun e w' => e = .returned (.int .i64 (stpI 1 c)) ∧ w' = w := by
  have HI := isDg_any c w
  cases hd : isDg c
  all_goals
    rw [hd] at HI
    have HD := hide hd
    clear hd
    go_enter Try.func23, Try.ntmps23
    go_wp2_with (go_at_call 30; refine HI.mono ?_; rintro e w' ⟨rfl, rfl⟩)
    all_goals
      go_ret
      refine ⟨ret_int ?_, rfl⟩
      have hd := unhide HD
      clear HI HD
      unfold stpI stp
      simp_all [dg101, dg69, dg45, dg46, dg43, dg48]

set_option maxRecDepth 100000 in
set_option maxHeartbeats 1000000 in
theorem step_2 (c : Int) (w : World) : Calls Try.prog 23 #[.int .i64 2, .int .u8 c] w fun e w' => e = .returned (.int .i64 (stpI 2 c)) ∧ w' = w := by
  have HI := isDg_any c w
  cases hd : isDg c
  all_goals
    rw [hd] at HI
    have HD := hide hd
    clear hd
    go_enter Try.func23, Try.ntmps23
    go_wp2_with (go_at_call 30; refine HI.mono ?_; rintro e w' ⟨rfl, rfl⟩)
    all_goals
      go_ret
      refine ⟨ret_int ?_, rfl⟩
      have hd := unhide HD
      clear HI HD
      unfold stpI stp
      simp_all [dg101, dg69, dg45, dg46, dg43, dg48]

set_option maxRecDepth 100000 in
set_option maxHeartbeats 1000000 in
theorem step_3 (c : Int) (w : World) : Calls Try.prog 23 #[.int .i64 3, .int .u8 c] w fun e w' => e = .returned (.int .i64 (stpI 3 c)) ∧ w' = w := by
  have HI := isDg_any c w
  cases hd : isDg c
  all_goals
    rw [hd] at HI
    have HD := hide hd
    clear hd
    go_enter Try.func23, Try.ntmps23
    go_wp2_with (go_at_call 30; refine HI.mono ?_; rintro e w' ⟨rfl, rfl⟩)
    all_goals
      go_ret
      refine ⟨ret_int ?_, rfl⟩
      have hd := unhide HD
      clear HI HD
      unfold stpI stp
      simp_all [dg101, dg69, dg45, dg46, dg43, dg48]

set_option maxRecDepth 100000 in
set_option maxHeartbeats 1000000 in
theorem step_4 (c : Int) (w : World) : Calls Try.prog 23 #[.int .i64 4, .int .u8 c] w fun e w' => e = .returned (.int .i64 (stpI 4 c)) ∧ w' = w := by
  have HI := isDg_any c w
  cases hd : isDg c
  all_goals
    rw [hd] at HI
    have HD := hide hd
    clear hd
    go_enter Try.func23, Try.ntmps23
    go_wp2_with (go_at_call 30; refine HI.mono ?_; rintro e w' ⟨rfl, rfl⟩)
    all_goals
      go_ret
      refine ⟨ret_int ?_, rfl⟩
      have hd := unhide HD
      clear HI HD
      unfold stpI stp
      simp_all [dg101, dg69, dg45, dg46, dg43, dg48]

set_option maxRecDepth 100000 in
set_option maxHeartbeats 1000000 in
theorem step_5 (c : Int) (w : World) : Calls Try.prog 23 #[.int .i64 5, .int .u8 c] w fun e w' => e = .returned (.int .i64 (stpI 5 c)) ∧ w' = w := by
  have HI := isDg_any c w
  cases hd : isDg c
  all_goals
    rw [hd] at HI
    have HD := hide hd
    clear hd
    go_enter Try.func23, Try.ntmps23
    go_wp2_with (go_at_call 30; refine HI.mono ?_; rintro e w' ⟨rfl, rfl⟩)
    all_goals
      go_ret
      refine ⟨ret_int ?_, rfl⟩
      have hd := unhide HD
      clear HI HD
      unfold stpI stp
      simp_all [dg101, dg69, dg45, dg46, dg43, dg48]

set_option maxRecDepth 100000 in
set_option maxHeartbeats 1000000 in
theorem step_6 (c : Int) (w : World) : Calls Try.prog 23 #[.int .i64 6, .int .u8 c] w fun e w' => e = .returned (.int .i64 (stpI 6 c)) ∧ w' = w := by
  have HI := isDg_any c w
  cases hd : isDg c
  all_goals
    rw [hd] at HI
    have HD := hide hd
    clear hd
    go_enter Try.func23, Try.ntmps23
    go_wp2_with (go_at_call 30; refine HI.mono ?_; rintro e w' ⟨rfl, rfl⟩)
    all_goals
      go_ret
      refine ⟨ret_int ?_, rfl⟩
      have hd := unhide HD
      clear HI HD
      unfold stpI stp
      simp_all [dg101, dg69, dg45, dg46, dg43, dg48]

set_option maxRecDepth 100000 in
set_option maxHeartbeats 1000000 in
theorem step_7 (c : Int) (w : World) : Calls Try.prog 23 #[.int .i64 7, .int .u8 c] w fun e w' => e = .returned (.int .i64 (stpI 7 c)) ∧ w' = w := by
  have HI := isDg_any c w
  cases hd : isDg c
  all_goals
    rw [hd] at HI
    have HD := hide hd
    clear hd
    go_enter Try.func23, Try.ntmps23
    go_wp2_with (go_at_call 30; refine HI.mono ?_; rintro e w' ⟨rfl, rfl⟩)
    all_goals
      go_ret
      refine ⟨ret_int ?_, rfl⟩
      have hd := unhide HD
      clear HI HD
      unfold stpI stp
      simp_all [dg101, dg69, dg45, dg46, dg43, dg48]

set_option maxRecDepth 100000 in
set_option maxHeartbeats 1000000 in
theorem step_8 (c : Int) (w : World) : Calls Try.prog 23 #[.int .i64 8, .int .u8 c] w fun e w' => e = .returned (.int .i64 (stpI 8 c)) ∧ w' = w := by
  have HI := isDg_any c w
  cases hd : isDg c
  all_goals
    rw [hd] at HI
    have HD := hide hd
    clear hd
    go_enter Try.func23, Try.ntmps23
    go_wp2_with (go_at_call 30; refine HI.mono ?_; rintro e w' ⟨rfl, rfl⟩)
    all_goals
      go_ret
      refine ⟨ret_int ?_, rfl⟩
      have hd := unhide HD
      clear HI HD
      unfold stpI stp
      simp_all [dg101, dg69, dg45, dg46, dg43, dg48]

theorem step_any (st : Nat) (c : Int) (w : World) (h : st ≤ 8) : Calls Try.prog 23 #[.int .i64 st, .int .u8 c] w fun e w' => e = .returned (.int .i64 (stpI st c)) ∧ w' = w := by
  rcases (show st = 0 ∨ st = 1 ∨ st = 2 ∨ st = 3 ∨ st = 4 ∨ st = 5 ∨ st = 6 ∨ st = 7 ∨ st = 8 by omega) with rfl | rfl | rfl | rfl | rfl | rfl | rfl | rfl | rfl
  · exact step_0 c w
  · exact step_1 c w
  · exact step_2 c w
  · exact step_3 c w
  · exact step_4 c w
  · exact step_5 c w
  · exact step_6 c w
  · exact step_7 c w
  · exact step_8 c w

theorem stp_le {st s : Nat} {c : Int} (h : stp st c = some s) : s ≤ 8 := by
  unfold stp at h
  repeat' split at h
  all_goals (simp at h; try omega)

/-- What reading a number hands back. -/
def NumPost (R : Option Nat) (w : World) (e : Ending) (w' : World) : Prop :=
  Below w.heap.size w w' ∧ ((∃ en : Nat, R = some en ∧ e = .returned (.tuple #[.int .i64 en, .bool true])) ∨ (R = none ∧ e = .returned (.tuple #[.int .i64 0, .bool false])))

theorem numYes {R : Option Nat} {w w' : World} {p : Nat} (h : R = some p) (hb : Below w.heap.size w w') : NumPost R w (.returned (.tuple #[.int .i64 (p : Int), .bool true])) w' := ⟨hb, .inl ⟨p, h, rfl⟩⟩
theorem numNo {R : Option Nat} {w w' : World} (h : R = none) (hb : Below w.heap.size w w') : NumPost R w (.returned (.tuple #[.int .i64 0, .bool false])) w' := ⟨hb, .inr ⟨h, rfl⟩⟩

set_option maxRecDepth 100000 in
set_option maxHeartbeats 1000000 in
theorem numM_any (b n i : Nat) (T : Nat → Int) (w : World) (h : Txt w b T n) (hn : n ≤ 1048576) (hi : i ≤ n) :
    Calls Try.prog 11 #[.slice (some ⟨b, 0, none⟩) n n, .int .i64 i] w (NumPost (nm T n 0 i) w) := by
  have HT : Hid (∀ i, i < n → w.cell? ⟨b, i, none⟩ = some (.int .u8 (T i))) := h.2
  clear h
  obtain ⟨R, hR⟩ : ∃ R, R = nm T n 0 i := ⟨_, rfl⟩
  rw [← hR]
  have HR : Hid (R = nm T n 0 i) := hR
  clear hR
  go_enter Try.func11, Try.ntmps11
  go_wp2_with fail
  go_loop [6, 7] (fun s q => ∃ (st p : Nat), st ≤ 8 ∧ p ≤ n ∧ s = .int .i64 st ∧ q = .int .i64 p ∧ Hid (R = nm T n st p)) (fun _ q => n - (intOf q).toNat)
  case atStart => exact ⟨0, i, by omega, hi, rfl, rfl, HR⟩
  case round =>
    obtain ⟨st, p, hst, hp, rfl, rfl, hs⟩ := hrel
    have HA := acc_any st w
    by_cases hlt : p < n
    · have hc := HT.out p hlt
      have HI := step_any st (T p) w hst
      cases hq : stp st (T p) with
      | some s =>
        have H : Hid (R = nm T n s (p + 1)) := by show _ = _; rw [hs.out]; exact nm_go T n st s p hlt hq
        have hs8 := stp_le hq
        have hI : stpI st (T p) = (s : Int) := by unfold stpI; rw [hq]
        rw [hI] at HI
        have hne : ((s : Int) == -1) = false := by simp
        clear hs hq hI HA
        go_wp2_with (go_at_call 23; refine HI.mono ?_; rintro e w' ⟨rfl, rfl⟩)
        go_round
        case rel => exact ⟨s, p + 1, hs8, by omega, rfl, by go_num, H⟩
        case measure => simp [intOf]; omega
      | none =>
        have H := nm_stop T n st p hlt hq
        rw [← hs.out] at H
        have hI : stpI st (T p) = -1 := by unfold stpI; rw [hq]
        rw [hI] at HI
        clear hs hq hI
        cases ha : accB st with
        | true =>
          rw [ha] at HA H
          have H' : Hid (R = some p) := H
          clear H ha
          go_wp2_with (first | (go_at_call 23; refine HI.mono ?_; rintro e w' ⟨rfl, rfl⟩) | (go_at_call 24; refine HA.mono ?_; rintro e w' ⟨rfl, rfl⟩))
          go_ret2
          exact numYes H'.out (Below.refl _ _)
        | false =>
          rw [ha] at HA H
          have H' : Hid (R = none) := H
          clear H ha
          go_wp2_with (first | (go_at_call 23; refine HI.mono ?_; rintro e w' ⟨rfl, rfl⟩) | (go_at_call 24; refine HA.mono ?_; rintro e w' ⟨rfl, rfl⟩))
          go_ret2
          exact numNo H'.out (Below.refl _ _)
    · have H := nm_end T n st p (by omega)
      rw [← hs.out] at H
      clear hs
      cases ha : accB st with
      | true =>
        rw [ha] at HA H
        have H' : Hid (R = some p) := H
        clear H ha
        go_wp2_with (go_at_call 24; refine HA.mono ?_; rintro e w' ⟨rfl, rfl⟩)
        go_ret2
        exact numYes H'.out (Below.refl _ _)
      | false =>
        rw [ha] at HA H
        have H' : Hid (R = none) := H
        clear H ha
        go_wp2_with (go_at_call 24; refine HA.mono ?_; rintro e w' ⟨rfl, rfl⟩)
        go_ret2
        exact numNo H'.out (Below.refl _ _)
end Go.Proofs.Qxb6605207a
