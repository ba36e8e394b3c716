/-
  Seat b6605207a. WALKS: zzStringModel (16), validString (25).
-/
import Derived.Test.Qxb6605207aW1
set_option linter.unusedVariables false
namespace Go.Proofs.Qxb6605207a
open Go.RowKit

/-- What reading a string hands back. -/
def StrPost (R : Option Nat) (w : World) (e : Ending) (w' : World) : Prop :=
  w' = w ∧ ((∃ (en : Nat) (esc : Bool), R = some en ∧ e = .returned (.tuple #[.int .i64 en, .bool esc, .bool true])) ∨ (R = none ∧ e = .returned (.tuple #[.int .i64 0, .bool false, .bool false])))

theorem strYes {R : Option Nat} {w : World} {p : Nat} {esc : Bool} (h : R = some (p + 1)) : StrPost R w (.returned (.tuple #[.int .i64 ((p : Int) + 1), .bool esc, .bool true])) w := ⟨rfl, .inl ⟨p + 1, esc, h, rfl⟩⟩
theorem strNo {R : Option Nat} {w : World} (h : R = none) : StrPost R w (.returned (.tuple #[.int .i64 0, .bool false, .bool false])) w := ⟨rfl, .inr ⟨h, rfl⟩⟩

set_option maxRecDepth 100000 in
set_option maxHeartbeats 1000000 in
theorem strM_any (b n i : Nat) (T : Nat → Int) (w : World) (h : Txt w b T n) (hn : n ≤ 1048576) (hi : i < n) :
    Calls Try.prog 16 #[.slice (some ⟨b, 0, none⟩) n n, .int .i64 i] w (StrPost (sm T n 0 (i + 1)) w) := by
  have HT : Hid (∀ i, i < n → w.cell? ⟨b, i, none⟩ = some (.int .u8 (T i))) := h.2
  clear h
  obtain ⟨R, hR⟩ : ∃ R, R = sm T n 0 (i + 1) := ⟨_, rfl⟩
  rw [← hR]
  have HR : Hid (R = sm T n 0 (i + 1)) := hR
  clear hR
  go_enter Try.func16, Try.ntmps16
  go_wp2_with fail
  go_loop [7, 8, 9] (fun s e q => ∃ (st p : Nat) (esc : Bool), st ≤ 5 ∧ p ≤ n ∧ s = .int .i64 st ∧ e = .bool esc ∧ q = .int .i64 p ∧ Hid (R = sm T n st p)) (fun _ _ q => n - (intOf q).toNat)
  case atStart => exact ⟨0, i + 1, false, by omega, by omega, rfl, rfl, rfl, HR⟩
  case round =>
    obtain ⟨st, p, esc, hst, hp, rfl, rfl, rfl, hs⟩ := hrel
    by_cases hlt : p < n
    · have hc := HT.out p hlt
      have hstep := sm_step T n st p hlt
      rw [← hs.out] at hstep
      clear hs
      rcases (show st = 0 ∨ st = 1 ∨ 2 ≤ st by omega) with rfl | rfl | hge
      · rw [if_pos rfl] at hstep
        by_cases h34 : T p = 34
        · have b1 : (T p == 34) = true := by simp [h34]
          rw [if_pos h34] at hstep
          have H : Hid (R = some (p + 1)) := hstep
          clear hstep h34
          go_wp2_with fail
          go_ret3
          exact strYes H.out
        · have b1 : (T p == 34) = false := by simp [h34]
          rw [if_neg h34] at hstep
          by_cases h32 : T p < 32
          · rw [if_pos h32] at hstep
            have H : Hid (R = none) := hstep
            clear hstep h34
            go_wp2_with fail
            go_ret3
            exact strNo H.out
          · rw [if_neg h32] at hstep
            by_cases h92 : T p = 92
            · have b2 : (T p == 92) = true := by simp [h92]
              rw [if_pos h92] at hstep
              have H : Hid (R = sm T n 1 (p + 1)) := hstep
              clear hstep h34 h92 h32
              have h32 : 32 ≤ T p := by simp at b2; omega
              go_wp2_with fail
              go_round
              case rel => exact ⟨1, p + 1, _, by omega, by omega, rfl, rfl, by go_num, H⟩
              case measure => simp [intOf]; omega
            · have b2 : (T p == 92) = false := by simp [h92]
              rw [if_neg h92] at hstep
              have H : Hid (R = sm T n 0 (p + 1)) := hstep
              clear hstep h34 h92
              go_wp2_with fail
              go_round
              case rel => exact ⟨0, p + 1, _, by omega, by omega, rfl, rfl, by go_num, H⟩
              case measure => simp [intOf]; omega
      · rw [if_neg (by omega), if_pos rfl] at hstep
        by_cases h117 : T p = 117
        · have b1 : (T p == 117) = true := by simp [h117]
          rw [if_pos h117] at hstep
          have H : Hid (R = sm T n 2 (p + 1)) := hstep
          clear hstep h117
          go_wp2_with fail
          go_round
          case rel => exact ⟨2, p + 1, _, by omega, by omega, rfl, rfl, by go_num, H⟩
          case measure => simp [intOf]; omega
        · have b1 : (T p == 117) = false := by simp [h117]
          rw [if_neg h117] at hstep
          have HI := isSh_any (T p) w
          cases hsh : isSh (T p) with
          | true =>
            rw [hsh] at HI hstep
            rw [if_pos rfl] at hstep
            have H : Hid (R = sm T n 0 (p + 1)) := hstep
            clear hstep h117 hsh
            go_wp2_with (go_at_call 26; refine HI.mono ?_; rintro e w' ⟨rfl, rfl⟩)
            go_round
            case rel => exact ⟨0, p + 1, _, by omega, by omega, rfl, rfl, by go_num, H⟩
            case measure => simp [intOf]; omega
          | false =>
            rw [hsh] at HI hstep
            rw [if_neg (by simp)] at hstep
            have H : Hid (R = none) := hstep
            clear hstep h117 hsh
            go_wp2_with (go_at_call 26; refine HI.mono ?_; rintro e w' ⟨rfl, rfl⟩)
            go_ret3
            exact strNo H.out
      · rw [if_neg (by omega), if_neg (by omega)] at hstep
        have HI := isHx_any (T p) w
        have s0 : ((st : Int) == 0) = false := by simp; omega
        have s1 : ((st : Int) == 1) = false := by simp; omega
        cases hhx : isHx (T p) with
        | true =>
          rw [hhx] at HI hstep
          rw [if_pos rfl] at hstep
          by_cases h5 : st = 5
          · rw [if_pos h5] at hstep
            have s5 : ((st : Int) == 5) = true := by simp; omega
            have H : Hid (R = sm T n 0 (p + 1)) := hstep
            clear hstep h5 hhx
            go_wp2_with (go_at_call 27; refine HI.mono ?_; rintro e w' ⟨rfl, rfl⟩)
            go_round
            case rel => exact ⟨0, p + 1, _, by omega, by omega, rfl, rfl, by go_num, H⟩
            case measure => simp [intOf]; omega
          · rw [if_neg h5] at hstep
            have s5 : ((st : Int) == 5) = false := by simp; omega
            have H : Hid (R = sm T n (st + 1) (p + 1)) := hstep
            clear hstep hhx
            go_wp2_with (go_at_call 27; refine HI.mono ?_; rintro e w' ⟨rfl, rfl⟩)
            go_round
            case rel => exact ⟨st + 1, p + 1, _, by omega, by omega, by go_num, rfl, by go_num, H⟩
            case measure => simp [intOf]; omega
        | false =>
          rw [hhx] at HI hstep
          rw [if_neg (by simp)] at hstep
          have H : Hid (R = none) := hstep
          clear hstep hhx
          go_wp2_with (go_at_call 27; refine HI.mono ?_; rintro e w' ⟨rfl, rfl⟩)
          go_ret3
          exact strNo H.out
    · have H : Hid (R = none) := by show _ = _; rw [hs.out, sm_end T n st p (by omega)]
      clear hs
      go_wp2_with fail
      go_ret3
      exact strNo H.out

theorem isHx_yes {c : Int} (h : isHx c = true) : (48 ≤ c ∧ c ≤ 57) ∨ (97 ≤ c ∧ c ≤ 102) ∨ (65 ≤ c ∧ c ≤ 70) := by
  unfold isHx at h; simp at h; omega
theorem isHx_no {c : Int} (h : isHx c = false) : c < 48 ∨ (57 < c ∧ c < 65) ∨ (70 < c ∧ c < 97) ∨ 102 < c := by
  unfold isHx at h; simp at h; omega

theorem isSh_no {c : Int} (h : isSh c = false) : (c == 34) = false ∧ (c == 92) = false ∧ (c == 47) = false ∧ (c == 98) = false ∧ (c == 102) = false ∧ (c == 110) = false ∧ (c == 114) = false ∧ (c == 116) = false := by
  unfold isSh at h
  simp only [Bool.or_eq_false_iff] at h
  exact ⟨h.1.1.1.1.1.1.1, h.1.1.1.1.1.1.2, h.1.1.1.1.1.2, h.1.1.1.1.2, h.1.1.1.2, h.1.1.2, h.1.2, h.2⟩

set_option maxRecDepth 100000 in
set_option maxHeartbeats 2000000 in
theorem str_any (b n i : Nat) (T : Nat → Int) (w : World) (h : Txt w b T n) (hn : n ≤ 1048576) (hi : i < n) :
    Calls Try.prog 25 #[.slice (some ⟨b, 0, none⟩) n n, .int .i64 i] w (StrPost (sm T n 0 (i + 1)) w) := by
  have HT : Hid (∀ i, i < n → w.cell? ⟨b, i, none⟩ = some (.int .u8 (T i))) := h.2
  clear h
  obtain ⟨R, hR⟩ : ∃ R, R = sm T n 0 (i + 1) := ⟨_, rfl⟩
  rw [← hR]
  have HR : Hid (R = sm T n 0 (i + 1)) := hR
  clear hR
  go_enter Try.func25, Try.ntmps25
  go_wp2_with fail
  go_loop [1, 5] (fun q e => ∃ (p : Nat) (esc : Bool), p ≤ n ∧ e = .bool esc ∧ q = .int .i64 p ∧ Hid (R = sm T n 0 p)) (fun q _ => n - (intOf q).toNat)
  case atStart => exact ⟨i + 1, false, by omega, rfl, rfl, HR⟩
  case round =>
    obtain ⟨p, esc, hp, rfl, rfl, hs⟩ := hrel
    by_cases hlt : p < n
    · have hc := HT.out p hlt
      have hstep := sm_step T n 0 p hlt
      rw [← hs.out, if_pos rfl] at hstep
      clear hs
      by_cases h34 : T p = 34
      · have b1 : (T p == 34) = true := by simp [h34]
        rw [if_pos h34] at hstep
        have H : Hid (R = some (p + 1)) := hstep
        clear hstep h34
        go_wp2_with fail
        go_ret3
        exact strYes H.out
      · have b1 : (T p == 34) = false := by simp [h34]
        rw [if_neg h34] at hstep
        by_cases h32 : T p < 32
        · rw [if_pos h32] at hstep
          have H : Hid (R = none) := hstep
          clear hstep h34
          go_wp2_with fail
          go_ret3
          exact strNo H.out
        · rw [if_neg h32] at hstep
          by_cases h92 : T p = 92
          · have b2 : (T p == 92) = true := by simp [h92]
            rw [if_pos h92] at hstep
            have H1 : Hid (R = sm T n 1 (p + 1)) := hstep
            clear hstep h34 h92 h32
            have h32 : 32 ≤ T p := by simp at b2; omega
            by_cases hlt1 : p + 1 < n
            · have hc1 := HT.out (p + 1) hlt1
              have hstep := sm_step T n 1 (p + 1) hlt1
              rw [← H1.out, if_neg (by omega), if_pos rfl] at hstep
              clear H1
              by_cases h117 : T (p + 1) = 117
              · have d1 : (T (p + 1) == 117) = true := by simp [h117]
                have n1 : (T (p + 1) == 34) = false := by simp [h117]
                have n2 : (T (p + 1) == 92) = false := by simp [h117]
                have n3 : (T (p + 1) == 47) = false := by simp [h117]
                have n4 : (T (p + 1) == 98) = false := by simp [h117]
                have n5 : (T (p + 1) == 102) = false := by simp [h117]
                have n6 : (T (p + 1) == 110) = false := by simp [h117]
                have n7 : (T (p + 1) == 114) = false := by simp [h117]
                have n8 : (T (p + 1) == 116) = false := by simp [h117]
                rw [if_pos h117] at hstep
                have H2 : Hid (R = sm T n 2 (p + 2)) := hstep
                clear hstep h117
                by_cases hlong : p + 5 < n
                · have hne : ¬ n = p + 2 := by omega
                  have hge : decide ((n : Int) ≤ (p : Int) + 1 + 4) = false := decide_eq_false (by omega)
                  go_wp2_with fail
                  go_loop [5, 67] (fun e j => ∃ k : Nat, k ≤ 4 ∧ e = .bool true ∧ j = .int .i64 k ∧ Hid (R = sm T n (if k = 4 then 0 else k + 2) (p + 2 + k))) (fun _ j => 4 - (intOf j).toNat)
                  case atStart => exact ⟨0, by omega, rfl, rfl, H2⟩
                  case round =>
                    obtain ⟨k, hk, rfl, rfl, hs⟩ := hrel
                    by_cases hk4 : k < 4
                    · have hck := HT.out (p + 2 + k) (by omega)
                      rw [if_neg (by omega)] at hs
                      have hst := sm_step T n (k + 2) (p + 2 + k) (by omega)
                      rw [← hs.out, if_neg (by omega), if_neg (by omega)] at hst
                      clear hs
                      cases hhx : isHx (T (p + 2 + k)) with
                      | true =>
                        rw [hhx, if_pos rfl] at hst
                        have H : Hid (R = sm T n (if k + 1 = 4 then 0 else k + 1 + 2) (p + 2 + (k + 1))) := by
                          show _ = _; rw [hst]
                          rcases (show k = 3 ∨ k < 3 by omega) with rfl | h3
                          · rfl
                          · rw [if_neg (by omega), if_neg (by omega)]
                            rw [show p + 2 + k + 1 = p + 2 + (k + 1) by omega, show k + 2 + 1 = k + 1 + 2 by omega]
                        have hx := isHx_yes hhx
                        clear hst hhx
                        rcases hx with ⟨x1, x2⟩ | ⟨x1, x2⟩ | ⟨x1, x2⟩
                        · have e0 : decide (48 ≤ T (p + 2 + k)) = true := decide_eq_true (by omega)
                          have e1 : decide (T (p + 2 + k) ≤ 57) = true := decide_eq_true (by omega)
                          have e2 : decide (97 ≤ T (p + 2 + k)) = false := decide_eq_false (by omega)
                          have e3 : decide (T (p + 2 + k) ≤ 102) = true := decide_eq_true (by omega)
                          have e4 : decide (65 ≤ T (p + 2 + k)) = false := decide_eq_false (by omega)
                          have e5 : decide (T (p + 2 + k) ≤ 70) = true := decide_eq_true (by omega)
                          go_wp2_with fail
                          go_round
                          case rel => exact ⟨k + 1, by omega, rfl, by go_num, H⟩
                          case measure => simp [intOf]; omega
                        · have e0 : decide (48 ≤ T (p + 2 + k)) = true := decide_eq_true (by omega)
                          have e1 : decide (T (p + 2 + k) ≤ 57) = false := decide_eq_false (by omega)
                          have e2 : decide (97 ≤ T (p + 2 + k)) = true := decide_eq_true (by omega)
                          have e3 : decide (T (p + 2 + k) ≤ 102) = true := decide_eq_true (by omega)
                          have e4 : decide (65 ≤ T (p + 2 + k)) = true := decide_eq_true (by omega)
                          have e5 : decide (T (p + 2 + k) ≤ 70) = false := decide_eq_false (by omega)
                          go_wp2_with fail
                          go_round
                          case rel => exact ⟨k + 1, by omega, rfl, by go_num, H⟩
                          case measure => simp [intOf]; omega
                        · have e0 : decide (48 ≤ T (p + 2 + k)) = true := decide_eq_true (by omega)
                          have e1 : decide (T (p + 2 + k) ≤ 57) = false := decide_eq_false (by omega)
                          have e2 : decide (97 ≤ T (p + 2 + k)) = false := decide_eq_false (by omega)
                          have e3 : decide (T (p + 2 + k) ≤ 102) = true := decide_eq_true (by omega)
                          have e4 : decide (65 ≤ T (p + 2 + k)) = true := decide_eq_true (by omega)
                          have e5 : decide (T (p + 2 + k) ≤ 70) = true := decide_eq_true (by omega)
                          go_wp2_with fail
                          go_round
                          case rel => exact ⟨k + 1, by omega, rfl, by go_num, H⟩
                          case measure => simp [intOf]; omega
                      | false =>
                        rw [hhx, if_neg (by simp)] at hst
                        have H : Hid (R = none) := hst
                        have hx := isHx_no hhx
                        clear hst hhx
                        rcases hx with x1 | ⟨x1, x2⟩ | ⟨x1, x2⟩ | x1
                        · have e0 : decide (48 ≤ T (p + 2 + k)) = false := decide_eq_false (by omega)
                          have e1 : decide (T (p + 2 + k) ≤ 57) = true := decide_eq_true (by omega)
                          have e2 : decide (97 ≤ T (p + 2 + k)) = false := decide_eq_false (by omega)
                          have e3 : decide (T (p + 2 + k) ≤ 102) = true := decide_eq_true (by omega)
                          have e4 : decide (65 ≤ T (p + 2 + k)) = false := decide_eq_false (by omega)
                          have e5 : decide (T (p + 2 + k) ≤ 70) = true := decide_eq_true (by omega)
                          go_wp2_with fail
                          go_ret3
                          exact strNo H.out
                        · have e0 : decide (48 ≤ T (p + 2 + k)) = true := decide_eq_true (by omega)
                          have e1 : decide (T (p + 2 + k) ≤ 57) = false := decide_eq_false (by omega)
                          have e2 : decide (97 ≤ T (p + 2 + k)) = false := decide_eq_false (by omega)
                          have e3 : decide (T (p + 2 + k) ≤ 102) = true := decide_eq_true (by omega)
                          have e4 : decide (65 ≤ T (p + 2 + k)) = false := decide_eq_false (by omega)
                          have e5 : decide (T (p + 2 + k) ≤ 70) = true := decide_eq_true (by omega)
                          go_wp2_with fail
                          go_ret3
                          exact strNo H.out
                        · have e0 : decide (48 ≤ T (p + 2 + k)) = true := decide_eq_true (by omega)
                          have e1 : decide (T (p + 2 + k) ≤ 57) = false := decide_eq_false (by omega)
                          have e2 : decide (97 ≤ T (p + 2 + k)) = false := decide_eq_false (by omega)
                          have e3 : decide (T (p + 2 + k) ≤ 102) = true := decide_eq_true (by omega)
                          have e4 : decide (65 ≤ T (p + 2 + k)) = true := decide_eq_true (by omega)
                          have e5 : decide (T (p + 2 + k) ≤ 70) = false := decide_eq_false (by omega)
                          go_wp2_with fail
                          go_ret3
                          exact strNo H.out
                        · have e0 : decide (48 ≤ T (p + 2 + k)) = true := decide_eq_true (by omega)
                          have e1 : decide (T (p + 2 + k) ≤ 57) = false := decide_eq_false (by omega)
                          have e2 : decide (97 ≤ T (p + 2 + k)) = true := decide_eq_true (by omega)
                          have e3 : decide (T (p + 2 + k) ≤ 102) = false := decide_eq_false (by omega)
                          have e4 : decide (65 ≤ T (p + 2 + k)) = true := decide_eq_true (by omega)
                          have e5 : decide (T (p + 2 + k) ≤ 70) = false := decide_eq_false (by omega)
                          go_wp2_with fail
                          go_ret3
                          exact strNo H.out
                    · obtain rfl : k = 4 := by omega
                      have H : Hid (R = sm T n 0 (p + 6)) := hs
                      clear hs
                      go_wp2_with fail
                      go_round
                      case rel => exact ⟨p + 6, _, by omega, rfl, by go_num, H⟩
                      case measure => simp [intOf]; omega
                · have H : Hid (R = none) := by show _ = _; rw [H2.out]; exact sm_short T n 3 2 (p + 2) (by omega) (by omega) (by omega)
                  clear H2
                  go_wp2_with fail
                  go_ret3
                  exact strNo H.out
              · have d1 : (T (p + 1) == 117) = false := by simp [h117]
                rw [if_neg h117] at hstep
                cases hsh : isSh (T (p + 1)) with
                | true =>
                  rw [hsh, if_pos rfl] at hstep
                  have H : Hid (R = sm T n 0 (p + 2)) := hstep
                  have Hs : Hid (isSh (T (p + 1)) = true) := hsh
                  clear hstep h117 hsh
                  go_wp2_with fail
                  all_goals first
                    | (go_round
                       case rel => exact ⟨p + 2, _, by omega, rfl, by go_num, H⟩
                       case measure => simp [intOf]; omega)
                    | (exfalso; have := Hs.out; simp_all [isSh]; done)
                | false =>
                  rw [hsh, if_neg (by simp)] at hstep
                  have H : Hid (R = none) := hstep
                  obtain ⟨n1, n2, n3, n4, n5, n6, n7, n8⟩ := isSh_no hsh
                  clear hstep h117 hsh
                  go_wp2_with fail
                  go_ret3
                  exact strNo H.out
            · have H : Hid (R = none) := by show _ = _; rw [H1.out, sm_end T n 1 (p + 1) (by omega)]
              clear H1
              go_wp2_with fail
              go_ret3
              exact strNo H.out
          · have b2 : (T p == 92) = false := by simp [h92]
            rw [if_neg h92] at hstep
            have H : Hid (R = sm T n 0 (p + 1)) := hstep
            clear hstep h34 h92
            go_wp2_with fail
            go_round
            case rel => exact ⟨p + 1, _, by omega, rfl, by go_num, H⟩
            case measure => simp [intOf]; omega
    · have H : Hid (R = none) := by show _ = _; rw [hs.out, sm_end T n 0 p (by omega)]
      clear hs
      go_wp2_with fail
      go_ret3
      exact strNo H.out
end Go.Proofs.Qxb6605207a
