/-
  Seat b6605207a. WALKS: the small tests (35, 30, 27, 26), zzSkipSpace (29), space (33).
-/
import Derived.Test.Qxb6605207aProg
import Derived.Test.Qxb6605207aPlainA
import Derived.WalkKit
import Derived.WalkSpells
import Derived.WalkLawsBesides
import Derived.Below
import Derived.Deep.QuietTactic
import Derived.BigQuiet
set_option linter.unusedVariables false
namespace Go.Proofs.Qxb6605207a
open Go.RowKit

/-- The text lies at the head of block b. -/
def Txt (w : World) (b : Nat) (T : Nat → Int) (n : Nat) : Prop := b < w.heap.size ∧ ∀ i, i < n → w.cell? ⟨b, i, none⟩ = some (.int .u8 (T i))

theorem Txt.below {w w' : World} {b n : Nat} {T : Nat → Int} (h : Txt w b T n) (hb : Below w.heap.size w w') : Txt w' b T n :=
  ⟨Nat.lt_of_lt_of_le h.1 hb.size, fun i hi => by rw [hb.cell h.1]; exact h.2 i hi⟩

theorem ret_bool {a b : Bool} (h : a = b) : Ending.returned (.bool a) = .returned (.bool b) := by rw [h]

theorem ret_nat {k : IntKind} {a b : Nat} (h : a = b) : Ending.returned (.int k (a : Int)) = .returned (.int k (b : Int)) := by rw [h]

theorem isSp_1 {c : Int} (h : (c == 32) = true) : isSp c = true := by unfold isSp; rw [h]; rfl
theorem isSp_2 {c : Int} (h : (c == 9) = true) : isSp c = true := by unfold isSp; rw [h]; simp
theorem isSp_3 {c : Int} (h : (c == 10) = true) : isSp c = true := by unfold isSp; rw [h]; simp
theorem isSp_4 {c : Int} (h : (c == 13) = true) : isSp c = true := by unfold isSp; rw [h]; simp
theorem isSp_0 {c : Int} (h1 : (c == 32) = false) (h2 : (c == 9) = false) (h3 : (c == 10) = false) (h4 : (c == 13) = false) : isSp c = false := by unfold isSp; rw [h1, h2, h3, h4]; rfl

theorem isSp_any (c : Int) (w : World) : Calls Try.prog 35 #[.int .u8 c] w fun e w' => e = .returned (.bool (isSp c)) ∧ w' = w := by
  unfold isSp
  go_enter Try.func35, Try.ntmps35
  go_wp2
  all_goals
    go_ret
    refine ⟨ret_bool ?_, rfl⟩
    first | rfl | simp_all

theorem isDg_any (c : Int) (w : World) : Calls Try.prog 30 #[.int .u8 c] w fun e w' => e = .returned (.bool (isDg c)) ∧ w' = w := by
  unfold isDg
  go_enter Try.func30, Try.ntmps30
  go_wp2
  all_goals
    go_ret
    refine ⟨ret_bool ?_, rfl⟩
    first | rfl | (rw [Bool.eq_iff_iff]; simp; omega)

set_option maxHeartbeats 400000 in
theorem isHx_any (c : Int) (w : World) : Calls Try.prog 27 #[.int .u8 c] w fun e w' => e = .returned (.bool (isHx c)) ∧ w' = w := by
  unfold isHx
  go_enter Try.func27, Try.ntmps27
  go_wp2
  all_goals
    go_ret
    refine ⟨ret_bool ?_, rfl⟩
    first | rfl | (rw [Bool.eq_iff_iff]; simp; omega)

set_option maxHeartbeats 400000 in
theorem isSh_any (c : Int) (w : World) : Calls Try.prog 26 #[.int .u8 c] w fun e w' => e = .returned (.bool (isSh c)) ∧ w' = w := by
  unfold isSh
  go_enter Try.func26, Try.ntmps26
  go_wp2
  all_goals
    go_ret
    refine ⟨ret_bool ?_, rfl⟩
    first | rfl | simp_all

set_option maxHeartbeats 400000 in
theorem skipSp_any (b n p : Nat) (T : Nat → Int) (w : World) (h : Txt w b T n) (hn : n ≤ 1048576) (hp : p ≤ n) :
    Calls Try.prog 29 #[.slice (some ⟨b, 0, none⟩) n n, .int .i64 p] w fun e w' => e = .returned (.int .i64 (sp T n p)) ∧ w' = w := by
  have HT : Hid (∀ i, i < n → w.cell? ⟨b, i, none⟩ = some (.int .u8 (T i))) := h.2
  clear h
  go_enter Try.func29, Try.ntmps29
  go_wp2_with fail
  go_loop [1] (fun i => ∃ k : Nat, k ≤ n ∧ i = .int .i64 k ∧ Hid (sp T n k = sp T n p)) (fun i => n - (intOf i).toNat)
  case atStart => exact ⟨p, hp, rfl, rfl⟩
  case round =>
    obtain ⟨k, hk, rfl, hs⟩ := hrel
    by_cases hlt : k < n
    · have hc := HT.out k hlt
      have HS := skip_step isSp T n k hlt
      have HO := skip_stop isSp T n k hlt
      cases hq : isSp (T k) with
      | true =>
        have hs' : Hid (sp T n (k + 1) = sp T n p) := by show _ = _; rw [← hs.out]; exact (HS hq).symm
        clear HS HO hs
        have HI := isSp_any (T k) w
        rw [hq] at HI
        clear hq
        go_wp2_with (go_at_call 35; refine HI.mono ?_; rintro e w' ⟨rfl, rfl⟩)
        go_round
        case rel => exact ⟨k + 1, by omega, by go_num, hs'⟩
        case measure => simp [intOf]; omega
      | false =>
        have hs' : Hid (k = sp T n p) := by show _ = _; rw [← hs.out]; exact (HO hq).symm
        clear HS HO hs
        have HI := isSp_any (T k) w
        rw [hq] at HI
        clear hq
        go_wp2_with (go_at_call 35; refine HI.mono ?_; rintro e w' ⟨rfl, rfl⟩)
        go_ret
        exact ⟨ret_nat hs'.out, rfl⟩
    · have hs' : Hid (k = sp T n p) := by show _ = _; rw [← hs.out]; exact (skip_end isSp T n k (by omega)).symm
      clear hs
      have hd : decide ((k : Int) < (n : Int)) = false := decide_eq_false (by omega)
      go_wp2_with fail
      go_ret
      exact ⟨ret_nat hs'.out, rfl⟩

set_option maxHeartbeats 400000 in
theorem space_any (b n p : Nat) (T : Nat → Int) (w : World) (h : Txt w b T n) (hn : n ≤ 1048576) (hp : p ≤ n) :
    Calls Try.prog 33 #[.slice (some ⟨b, 0, none⟩) n n, .int .i64 p] w fun e w' => e = .returned (.int .i64 (sp T n p)) ∧ w' = w := by
  have HT : Hid (∀ i, i < n → w.cell? ⟨b, i, none⟩ = some (.int .u8 (T i))) := h.2
  clear h
  go_enter Try.func33, Try.ntmps33
  go_wp2_with fail
  go_loop [1] (fun i => ∃ k : Nat, k ≤ n ∧ i = .int .i64 k ∧ Hid (sp T n k = sp T n p)) (fun i => n - (intOf i).toNat)
  case atStart => exact ⟨p, hp, rfl, rfl⟩
  case round =>
    obtain ⟨k, hk, rfl, hs⟩ := hrel
    by_cases hlt : k < n
    · have hc := HT.out k hlt
      have HS := skip_step isSp T n k hlt
      have HO := skip_stop isSp T n k hlt
      have hy : isSp (T k) = true → Hid (sp T n (k + 1) = sp T n p) := fun hq => by show _ = _; rw [← hs.out]; exact (HS hq).symm
      have hno : isSp (T k) = false → Hid (k = sp T n p) := fun hq => by show _ = _; rw [← hs.out]; exact (HO hq).symm
      have Hy : Hid _ := hy
      have Hno : Hid _ := hno
      clear HS HO hs hy hno
      go_wp2_with fail
      all_goals first
        | (go_ret; exact ⟨ret_nat (Hno.out (isSp_0 ‹_› ‹_› ‹_› ‹_›)).out, rfl⟩)
        | (go_round
           case rel => exact ⟨k + 1, by omega, by go_num, Hy.out (by first | exact isSp_1 ‹_› | exact isSp_2 ‹_› | exact isSp_3 ‹_› | exact isSp_4 ‹_›)⟩
           case measure => simp [intOf]; omega)
    · have hs' : Hid (k = sp T n p) := by show _ = _; rw [← hs.out]; exact (skip_end isSp T n k (by omega)).symm
      clear hs
      go_wp2_with fail
      go_ret
      exact ⟨ret_nat hs'.out, rfl⟩
end Go.Proofs.Qxb6605207a
