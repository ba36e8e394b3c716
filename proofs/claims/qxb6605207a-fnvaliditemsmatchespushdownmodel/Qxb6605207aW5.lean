/-
  Seat b6605207a. WALKS: zzHasAt (36), zzLiteralLen (31), bytes.HasPrefix (37) with bytes.Equal (38).
-/
import Derived.Test.Qxb6605207aW1
set_option linter.unusedVariables false
namespace Go.Proofs.Qxb6605207a
open Go.RowKit

def HasPost (p m n : Nat) (T L : Nat → Int) (w : World) (e : Ending) (w' : World) : Prop :=
  (∃ r : Bool, e = .returned (.bool r) ∧ (r = true ↔ p + m ≤ n ∧ ∀ k, k < m → T (p + k) = L k)) ∧ ∃ q, w' = w.drewN q

set_option maxHeartbeats 1000000 in
theorem hasAt_core (b n p m : Nat) (s : ByteArray) (L : Nat → Int) (T : Nat → Int) (w : World) (h : Txt w b T n) (hn : n ≤ 1048576) (hp : p ≤ n) (hm : Hid (s.size = m)) (hm5 : s.size ≤ 5) (hL : Hid (∀ k (hk : k < s.size), ((s[k]'hk).toNat : Int) = L k)) :
    Calls Try.prog 36 #[.slice (some ⟨b, 0, none⟩) n n, .int .i64 p, .string s] w (HasPost p m n T L w) := by
  have HT : Hid (∀ i, i < n → w.cell? ⟨b, i, none⟩ = some (.int .u8 (T i))) := h.2
  clear h
  by_cases hfit : p + s.size ≤ n
  · have hf1 : ¬ ((n : Int) - (p : Int) < (s.size : Int)) := by omega
    have hf2 : decide ((n : Int) - (p : Int) < (s.size : Int)) = false := decide_eq_false hf1
    go_enter Try.func36, Try.ntmps36
    go_wp2_with fail
    go_loopw [7] (fun i wr => ∃ k q : Nat, k ≤ s.size ∧ i = .int .i64 k ∧ wr = w.drewN q ∧ Hid (∀ j, j < k → T (p + j) = L j)) (fun i _ => s.size - (intOf i).toNat)
    case atStart => exact ⟨0, 0, Nat.zero_le _, rfl, rfl, fun j h => absurd h (Nat.not_lt_zero _)⟩
    case round =>
      obtain ⟨k, q, hk, rfl, rfl, hall⟩ := hrel
      by_cases hlt : k < s.size
      · have hc := HT.out (p + k) (by omega)
        have hx := hL.out k hlt
        have hlt' : (k : Int) < (s.size : Int) := by omega
        have hlt2 : (p : Int) + (k : Int) < (n : Int) := by omega
        by_cases he : T (p + k) = L k
        · have hb : (T (p + k) != L k) = false := by simp [he]
          have HA : Hid (∀ j, j < k + 1 → T (p + j) = L j) := fun j hj => by
            rcases Nat.lt_or_ge j k with h | h
            · exact hall.out j h
            · obtain rfl : j = k := by omega
              exact he
          clear he hall
          go_wp2_with fail
          go_big_quiet (fail)
          go_wp2_with fail
          go_roundw
          case rel => exact ⟨k + 1, _, by omega, by go_num, rfl, HA⟩
          case measure => simp [intOf]; omega
        · have hb : (T (p + k) != L k) = true := by simp [he]
          have HE : Hid (T (p + k) ≠ L k) := he
          clear he hall
          go_wp2_with fail
          go_big_quiet (fail)
          go_wp2_with fail
          go_ret
          exact ⟨⟨false, rfl, ⟨fun h => absurd h (by decide), fun h => absurd (h.2 k (by rw [← hm.out]; exact hlt)) HE.out⟩⟩, q + nq, World.drewN_drewN _ _ _⟩
      · go_wp2_with fail
        go_ret
        exact ⟨⟨true, rfl, ⟨fun _ => ⟨by rw [← hm.out]; exact hfit, fun j hj => hall.out j (by rw [← hm.out] at hj; omega)⟩, fun _ => rfl⟩⟩, _, rfl⟩
  · have hf1 : (n : Int) - (p : Int) < (s.size : Int) := by omega
    go_enter Try.func36, Try.ntmps36
    go_wp2_with fail
    go_ret
    exact ⟨⟨false, rfl, ⟨fun h => absurd h (by decide), fun h => absurd h.1 (by rw [← hm.out]; exact hfit)⟩⟩, 0, rfl⟩

theorem has_iff (T : Nat → Int) (n p : Nat) (l : List Int) : hasAt T n p l = true ↔ p + l.length ≤ n ∧ ∀ k, k < l.length → T (p + k) = l.getD k 0 := by
  unfold hasAt
  simp

theorem has_any (b n p : Nat) (s : ByteArray) (l : List Int) (T : Nat → Int) (w : World) (h : Txt w b T n) (hn : n ≤ 1048576) (hp : p ≤ n) (hm : s.size = l.length) (hm5 : l.length ≤ 5) (hL : ∀ k (hk : k < s.size), ((s[k]'hk).toNat : Int) = l.getD k 0) :
    Calls Try.prog 36 #[.slice (some ⟨b, 0, none⟩) n n, .int .i64 p, .string s] w fun e w' => e = .returned (.bool (hasAt T n p l)) ∧ ∃ q, w' = w.drewN q := by
  refine (hasAt_core b n p l.length s (fun k => l.getD k 0) T w h hn hp hm (by omega) hL).mono ?_
  rintro e w' ⟨⟨r, rfl, hr⟩, hq⟩
  refine ⟨ret_bool ?_, hq⟩
  rw [Bool.eq_iff_iff, hr, has_iff]

theorem lT (k : Nat) (hk : k < (⟨#[116, 114, 117, 101]⟩ : ByteArray).size) : (((⟨#[116, 114, 117, 101]⟩ : ByteArray)[k]'hk).toNat : Int) = lTrue.getD k 0 := by
  have : k < 4 := hk
  rcases (show k = 0 ∨ k = 1 ∨ k = 2 ∨ k = 3 by omega) with rfl | rfl | rfl | rfl <;> rfl
theorem lF (k : Nat) (hk : k < (⟨#[102, 97, 108, 115, 101]⟩ : ByteArray).size) : (((⟨#[102, 97, 108, 115, 101]⟩ : ByteArray)[k]'hk).toNat : Int) = lFalse.getD k 0 := by
  have : k < 5 := hk
  rcases (show k = 0 ∨ k = 1 ∨ k = 2 ∨ k = 3 ∨ k = 4 by omega) with rfl | rfl | rfl | rfl | rfl <;> rfl
theorem lN (k : Nat) (hk : k < (⟨#[110, 117, 108, 108]⟩ : ByteArray).size) : (((⟨#[110, 117, 108, 108]⟩ : ByteArray)[k]'hk).toNat : Int) = lNull.getD k 0 := by
  have : k < 4 := hk
  rcases (show k = 0 ∨ k = 1 ∨ k = 2 ∨ k = 3 by omega) with rfl | rfl | rfl | rfl <;> rfl

set_option maxHeartbeats 1000000 in
theorem litLen_any (b n p : Nat) (T : Nat → Int) (w : World) (h : Txt w b T n) (hn : n ≤ 1048576) (hp : p ≤ n) :
    Calls Try.prog 31 #[.slice (some ⟨b, 0, none⟩) n n, .int .i64 p] w fun e w' => e = .returned (.int .i64 (litL T n p)) ∧ ∃ q, w' = w.drewN q := by
  have h1 := fun q => has_any b n p _ lTrue T (w.drewN q) h hn hp rfl (by decide) lT
  have h2 := fun q => has_any b n p _ lFalse T (w.drewN q) h hn hp rfl (by decide) lF
  have h3 := fun q => has_any b n p _ lNull T (w.drewN q) h hn hp rfl (by decide) lN
  unfold litL
  cases e1 : hasAt T n p lTrue with
  | true =>
    rw [e1] at h1
    have H1 := h1 0
    clear h1 h2 h3 e1
    go_enter Try.func31, Try.ntmps31
    go_wp2_with fail
    refine H1.mono ?_
    rintro e w' ⟨rfl, q, rfl⟩
    go_wp2_with fail
    go_ret
    exact ⟨rfl, _, rfl⟩
  | false =>
    rw [e1] at h1
    cases e2 : hasAt T n p lFalse with
    | true =>
      rw [e2] at h2
      clear h3 e1 e2
      have H1 := h1 0
      have H2 : Hid _ := h2
      clear h1 h2
      go_enter Try.func31, Try.ntmps31
      go_wp2_with fail
      refine H1.mono ?_
      rintro e w' ⟨rfl, q, rfl⟩
      go_wp2_with fail
      refine (H2.out _).mono ?_
      rintro e w' ⟨rfl, q', rfl⟩
      go_wp2_with fail
      go_ret
      exact ⟨rfl, _, rfl⟩
    | false =>
      rw [e2] at h2
      have H1 := h1 0
      have H2 : Hid _ := h2
      cases e3 : hasAt T n p lNull
      all_goals
        rw [e3] at h3
        have H3 : Hid _ := h3
        clear h1 h2 h3 e1 e2 e3
        go_enter Try.func31, Try.ntmps31
        go_wp2_with fail
        refine H1.mono ?_
        rintro e w' ⟨rfl, q, rfl⟩
        go_wp2_with fail
        refine (H2.out _).mono ?_
        rintro e w' ⟨rfl, q', rfl⟩
        go_wp2_with fail
        refine (H3.out (q + q')).mono ?_
        rintro e w' ⟨rfl, q'', rfl⟩
        go_wp2_with fail
        go_ret
        exact ⟨rfl, _, rfl⟩
end Go.Proofs.Qxb6605207a
