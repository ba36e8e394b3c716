/-
  Seat b6605207a. WALKS: validNumber's digits (32), validNumber (22).
-/
import Derived.Test.Qxb6605207aW3
import Derived.Test.Qxb6605207aPlainB
import Derived.Deep.DeepCutAuto
import Derived.Deep.CutBlock
set_option linter.unusedVariables false
namespace Go.Proofs.Qxb6605207a
open Go.RowKit

theorem isDg_yes {c : Int} (h : isDg c = true) : 48 ≤ c ∧ c ≤ 57 := by unfold isDg at h; simpa using h
theorem isDg_no {c : Int} (h : isDg c = false) : c < 48 ∨ 57 < c := by unfold isDg at h; simp at h; omega
theorem isDg_mk {c : Int} (h : 48 ≤ c) (h' : c ≤ 57) : isDg c = true := by unfold isDg; simp [h, h']
theorem isDg_mk' {c : Int} (h : c < 48 ∨ 57 < c) : isDg c = false := by unfold isDg; simp; omega

set_option maxHeartbeats 1000000 in
/-- digits: the place behind the digits from i on; g: the block that holds the captured text. -/
theorem dig_any (g b n p : Nat) (T : Nat → Int) (w : World) (h : Txt w b T n) (hg : w.cell? ⟨g, 0, none⟩ = some (.slice (some ⟨b, 0, none⟩) n n)) (hn : n ≤ 1048576) (hp : p ≤ n) :
    Calls Try.prog 32 #[.int .i64 p, .pointer (some ⟨g, 0, none⟩)] w fun e w' => e = .returned (.int .i64 (dg T n p)) ∧ w' = w := by
  have HT : Hid (∀ i, i < n → w.cell? ⟨b, i, none⟩ = some (.int .u8 (T i))) := h.2
  clear h
  go_enter Try.func32, Try.ntmps32
  go_wp2_with fail
  go_loop [0] (fun i => ∃ k : Nat, k ≤ n ∧ i = .int .i64 k ∧ Hid (dg T n k = dg T n p)) (fun i => n - (intOf i).toNat)
  case atStart => exact ⟨p, hp, rfl, rfl⟩
  case round =>
    obtain ⟨k, hk, rfl, hs⟩ := hrel
    by_cases hlt : k < n
    · have hc := HT.out k hlt
      have HS := skip_step isDg T n k hlt
      have HO := skip_stop isDg T n k hlt
      cases hq : isDg (T k) with
      | true =>
        have hs' : Hid (dg T n (k + 1) = dg T n p) := by show _ = _; rw [← hs.out]; exact (HS hq).symm
        obtain ⟨q1, q2⟩ := isDg_yes hq
        clear HS HO hs hq
        go_wp2
        go_round
        case rel => exact ⟨k + 1, by omega, by go_num, hs'⟩
        case measure => simp [intOf]; omega
      | false =>
        have hs' : Hid (k = dg T n p) := by show _ = _; rw [← hs.out]; exact (HO hq).symm
        have hq' := isDg_no hq
        clear HS HO hs hq
        rcases hq' with q | q
        · have d1 : decide (48 ≤ T k) = false := decide_eq_false (by omega)
          go_wp2
          go_ret
          exact ⟨ret_nat hs'.out, rfl⟩
        · have d1 : decide (48 ≤ T k) = true := decide_eq_true (by omega)
          have d2 : decide (T k ≤ 57) = false := decide_eq_false (by omega)
          go_wp2
          go_ret
          exact ⟨ret_nat hs'.out, rfl⟩
    · have hs' : Hid (k = dg T n p) := by show _ = _; rw [← hs.out]; exact (skip_end isDg T n k (by omega)).symm
      have hd : decide ((k : Int) < (n : Int)) = false := decide_eq_false (by omega)
      clear hs
      go_wp2
      go_ret
      exact ⟨ret_nat hs'.out, rfl⟩

def NoSign (T : Nat → Int) (n s p : Nat) : Prop := s = 0 → p < n → T p ≠ 45
def NoDig (T : Nat → Int) (n s p : Nat) : Prop := p < n → s = 2 ∨ isDg (T p) = false
def NoDot (T : Nat → Int) (n s p : Nat) : Prop := p < n → s = 5 ∨ T p ≠ 46

set_option maxRecDepth 100000 in
set_option maxHeartbeats 2000000 in
theorem num_any (b n i : Nat) (T : Nat → Int) (w : World) (h : Txt w b T n) (hn : n ≤ 1048576) (hi : i < n) :
    Calls Try.prog 22 #[.slice (some ⟨b, 0, none⟩) n n, .int .i64 i] w (NumPost (nm T n 0 i) w) := by
  have hblt := h.1
  have HT : Hid (∀ i, i < n → w.cell? ⟨b, i, none⟩ = some (.int .u8 (T i))) := h.2
  obtain ⟨R, hR⟩ : ∃ R, R = nm T n 0 i := ⟨_, rfl⟩
  rw [← hR]
  have HR : Hid (R = nm T n 0 i) := hR
  clear hR
  have hD : ∀ p : Nat, p ≤ n → Calls Try.prog 32 #[.int .i64 p, .pointer (some ⟨w.heap.size, 0, none⟩)] (w.alloc (.cells #[.slice (some ⟨b, 0, none⟩) n n] 22)) fun e w' => e = .returned (.int .i64 (dg T n p)) ∧ w' = w.alloc (.cells #[.slice (some ⟨b, 0, none⟩) n n] 22) := fun p hp =>
    dig_any w.heap.size b n p T _ (h.below ((Below.refl _ _).alloc (Nat.le_refl _) _)) (by simp) hn hp
  have HD : Hid _ := hD
  have HB : Hid (Below w.heap.size w (w.alloc (.cells #[.slice (some ⟨b, 0, none⟩) n n] 22))) := (Below.refl _ _).alloc (Nat.le_refl _) _
  clear hD h
  have hci := HT.out i hi
  go_enter Try.func22, Try.ntmps22
  go_upto_if 12 with fail
  go_cut [1] (fun q wx => ∃ p s : Nat, wx = w.alloc (.cells #[.slice (some ⟨b, 0, none⟩) n n] 22) ∧ q = .int .i64 p ∧ p ≤ n ∧ s ≤ 1 ∧ Hid (R = nm T n s p) ∧ NoSign T n s p)
  case first =>
    by_cases h45 : T i = 45
    · have b1 : (T i == 45) = true := by simp [h45]
      have H : Hid (R = nm T n 1 (i + 1)) := by show _ = _; rw [HR.out]; exact nm_sign T n i hi h45
      clear h45
      go_wp2_with fail
      go_meet
      exact ⟨i + 1, 1, rfl, by go_num, by omega, by omega, H, fun h => absurd h (by decide)⟩
    · have b1 : (T i == 45) = false := by simp [h45]
      have H45 : NoSign T n 0 i := fun _ _ => h45
      clear h45
      go_wp2_with fail
      go_meet
      exact ⟨i, 0, rfl, rfl, by omega, by omega, HR, H45⟩
  case rest =>
    obtain ⟨p, s, rfl, rfl, hp, hs, H1, H2⟩ := hcut
    clear hci
    go_upto_block 0 with fail
    go_cut [1] (fun q wx => ∃ p s : Nat, wx = w.alloc (.cells #[.slice (some ⟨b, 0, none⟩) n n] 22) ∧ q = .int .i64 p ∧ p ≤ n ∧ (s = 2 ∨ s = 3) ∧ Hid (R = nm T n s p) ∧ NoDig T n s p)
    case first =>
      by_cases hlt : p < n
      · have hcp := HT.out p hlt
        by_cases h48 : T p = 48
        · have b1 : (T p == 48) = true := by simp [h48]
          have H : Hid (R = nm T n 2 (p + 1)) := by show _ = _; rw [H1.out]; exact nm_zero T n s p hs hlt h48
          clear h48 H1 H2
          go_wp2_with fail
          go_meet
          exact ⟨p + 1, 2, rfl, by go_num, by omega, .inl rfl, H, fun _ => .inl rfl⟩
        · have b1 : (T p == 48) = false := by simp [h48]
          by_cases hr : 49 ≤ T p ∧ T p ≤ 57
          · obtain ⟨r1, r2⟩ := hr
            have H : Hid (R = nm T n 3 (dg T n p)) := by show _ = _; rw [H1.out]; exact nm_int T n s p hs hlt r1 r2
            have HDp := HD.out p hp
            have hle := dg_le T n p hp
            have HN : NoDig T n 3 (dg T n p) := fun h => .inr (dg_not T n p h)
            clear h48 H1 H2
            go_wp2_with (go_at_call 32; refine HDp.mono ?_; rintro e w' ⟨rfl, rfl⟩)
            go_meet
            exact ⟨dg T n p, 3, rfl, rfl, hle, .inr rfl, H, HN⟩
          · have H : Hid (R = none) := by show _ = _; rw [H1.out]; exact nm_noint T n s p hs H2 (fun _ => ⟨h48, by omega⟩)
            have hw : T p < 49 ∨ 57 < T p := by omega
            clear h48 H1 H2 hr
            rcases hw with x | x
            · have d1 : decide (49 ≤ T p) = false := decide_eq_false (by omega)
              go_wp2_with fail
              go_ret2
              exact numNo H.out HB.out
            · have d1 : decide (49 ≤ T p) = true := decide_eq_true (by omega)
              have d2 : decide (T p ≤ 57) = false := decide_eq_false (by omega)
              go_wp2_with fail
              go_ret2
              exact numNo H.out HB.out
      · have H : Hid (R = none) := by show _ = _; rw [H1.out]; exact nm_noint T n s p hs H2 (fun h => absurd h hlt)
        have hd : decide ((p : Int) < (n : Int)) = false := decide_eq_false (by omega)
        clear H1 H2
        go_wp2_with fail
        go_ret2
        exact numNo H.out HB.out
    case rest =>
      clear H1 H2 hs hp
      clear s p
      obtain ⟨p, s, rfl, rfl, hp, hs, H1, H2⟩ := hcut
      go_step
      go_step
      go_cut [1] (fun q wx => ∃ p s : Nat, wx = w.alloc (.cells #[.slice (some ⟨b, 0, none⟩) n n] 22) ∧ q = .int .i64 p ∧ p ≤ n ∧ (s = 2 ∨ s = 3 ∨ s = 5) ∧ Hid (R = nm T n s p) ∧ NoDig T n s p ∧ NoDot T n s p)
      case first =>
        by_cases hdot : p < n ∧ T p = 46
        · obtain ⟨hlt, h46⟩ := hdot
          have hcp := HT.out p hlt
          have b1 : (T p == 46) = true := by simp [h46]
          have H4 : Hid (R = nm T n 4 (p + 1)) := by show _ = _; rw [H1.out]; exact nm_dot T n s p hs hlt h46
          have HDp := HD.out (p + 1) (by omega)
          rw [show ((p + 1 : Nat) : Int) = (p : Int) + 1 by omega] at HDp
          have hle := dg_le T n (p + 1) (by omega)
          clear h46 H1 H2
          by_cases hmv : dg T n (p + 1) = p + 1
          · have H : Hid (R = none) := by show _ = _; rw [H4.out]; exact nm_dot_no T n (p + 1) hmv
            rw [hmv] at HDp
            rw [show ((p + 1 : Nat) : Int) = (p : Int) + 1 by omega] at HDp
            clear hmv H4 hle
            go_wp2_with (go_at_call 32; refine HDp.mono ?_; rintro e w' ⟨rfl, rfl⟩)
            go_ret2
            exact numNo H.out HB.out
          · have H : Hid (R = nm T n 5 (dg T n (p + 1))) := by show _ = _; rw [H4.out]; exact nm_dot_yes T n (p + 1) hmv
            have b2 : (((dg T n (p + 1) : Nat) : Int) == (p : Int) + 1) = false := by simp; omega
            have HN : NoDig T n 5 (dg T n (p + 1)) := fun h => .inr (dg_not T n (p + 1) h)
            clear hmv H4
            go_wp2_with (go_at_call 32; refine HDp.mono ?_; rintro e w' ⟨rfl, rfl⟩)
            go_meet
            exact ⟨dg T n (p + 1), 5, rfl, rfl, hle, .inr (.inr rfl), H, HN, fun _ => .inl rfl⟩
        · have HN : NoDot T n s p := fun h => .inr (fun e => hdot ⟨h, e⟩)
          have hs3 : s = 2 ∨ s = 3 ∨ s = 5 := by omega
          have hw : ¬ p < n ∨ (p < n ∧ T p ≠ 46) := by omega
          clear hdot
          rcases hw with hlt | ⟨hlt, h46⟩
          · have hd : decide ((p : Int) < (n : Int)) = false := decide_eq_false (by omega)
            go_wp2_with fail
            go_meet
            exact ⟨p, s, rfl, rfl, hp, hs3, H1, H2, HN⟩
          · have hcp := HT.out p hlt
            have b1 : (T p == 46) = false := by simp [h46]
            clear h46
            go_wp2_with fail
            go_meet
            exact ⟨p, s, rfl, rfl, hp, hs3, H1, H2, HN⟩
      case rest =>
        clear H1 H2 hs hp
        clear s p
        obtain ⟨p, s, rfl, rfl, hp, hs, H1, H2, H3⟩ := hcut
        by_cases he : p < n ∧ (T p = 101 ∨ T p = 69)
        · obtain ⟨hlt, hch⟩ := he
          have hcp := HT.out p hlt
          have H6 : Hid (R = nm T n 6 (p + 1)) := by show _ = _; rw [H1.out]; exact nm_e T n s p hs hlt hch
          clear H1 H2 H3 hs
          have hb1 : ((T p == 101) = true) ∨ ((T p == 101) = false ∧ (T p == 69) = true) := by
            rcases hch with h | h <;> simp [h]
          clear hch
          -- the digits from q on decide
          have fin : ∀ (q t : Nat), q ≤ n → (t = 6 ∨ t = 7) → R = nm T n t q → (t = 6 → q < n → T q ≠ 43 ∧ T q ≠ 45) →
              (dg T n q = q ∧ R = none) ∨ (((dg T n q : Nat) : Int) == (q : Int)) = false ∧ R = some (dg T n q) := fun q t hq ht hR h6 => by
            by_cases hm : dg T n q = q
            · exact .inl ⟨hm, by rw [hR]; exact nm_exp_no T n t q ht hm h6⟩
            · exact .inr ⟨by simp; omega, by rw [hR]; exact nm_exp_yes T n t q ht hq hm⟩
          have FIN : Hid _ := fin
          clear fin
          by_cases hsg : p + 1 < n ∧ (T (p + 1) = 43 ∨ T (p + 1) = 45)
          · obtain ⟨hlt1, hch⟩ := hsg
            have hc1 := HT.out (p + 1) hlt1
            have hf := FIN.out (p + 2) 7 (by omega) (.inr rfl) (by rw [H6.out]; exact nm_sgn T n (p + 1) hlt1 hch) (fun h => absurd h (by decide))
            have hb2 : ((T (p + 1) == 43) = true) ∨ ((T (p + 1) == 43) = false ∧ (T (p + 1) == 45) = true) := by
              rcases hch with h | h <;> simp [h]
            have HDp := HD.out (p + 2) (by omega)
            rw [show ((p + 2 : Nat) : Int) = (p : Int) + 1 + 1 by omega] at HDp
            clear hch FIN H6
            rcases hf with ⟨hm, hR⟩ | ⟨hm, hR⟩
            · rw [hm, show ((p + 2 : Nat) : Int) = (p : Int) + 1 + 1 by omega] at HDp
              have H : Hid (R = none) := hR
              clear hm hR
              rcases hb1 with x1 | ⟨x1, x2⟩ <;> rcases hb2 with y1 | ⟨y1, y2⟩
              all_goals
                go_wp2_with (go_at_call 32; refine HDp.mono ?_; rintro e w' ⟨rfl, rfl⟩)
                go_ret2
                exact numNo H.out HB.out
            · rw [show ((p + 2 : Nat) : Int) = (p : Int) + 1 + 1 by omega] at hm
              have H : Hid (R = some (dg T n (p + 2))) := hR
              clear hR
              rcases hb1 with x1 | ⟨x1, x2⟩ <;> rcases hb2 with y1 | ⟨y1, y2⟩
              all_goals
                go_wp2_with (go_at_call 32; refine HDp.mono ?_; rintro e w' ⟨rfl, rfl⟩)
                go_ret2
                exact numYes H.out HB.out
          · have hf := FIN.out (p + 1) 6 (by omega) (.inl rfl) H6.out (fun _ h => ⟨fun e => hsg ⟨h, .inl e⟩, fun e => hsg ⟨h, .inr e⟩⟩)
            have hb2 : (¬ p + 1 < n) ∨ (p + 1 < n ∧ (T (p + 1) == 43) = false ∧ (T (p + 1) == 45) = false ∧ w.cell? ⟨b, p + 1, none⟩ = some (.int .u8 (T (p + 1)))) := by
              rcases Nat.lt_or_ge (p + 1) n with h | h
              · exact .inr ⟨h, by simpa using fun e => hsg ⟨h, .inl e⟩, by simpa using fun e => hsg ⟨h, .inr e⟩, HT.out (p + 1) h⟩
              · exact .inl (by omega)
            have HDp := HD.out (p + 1) (by omega)
            rw [show ((p + 1 : Nat) : Int) = (p : Int) + 1 by omega] at HDp
            clear hsg FIN H6
            rcases hf with ⟨hm, hR⟩ | ⟨hm, hR⟩
            · rw [hm, show ((p + 1 : Nat) : Int) = (p : Int) + 1 by omega] at HDp
              have H : Hid (R = none) := hR
              clear hm hR
              rcases hb1 with x1 | ⟨x1, x2⟩ <;> rcases hb2 with y1 | ⟨y1, y2, y3, y4⟩
              all_goals
                go_wp2_with (go_at_call 32; refine HDp.mono ?_; rintro e w' ⟨rfl, rfl⟩)
                go_ret2
                exact numNo H.out HB.out
            · rw [show ((p + 1 : Nat) : Int) = (p : Int) + 1 by omega] at hm
              have H : Hid (R = some (dg T n (p + 1))) := hR
              clear hR
              rcases hb1 with x1 | ⟨x1, x2⟩ <;> rcases hb2 with y1 | ⟨y1, y2, y3, y4⟩
              all_goals
                go_wp2_with (go_at_call 32; refine HDp.mono ?_; rintro e w' ⟨rfl, rfl⟩)
                go_ret2
                exact numYes H.out HB.out
        · have H : Hid (R = some p) := by show _ = _; rw [H1.out]; exact nm_fin T n s p hs hp H2 H3 (fun h => ⟨fun e => he ⟨h, .inl e⟩, fun e => he ⟨h, .inr e⟩⟩)
          have hw : ¬ p < n ∨ (p < n ∧ T p ≠ 101 ∧ T p ≠ 69) := by omega
          clear he H1 H2 H3
          rcases hw with hlt | ⟨hlt, h1, h2⟩
          · have hd : decide ((p : Int) < (n : Int)) = false := decide_eq_false (by omega)
            go_wp2_with fail
            go_ret2
            exact numYes H.out HB.out
          · have hcp := HT.out p hlt
            have b1 : (T p == 101) = false := by simp [h1]
            have b2 : (T p == 69) = false := by simp [h2]
            clear h1 h2
            go_wp2_with fail
            go_ret2
            exact numYes H.out HB.out
end Go.Proofs.Qxb6605207a
