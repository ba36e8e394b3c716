/-
  Seat b6605223a. WALKS: slices.siftDownOrdered[uint64] (42), slices.heapSortOrdered[uint64] (32).
-/
import Derived.Test.Qxb6605223aS1
set_option linter.unusedVariables false
set_option linter.unusedSimpArgs false
namespace Go.Proofs.Qxb6605223a
open Go.RowKit

def Kid (r c : Nat) : Prop := c = 2 * r + 1 ∨ c = 2 * r + 2
/-- A heap from l on, of size hi, laid from f on. -/
def Hp (D : Nat → Int) (f l hi : Nat) : Prop := ∀ r c, l ≤ r → c < hi → Kid r c → D (f + c) ≤ D (f + r)
/-- A heap but for what hangs below 'root'. -/
def HpR (D : Nat → Int) (f lo hi root : Nat) : Prop :=
  (∀ r c, lo ≤ r → c < hi → Kid r c → r ≠ root → D (f + c) ≤ D (f + r)) ∧ (∀ p c, lo ≤ p → Kid p root → c < hi → Kid root c → D (f + c) ≤ D (f + p))

theorem HpR.start {D : Nat → Int} {f lo hi : Nat} (h : Hp D f (lo + 1) hi) : HpR D f lo hi lo :=
  ⟨fun r c h1 h2 h3 h4 => h r c (by omega) h2 h3, fun p c h1 h2 h3 h4 => by unfold Kid at h2; omega⟩
theorem HpR.stop {D : Nat → Int} {f lo hi root : Nat} (h : HpR D f lo hi root) (hr : ∀ c, c < hi → Kid root c → D (f + c) ≤ D (f + root)) : Hp D f lo hi := fun r c h1 h2 h3 => by
  by_cases e : r = root
  · subst e; exact hr c h2 h3
  · exact h.1 r c h1 h2 h3 e
theorem HpR.step {D : Nat → Int} {f lo hi root ch : Nat} (h : HpR D f lo hi root) (hlo : lo ≤ root) (hch : ch < hi) (hk : Kid root ch) (hmax : ∀ c, c < hi → Kid root c → D (f + c) ≤ D (f + ch)) (hlt : D (f + root) < D (f + ch)) :
    HpR (swp D (f + root) (f + ch)) f lo hi ch := by
  have hne : root < ch := by unfold Kid at hk; omega
  refine ⟨fun r c h1 h2 h3 h4 => ?_, fun p c h1 h2 h3 h4 => ?_⟩
  · have hrc : r < c := by unfold Kid at h3; omega
    by_cases er : r = root
    · subst er
      rw [swp_l]
      by_cases ec : c = ch
      · subst ec; rw [swp_r]; omega
      · rw [swp_o D _ _ _ (by omega) (by omega)]
        exact hmax c h2 h3
    · rw [swp_o D _ _ (f + r) (by omega) (by omega)]
      by_cases ec : c = root
      · subst ec
        rw [swp_l]
        exact h.2 r ch h1 h3 hch hk
      · have ec2 : c ≠ ch := by unfold Kid at h3 hk; omega
        rw [swp_o D _ _ (f + c) (by omega) (by omega)]
        exact h.1 r c h1 h2 h3 er
  · have hp : p = root := by unfold Kid at h2 hk; omega
    subst hp
    have hcc : ch < c := by unfold Kid at h4; omega
    rw [swp_l, swp_o D _ _ (f + c) (by omega) (by omega)]
    exact h.1 ch c (by omega) h3 h4 (by omega)

set_option maxRecDepth 100000 in
set_option maxHeartbeats 1000000 in
theorem sift_any (g n c cp lo hi f : Nat) (D : Nat → Int) (w : World) (h : Rw w g n c D) (hn : n ≤ 1048576) (hfn : f + hi ≤ n) (hlo : lo ≤ hi) (hH : Hp D f (lo + 1) hi) :
    Calls Try.prog 42 #[.slice (some ⟨g, 0, none⟩) n cp, .int .i64 lo, .int .i64 hi, .int .i64 f] w (SPost g n c D f (f + hi) (fun D' => Hp D' f lo hi) (.tuple #[]) w) := by
  have HD : Hid (Rw w g n c D) := h
  have HH : Hid (Hp D f (lo + 1) hi) := hH
  clear h hH
  go_enter Try.func42, Try.ntmps42
  go_wp2_with fail
  go_loopw [8] (fun vr wr => ∃ (r : Nat) (D' : Nat → Int), vr = .int .i64 r ∧ lo ≤ r ∧ r ≤ hi ∧ Hid (Rw wr g n c D') ∧ Hid (Same D D' f (f + hi)) ∧ Hid (HpR D' f lo hi r) ∧ Hid (Fr g w wr)) (fun vr _ => hi - (intOf vr).toNat)
  case atStart => exact ⟨lo, D, rfl, by omega, by omega, HD, Same.refl _ _ _, HpR.start HH.out, Fr.refl _ _⟩
  case round =>
    clear HD HH
    obtain ⟨r, D1, rfl, hlr, hrh, HR, HS, HO, HF⟩ := hrel
    by_cases hch : 2 * r + 1 < hi
    · have hcr := HR.out.cell (f + r) (by omega)
      have hfr := HR.out.frozen (f + r)
      have hc1 := HR.out.cell (f + (2 * r + 1)) (by omega)
      have hf1 := HR.out.frozen (f + (2 * r + 1))
      have k1 : Kid r (2 * r + 1) := .inl rfl
      by_cases hch2 : 2 * r + 1 + 1 < hi
      · have hc2 := HR.out.cell (f + (2 * r + 2)) (by omega)
        have hf2 := HR.out.frozen (f + (2 * r + 2))
        rw [show f + (2 * r + 2) = f + (2 * r + 1) + 1 by omega] at hc2 hf2
        have hc3 := HR.out.cell (f + (2 * r + 1 + 1)) (by omega)
        have hf3 := HR.out.frozen (f + (2 * r + 1 + 1))
        have d1 : decide (2 * (r : Int) + 1 + 1 < (hi : Int)) = true := decide_eq_true (by omega)
        have d2 : decide (2 * r + 1 + 1 < hi) = true := decide_eq_true (by omega)
        by_cases hl2 : D1 (f + (2 * r + 1)) < D1 (f + (2 * r + 1) + 1)
        · have cl := less_t hl2
          have HM : Hid (∀ c, c < hi → Kid r c → D1 (f + c) ≤ D1 (f + (2 * r + 1 + 1))) := fun c h1 h2 => by
            rw [show f + (2 * r + 1 + 1) = f + (2 * r + 1) + 1 by omega]
            rcases h2 with rfl | rfl
            · omega
            · rw [show f + (2 * r + 2) = f + (2 * r + 1) + 1 by omega]; omega
          clear hl2
          by_cases hls : D1 (f + r) < D1 (f + (2 * r + 1 + 1))
          · have cl2 := less_t hls
            have HO' : Hid (HpR (swp D1 (f + r) (f + (2 * r + 1 + 1))) f lo hi (2 * r + 1 + 1)) := HpR.step HO.out hlr (by omega) (.inr (by omega)) HM.out hls
            have HS' : Hid (Same D (swp D1 (f + r) (f + (2 * r + 1 + 1))) f (f + hi)) := HS.out.trans (Same.swap D1 (f + r) (f + (2 * r + 1 + 1)) (by omega) (by omega) (by omega) (by omega))
            clear hls HO HS HM
            go_wp2_with fail
            go_big_quiet (first | (go_at_call 37; exact Calls.quiet_of_same (cl _)) | fail)
            obtain ⟨w2, hw2⟩ : ∃ x, x = wr.drewN nq := ⟨_, rfl⟩
            rw [← hw2]
            have HR2 : Hid (Rw w2 g n c D1) := by show Rw ..; rw [hw2]; exact HR.out
            have HF2 : Hid (Fr g w w2) := by show Fr ..; rw [hw2]; exact HF.out.drewN _
            have er := HR2.out.cell (f + r) (by omega)
            have ef := HR2.out.frozen (f + r)
            have ec := HR2.out.cell (f + (2 * r + 1 + 1)) (by omega)
            have eg := HR2.out.frozen (f + (2 * r + 1 + 1))
            clear hw2 HR HF hcr hfr hc1 hf1 d1 d2
            go_wp2_with fail
            go_big_quiet (first | (go_at_call 37; exact Calls.quiet_of_same (cl2 _)) | fail)
            go_wp2_with fail
            go_big_region
            all_goals
              go_wp2_with fail
              go_roundw
              case rel => exact ⟨(2 * r + 1 + 1), swp D1 (f + r) (f + (2 * r + 1 + 1)), by go_num, by omega, by omega, (HR2.out.drewN _).swap (f + r) (f + (2 * r + 1 + 1)) (by omega) (by omega), HS', HO', ((HF2.out.drewN _).set _ _ _).set _ _ _⟩
              case measure => simp [intOf]; omega
          · have cl2 := less_f hls
            have HF' : Hid (Hp D1 f lo hi) := HpR.stop HO.out (fun c h1 h2 => by have := HM.out c h1 h2; omega)
            clear hls HO HM
            go_wp2_with fail
            go_big_quiet (first | (go_at_call 37; exact Calls.quiet_of_same (cl _)) | fail)
            obtain ⟨w2, hw2⟩ : ∃ x, x = wr.drewN nq := ⟨_, rfl⟩
            rw [← hw2]
            have HR2 : Hid (Rw w2 g n c D1) := by show Rw ..; rw [hw2]; exact HR.out
            have HF2 : Hid (Fr g w w2) := by show Fr ..; rw [hw2]; exact HF.out.drewN _
            have er := HR2.out.cell (f + r) (by omega)
            have ef := HR2.out.frozen (f + r)
            have ec := HR2.out.cell (f + (2 * r + 1 + 1)) (by omega)
            have eg := HR2.out.frozen (f + (2 * r + 1 + 1))
            clear hw2 HR HF hcr hfr hc1 hf1 d1 d2
            go_wp2_with fail
            go_big_quiet (first | (go_at_call 37; exact Calls.quiet_of_same (cl2 _)) | fail)
            go_wp2_with fail
            go_end0
            exact ⟨rfl, HF2.out.drewN _, D1, HR2.out, HS.out, HF'.out⟩
        · have cl := less_f hl2
          have HM : Hid (∀ c, c < hi → Kid r c → D1 (f + c) ≤ D1 (f + (2 * r + 1))) := fun c h1 h2 => by
            rcases h2 with rfl | rfl
            · omega
            · rw [show f + (2 * r + 2) = f + (2 * r + 1) + 1 by omega]; omega
          clear hl2
          by_cases hls : D1 (f + r) < D1 (f + (2 * r + 1))
          · have cl2 := less_t hls
            have HO' : Hid (HpR (swp D1 (f + r) (f + (2 * r + 1))) f lo hi (2 * r + 1)) := HpR.step HO.out hlr (by omega) (.inl rfl) HM.out hls
            have HS' : Hid (Same D (swp D1 (f + r) (f + (2 * r + 1))) f (f + hi)) := HS.out.trans (Same.swap D1 (f + r) (f + (2 * r + 1)) (by omega) (by omega) (by omega) (by omega))
            clear hls HO HS HM
            go_wp2_with fail
            go_big_quiet (first | (go_at_call 37; exact Calls.quiet_of_same (cl _)) | fail)
            obtain ⟨w2, hw2⟩ : ∃ x, x = wr.drewN nq := ⟨_, rfl⟩
            rw [← hw2]
            have HR2 : Hid (Rw w2 g n c D1) := by show Rw ..; rw [hw2]; exact HR.out
            have HF2 : Hid (Fr g w w2) := by show Fr ..; rw [hw2]; exact HF.out.drewN _
            have er := HR2.out.cell (f + r) (by omega)
            have ef := HR2.out.frozen (f + r)
            have ec := HR2.out.cell (f + (2 * r + 1)) (by omega)
            have eg := HR2.out.frozen (f + (2 * r + 1))
            clear hw2 HR HF hcr hfr hc1 hf1 d1 d2
            go_wp2_with fail
            go_big_quiet (first | (go_at_call 37; exact Calls.quiet_of_same (cl2 _)) | fail)
            go_wp2_with fail
            go_big_region
            all_goals
              go_wp2_with fail
              go_roundw
              case rel => exact ⟨(2 * r + 1), swp D1 (f + r) (f + (2 * r + 1)), by go_num, by omega, by omega, (HR2.out.drewN _).swap (f + r) (f + (2 * r + 1)) (by omega) (by omega), HS', HO', ((HF2.out.drewN _).set _ _ _).set _ _ _⟩
              case measure => simp [intOf]; omega
          · have cl2 := less_f hls
            have HF' : Hid (Hp D1 f lo hi) := HpR.stop HO.out (fun c h1 h2 => by have := HM.out c h1 h2; omega)
            clear hls HO HM
            go_wp2_with fail
            go_big_quiet (first | (go_at_call 37; exact Calls.quiet_of_same (cl _)) | fail)
            obtain ⟨w2, hw2⟩ : ∃ x, x = wr.drewN nq := ⟨_, rfl⟩
            rw [← hw2]
            have HR2 : Hid (Rw w2 g n c D1) := by show Rw ..; rw [hw2]; exact HR.out
            have HF2 : Hid (Fr g w w2) := by show Fr ..; rw [hw2]; exact HF.out.drewN _
            have er := HR2.out.cell (f + r) (by omega)
            have ef := HR2.out.frozen (f + r)
            have ec := HR2.out.cell (f + (2 * r + 1)) (by omega)
            have eg := HR2.out.frozen (f + (2 * r + 1))
            clear hw2 HR HF hcr hfr hc1 hf1 d1 d2
            go_wp2_with fail
            go_big_quiet (first | (go_at_call 37; exact Calls.quiet_of_same (cl2 _)) | fail)
            go_wp2_with fail
            go_end0
            exact ⟨rfl, HF2.out.drewN _, D1, HR2.out, HS.out, HF'.out⟩
      · have d1 : decide (2 * (r : Int) + 1 + 1 < (hi : Int)) = false := decide_eq_false (by omega)
        have d2 : decide (2 * r + 1 + 1 < hi) = false := decide_eq_false (by omega)
        have HM : Hid (∀ c, c < hi → Kid r c → D1 (f + c) ≤ D1 (f + (2 * r + 1))) := fun c h1 h2 => by
          rcases h2 with rfl | rfl
          · omega
          · omega
        by_cases hls : D1 (f + r) < D1 (f + (2 * r + 1))
        · have cl2 := less_t hls
          have HO' : Hid (HpR (swp D1 (f + r) (f + (2 * r + 1))) f lo hi (2 * r + 1)) := HpR.step HO.out hlr (by omega) (.inl rfl) HM.out hls
          have HS' : Hid (Same D (swp D1 (f + r) (f + (2 * r + 1))) f (f + hi)) := HS.out.trans (Same.swap D1 (f + r) (f + (2 * r + 1)) (by omega) (by omega) (by omega) (by omega))
          clear hls HO HS HM
          go_wp2_with fail
          go_big_quiet (fail)
          obtain ⟨w2, hw2⟩ : ∃ x, x = wr.drewN nq := ⟨_, rfl⟩
          rw [← hw2]
          have HR2 : Hid (Rw w2 g n c D1) := by show Rw ..; rw [hw2]; exact HR.out
          have HF2 : Hid (Fr g w w2) := by show Fr ..; rw [hw2]; exact HF.out.drewN _
          have er := HR2.out.cell (f + r) (by omega)
          have ef := HR2.out.frozen (f + r)
          have ec := HR2.out.cell (f + (2 * r + 1)) (by omega)
          have eg := HR2.out.frozen (f + (2 * r + 1))
          clear hw2 HR HF hcr hfr hc1 hf1 d1 d2
          go_wp2_with fail
          go_big_quiet (first | (go_at_call 37; exact Calls.quiet_of_same (cl2 _)) | fail)
          go_wp2_with fail
          go_big_region
          all_goals
            go_wp2_with fail
            go_roundw
            case rel => exact ⟨(2 * r + 1), swp D1 (f + r) (f + (2 * r + 1)), by go_num, by omega, by omega, (HR2.out.drewN _).swap (f + r) (f + (2 * r + 1)) (by omega) (by omega), HS', HO', ((HF2.out.drewN _).set _ _ _).set _ _ _⟩
            case measure => simp [intOf]; omega
        · have cl2 := less_f hls
          have HF' : Hid (Hp D1 f lo hi) := HpR.stop HO.out (fun c h1 h2 => by have := HM.out c h1 h2; omega)
          clear hls HO HM
          go_wp2_with fail
          go_big_quiet (fail)
          obtain ⟨w2, hw2⟩ : ∃ x, x = wr.drewN nq := ⟨_, rfl⟩
          rw [← hw2]
          have HR2 : Hid (Rw w2 g n c D1) := by show Rw ..; rw [hw2]; exact HR.out
          have HF2 : Hid (Fr g w w2) := by show Fr ..; rw [hw2]; exact HF.out.drewN _
          have er := HR2.out.cell (f + r) (by omega)
          have ef := HR2.out.frozen (f + r)
          have ec := HR2.out.cell (f + (2 * r + 1)) (by omega)
          have eg := HR2.out.frozen (f + (2 * r + 1))
          clear hw2 HR HF hcr hfr hc1 hf1 d1 d2
          go_wp2_with fail
          go_big_quiet (first | (go_at_call 37; exact Calls.quiet_of_same (cl2 _)) | fail)
          go_wp2_with fail
          go_end0
          exact ⟨rfl, HF2.out.drewN _, D1, HR2.out, HS.out, HF'.out⟩
    · have HF' : Hid (Hp D1 f lo hi) := HpR.stop HO.out (fun c h1 h2 => by unfold Kid at h2; omega)
      clear HO
      go_wp2_with fail
      go_end0
      exact ⟨rfl, HF.out, D1, HR.out, HS.out, HF'.out⟩
end Go.Proofs.Qxb6605223a
