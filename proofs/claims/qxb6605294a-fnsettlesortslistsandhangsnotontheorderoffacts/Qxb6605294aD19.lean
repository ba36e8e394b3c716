/-
  Seat b6605294a. THE LAW FnSettleSortsListsAndHangsNotOnTheOrderOfFacts (4), WALKED.
-/
import Derived.Test.Qxb6605294aD18
set_option linter.unusedVariables false
set_option linter.unusedSimpArgs false
namespace Go.Proofs.Qxb6605294a
open Go.RowKit

set_option maxRecDepth 100000 in
set_option maxHeartbeats 40000000 in
theorem law4 (a b1 b2 b3 b4 : Option Addr) (n P1 P2 P3 P4 c c1 c2 c3 c4 : Nat) (PE : Nat → Int) (A1 A2 A3 A4 : Nat → Option Addr) (L1 L2 L3 L4 C1 C2 C3 C4 : Nat → Nat) (Z1 Z2 Z3 Z4 : Nat → Nat → Int) (w : World)
    (m0 : n ≤ 9223372036854775807) (m1 : P1 ≤ 9223372036854775807) (m2 : P2 ≤ 9223372036854775807) (m3 : P3 ≤ 9223372036854775807) (m4 : P4 ≤ 9223372036854775807) (l1 : ∀ q, q < P1 → L1 q ≤ 9223372036854775807) (l2 : ∀ q, q < P2 → L2 q ≤ 9223372036854775807) (l3 : ∀ q, q < P3 → L3 q ≤ 9223372036854775807) (l4 : ∀ q, q < P4 → L4 q ≤ 9223372036854775807)
    (h0 : RdI .i64 w a n PE) (h1 : RdL w b1 P1 A1 L1 C1 Z1) (h2 : RdL w b2 P2 A2 L2 C2 Z2) (h3 : RdL w b3 P3 A3 L3 C3 Z3) (h4 : RdL w b4 P4 A4 L4 C4 Z4) :
    Calls Try.prog 4 #[.slice a n c, .slice b1 P1 c1, .slice b2 P2 c2, .slice b3 P3 c3, .slice b4 P4 c4] w fun e w' => e = .returned (.bool true) ∧ Below w.heap.size w w' := by
  have K22 := hide (bytes22_any a b1 b2 b3 b4 n P1 P2 P3 P4 c c1 c2 c3 c4 A1 A2 A3 A4 L1 L2 L3 L4 C1 C2 C3 C4 Z1 Z2 Z3 Z4 w m0 m1 m2 m3 m4 l1 l2 l3 l4 h1 h2 h3 h4)
  have H0 := hide h0
  have H1 := hide h1
  have H2 := hide h2
  have H3 := hide h3
  have H4 := hide h4
  clear h0 h1 h2 h3 h4 l1 l2 l3 l4
  go_enter Try.func4, Try.ntmps4
  go_wp2_with fail
  refine Calls.mono K22.out ?_
  rintro e w1 ⟨f1, rfl, hf1, hb1⟩
  have HB := hide hb1
  cases f1 with
  | false =>
    go_wp2_with fail
    go_ret
    exact ⟨rfl, HB.out⟩
  | true =>
    obtain ⟨m0', m1', m2', m3', m4', l1, l2, l3, l4⟩ := hf1 rfl
    have HL := hide (And.intro l1 (And.intro l2 (And.intro l3 l4)))
    clear hf1 hb1 K22 l1 l2 l3 l4
    have K8 := hide (family_any a b1 b2 b3 b4 n P1 P2 P3 P4 c c1 c2 c3 c4 A1 A2 A3 A4 L1 L2 L3 L4 C1 C2 C3 C4 Z1 Z2 Z3 Z4 w1 m0' m1' m2' m3' m4' HL.out.1 HL.out.2.1 HL.out.2.2.1 HL.out.2.2.2 (H1.out.below HB.out) (H2.out.below HB.out) (H3.out.below HB.out) (H4.out.below HB.out))
    go_wp2_with fail
    refine Calls.mono K8.out ?_
    rintro e w2 ⟨⟨t, rfl, ht⟩, hw⟩
    obtain rfl := hw.symm
    clear K8
    by_cases hbig : 1048576 < t
    · have e0 : decide ((1048576 : Int) < (t : Int)) = true := decide_eq_true (by omega)
      go_wp2_with fail
      go_ret
      exact ⟨rfl, HB.out⟩
    · have e0 : decide ((1048576 : Int) < (t : Int)) = false := decide_eq_false (by omega)
      have K9 : Hid (Calls Try.prog 9 #[.slice a n c, .slice b1 P1 c1, .slice b2 P2 c2, .slice b3 P3 c3, .slice b4 P4 c4] w1 (WfPost n P1 P2 P3 P4 PE (pick4 L1 L2 L3 L4) (pick4 Z1 Z2 Z3 Z4) w1)) := by
        by_cases hP : P1 = n ∧ P2 = n ∧ P3 = n ∧ P4 = n
        · obtain ⟨rfl, rfl, rfl, rfl⟩ := hP
          exact wf_main a b1 b2 b3 b4 _ c c1 c2 c3 c4 PE A1 A2 A3 A4 L1 L2 L3 L4 C1 C2 C3 C4 Z1 Z2 Z3 Z4 w1 m0' HL.out.1 HL.out.2.1 HL.out.2.2.1 HL.out.2.2.2 (H0.out.below HB.out) (H1.out.below HB.out) (H2.out.below HB.out) (H3.out.below HB.out) (H4.out.below HB.out)
        · exact wf_lens a b1 b2 b3 b4 n P1 P2 P3 P4 c c1 c2 c3 c4 PE _ _ w1 hP
      go_wp2_with fail
      refine Calls.mono K9.out ?_
      rintro e w3 ⟨f3, rfl, hf3, hb3⟩
      have HB := hide (bl_trans HB.out hb3)
      clear hb3 K9
      cases f3 with
      | false =>
        go_wp2_with fail
        go_ret
        exact ⟨rfl, HB.out⟩
      | true =>
        as_aux_lemma =>
          obtain ⟨⟨hp1, hp2, hp3, hp4⟩, hwf⟩ := hf3 rfl
          obtain ⟨kl, PS, hinp⟩ := Inp.make m0' (fun k j hk hj => by
            have : k = 0 ∨ k = 1 ∨ k = 2 ∨ k = 3 := by omega
            rcases this with rfl | rfl | rfl | rfl
            · exact HL.out.1 j (by omega)
            · exact HL.out.2.1 j (by omega)
            · exact HL.out.2.2.1 j (by omega)
            · exact HL.out.2.2.2 j (by omega)) hwf
          have HI := hide hinp
          have HJ := hide hinp.rev
          clear hinp hwf hf3
          rw [hp1] at H1
          rw [hp2] at H2
          rw [hp3] at H3
          rw [hp4] at H4
          have HL1 : Hid (∀ q, q < n → L1 q ≤ 1048576) := fun q hq => HL.out.1 q (by omega)
          have HL2 : Hid (∀ q, q < n → L2 q ≤ 1048576) := fun q hq => HL.out.2.1 q (by omega)
          have HL3 : Hid (∀ q, q < n → L3 q ≤ 1048576) := fun q hq => HL.out.2.2.1 q (by omega)
          have HL4 : Hid (∀ q, q < n → L4 q ≤ 1048576) := fun q hq => HL.out.2.2.2 q (by omega)
          have hp1' := hp1
          have hp2' := hp2
          have hp3' := hp3
          have hp4' := hp4
          clear hp1 hp2 hp3 hp4
          have hz0 := HB.out.size
          go_wp2_with fail
          refine Calls.mono (copyInts_own a n c PE w3 m0' (H0.out.below HB.out)) ?_
          rintro e wa0 ⟨hb, A0, rfl, hc⟩
          have hzwa0 := hb.size
          have HB := hide (bl_trans HB.out hb)
          clear hb
          have X0 := hide hc.rdI
          clear hc
          go_wp2_with fail
          refine Calls.mono (copyLists_own b1 n c1 A1 L1 C1 Z1 wa0 m0' HL1.out (H1.out.below HB.out)) ?_
          rintro e wa1 hp
          obtain ⟨BA1, AA1, rfl, ho, hb⟩ := Ow.of hp
          clear hp
          have hzwa1 := hb.size
          have HB := hide (bl_trans HB.out hb)
          have X0 := hide (X0.out.below hb)
          clear hb
          have X1 := hide ho
          clear ho
          go_wp2_with fail
          refine Calls.mono (copyLists_own b2 n c2 A2 L2 C2 Z2 wa1 m0' HL2.out (H2.out.below HB.out)) ?_
          rintro e wa2 hp
          obtain ⟨BA2, AA2, rfl, ho, hb⟩ := Ow.of hp
          clear hp
          have hzwa2 := hb.size
          have HB := hide (bl_trans HB.out hb)
          have X0 := hide (X0.out.below hb)
          have X1 := hide (X1.out.below hb)
          clear hb
          have X2 := hide ho
          clear ho
          go_wp2_with fail
          refine Calls.mono (copyLists_own b3 n c3 A3 L3 C3 Z3 wa2 m0' HL3.out (H3.out.below HB.out)) ?_
          rintro e wa3 hp
          obtain ⟨BA3, AA3, rfl, ho, hb⟩ := Ow.of hp
          clear hp
          have hzwa3 := hb.size
          have HB := hide (bl_trans HB.out hb)
          have X0 := hide (X0.out.below hb)
          have X1 := hide (X1.out.below hb)
          have X2 := hide (X2.out.below hb)
          clear hb
          have X3 := hide ho
          clear ho
          go_wp2_with fail
          refine Calls.mono (copyLists_own b4 n c4 A4 L4 C4 Z4 wa3 m0' HL4.out (H4.out.below HB.out)) ?_
          rintro e wa4 hp
          obtain ⟨BA4, AA4, rfl, ho, hb⟩ := Ow.of hp
          clear hp
          have hzwa4 := hb.size
          have HB := hide (bl_trans HB.out hb)
          have X0 := hide (X0.out.below hb)
          have X1 := hide (X1.out.below hb)
          have X2 := hide (X2.out.below hb)
          have X3 := hide (X3.out.below hb)
          clear hb
          have X4 := hide ho
          clear ho
          have HX : Hid (Below wa4.heap.size wa4 wa4) := Below.refl _ _
          go_wp2_with fail
          refine Calls.mono (copyInts_own A0 n n PE wa4 m0' (X0.out.below HX.out)) ?_
          rintro e wf0 ⟨hb, F0, rfl, hc⟩
          have hzwf0 := hb.size
          have HB := hide (bl_trans HB.out hb)
          have HX := hide (bl_trans HX.out hb)
          clear hb
          have Y0 := hide hc.rdI
          clear hc
          go_wp2_with fail
          refine Calls.mono (copyLists_own BA1 n n AA1 L1 L1 Z1 wf0 m0' HL1.out (X1.out.rd.below HX.out)) ?_
          rintro e wf1 hp
          obtain ⟨BF1, AF1, rfl, ho, hb⟩ := Ow.of hp
          clear hp
          have hzwf1 := hb.size
          have HB := hide (bl_trans HB.out hb)
          have HX := hide (bl_trans HX.out hb)
          have Y0 := hide (Y0.out.below hb)
          clear hb
          have Y1 := hide ho
          clear ho
          go_wp2_with fail
          refine Calls.mono (copyLists_own BA2 n n AA2 L2 L2 Z2 wf1 m0' HL2.out (X2.out.rd.below HX.out)) ?_
          rintro e wf2 hp
          obtain ⟨BF2, AF2, rfl, ho, hb⟩ := Ow.of hp
          clear hp
          have hzwf2 := hb.size
          have HB := hide (bl_trans HB.out hb)
          have HX := hide (bl_trans HX.out hb)
          have Y0 := hide (Y0.out.below hb)
          have Y1 := hide (Y1.out.below hb)
          clear hb
          have Y2 := hide ho
          clear ho
          go_wp2_with fail
          refine Calls.mono (copyLists_own BA3 n n AA3 L3 L3 Z3 wf2 m0' HL3.out (X3.out.rd.below HX.out)) ?_
          rintro e wf3 hp
          obtain ⟨BF3, AF3, rfl, ho, hb⟩ := Ow.of hp
          clear hp
          have hzwf3 := hb.size
          have HB := hide (bl_trans HB.out hb)
          have HX := hide (bl_trans HX.out hb)
          have Y0 := hide (Y0.out.below hb)
          have Y1 := hide (Y1.out.below hb)
          have Y2 := hide (Y2.out.below hb)
          clear hb
          have Y3 := hide ho
          clear ho
          go_wp2_with fail
          refine Calls.mono (copyLists_own BA4 n n AA4 L4 L4 Z4 wf3 m0' HL4.out (X4.out.rd.below HX.out)) ?_
          rintro e wf4 hp
          obtain ⟨BF4, AF4, rfl, ho, hb⟩ := Ow.of hp
          clear hp
          have hzwf4 := hb.size
          have HB := hide (bl_trans HB.out hb)
          have HX := hide (bl_trans HX.out hb)
          have Y0 := hide (Y0.out.below hb)
          have Y1 := hide (Y1.out.below hb)
          have Y2 := hide (Y2.out.below hb)
          have Y3 := hide (Y3.out.below hb)
          clear hb
          have Y4 := hide ho
          clear ho
          go_wp2_with fail
          refine Calls.mono (newFamily_any F0 BF1 BF2 BF3 BF4 n n n n n n PE AF1 AF2 AF3 AF4 L1 L2 L3 L4 L1 L2 L3 L4 Z1 Z2 Z3 Z4 wf4 m0' Y0.out Y1.out.rd Y2.out.rd Y3.out.rd Y4.out.rd HI.out.hinj) ?_
          rintro e wf5 hp
          obtain ⟨F, gM, f, gk, rfl, hr, hb⟩ := Rdy.make Y1.out Y2.out Y3.out Y4.out hzwf1 (Nat.le_refl _) hzwf2 (Nat.le_refl _) hzwf3 (Nat.le_refl _) hzwf4 (Nat.le_refl _) hp
          clear hp Y0 Y1 Y2 Y3 Y4
          have hzwf5 := hb.size
          have HB := hide (bl_trans HB.out hb)
          have HX := hide (bl_trans HX.out hb)
          clear hb
          have RF := hide hr
          clear hr
          go_wp2_with fail
          refine Calls.mono (revInts_own A0 n n PE wf5 m0' (X0.out.below HX.out)) ?_
          rintro e wg0 ⟨hb, G0, rfl, hc⟩
          have hzwg0 := hb.size
          have HB := hide (bl_trans HB.out hb)
          have HX := hide (bl_trans HX.out hb)
          have RF := hide (RF.out.keep (Ts.ofBelow hb (fun _ => False)) (fun _ h => h.elim))
          clear hb
          have Y0 := hide hc.rdI
          clear hc
          go_wp2_with fail
          refine Calls.mono (revLists_own BA1 n n AA1 L1 L1 Z1 wg0 m0' HL1.out (X1.out.rd.below HX.out)) ?_
          rintro e wg1 hp
          obtain ⟨BG1, AG1, rfl, ho, hb⟩ := Ow.of hp
          clear hp
          have hzwg1 := hb.size
          have HB := hide (bl_trans HB.out hb)
          have HX := hide (bl_trans HX.out hb)
          have RF := hide (RF.out.keep (Ts.ofBelow hb (fun _ => False)) (fun _ h => h.elim))
          have Y0 := hide (Y0.out.below hb)
          clear hb
          have Y1 := hide ho
          clear ho
          go_wp2_with fail
          refine Calls.mono (revLists_own BA2 n n AA2 L2 L2 Z2 wg1 m0' HL2.out (X2.out.rd.below HX.out)) ?_
          rintro e wg2 hp
          obtain ⟨BG2, AG2, rfl, ho, hb⟩ := Ow.of hp
          clear hp
          have hzwg2 := hb.size
          have HB := hide (bl_trans HB.out hb)
          have HX := hide (bl_trans HX.out hb)
          have RF := hide (RF.out.keep (Ts.ofBelow hb (fun _ => False)) (fun _ h => h.elim))
          have Y0 := hide (Y0.out.below hb)
          have Y1 := hide (Y1.out.below hb)
          clear hb
          have Y2 := hide ho
          clear ho
          go_wp2_with fail
          refine Calls.mono (revLists_own BA3 n n AA3 L3 L3 Z3 wg2 m0' HL3.out (X3.out.rd.below HX.out)) ?_
          rintro e wg3 hp
          obtain ⟨BG3, AG3, rfl, ho, hb⟩ := Ow.of hp
          clear hp
          have hzwg3 := hb.size
          have HB := hide (bl_trans HB.out hb)
          have HX := hide (bl_trans HX.out hb)
          have RF := hide (RF.out.keep (Ts.ofBelow hb (fun _ => False)) (fun _ h => h.elim))
          have Y0 := hide (Y0.out.below hb)
          have Y1 := hide (Y1.out.below hb)
          have Y2 := hide (Y2.out.below hb)
          clear hb
          have Y3 := hide ho
          clear ho
          go_wp2_with fail
          refine Calls.mono (revLists_own BA4 n n AA4 L4 L4 Z4 wg3 m0' HL4.out (X4.out.rd.below HX.out)) ?_
          rintro e wg4 hp
          obtain ⟨BG4, AG4, rfl, ho, hb⟩ := Ow.of hp
          clear hp
          have hzwg4 := hb.size
          have HB := hide (bl_trans HB.out hb)
          have HX := hide (bl_trans HX.out hb)
          have RF := hide (RF.out.keep (Ts.ofBelow hb (fun _ => False)) (fun _ h => h.elim))
          have Y0 := hide (Y0.out.below hb)
          have Y1 := hide (Y1.out.below hb)
          have Y2 := hide (Y2.out.below hb)
          have Y3 := hide (Y3.out.below hb)
          clear hb
          have Y4 := hide ho
          clear ho
          go_wp2_with fail
          refine Calls.mono (newFamily_any G0 BG1 BG2 BG3 BG4 n n n n n n (fun j => PE (n - 1 - j)) AG1 AG2 AG3 AG4 (fun j => L1 (n - 1 - j)) (fun j => L2 (n - 1 - j)) (fun j => L3 (n - 1 - j)) (fun j => L4 (n - 1 - j)) (fun j => L1 (n - 1 - j)) (fun j => L2 (n - 1 - j)) (fun j => L3 (n - 1 - j)) (fun j => L4 (n - 1 - j)) (fun j i => Z1 (n - 1 - j) (L1 (n - 1 - j) - 1 - i)) (fun j i => Z2 (n - 1 - j) (L2 (n - 1 - j) - 1 - i)) (fun j i => Z3 (n - 1 - j) (L3 (n - 1 - j) - 1 - i)) (fun j i => Z4 (n - 1 - j) (L4 (n - 1 - j) - 1 - i)) wg4 m0' Y0.out Y1.out.rd Y2.out.rd Y3.out.rd Y4.out.rd HJ.out.hinj) ?_
          rintro e wg5 hp
          obtain ⟨G, gM', f', gk', rfl, hr, hb⟩ := Rdy.make Y1.out Y2.out Y3.out Y4.out hzwg1 (Nat.le_refl _) hzwg2 (Nat.le_refl _) hzwg3 (Nat.le_refl _) hzwg4 (Nat.le_refl _) hp
          clear hp Y0 Y1 Y2 Y3 Y4
          have hzwg5 := hb.size
          have HB := hide (bl_trans HB.out hb)
          have HX := hide (bl_trans HX.out hb)
          have RF := hide (RF.out.keep (Ts.ofBelow hb (fun _ => False)) (fun _ h => h.elim))
          clear hb
          have RG := hide hr
          clear hr
          go_wp2_with fail
          refine Calls.mono (zzSettle_any RF.out kl PS HI.out.hn HI.out.hN HI.out.hkl HI.out.hrel HI.out.hinj HI.out.hPS HI.out.hPm) ?_
          rintro e ws1 ⟨rfl, gC, vo, hs, ht⟩
          have SF := hide hs
          have RG := hide (RG.out.keep ht (fun b hd => by omega))
          have HB := hide (Ts.toBelow HB.out ht (Nat.le_refl _) (fun b hd => by have := hz0; omega))
          have HX := hide (Ts.toBelow HX.out ht (Nat.le_refl _) (fun b hd => by omega))
          have hzs1 := ht.size
          clear hs ht RF
          go_wp2_with fail
          refine Calls.mono (zzSettle_any RG.out kl PS HJ.out.hn HJ.out.hN HJ.out.hkl HJ.out.hrel HJ.out.hinj HJ.out.hPS HJ.out.hPm) ?_
          rintro e ws2 ⟨rfl, gC', vo', hs, ht⟩
          have SG := hide hs
          have SF := hide (SF.out.keep ht (fun b hd => by omega))
          have HB := hide (Ts.toBelow HB.out ht (Nat.le_refl _) (fun b hd => by have := hz0; omega))
          have HX := hide (Ts.toBelow HX.out ht (Nat.le_refl _) (fun b hd => by omega))
          clear hs ht RG
          obtain ⟨bf, HBF⟩ : ∃ x, Hid (bfsN kl n PS n = x) := ⟨_, rfl⟩
          have hln := HI.out.lens
          have hco := HI.out.co
          rw [HBF.out] at SF SG hln hco
          have HLN := hide hln
          have HCO := hide hco
          clear hln hco
          obtain ⟨af, cf, AAf, Cf, hvf, hrf⟩ := SF.out.cs.rd
          obtain ⟨ag, cg, AAg, Cg, hvg, hrg⟩ := SG.out.cs.rd
          have HRF := hide hrf
          have HRG := hide hrg
          clear hrf hrg
          subst hvf hvg
          go_wp2_with fail
          refine Calls.mono SF.out.circles ?_
          rintro e w' ⟨rfl, hw⟩
          obtain rfl := hw.symm
          go_wp2_with fail
          refine Calls.mono SG.out.circles ?_
          rintro e w' ⟨rfl, hw⟩
          obtain rfl := hw.symm
          go_wp2_with fail
          refine Calls.mono (sameLists_yes af ag bf.done.length cf cg AAf AAg _ Cf Cg _ ws2 HLN.out.1 HLN.out.2 HRF.out HRG.out) ?_
          rintro e ws3 ⟨rfl, hb⟩
          have HB := hide (bl_trans HB.out hb)
          have HX := hide (bl_trans HX.out hb)
          have SF := hide (SF.out.below hb)
          have SG := hide (SG.out.below hb)
          clear hb HRF HRG
          have enn : ((n : Int) != (n : Int)) = false := neq_f rfl
          go_wp2_with fail
          refine Calls.mono SF.out.len ?_
          rintro e w' ⟨rfl, hw⟩
          obtain rfl := hw.symm
          go_wp2_with fail
          refine Calls.mono SG.out.len ?_
          rintro e w' ⟨rfl, hw⟩
          obtain rfl := hw.symm
          go_wp2_with fail
          have X0 := hide (X0.out.below HX.out)
          have X1 := hide (X1.out.rd.below HX.out)
          have X2 := hide (X2.out.rd.below HX.out)
          have X3 := hide (X3.out.rd.below HX.out)
          have X4 := hide (X4.out.rd.below HX.out)
          clear HX
          go_loopw [14] (fun v wr => ∃ i : Nat, v = .int .i64 i ∧ i ≤ n ∧ Hid (Below ws3.heap.size ws3 wr)) (fun v _ => n - (intOf v).toNat)
          case atStart => exact ⟨0, rfl, Nat.zero_le _, Below.refl _ _⟩
          case round =>
            obtain ⟨i, rfl, hi, HR⟩ := hrel
            by_cases hlt : i < n
            · have e1 : decide ((i : Int) < (n : Int)) = true := decide_eq_true (by omega)
              have e1' : decide (i < n) = true := decide_eq_true hlt
              obtain ⟨x0, hx0⟩ := X0.out.at' (by omega)
              obtain ⟨x1, hx1⟩ := X1.out.at' (by omega)
              obtain ⟨x2, hx2⟩ := X2.out.at' (by omega)
              obtain ⟨x3, hx3⟩ := X3.out.at' (by omega)
              obtain ⟨x4, hx4⟩ := X4.out.at' (by omega)
              subst hx0 hx1 hx2 hx3 hx4
              obtain ⟨p, HP⟩ : ∃ x, Hid (x = PE i) := ⟨_, rfl⟩
              have HKP : Hid (∀ w' : World, Below ws3.heap.size ws3 w' → w'.cell? (x0.add i) = some (.int .i64 p)) := fun w' hb => by
                rw [HP.out]
                exact ((X0.out.below hb).2 x0 rfl).2 i hlt
              have HK1 : Hid (∀ w' : World, Below ws3.heap.size ws3 w' → w'.cell? (x1.add i) = some (.slice (AA1 i) (L1 i) (L1 i)) ∧ RdI .i64 w' (AA1 i) (L1 i) (Z1 i)) := fun w' hb => ((X1.out.below hb).2 x1 rfl).2 i hlt
              have HK2 : Hid (∀ w' : World, Below ws3.heap.size ws3 w' → w'.cell? (x2.add i) = some (.slice (AA2 i) (L2 i) (L2 i)) ∧ RdI .i64 w' (AA2 i) (L2 i) (Z2 i)) := fun w' hb => ((X2.out.below hb).2 x2 rfl).2 i hlt
              have HK3 : Hid (∀ w' : World, Below ws3.heap.size ws3 w' → w'.cell? (x3.add i) = some (.slice (AA3 i) (L3 i) (L3 i)) ∧ RdI .i64 w' (AA3 i) (L3 i) (Z3 i)) := fun w' hb => ((X3.out.below hb).2 x3 rfl).2 i hlt
              have HK4 : Hid (∀ w' : World, Below ws3.heap.size ws3 w' → w'.cell? (x4.add i) = some (.slice (AA4 i) (L4 i) (L4 i)) ∧ RdI .i64 w' (AA4 i) (L4 i) (Z4 i)) := fun w' hb => ((X4.out.below hb).2 x4 rfl).2 i hlt
              obtain ⟨cx, hcx⟩ := HCO.out i hlt
              have HCX : Hid (bf.co p = some cx) := by rw [HP.out]; exact hcx
              clear hcx
              have exx : ((cx : Int) != (cx : Int)) = false := neq_f rfl
              have HGI : Hid (PE (n - 1 - (n - 1 - i)) = p) := by
                rw [HP.out]
                show PE _ = PE _
                congr 1
                omega
              have kp_wr := HKP.out _ HR.out
              go_wp2_with fail
              refine Calls.mono ((SF.out.below HR.out).circleOf p cx HCX.out) ?_
              rintro e w' ⟨rfl, hw⟩
              obtain rfl := hw.symm
              go_wp2_with fail
              refine Calls.mono ((SG.out.below HR.out).circleOf p cx HCX.out) ?_
              rintro e w' ⟨rfl, hw⟩
              obtain rfl := hw.symm
              go_wp2_with fail
              have KF : Hid (Calls Try.prog 15 #[.pointer (some ⟨F, 0, none⟩), .int .i64 p] wr (KinPost wr kl p)) := by rw [HP.out]; exact (SF.out.below HR.out).kin i hlt
              refine Calls.mono KF.out ?_
              rintro e wk1 ⟨a1, M1, N1, V1, rfl, hb, hq1⟩
              have Q1 : Hid (∀ k, k < 4 → RdI .i64 wk1 (a1 k) (M1 k) (V1 k) ∧ ofN (V1 k) (M1 k) = kl p k ∧ M1 k ≤ 1048576) := fun k hk => ⟨(hq1 k hk).1.below hb, (hq1 k hk).2⟩
              have HR := hide (bl_trans HR.out hb)
              clear hb hq1 KF
              have kp_wk1 := HKP.out _ HR.out
              go_wp2_with fail
              have KG : Hid (Calls Try.prog 15 #[.pointer (some ⟨G, 0, none⟩), .int .i64 p] wk1 (KinPost wk1 kl p)) := by
                have h := (SG.out.below HR.out).kin (n - 1 - i) (by omega)
                rw [HGI.out] at h
                exact h
              refine Calls.mono KG.out ?_
              rintro e wk2 ⟨a2, M2, N2, V2, rfl, hb, hq2⟩
              have Q1 : Hid (∀ k, k < 4 → RdI .i64 wk2 (a1 k) (M1 k) (V1 k) ∧ ofN (V1 k) (M1 k) = kl p k ∧ M1 k ≤ 1048576) := fun k hk => ⟨(Q1.out k hk).1.below hb, (Q1.out k hk).2⟩
              have Q2 : Hid (∀ k, k < 4 → RdI .i64 wk2 (a2 k) (M2 k) (V2 k) ∧ M2 k = M1 k ∧ ∀ t, t < M1 k → V1 k t = V2 k t) := fun k hk => by
                obtain ⟨q1, q2⟩ := ofN_eq ((Q1.out k hk).2.1.trans (hq2 k hk).2.1.symm)
                exact ⟨(hq2 k hk).1.below hb, q1.symm, q2⟩
              have HR := hide (bl_trans HR.out hb)
              have HSET : Hid (∀ k, k < 4 → (∀ a b, a < b → b < M1 k → V1 k a < V1 k b) ∧ (∀ t, t < M1 k → ∃ t', t' < pick4 L1 L2 L3 L4 k i ∧ V1 k t = pick4 Z1 Z2 Z3 Z4 k i t') ∧ ∀ t', t' < pick4 L1 L2 L3 L4 k i → ∃ t, t < M1 k ∧ pick4 Z1 Z2 Z3 Z4 k i t' = V1 k t) := fun k hk => HI.out.set hlt hk (by rw [← HP.out]; exact (Q1.out k hk).2.1)
              clear hb hq2 KG
              have HW2 : Hid (Below wk2.heap.size wk2 wk2) := Below.refl _ _
              have kl_wk2 := (HK1.out _ HR.out).1
              go_wp2_with fail
              refine Calls.mono (isSet_yes (a1 0) (AA1 i) (M1 0) (L1 i) (N1 0) (L1 i) (V1 0) (Z1 i) wk2 (Q1.out 0 (by omega)).2.2 (HL1.out i hlt) ((Q1.out 0 (by omega)).1.below HW2.out) (HK1.out _ HR.out).2 (HSET.out 0 (by omega)).1 (HSET.out 0 (by omega)).2.1 (HSET.out 0 (by omega)).2.2) ?_
              rintro e wi0 ⟨rfl, hb⟩
              have HR := hide (bl_trans HR.out hb)
              have HW2 := hide (bl_trans HW2.out hb)
              clear hb
              have kl_wi0 := (HK2.out _ HR.out).1
              go_wp2_with fail
              refine Calls.mono (isSet_yes (a1 1) (AA2 i) (M1 1) (L2 i) (N1 1) (L2 i) (V1 1) (Z2 i) wi0 (Q1.out 1 (by omega)).2.2 (HL2.out i hlt) ((Q1.out 1 (by omega)).1.below HW2.out) (HK2.out _ HR.out).2 (HSET.out 1 (by omega)).1 (HSET.out 1 (by omega)).2.1 (HSET.out 1 (by omega)).2.2) ?_
              rintro e wi1 ⟨rfl, hb⟩
              have HR := hide (bl_trans HR.out hb)
              have HW2 := hide (bl_trans HW2.out hb)
              clear hb
              have kl_wi1 := (HK3.out _ HR.out).1
              go_wp2_with fail
              refine Calls.mono (isSet_yes (a1 2) (AA3 i) (M1 2) (L3 i) (N1 2) (L3 i) (V1 2) (Z3 i) wi1 (Q1.out 2 (by omega)).2.2 (HL3.out i hlt) ((Q1.out 2 (by omega)).1.below HW2.out) (HK3.out _ HR.out).2 (HSET.out 2 (by omega)).1 (HSET.out 2 (by omega)).2.1 (HSET.out 2 (by omega)).2.2) ?_
              rintro e wi2 ⟨rfl, hb⟩
              have HR := hide (bl_trans HR.out hb)
              have HW2 := hide (bl_trans HW2.out hb)
              clear hb
              have kl_wi2 := (HK4.out _ HR.out).1
              go_wp2_with fail
              refine Calls.mono (isSet_yes (a1 3) (AA4 i) (M1 3) (L4 i) (N1 3) (L4 i) (V1 3) (Z4 i) wi2 (Q1.out 3 (by omega)).2.2 (HL4.out i hlt) ((Q1.out 3 (by omega)).1.below HW2.out) (HK4.out _ HR.out).2 (HSET.out 3 (by omega)).1 (HSET.out 3 (by omega)).2.1 (HSET.out 3 (by omega)).2.2) ?_
              rintro e wi3 ⟨rfl, hb⟩
              have HR := hide (bl_trans HR.out hb)
              have HW2 := hide (bl_trans HW2.out hb)
              clear hb
              go_wp2_with fail
              have KS : Hid (Calls Try.prog 26 #[.slice (a1 0) (M1 0) (N1 0), .slice (a2 0) (M2 0) (N2 0)] wi3 (fun e w' => e = .returned (.bool true) ∧ Below wi3.heap.size wi3 w')) := by
                obtain ⟨q1, q2, q3⟩ := Q2.out 0 (by omega)
                rw [q2] at q1 ⊢
                exact sameInts_yes (a1 0) (a2 0) (M1 0) (N1 0) (N2 0) (V1 0) wi3 (Q1.out 0 (by omega)).2.2 ((Q1.out 0 (by omega)).1.below HW2.out) ((q1.below HW2.out).congr' (fun t ht => (q3 t ht).symm))
              refine Calls.mono KS.out ?_
              rintro e wq0 ⟨rfl, hb⟩
              have HR := hide (bl_trans HR.out hb)
              have HW2 := hide (bl_trans HW2.out hb)
              clear hb KS
              go_wp2_with fail
              have KS : Hid (Calls Try.prog 26 #[.slice (a1 1) (M1 1) (N1 1), .slice (a2 1) (M2 1) (N2 1)] wq0 (fun e w' => e = .returned (.bool true) ∧ Below wq0.heap.size wq0 w')) := by
                obtain ⟨q1, q2, q3⟩ := Q2.out 1 (by omega)
                rw [q2] at q1 ⊢
                exact sameInts_yes (a1 1) (a2 1) (M1 1) (N1 1) (N2 1) (V1 1) wq0 (Q1.out 1 (by omega)).2.2 ((Q1.out 1 (by omega)).1.below HW2.out) ((q1.below HW2.out).congr' (fun t ht => (q3 t ht).symm))
              refine Calls.mono KS.out ?_
              rintro e wq1 ⟨rfl, hb⟩
              have HR := hide (bl_trans HR.out hb)
              have HW2 := hide (bl_trans HW2.out hb)
              clear hb KS
              go_wp2_with fail
              have KS : Hid (Calls Try.prog 26 #[.slice (a1 2) (M1 2) (N1 2), .slice (a2 2) (M2 2) (N2 2)] wq1 (fun e w' => e = .returned (.bool true) ∧ Below wq1.heap.size wq1 w')) := by
                obtain ⟨q1, q2, q3⟩ := Q2.out 2 (by omega)
                rw [q2] at q1 ⊢
                exact sameInts_yes (a1 2) (a2 2) (M1 2) (N1 2) (N2 2) (V1 2) wq1 (Q1.out 2 (by omega)).2.2 ((Q1.out 2 (by omega)).1.below HW2.out) ((q1.below HW2.out).congr' (fun t ht => (q3 t ht).symm))
              refine Calls.mono KS.out ?_
              rintro e wq2 ⟨rfl, hb⟩
              have HR := hide (bl_trans HR.out hb)
              have HW2 := hide (bl_trans HW2.out hb)
              clear hb KS
              go_wp2_with fail
              have KS : Hid (Calls Try.prog 26 #[.slice (a1 3) (M1 3) (N1 3), .slice (a2 3) (M2 3) (N2 3)] wq2 (fun e w' => e = .returned (.bool true) ∧ Below wq2.heap.size wq2 w')) := by
                obtain ⟨q1, q2, q3⟩ := Q2.out 3 (by omega)
                rw [q2] at q1 ⊢
                exact sameInts_yes (a1 3) (a2 3) (M1 3) (N1 3) (N2 3) (V1 3) wq2 (Q1.out 3 (by omega)).2.2 ((Q1.out 3 (by omega)).1.below HW2.out) ((q1.below HW2.out).congr' (fun t ht => (q3 t ht).symm))
              refine Calls.mono KS.out ?_
              rintro e wq3 ⟨rfl, hb⟩
              have HR := hide (bl_trans HR.out hb)
              have HW2 := hide (bl_trans HW2.out hb)
              clear hb KS
              go_wp2_with fail
              go_roundw
              case rel => exact ⟨i + 1, by go_num, by omega, HR⟩
              case measure => simp [intOf]; omega
            · have e1 : decide ((i : Int) < (n : Int)) = false := decide_eq_false (by omega)
              have e1' : decide (i < n) = false := decide_eq_false hlt
              go_wp2_with fail
              go_ret
              exact ⟨rfl, bl_trans HB.out HR.out⟩
end Go.Proofs.Qxb6605294a
