/-
  Seat b6605294a. THE LAW FnSettleSortsEachListAndListsEachCircleBreadthFirst (3), WALKED.
-/
import Derived.Test.Qxb6605294aE6
import Derived.Test.Qxb6605294aE7
set_option linter.unusedVariables false
set_option linter.unusedSimpArgs false
namespace Go.Proofs.Qxb6605294a
open Go.RowKit

set_option maxRecDepth 100000 in
set_option maxHeartbeats 40000000 in
theorem law3 (a b1 b2 b3 b4 : Option Addr) (n P1 P2 P3 P4 c c1 c2 c3 c4 : Nat) (PE : Nat → Int) (A1 A2 A3 A4 : Nat → Option Addr) (L1 L2 L3 L4 C1 C2 C3 C4 : Nat → Nat) (Z1 Z2 Z3 Z4 : Nat → Nat → Int) (w : World)
    (m0 : n ≤ 9223372036854775807) (m1 : P1 ≤ 9223372036854775807) (m2 : P2 ≤ 9223372036854775807) (m3 : P3 ≤ 9223372036854775807) (m4 : P4 ≤ 9223372036854775807) (l1 : ∀ q, q < P1 → L1 q ≤ 9223372036854775807) (l2 : ∀ q, q < P2 → L2 q ≤ 9223372036854775807) (l3 : ∀ q, q < P3 → L3 q ≤ 9223372036854775807) (l4 : ∀ q, q < P4 → L4 q ≤ 9223372036854775807)
    (h0 : RdI .i64 w a n PE) (h1 : RdL w b1 P1 A1 L1 C1 Z1) (h2 : RdL w b2 P2 A2 L2 C2 Z2) (h3 : RdL w b3 P3 A3 L3 C3 Z3) (h4 : RdL w b4 P4 A4 L4 C4 Z4) (hwf : ∀ i, i < n → (Lit.int .i64 (PE i)).wf = true) :
    Calls Try.prog 3 #[.slice a n c, .slice b1 P1 c1, .slice b2 P2 c2, .slice b3 P3 c3, .slice b4 P4 c4] w fun e w' => e = .returned (.bool true) ∧ Below w.heap.size w w' := by
  have K7 := hide (bytes7_any a b1 b2 b3 b4 n P1 P2 P3 P4 c c1 c2 c3 c4 A1 A2 A3 A4 L1 L2 L3 L4 C1 C2 C3 C4 Z1 Z2 Z3 Z4 w m0 m1 m2 m3 m4 l1 l2 l3 l4 h1 h2 h3 h4)
  have H0 := hide h0
  have HWF := hide hwf
  have H1 := hide h1
  have H2 := hide h2
  have H3 := hide h3
  have H4 := hide h4
  clear h0 h1 h2 h3 h4 l1 l2 l3 l4 hwf
  go_enter Try.func3, Try.ntmps3
  go_wp2_with fail
  refine Calls.mono K7.out ?_
  rintro e w1 ⟨f1, rfl, hf1, hb1⟩
  have HB := hide hb1
  cases f1 with
  | false =>
    go_wp2_with fail
    go_ret
    exact ⟨rfl, HB.out⟩
  | true =>
    obtain ⟨m0', m1', m2', m3', m4', l1, l2, l3, l4⟩ := hf1 rfl
    have HL := hide (And.intro l1 (And.intro l2 (And.intro l3 l4)))
    clear hf1 hb1 K7 l1 l2 l3 l4
    have K8 := hide (family_any a b1 b2 b3 b4 n P1 P2 P3 P4 c c1 c2 c3 c4 A1 A2 A3 A4 L1 L2 L3 L4 C1 C2 C3 C4 Z1 Z2 Z3 Z4 w1 m0' m1' m2' m3' m4' HL.out.1 HL.out.2.1 HL.out.2.2.1 HL.out.2.2.2 (H1.out.below HB.out) (H2.out.below HB.out) (H3.out.below HB.out) (H4.out.below HB.out))
    go_wp2_with fail
    refine Calls.mono K8.out ?_
    rintro e w2 ⟨⟨t, rfl, ht⟩, hw⟩
    obtain rfl := hw.symm
    clear K8
    by_cases hbig : 1048576 < t
    · have e0 : decide ((1048576 : Int) < (t : Int)) = true := decide_eq_true (by omega)
      go_wp2_with fail
      go_ret
      exact ⟨rfl, HB.out⟩
    · have e0 : decide ((1048576 : Int) < (t : Int)) = false := decide_eq_false (by omega)
      have K9 : Hid (Calls Try.prog 9 #[.slice a n c, .slice b1 P1 c1, .slice b2 P2 c2, .slice b3 P3 c3, .slice b4 P4 c4] w1 (WfPost n P1 P2 P3 P4 PE (pick4 L1 L2 L3 L4) (pick4 Z1 Z2 Z3 Z4) w1)) := by
        by_cases hP : P1 = n ∧ P2 = n ∧ P3 = n ∧ P4 = n
        · obtain ⟨rfl, rfl, rfl, rfl⟩ := hP
          exact wf_main a b1 b2 b3 b4 _ c c1 c2 c3 c4 PE A1 A2 A3 A4 L1 L2 L3 L4 C1 C2 C3 C4 Z1 Z2 Z3 Z4 w1 m0' HL.out.1 HL.out.2.1 HL.out.2.2.1 HL.out.2.2.2 (H0.out.below HB.out) (H1.out.below HB.out) (H2.out.below HB.out) (H3.out.below HB.out) (H4.out.below HB.out)
        · exact wf_lens a b1 b2 b3 b4 n P1 P2 P3 P4 c c1 c2 c3 c4 PE _ _ w1 hP
      go_wp2_with fail
      refine Calls.mono K9.out ?_
      rintro e w3 ⟨f3, rfl, hf3, hb3⟩
      have HB := hide (bl_trans HB.out hb3)
      clear hb3 K9
      cases f3 with
      | false =>
        go_wp2_with fail
        go_ret
        exact ⟨rfl, HB.out⟩
      | true =>
        as_aux_lemma =>
          obtain ⟨⟨hp1, hp2, hp3, hp4⟩, hwf⟩ := hf3 rfl
          obtain ⟨kl, PS, hinp⟩ := Inp.make m0' (fun k j hk hj => by
            have : k = 0 ∨ k = 1 ∨ k = 2 ∨ k = 3 := by omega
            rcases this with rfl | rfl | rfl | rfl
            · exact HL.out.1 j (by omega)
            · exact HL.out.2.1 j (by omega)
            · exact HL.out.2.2.1 j (by omega)
            · exact HL.out.2.2.2 j (by omega)) hwf
          have HI := hide hinp
          have HW := hide hwf
          clear hinp hwf hf3
          rw [hp1] at H1
          rw [hp2] at H2
          rw [hp3] at H3
          rw [hp4] at H4
          have HL1 : Hid (∀ q, q < n → L1 q ≤ 1048576) := fun q hq => HL.out.1 q (by omega)
          have HL2 : Hid (∀ q, q < n → L2 q ≤ 1048576) := fun q hq => HL.out.2.1 q (by omega)
          have HL3 : Hid (∀ q, q < n → L3 q ≤ 1048576) := fun q hq => HL.out.2.2.1 q (by omega)
          have HL4 : Hid (∀ q, q < n → L4 q ≤ 1048576) := fun q hq => HL.out.2.2.2 q (by omega)
          have hz0 := HB.out.size
          have K10 := hide (sym_any a b1 b2 b3 b4 n c c1 c2 c3 c4 PE A1 A2 A3 A4 L1 L2 L3 L4 C1 C2 C3 C4 Z1 Z2 Z3 Z4 w3 m0' HL1.out HL2.out HL3.out HL4.out (H0.out.below HB.out) (H1.out.below HB.out) (H2.out.below HB.out) (H3.out.below HB.out) (H4.out.below HB.out) HWF.out HW.out)
          go_wp2_with fail
          refine Calls.mono K10.out ?_
          rintro e w4 ⟨f4, rfl, hf4, hb4⟩
          have hz1 := hb4.size
          have HB := hide (bl_trans HB.out hb4)
          clear hb4 K10
          cases f4 with
          | false =>
            go_wp2_with fail
            go_ret
            exact ⟨rfl, HB.out⟩
          | true =>
            as_aux_lemma =>
              have HSYM := hide (hf4 rfl)
              clear hf4
              go_wp2_with fail
              refine Calls.mono (copyInts_own a n c PE w4 m0' (H0.out.below HB.out)) ?_
              rintro e wa0 ⟨hb, A0, rfl, hc⟩
              have hzwa0 := hb.size
              have HB := hide (bl_trans HB.out hb)
              clear hb
              have X0 := hide hc.rdI
              clear hc
              go_wp2_with fail
              refine Calls.mono (copyLists_own b1 n c1 A1 L1 C1 Z1 wa0 m0' HL1.out (H1.out.below HB.out)) ?_
              rintro e wa1 hp
              obtain ⟨BA1, AA1, rfl, ho, hb⟩ := Ow.of hp
              clear hp
              have hzwa1 := hb.size
              have HB := hide (bl_trans HB.out hb)
              have X0 := hide (X0.out.below hb)
              clear hb
              have X1 := hide ho
              clear ho
              go_wp2_with fail
              refine Calls.mono (copyLists_own b2 n c2 A2 L2 C2 Z2 wa1 m0' HL2.out (H2.out.below HB.out)) ?_
              rintro e wa2 hp
              obtain ⟨BA2, AA2, rfl, ho, hb⟩ := Ow.of hp
              clear hp
              have hzwa2 := hb.size
              have HB := hide (bl_trans HB.out hb)
              have X0 := hide (X0.out.below hb)
              have X1 := hide (X1.out.below hb)
              clear hb
              have X2 := hide ho
              clear ho
              go_wp2_with fail
              refine Calls.mono (copyLists_own b3 n c3 A3 L3 C3 Z3 wa2 m0' HL3.out (H3.out.below HB.out)) ?_
              rintro e wa3 hp
              obtain ⟨BA3, AA3, rfl, ho, hb⟩ := Ow.of hp
              clear hp
              have hzwa3 := hb.size
              have HB := hide (bl_trans HB.out hb)
              have X0 := hide (X0.out.below hb)
              have X1 := hide (X1.out.below hb)
              have X2 := hide (X2.out.below hb)
              clear hb
              have X3 := hide ho
              clear ho
              go_wp2_with fail
              refine Calls.mono (copyLists_own b4 n c4 A4 L4 C4 Z4 wa3 m0' HL4.out (H4.out.below HB.out)) ?_
              rintro e wa4 hp
              obtain ⟨BA4, AA4, rfl, ho, hb⟩ := Ow.of hp
              clear hp
              have hzwa4 := hb.size
              have HB := hide (bl_trans HB.out hb)
              have X0 := hide (X0.out.below hb)
              have X1 := hide (X1.out.below hb)
              have X2 := hide (X2.out.below hb)
              have X3 := hide (X3.out.below hb)
              clear hb
              have X4 := hide ho
              clear ho
              have HX : Hid (Below wa4.heap.size wa4 wa4) := Below.refl _ _
              go_wp2_with fail
              refine Calls.mono (copyInts_own A0 n n PE wa4 m0' (X0.out.below HX.out)) ?_
              rintro e wf0 ⟨hb, F0, rfl, hc⟩
              have hzwf0 := hb.size
              have HB := hide (bl_trans HB.out hb)
              have HX := hide (bl_trans HX.out hb)
              clear hb
              have Y0 := hide hc.rdI
              clear hc
              go_wp2_with fail
              refine Calls.mono (copyLists_own BA1 n n AA1 L1 L1 Z1 wf0 m0' HL1.out (X1.out.rd.below HX.out)) ?_
              rintro e wf1 hp
              obtain ⟨BF1, AF1, rfl, ho, hb⟩ := Ow.of hp
              clear hp
              have hzwf1 := hb.size
              have HB := hide (bl_trans HB.out hb)
              have HX := hide (bl_trans HX.out hb)
              have Y0 := hide (Y0.out.below hb)
              clear hb
              have Y1 := hide ho
              clear ho
              go_wp2_with fail
              refine Calls.mono (copyLists_own BA2 n n AA2 L2 L2 Z2 wf1 m0' HL2.out (X2.out.rd.below HX.out)) ?_
              rintro e wf2 hp
              obtain ⟨BF2, AF2, rfl, ho, hb⟩ := Ow.of hp
              clear hp
              have hzwf2 := hb.size
              have HB := hide (bl_trans HB.out hb)
              have HX := hide (bl_trans HX.out hb)
              have Y0 := hide (Y0.out.below hb)
              have Y1 := hide (Y1.out.below hb)
              clear hb
              have Y2 := hide ho
              clear ho
              go_wp2_with fail
              refine Calls.mono (copyLists_own BA3 n n AA3 L3 L3 Z3 wf2 m0' HL3.out (X3.out.rd.below HX.out)) ?_
              rintro e wf3 hp
              obtain ⟨BF3, AF3, rfl, ho, hb⟩ := Ow.of hp
              clear hp
              have hzwf3 := hb.size
              have HB := hide (bl_trans HB.out hb)
              have HX := hide (bl_trans HX.out hb)
              have Y0 := hide (Y0.out.below hb)
              have Y1 := hide (Y1.out.below hb)
              have Y2 := hide (Y2.out.below hb)
              clear hb
              have Y3 := hide ho
              clear ho
              go_wp2_with fail
              refine Calls.mono (copyLists_own BA4 n n AA4 L4 L4 Z4 wf3 m0' HL4.out (X4.out.rd.below HX.out)) ?_
              rintro e wf4 hp
              obtain ⟨BF4, AF4, rfl, ho, hb⟩ := Ow.of hp
              clear hp
              have hzwf4 := hb.size
              have HB := hide (bl_trans HB.out hb)
              have HX := hide (bl_trans HX.out hb)
              have Y0 := hide (Y0.out.below hb)
              have Y1 := hide (Y1.out.below hb)
              have Y2 := hide (Y2.out.below hb)
              have Y3 := hide (Y3.out.below hb)
              clear hb
              have Y4 := hide ho
              clear ho
              go_wp2_with fail
              refine Calls.mono (newFamily_any F0 BF1 BF2 BF3 BF4 n n n n n n PE AF1 AF2 AF3 AF4 L1 L2 L3 L4 L1 L2 L3 L4 Z1 Z2 Z3 Z4 wf4 m0' Y0.out Y1.out.rd Y2.out.rd Y3.out.rd Y4.out.rd HI.out.hinj) ?_
              rintro e wf5 hp
              obtain ⟨F, gM, f, gk, rfl, hr, hb⟩ := Rdy.make Y1.out Y2.out Y3.out Y4.out hzwf1 (Nat.le_refl _) hzwf2 (Nat.le_refl _) hzwf3 (Nat.le_refl _) hzwf4 (Nat.le_refl _) hp
              clear hp Y0 Y1 Y2 Y3 Y4
              have hzwf5 := hb.size
              have HB := hide (bl_trans HB.out hb)
              have HX := hide (bl_trans HX.out hb)
              clear hb
              have RF := hide hr
              clear hr
              go_wp2_with fail
              refine Calls.mono (zzSettle_any RF.out kl PS HI.out.hn HI.out.hN HI.out.hkl HI.out.hrel HI.out.hinj HI.out.hPS HI.out.hPm) ?_
              rintro e ws ⟨rfl, gC, vo, hs, ht⟩
              have SF := hide hs
              have HB := hide (Ts.toBelow HB.out ht (Nat.le_refl _) (fun b hd => by omega))
              have HX := hide (Ts.toBelow HX.out ht (Nat.le_refl _) (fun b hd => by omega))
              clear hs ht RF
              obtain ⟨cc, pos, hpl, hcc⟩ := Pl.make HI.out HSYM.out
              have hln := HI.out.lens
              obtain ⟨bf, HBF⟩ : ∃ x, Hid (bfsN kl n PS n = x) := ⟨_, rfl⟩
              rw [HBF.out] at SF hpl hcc hln
              have PLx := hide hpl
              have HCC := hide hcc
              have HLN := hide hln
              clear hpl hcc hln HSYM
              have X0 := hide (X0.out.below HX.out)
              have X1 := hide (X1.out.rd.below HX.out)
              have X2 := hide (X2.out.rd.below HX.out)
              have X3 := hide (X3.out.rd.below HX.out)
              have X4 := hide (X4.out.rd.below HX.out)
              clear HX H0 H1 H2 H3 H4 HWF HW HBF
              have HRD : Hid (∀ i, i < n → ∀ k, k < 4 → ∀ (w' : World), Below ws.heap.size ws w' → RdI .i64 w' (pick4 AA1 AA2 AA3 AA4 k i) (pick4 L1 L2 L3 L4 k i) (pick4 Z1 Z2 Z3 Z4 k i) ∧ pick4 L1 L2 L3 L4 k i ≤ 1048576) := fun i hi k hk w' hb => by
                have : k = 0 ∨ k = 1 ∨ k = 2 ∨ k = 3 := by omega
                rcases this with rfl | rfl | rfl | rfl
                · obtain ⟨x, hx⟩ := X1.out.at' (by omega)
                  exact ⟨(((X1.out.below hb).2 x hx).2 i hi).2, HL1.out i hi⟩
                · obtain ⟨x, hx⟩ := X2.out.at' (by omega)
                  exact ⟨(((X2.out.below hb).2 x hx).2 i hi).2, HL2.out i hi⟩
                · obtain ⟨x, hx⟩ := X3.out.at' (by omega)
                  exact ⟨(((X3.out.below hb).2 x hx).2 i hi).2, HL3.out i hi⟩
                · obtain ⟨x, hx⟩ := X4.out.at' (by omega)
                  exact ⟨(((X4.out.below hb).2 x hx).2 i hi).2, HL4.out i hi⟩
              clear hzwa0 hzwa1 hzwa2 hzwa3 hzwa4 hzwf0 hzwf1 hzwf2 hzwf3 hzwf4 hzwf5 hz0 hz1
              go_wp2_with fail
              go_loopw [13] (fun v wr => ∃ i : Nat, v = .int .i64 i ∧ i ≤ n ∧ Hid (Below ws.heap.size ws wr)) (fun v _ => n - (intOf v).toNat)
              case atStart => exact ⟨0, rfl, Nat.zero_le _, Below.refl _ _⟩
              case round =>
                obtain ⟨i, rfl, hi, HR⟩ := hrel
                by_cases hlt : i < n
                · as_aux_lemma =>
                    have e1 : decide ((i : Int) < (n : Int)) = true := decide_eq_true (by omega)
                    have e1' : decide (i < n) = true := decide_eq_true hlt
                    obtain ⟨x0, hx0⟩ := X0.out.at' (by omega)
                    obtain ⟨x1, hx1⟩ := X1.out.at' (by omega)
                    obtain ⟨x2, hx2⟩ := X2.out.at' (by omega)
                    obtain ⟨x3, hx3⟩ := X3.out.at' (by omega)
                    obtain ⟨x4, hx4⟩ := X4.out.at' (by omega)
                    subst hx0 hx1 hx2 hx3 hx4
                    obtain ⟨p, HP⟩ : ∃ x, Hid (x = PE i) := ⟨_, rfl⟩
                    have kp : wr.cell? (x0.add i) = some (.int .i64 p) := by
                      rw [HP.out]
                      exact ((X0.out.below HR.out).2 x0 rfl).2 i hlt
                    have HK1 : Hid (∀ w' : World, Below ws.heap.size ws w' → w'.cell? (x1.add i) = some (.slice (AA1 i) (L1 i) (L1 i)) ∧ RdI .i64 w' (AA1 i) (L1 i) (Z1 i)) := fun w' hb => ((X1.out.below hb).2 x1 rfl).2 i hlt
                    have HK2 : Hid (∀ w' : World, Below ws.heap.size ws w' → w'.cell? (x2.add i) = some (.slice (AA2 i) (L2 i) (L2 i)) ∧ RdI .i64 w' (AA2 i) (L2 i) (Z2 i)) := fun w' hb => ((X2.out.below hb).2 x2 rfl).2 i hlt
                    have HK3 : Hid (∀ w' : World, Below ws.heap.size ws w' → w'.cell? (x3.add i) = some (.slice (AA3 i) (L3 i) (L3 i)) ∧ RdI .i64 w' (AA3 i) (L3 i) (Z3 i)) := fun w' hb => ((X3.out.below hb).2 x3 rfl).2 i hlt
                    have HK4 : Hid (∀ w' : World, Below ws.heap.size ws w' → w'.cell? (x4.add i) = some (.slice (AA4 i) (L4 i) (L4 i)) ∧ RdI .i64 w' (AA4 i) (L4 i) (Z4 i)) := fun w' hb => ((X4.out.below hb).2 x4 rfl).2 i hlt
                    have KF : Hid (Calls Try.prog 15 #[.pointer (some ⟨F, 0, none⟩), .int .i64 p] wr (KinPost wr kl p)) := by rw [HP.out]; exact (SF.out.below HR.out).kin i hlt
                    go_wp2_with fail
                    refine Calls.mono KF.out ?_
                    rintro e wk2 ⟨a1, M1, N1, V1, rfl, hb, hq1⟩
                    have Q1 : Hid (∀ k, k < 4 → RdI .i64 wk2 (a1 k) (M1 k) (V1 k) ∧ ofN (V1 k) (M1 k) = kl p k ∧ M1 k ≤ 1048576) := fun k hk => ⟨(hq1 k hk).1.below hb, (hq1 k hk).2⟩
                    have HR := hide (bl_trans HR.out hb)
                    have HSET : Hid (∀ k, k < 4 → (∀ a b, a < b → b < M1 k → V1 k a < V1 k b) ∧ (∀ t, t < M1 k → ∃ t', t' < pick4 L1 L2 L3 L4 k i ∧ V1 k t = pick4 Z1 Z2 Z3 Z4 k i t') ∧ ∀ t', t' < pick4 L1 L2 L3 L4 k i → ∃ t, t < M1 k ∧ pick4 Z1 Z2 Z3 Z4 k i t' = V1 k t) := fun k hk => HI.out.set hlt hk (by rw [← HP.out]; exact (Q1.out k hk).2.1)
                    clear hb hq1 KF
                    have HW2 : Hid (Below wk2.heap.size wk2 wk2) := Below.refl _ _
                    have kl_wk2 := (HK1.out _ HR.out).1
                    go_wp2_with fail
                    refine Calls.mono (isSet_yes (a1 0) (AA1 i) (M1 0) (L1 i) (N1 0) (L1 i) (V1 0) (Z1 i) wk2 (Q1.out 0 (by omega)).2.2 (HL1.out i hlt) ((Q1.out 0 (by omega)).1.below HW2.out) (HK1.out _ HR.out).2 (HSET.out 0 (by omega)).1 (HSET.out 0 (by omega)).2.1 (HSET.out 0 (by omega)).2.2) ?_
                    rintro e wi0 ⟨rfl, hb⟩
                    have HR := hide (bl_trans HR.out hb)
                    have HW2 := hide (bl_trans HW2.out hb)
                    clear hb
                    have kl_wi0 := (HK2.out _ HR.out).1
                    go_wp2_with fail
                    refine Calls.mono (isSet_yes (a1 1) (AA2 i) (M1 1) (L2 i) (N1 1) (L2 i) (V1 1) (Z2 i) wi0 (Q1.out 1 (by omega)).2.2 (HL2.out i hlt) ((Q1.out 1 (by omega)).1.below HW2.out) (HK2.out _ HR.out).2 (HSET.out 1 (by omega)).1 (HSET.out 1 (by omega)).2.1 (HSET.out 1 (by omega)).2.2) ?_
                    rintro e wi1 ⟨rfl, hb⟩
                    have HR := hide (bl_trans HR.out hb)
                    have HW2 := hide (bl_trans HW2.out hb)
                    clear hb
                    have kl_wi1 := (HK3.out _ HR.out).1
                    go_wp2_with fail
                    refine Calls.mono (isSet_yes (a1 2) (AA3 i) (M1 2) (L3 i) (N1 2) (L3 i) (V1 2) (Z3 i) wi1 (Q1.out 2 (by omega)).2.2 (HL3.out i hlt) ((Q1.out 2 (by omega)).1.below HW2.out) (HK3.out _ HR.out).2 (HSET.out 2 (by omega)).1 (HSET.out 2 (by omega)).2.1 (HSET.out 2 (by omega)).2.2) ?_
                    rintro e wi2 ⟨rfl, hb⟩
                    have HR := hide (bl_trans HR.out hb)
                    have HW2 := hide (bl_trans HW2.out hb)
                    clear hb
                    have kl_wi2 := (HK4.out _ HR.out).1
                    go_wp2_with fail
                    refine Calls.mono (isSet_yes (a1 3) (AA4 i) (M1 3) (L4 i) (N1 3) (L4 i) (V1 3) (Z4 i) wi2 (Q1.out 3 (by omega)).2.2 (HL4.out i hlt) ((Q1.out 3 (by omega)).1.below HW2.out) (HK4.out _ HR.out).2 (HSET.out 3 (by omega)).1 (HSET.out 3 (by omega)).2.1 (HSET.out 3 (by omega)).2.2) ?_
                    rintro e wi3 ⟨rfl, hb⟩
                    have HR := hide (bl_trans HR.out hb)
                    have HW2 := hide (bl_trans HW2.out hb)
                    clear hb
                    go_wp2_with fail
                    go_roundw
                    case rel => exact ⟨i + 1, by go_num, by omega, HR⟩
                    case measure => simp [intOf]; omega
                · as_aux_lemma =>
                    have e1 : decide ((i : Int) < (n : Int)) = false := decide_eq_false (by omega)
                    have e1' : decide (i < n) = false := decide_eq_false hlt
                    have hmk := run_mkMap (P := Try.prog) Try.underlying34 (n : Int) wr
                    go_wp2_with fail
                    obtain ⟨w5, HW5⟩ : ∃ x, Hid (x = wr.alloc (.map #[] 0)) := ⟨_, rfl⟩
                    rw [← HW5.out]
                    obtain ⟨gI, HGI⟩ : ∃ x, Hid (x = wr.heap.size) := ⟨_, rfl⟩
                    rw [← HGI.out]
                    have hgI : ws.heap.size ≤ gI := by rw [HGI.out]; exact HR.out.size
                    have HM0 : Hid (Mi w5 gI (fun _ => none) 0) := by rw [HW5.out, HGI.out]; exact Mi.made wr
                    have HR5 : Hid (Below ws.heap.size ws w5) := by rw [HW5.out]; exact HR.out.alloc HR.out.size _
                    clear HW5 HGI hmk HR hlt e1 e1' hi
                    obtain ⟨wp1, rfl⟩ : ∃ x, x = wr := ⟨wr, rfl⟩
                    go_loopw [20] (fun v wr => ∃ (i q : Nat) (fi : Int → Option Value), v = .int .i64 i ∧ i ≤ n ∧ Hid (Mi wr gI fi q) ∧ Hid (∀ j, j < i → fi (PE j) = some (.int .i64 (j : Int))) ∧ Hid (Below ws.heap.size ws wr)) (fun v _ => n - (intOf v).toNat)
                    case atStart => exact ⟨0, 0, _, rfl, Nat.zero_le _, HM0, fun j hj => absurd hj (Nat.not_lt_zero _), HR5⟩
                    case round =>
                      clear HM0 HR5
                      obtain ⟨i, q, fi, rfl, hi, HM, HF, HR⟩ := hrel
                      by_cases hlt : i < n
                      · as_aux_lemma =>
                          have e1 : decide ((i : Int) < (n : Int)) = true := decide_eq_true (by omega)
                          have e1' : decide (i < n) = true := decide_eq_true hlt
                          obtain ⟨x0, hx0⟩ := X0.out.at' (by omega)
                          subst hx0
                          obtain ⟨p, HP⟩ : ∃ x, Hid (x = PE i) := ⟨_, rfl⟩
                          have kp : wr.cell? (x0.add i) = some (.int .i64 p) := by
                            rw [HP.out]
                            exact ((X0.out.below HR.out).2 x0 rfl).2 i hlt
                          obtain ⟨w6, hrun, hM6, hT6⟩ := HM.out.store' (P := Try.prog) Try.underlying34 Try.underlying3 p (.int .i64 (i : Int))
                          have HM6 : Hid (∃ q', Mi w6 gI (fun j => if j = p then some (.int .i64 (i : Int)) else fi j) q') := ⟨_, hM6⟩
                          have HR6 : Hid (Below ws.heap.size ws w6) := hT6.below HR.out hgI
                          have HF6 : Hid (∀ j, j < i + 1 → (if PE j = p then some (Value.int .i64 (i : Int)) else fi (PE j)) = some (.int .i64 (j : Int))) := fun j hj => by
                            by_cases e : PE j = p
                            · rw [HP.out] at e
                              have := HI.out.hinj j i (by omega) hlt e
                              subst this
                              rw [if_pos HP.out.symm]
                            · rw [if_neg e]
                              refine HF.out j ?_
                              rcases Nat.lt_or_ge j i with h | h
                              · exact h
                              · obtain rfl : j = i := by omega
                                exact absurd HP.out.symm e
                          clear hM6 hT6
                          go_wp2_with fail
                          go_roundw
                          case rel => exact ⟨i + 1, _, _, by go_num, by omega, HM6.out.choose_spec, HF6, HR6⟩
                          case measure => simp [intOf]; omega
                      · as_aux_lemma =>
                          have e1 : decide ((i : Int) < (n : Int)) = false := decide_eq_false (by omega)
                          have e1' : decide (i < n) = false := decide_eq_false hlt
                          obtain ⟨X, hX, hmk⟩ := run_mk1 (P := Try.prog) 22 3 _ _ Try.underlying22 Try.info3 n (by omega) (by omega)
                          have HXS : Hid (X.size = n ∧ ∀ i, i < n → X.getD i (.bool false) = .int .i64 0) := by
                            refine ⟨by rw [hX]; exact size_made1 _ _, fun i hi => ?_⟩
                            rw [Array.getD_eq_getD_getElem?, hX, made1 _ rfl n i hi]
                            rfl
                          clear hX
                          go_wp2_with fail
                          obtain ⟨w5, HW5⟩ : ∃ x, Hid (x = wr.alloc (.cells X 3)) := ⟨_, rfl⟩
                          rw [← HW5.out]
                          obtain ⟨gU, HGU⟩ : ∃ x, Hid (x = wr.heap.size) := ⟨_, rfl⟩
                          rw [← HGU.out]
                          have hgU : ws.heap.size ≤ gU := by rw [HGU.out]; exact HR.out.size
                          have hgIU : gI < gU := by rw [HGU.out]; exact HM.out.lt
                          have HF2 : Hid (∀ j, j < n → fi (PE j) = some (.int .i64 (j : Int))) := fun j hj => HF.out j (by omega)
                          have HU0 : Hid (Bk w5 gU 3 n (fun _ => .int .i64 0)) := by
                            rw [HW5.out, HGU.out, ← HXS.out.1]
                            exact (Bk.new wr X 3).congr (fun i hi => (HXS.out.2 i (by rw [← HXS.out.1]; exact hi)).symm)
                          have HM5 : Hid (Mi w5 gI fi q) := by rw [HW5.out]; exact HM.out.alloc (Below.heap_alloc _ _ _ HM.out.lt)
                          have HR5 : Hid (Below ws.heap.size ws w5) := by rw [HW5.out]; exact HR.out.alloc HR.out.size _
                          clear HW5 HGU hmk HR hlt e1 e1' hi HM HF HXS
                          obtain ⟨wp2, rfl⟩ : ∃ x, x = wr := ⟨wr, rfl⟩
                          go_loopw [22] (fun v wr => ∃ (i : Nat) (V : Nat → Int), v = .int .i64 i ∧ i ≤ n ∧ Hid (Mi wr gI fi q) ∧ Hid (Bk wr gU 3 n (fun j => .int .i64 (V j))) ∧ Hid (∀ j, j < i → V j = (j : Int)) ∧ Hid (Below ws.heap.size ws wr)) (fun v _ => n - (intOf v).toNat)
                          case atStart => exact ⟨0, fun _ => 0, rfl, Nat.zero_le _, HM5, HU0, fun j hj => absurd hj (Nat.not_lt_zero _), HR5⟩
                          case round =>
                            clear HM5 HU0 HR5
                            obtain ⟨i, V, rfl, hi, HM, HU, HV, HR⟩ := hrel
                            by_cases hlt : i < n
                            · as_aux_lemma =>
                                have e1 : decide ((i : Int) < (n : Int)) = true := decide_eq_true (by omega)
                                have e1' : decide (i < n) = true := decide_eq_true hlt
                                have k0 : wr.cell? ⟨gU, i, none⟩ = some (.int .i64 (V i)) := HU.out.cell i hlt
                                have f0 : wr.frozen? ⟨gU, i, none⟩ = false := HU.out.frozen i
                                have HU' := hide (HU.out.setI i hlt (i : Int))
                                have HM' : Hid (Mi (wr.setCell ⟨gU, i, none⟩ (.int .i64 (i : Int))) gI fi q) := HM.out.alloc (Below.heap_setCell _ _ _ _ (by show gI ≠ gU; omega))
                                have HR' : Hid (Below ws.heap.size ws (wr.setCell ⟨gU, i, none⟩ (.int .i64 (i : Int)))) := HR.out.setCell hgU _
                                have HV' : Hid (∀ j, j < i + 1 → (if j = i then (i : Int) else V j) = (j : Int)) := fun j hj => by
                                  by_cases e : j = i
                                  · rw [if_pos e, e]
                                  · rw [if_neg e]; exact HV.out j (by omega)
                                go_wp2_with fail
                                go_roundw
                                case rel => exact ⟨i + 1, _, by go_num, by omega, HM', HU', HV', HR'⟩
                                case measure => simp [intOf]; omega
                            · as_aux_lemma =>
                                have e1 : decide ((i : Int) < (n : Int)) = false := decide_eq_false (by omega)
                                have e1' : decide (i < n) = false := decide_eq_false hlt
                                have HOM : Hid (Om ws wr gI gU n fi (fun j => j)) := ⟨HR.out, ⟨q, HM.out⟩, HU.out.congr (fun j hj => by rw [HV.out j (by omega)])⟩
                                go_wp2_with fail
                                clear HR hlt e1 e1' hi HM HU HV
                                obtain ⟨wp3, rfl⟩ : ∃ x, x = wr := ⟨wr, rfl⟩
                                go_loopw [23] (fun v wr => ∃ (i : Nat) (d up rho : Nat → Nat), v = .int .i64 i ∧ i ≤ n ∧ Hid (Uf n d up rho) ∧ Hid (Un n PE (pick4 L1 L2 L3 L4) (pick4 Z1 Z2 Z3 Z4) cc rho i 0 0) ∧ Hid (Om ws wr gI gU n fi up)) (fun v _ => n - (intOf v).toNat)
                                case atStart => exact ⟨0, _, _, _, rfl, Nat.zero_le _, Uf.start n, Un.start cc, HOM⟩
                                case round =>
                                  clear HOM
                                  obtain ⟨i, d, up, rho, rfl, hi, HU, HN, HM⟩ := hrel
                                  by_cases hlt : i < n
                                  · as_aux_lemma =>
                                      have e1 : decide ((i : Int) < (n : Int)) = true := decide_eq_true (by omega)
                                      have e1' : decide (i < n) = true := decide_eq_true hlt
                                      obtain ⟨x1, hx1⟩ := X1.out.at' (by omega)
                                      obtain ⟨x2, hx2⟩ := X2.out.at' (by omega)
                                      obtain ⟨x3, hx3⟩ := X3.out.at' (by omega)
                                      obtain ⟨x4, hx4⟩ := X4.out.at' (by omega)
                                      obtain ⟨k1, _⟩ := ((X1.out.below HM.out.bl).2 x1 hx1).2 i hlt
                                      obtain ⟨k2, _⟩ := ((X2.out.below HM.out.bl).2 x2 hx2).2 i hlt
                                      obtain ⟨k3, _⟩ := ((X3.out.below HM.out.bl).2 x3 hx3).2 i hlt
                                      obtain ⟨k4, _⟩ := ((X4.out.below HM.out.bl).2 x4 hx4).2 i hlt
                                      have HKK : Hid (∀ w' : World, Below wr.heap.size wr w' → w'.cell? (x1.add i) = some (.slice (AA1 i) (L1 i) (L1 i)) ∧ w'.cell? (x2.add i) = some (.slice (AA2 i) (L2 i) (L2 i)) ∧ w'.cell? (x3.add i) = some (.slice (AA3 i) (L3 i) (L3 i)) ∧ w'.cell? (x4.add i) = some (.slice (AA4 i) (L4 i) (L4 i))) := fun w' hb =>
                                        ⟨by rw [hb.cell (World.block_lt_of_cell? wr _ k1)]; exact k1, by rw [hb.cell (World.block_lt_of_cell? wr _ k2)]; exact k2, by rw [hb.cell (World.block_lt_of_cell? wr _ k3)]; exact k3, by rw [hb.cell (World.block_lt_of_cell? wr _ k4)]; exact k4⟩
                                      clear k1 k2 k3 k4
                                      subst hx1 hx2 hx3 hx4
                                      go_wp2_with fail
                                      go_region_held3 (fun (w' : World) => w'.cell? (x1.add i) = some (.slice (AA1 i) (L1 i) (L1 i)) ∧ w'.cell? (x2.add i) = some (.slice (AA2 i) (L2 i) (L2 i)) ∧ w'.cell? (x3.add i) = some (.slice (AA3 i) (L3 i) (L3 i)) ∧ w'.cell? (x4.add i) = some (.slice (AA4 i) (L4 i) (L4 i)))
                                        (first | exact HKK.out _ (Below.refl _ _).drew | exact HKK.out _ (((Below.refl _ _).alloc (Nat.le_refl _) _).drew))
                                        (fail)
                                      obtain ⟨w5, hw5⟩ : ∃ x, x = (wr.alloc (.cells #[.slice (AA1 i) (L1 i) (L1 i), .slice (AA2 i) (L2 i) (L2 i), .slice (AA3 i) (L3 i) (L3 i), .slice (AA4 i) (L4 i) (L4 i)] 35)).drew := ⟨_, rfl⟩
                                      rw [← hw5]
                                      obtain ⟨hA, HHA⟩ : ∃ x, Hid (x = wr.heap.size) := ⟨_, rfl⟩
                                      rw [← HHA.out]
                                      have hb5 : Below wr.heap.size wr w5 := by rw [hw5]; exact ((Below.refl _ _).alloc (Nat.le_refl _) _).drew
                                      have HM5 := hide (HM.out.low hb5)
                                      have hne : hA ≠ gU := by rw [HHA.out]; have := HM.out.uu.lt; omega
                                      have HAR : Hid (Bk w5 hA 35 4 (fun k => .slice (pick4 AA1 AA2 AA3 AA4 k i) (pick4 L1 L2 L3 L4 k i) (pick4 L1 L2 L3 L4 k i))) := by
                                        show Bk _ _ _ _ _
                                        rw [hw5, HHA.out]
                                        refine (Bk.new wr _ 35).congr (fun k hk => ?_)
                                        have hk : k < 4 := hk
                                        have hk' : k = 0 ∨ k = 1 ∨ k = 2 ∨ k = 3 := by omega
                                        rcases hk' with rfl | rfl | rfl | rfl <;> rfl
                                      clear hw5 HKK HHA hb5 HM
                                      go_wp2_with fail
                                      obtain ⟨wq, rfl⟩ : ∃ x, x = wr := ⟨wr, rfl⟩
                                      go_loopw [25] (fun v wr => ∃ (k : Nat) (d up rho : Nat → Nat), v = .int .i64 k ∧ k ≤ 4 ∧ Hid (Uf n d up rho) ∧ Hid (Un n PE (pick4 L1 L2 L3 L4) (pick4 Z1 Z2 Z3 Z4) cc rho i k 0) ∧ Hid (Om ws wr gI gU n fi up) ∧ Hid (Bk wr hA 35 4 (fun k => .slice (pick4 AA1 AA2 AA3 AA4 k i) (pick4 L1 L2 L3 L4 k i) (pick4 L1 L2 L3 L4 k i)))) (fun v _ => 4 - (intOf v).toNat)
                                      case atStart => exact ⟨0, d, up, rho, rfl, by omega, HU, HN, HM5, HAR⟩
                                      case round =>
                                        clear HU HN HM5 HAR
                                        obtain ⟨k, d, up, rho, rfl, hk, HU, HN, HM, HAR⟩ := hrel
                                        by_cases hlt3 : k < 4
                                        · have e2 : decide ((k : Int) < 4) = true := decide_eq_true (by omega)
                                          have e2' : decide (k < 4) = true := decide_eq_true hlt3
                                          have hki : (k : Int) < 4 := by omega
                                          have ka : wr.cell? ⟨hA, k, none⟩ = some (.slice (pick4 AA1 AA2 AA3 AA4 k i) (pick4 L1 L2 L3 L4 k i) (pick4 L1 L2 L3 L4 k i)) := HAR.out.cell k hlt3
                                          obtain ⟨ak, HAK⟩ : ∃ x, Hid (x = pick4 AA1 AA2 AA3 AA4 k i) := ⟨_, rfl⟩
                                          obtain ⟨lk', HLK⟩ : ∃ x, Hid (x = pick4 L1 L2 L3 L4 k i) := ⟨_, rfl⟩
                                          rw [← HAK.out, ← HLK.out] at ka
                                          have lk : lk' ≤ 1048576 := by rw [HLK.out]; exact (HRD.out i hlt k hlt3 ws (Below.refl _ _)).2
                                          go_wp2_with fail
                                          obtain ⟨wq2, rfl⟩ : ∃ x, x = wr := ⟨wr, rfl⟩
                                          go_loopw [210] (fun v wr => ∃ (t : Nat) (d up rho : Nat → Nat), v = .int .i64 t ∧ t ≤ lk' ∧ Hid (Uf n d up rho) ∧ Hid (Un n PE (pick4 L1 L2 L3 L4) (pick4 Z1 Z2 Z3 Z4) cc rho i k t) ∧ Hid (Om ws wr gI gU n fi up) ∧ Hid (Bk wr hA 35 4 (fun k => .slice (pick4 AA1 AA2 AA3 AA4 k i) (pick4 L1 L2 L3 L4 k i) (pick4 L1 L2 L3 L4 k i)))) (fun v _ => lk' - (intOf v).toNat)
                                          case atStart => exact ⟨0, d, up, rho, rfl, Nat.zero_le _, HU, HN, HM, HAR⟩
                                          case round =>
                                            clear HU HN HM HAR ka
                                            obtain ⟨t, d, up, rho, rfl, ht, HU, HN, HM, HAR⟩ := hrel
                                            by_cases hlt4 : t < lk'
                                            · have e3 : decide ((t : Int) < (lk' : Int)) = true := decide_eq_true (by omega)
                                              have e3' : decide (t < lk') = true := decide_eq_true hlt4
                                              have hrd := (HRD.out i hlt k hlt3 wr HM.out.bl).1
                                              rw [← HAK.out, ← HLK.out] at hrd
                                              obtain ⟨x, hx, kx⟩ := hrd.cell t hlt4
                                              clear hrd
                                              obtain ⟨u, HUU⟩ : ∃ u, Hid (u = pick4 Z1 Z2 Z3 Z4 k i t) := ⟨_, rfl⟩
                                              rw [← HUU.out] at kx
                                              have htl : t < pick4 L1 L2 L3 L4 k i := by rw [← HLK.out]; exact hlt4
                                              obtain ⟨jx, hjx, ejx⟩ := HI.out.hrel i k hlt hlt3 u (mem_ofN.2 ⟨t, htl, HUU.out.symm⟩)
                                              have HEJ : Hid (PE jx = pick4 Z1 Z2 Z3 Z4 k i t) := by show _ = _; rw [ejx]; exact HUU.out
                                              have HCJ : Hid (cc jx = cc i) := PLx.out.link HI.out hlt hlt3 htl hjx HEJ.out
                                              have K17 := hide (findRoot_any n gU i d up rho wr (by omega) hlt HU.out HM.out.uu)
                                              subst hx
                                              go_wp2_with fail
                                              refine Calls.mono K17.out ?_
                                              rintro e w6 ⟨rfl, up1, hU1, hB1, hT1⟩
                                              have HU1 := hide hU1
                                              have HM1 := hide (HM.out.tn hT1 hgU (by omega) hB1)
                                              have HAR1 := hide (HAR.out.tn hT1 hne)
                                              clear hU1 hB1 hT1 K17
                                              obtain ⟨q6, hq6⟩ := HM1.out.ix
                                              have hl6 := hq6.look (P := Try.prog) Try.underlying34 Try.underlying3 Try.zeroValue3 u false
                                              rw [← ejx, HF2.out jx hjx, ejx] at hl6
                                              have hl7 : (Instr.lookup 34 (.map (some gI)) (.int .i64 u) false).run Try.prog w6 = .ok (.int .i64 (jx : Int)) w6 := hl6
                                              clear hl6 hq6 ejx
                                              have K17 := hide (findRoot_any n gU jx d up1 rho w6 (by omega) hjx HU1.out HM1.out.uu)
                                              go_wp2_with fail
                                              refine Calls.mono K17.out ?_
                                              rintro e w7 ⟨rfl, up2, hU2, hB2, hT2⟩
                                              have HU2 := hide hU2
                                              have HM2 := hide (HM1.out.tn hT2 hgU (by omega) hB2)
                                              have HAR2 := hide (HAR1.out.tn hT2 hne)
                                              clear hU2 hB2 hT2 K17
                                              have hri := HU2.out.root' hlt
                                              have hrj := HU2.out.root' hjx
                                              obtain ⟨ra, HRA⟩ : ∃ x, Hid (x = rho i) := ⟨_, rfl⟩
                                              obtain ⟨rb, HRB⟩ : ∃ x, Hid (x = rho jx) := ⟨_, rfl⟩
                                              rw [← HRA.out] at hri ⊢
                                              rw [← HRB.out] at hrj ⊢
                                              have hra : ra < n := hri.1
                                              have hrb : rb < n := hrj.1
                                              have HRI := hide hri
                                              have HRJ := hide hrj
                                              clear hri hrj
                                              by_cases hab : ra = rb
                                              · have HN' := hide (HN.out.same HI.out.hinj hjx HEJ.out (by rw [← HRA.out, ← HRB.out]; exact hab))
                                                subst hab
                                                have e4 : ((ra : Int) != (ra : Int)) = false := neq_f rfl
                                                go_wp2_with fail
                                                go_roundw
                                                case rel => exact ⟨t + 1, d, up2, rho, by go_num, by omega, HU2, HN', HM2, HAR2⟩
                                                case measure => simp [intOf]; omega
                                              · have e4 : ((ra : Int) != (rb : Int)) = true := neq_t hab
                                                have hne2 : rho i ≠ rho jx := by rw [← HRA.out, ← HRB.out]; exact hab
                                                have HN' := hide (Un.join HU2.out HN.out HI.out.hinj hlt hjx HEJ.out HCJ.out hne2)
                                                obtain ⟨d', hU'⟩ := HU2.out.join hra hrb HRI.out.2 HRJ.out.2 hab
                                                rw [HRA.out, HRB.out] at hU'
                                                have HU' := hide hU'
                                                clear hU' hne2
                                                have k8 : w7.cell? ⟨gU, ra, none⟩ = some (.int .i64 (up2 ra : Int)) := HM2.out.uu.cell ra hra
                                                have f8 : w7.frozen? ⟨gU, ra, none⟩ = false := HM2.out.uu.frozen ra
                                                have HM3 : Hid (Om ws (w7.setCell ⟨gU, ra, none⟩ (.int .i64 (rb : Int))) gI gU n fi (fun j => if j = rho i then rho jx else up2 j)) := by
                                                  refine HM2.out.tn ((Tn.refl gU w7).set ra (.int .i64 (rb : Int))) hgU (by omega) ((HM2.out.uu.set ra hra _).congr (fun j hj => ?_))
                                                  rw [← HRA.out, ← HRB.out]
                                                  by_cases e : j = ra
                                                  · simp [e]
                                                  · simp [e]
                                                have HAR3 := hide (HAR2.out.other ⟨gU, ra, none⟩ hne (.int .i64 (rb : Int)))
                                                go_wp2_with fail
                                                go_roundw
                                                case rel => exact ⟨t + 1, d', _, _, by go_num, by omega, HU', HN', HM3, HAR3⟩
                                                case measure => simp [intOf]; omega
                                            · have e3 : decide ((t : Int) < (lk' : Int)) = false := decide_eq_false (by omega)
                                              have e3' : decide (t < lk') = false := decide_eq_false hlt4
                                              have HN' := hide (HN.out.nextk (by rw [← HLK.out]; omega))
                                              go_wp2_with fail
                                              go_roundw
                                              case rel => exact ⟨k + 1, d, up, rho, by go_num, by omega, HU, HN', HM, HAR⟩
                                              case measure => simp [intOf]; omega
                                        · have e2 : decide ((k : Int) < 4) = false := decide_eq_false (by omega)
                                          have e2' : decide (k < 4) = false := decide_eq_false hlt3
                                          have HN' := hide (HN.out.nexti (by omega))
                                          go_wp2_with fail
                                          go_roundw
                                          case rel => exact ⟨i + 1, d, up, rho, by go_num, by omega, HU, HN', HM⟩
                                          case measure => simp [intOf]; omega
                                  · as_aux_lemma =>
                                      have e1 : decide ((i : Int) < (n : Int)) = false := decide_eq_false (by omega)
                                      have e1' : decide (i < n) = false := decide_eq_false hlt
                                      have HRR : Hid (∀ i j, i < n → j < n → (rho i = rho j ↔ cc i = cc j)) := fun i' j' h1 h2 =>
                                        ⟨fun e => by rw [← HN.out.cls i' h1, e, HN.out.cls j' h2], fun e => PLx.out.same HI.out (fun i2 hi2 k2 hk2 t2 ht2 j2 hj2 e2 => HN.out.lks i2 k2 t2 (.inl (by omega)) hi2 hk2 ht2 j2 hj2 e2) h1 h2 e⟩
                                      obtain ⟨X, hX, hmk⟩ := run_mk1 (P := Try.prog) 22 3 _ _ Try.underlying22 Try.info3 n (by omega) (by omega)
                                      obtain ⟨Y, hY, hmk2⟩ := run_mk1 (P := Try.prog) 37 4 _ _ Try.underlying37 Try.info4 n (by omega) (by omega)
                                      have HXS : Hid ((X.size = n ∧ ∀ i, i < n → X.getD i (.bool false) = .int .i64 0) ∧ Y.size = n ∧ ∀ i, i < n → Y.getD i (.bool true) = .bool false) := by
                                        refine ⟨⟨by rw [hX]; exact size_made1 _ _, fun i hi => ?_⟩, by rw [hY]; exact size_made1 _ _, fun i hi => ?_⟩
                                        · rw [Array.getD_eq_getD_getElem?, hX, made1 _ rfl n i hi]
                                          rfl
                                        · rw [Array.getD_eq_getD_getElem?, hY, made1 _ rfl n i hi]
                                          rfl
                                      clear hX hY
                                      go_wp2_with fail
                                      obtain ⟨w5, HW5⟩ : ∃ x, Hid (x = (wr.alloc (.cells X 3)).alloc (.cells Y 4)) := ⟨_, rfl⟩
                                      rw [← HW5.out]
                                      have hwa : (wr.alloc (.cells X 3)).heap.size = wr.heap.size + 1 := by simp
                                      obtain ⟨gL, HGL⟩ : ∃ x, Hid (x = wr.heap.size) := ⟨_, rfl⟩
                                      obtain ⟨gH, HGH⟩ : ∃ x, Hid (x = wr.heap.size + 1) := ⟨_, rfl⟩
                                      rw [← HGH.out, ← HGL.out]
                                      have hgUL : gU < gL := by rw [HGL.out]; exact HM.out.uu.lt
                                      have hgLH : gL < gH := by rw [HGL.out, HGH.out]; omega
                                      have HM5 : Hid (Om ws w5 gI gU n fi up) := HM.out.low (by rw [HW5.out]; exact ((Below.refl _ wr).alloc (Nat.le_refl _) _).alloc (by rw [hwa]; omega) _)
                                      have HL0 : Hid (Bk w5 gL 3 n (fun _ => .int .i64 0)) := by
                                        rw [HW5.out, HGL.out, ← HXS.out.1.1]
                                        exact ((Bk.new wr X 3).alloc _).congr (fun i hi => (HXS.out.1.2 i (by rw [← HXS.out.1.1]; exact hi)).symm)
                                      have HH0 : Hid (Bk w5 gH 4 n (fun _ => .bool false)) := by
                                        have h1 := Bk.new (wr.alloc (.cells X 3)) Y 4
                                        rw [hwa] at h1
                                        rw [HW5.out, HGH.out]
                                        obtain ⟨cur, a1, a2, a3⟩ := h1
                                        refine ⟨cur, a1, by rw [a2]; exact HXS.out.2.1, fun i hi => ?_⟩
                                        have hi2 : i < Y.size := by rw [HXS.out.2.1]; exact hi
                                        rw [a3 i hi2]
                                        show some (Y.getD i (.bool false)) = some (.bool false)
                                        have := HXS.out.2.2 i hi
                                        rw [Array.getD_eq_getD_getElem?, Array.getElem?_eq_getElem hi2] at this
                                        simp only [Option.getD_some] at this
                                        rw [Array.getD_eq_getD_getElem?, Array.getElem?_eq_getElem hi2]
                                        simp [this]
                                      clear HW5 HGL HGH hmk hmk2 hlt e1 e1' hi HM HN HXS hwa
                                      obtain ⟨wp4, rfl⟩ : ∃ x, x = wr := ⟨wr, rfl⟩
                                      go_loopw [32, 33] (fun vc v wr => ∃ (i K : Nat) (RL : List Nat) (LE : Nat → Int) (HHf : Nat → Bool) (up : Nat → Nat), vc = .int .i64 (K : Int) ∧ v = .int .i64 i ∧ i ≤ n ∧ K ≤ i ∧ Hid (RL.length = K) ∧ Hid (Uf n d up rho) ∧ Hid (Le n PE rho i RL LE HHf) ∧ Hid (Om ws wr gI gU n fi up) ∧ Hid (Bk wr gL 3 n (fun j => .int .i64 (LE j))) ∧ Hid (Bk wr gH 4 n (fun j => .bool (HHf j)))) (fun _ v _ => n - (intOf v).toNat)
                                      case atStart => exact ⟨0, 0, [], fun _ => 0, fun _ => false, up, rfl, rfl, Nat.zero_le _, Nat.le_refl _, rfl, HU, Le.start rho PE n _, HM5, HL0, HH0⟩
                                      case round =>
                                        clear HU HM5 HL0 HH0
                                        obtain ⟨i, K, RL, LE, HHf, up, rfl, rfl, hi, hKi, HKL, HU, HLE, HM, HGL, HGH⟩ := hrel
                                        by_cases hlt : i < n
                                        · as_aux_lemma =>
                                            have e1 : decide ((i : Int) < (n : Int)) = true := decide_eq_true (by omega)
                                            have e1' : decide (i < n) = true := decide_eq_true hlt
                                            obtain ⟨x0, hx0⟩ := X0.out.at' (by omega)
                                            subst hx0
                                            obtain ⟨p, HP⟩ : ∃ x, Hid (x = PE i) := ⟨_, rfl⟩
                                            have HKP : Hid (∀ w' : World, Below ws.heap.size ws w' → w'.cell? (x0.add i) = some (.int .i64 p)) := fun w' hb => by
                                              rw [HP.out]
                                              exact ((X0.out.below hb).2 x0 rfl).2 i hlt
                                            have K17 := hide (findRoot_any n gU i d up rho wr (by omega) hlt HU.out HM.out.uu)
                                            go_wp2_with fail
                                            refine Calls.mono K17.out ?_
                                            rintro e w6 ⟨rfl, up1, hU1, hB1, hT1⟩
                                            have HU1 := hide hU1
                                            have HM1 := hide (HM.out.tn hT1 hgU (by omega) hB1)
                                            have HGL1 := hide (HGL.out.tn hT1 (by omega))
                                            have HGH1 := hide (HGH.out.tn hT1 (by omega))
                                            have hrn := (hU1.root' hlt).1
                                            clear hU1 hB1 hT1 K17 HM HGL HGH HU
                                            obtain ⟨r, HRR2⟩ : ∃ x, Hid (x = rho i) := ⟨_, rfl⟩
                                            rw [← HRR2.out] at hrn ⊢
                                            have kp := HKP.out _ HM1.out.bl
                                            have kH : w6.cell? ⟨gH, r, none⟩ = some (.bool (HHf r)) := HGH1.out.cell r hrn
                                            obtain ⟨z, HZ⟩ : ∃ x, Hid (x = LE r) := ⟨_, rfl⟩
                                            have kL : w6.cell? ⟨gL, r, none⟩ = some (.int .i64 z) := by rw [HZ.out]; exact HGL1.out.cell r hrn
                                            cases hf : HHf r with
                                            | false =>
                                              rw [hf] at kH
                                              have HLE' := hide (HLE.out.new (by rw [← HRR2.out]; exact hrn) (by rw [← HRR2.out]; exact hf))
                                              have f1 : w6.frozen? ⟨gH, r, none⟩ = false := HGH1.out.frozen r
                                              have g1 := HGL1.out.other ⟨gH, r, none⟩ (by show gL ≠ gH; omega) (.bool true)
                                              have k2 : (w6.setCell ⟨gH, r, none⟩ (.bool true)).cell? ⟨gL, r, none⟩ = some (.int .i64 z) := by rw [HZ.out]; exact g1.cell r hrn
                                              have f2 : (w6.setCell ⟨gH, r, none⟩ (.bool true)).frozen? ⟨gL, r, none⟩ = false := g1.frozen r
                                              have HM2 := hide (HM1.out.set ⟨gH, r, none⟩ (.bool true) (by show ws.heap.size ≤ gH; omega) (by show gH ≠ gI; omega) (by show gH ≠ gU; omega))
                                              have kp2 := HKP.out _ HM2.out.bl
                                              have HM3 := hide (HM2.out.set ⟨gL, r, none⟩ (.int .i64 p) (by show ws.heap.size ≤ gL; omega) (by show gL ≠ gI; omega) (by show gL ≠ gU; omega))
                                              have HGL3 : Hid (Bk ((w6.setCell ⟨gH, r, none⟩ (.bool true)).setCell ⟨gL, r, none⟩ (.int .i64 p)) gL 3 n (fun q => .int .i64 (if q = rho i then PE i else LE q))) := by
                                                rw [← HRR2.out, ← HP.out]
                                                exact g1.setI r hrn p
                                              have HGH3 : Hid (Bk ((w6.setCell ⟨gH, r, none⟩ (.bool true)).setCell ⟨gL, r, none⟩ (.int .i64 p)) gH 4 n (fun q => .bool (if q = rho i then true else HHf q))) := by
                                                rw [← HRR2.out]
                                                exact ((HGH1.out.set r hrn (.bool true)).other _ (by show gH ≠ gL; omega) _).congr (fun q hq => by by_cases e : q = r <;> simp [e])
                                              have HKL' : Hid ((RL ++ [rho i]).length = K + 1) := by
                                                show _ = _
                                                rw [List.length_append, HKL.out]
                                                rfl
                                              clear g1 hf
                                              go_wp2_with fail
                                              go_roundw
                                              case rel => exact ⟨i + 1, K + 1, _, _, _, up1, by go_num, by go_num, by omega, by omega, HKL', HU1, HLE', HM3, HGL3, HGH3⟩
                                              case measure => simp [intOf]; omega
                                            | true =>
                                              rw [hf] at kH
                                              have HFT : Hid (HHf (rho i) = true) := by rw [← HRR2.out]; exact hf
                                              clear hf
                                              have f2 : w6.frozen? ⟨gL, r, none⟩ = false := HGL1.out.frozen r
                                              have HMd : Hid (∀ q, Om ws (w6.drewN q) gI gU n fi up1) := fun q => HM1.out.low (below_drewN (Below.refl _ w6) q)
                                              have HGHd : Hid (∀ q, Bk (w6.drewN q) gH 4 n (fun j => .bool (HHf j))) := fun q => HGH1.out.drewN q
                                              by_cases hlz : p < z
                                              · have e2 : decide (p < z) = true := decide_eq_true hlz
                                                have HLE' : Hid (Le n PE rho (i + 1) RL (fun q => if q = rho i then PE i else LE q) HHf) := by
                                                  refine HLE.out.old (by rw [← HRR2.out]; exact hrn) HFT.out _ (fun q hq => by simp [hq]) (by simp) ?_ (.inl (by simp))
                                                  have := HZ.out
                                                  rw [HRR2.out] at this
                                                  have h2 := HP.out
                                                  simp
                                                  omega
                                                have HM3 : Hid (∀ q, Om ws ((w6.drewN q).setCell ⟨gL, r, none⟩ (.int .i64 p)) gI gU n fi up1) := fun q => (HMd.out q).set _ _ (by show ws.heap.size ≤ gL; omega) (by show gL ≠ gI; omega) (by show gL ≠ gU; omega)
                                                have HGL3 : Hid (∀ s, Bk ((w6.drewN s).setCell ⟨gL, r, none⟩ (.int .i64 p)) gL 3 n (fun q => .int .i64 (if q = rho i then PE i else LE q))) := fun s => by
                                                  rw [← HRR2.out, ← HP.out]
                                                  exact (HGL1.out.drewN s).setI r hrn p
                                                have HGH3 : Hid (∀ s, Bk ((w6.drewN s).setCell ⟨gL, r, none⟩ (.int .i64 p)) gH 4 n (fun q => .bool (HHf q))) := fun s => (HGHd.out s).other _ (by show gH ≠ gL; omega) _
                                                go_wp2_with fail
                                                go_big_quiet (fail)
                                                go_wp2_with fail
                                                go_roundw
                                                case rel => exact ⟨i + 1, K, RL, _, _, up1, rfl, by go_num, by omega, by omega, HKL, HU1, HLE', HM3.out _, HGL3.out _, HGH3.out _⟩
                                                case measure => simp [intOf]; omega
                                              · have e2 : decide (p < z) = false := decide_eq_false hlz
                                                have HLE' : Hid (Le n PE rho (i + 1) RL LE HHf) := by
                                                  have h1 := HZ.out
                                                  rw [HRR2.out] at h1
                                                  have h2 := HP.out
                                                  refine HLE.out.old (by rw [← HRR2.out]; exact hrn) HFT.out _ (fun q hq => rfl) (by omega) (Int.le_refl _) (.inr rfl)
                                                go_wp2_with fail
                                                go_big_quiet (fail)
                                                go_wp2_with fail
                                                go_roundw
                                                case rel => exact ⟨i + 1, K, RL, LE, HHf, up1, rfl, by go_num, by omega, by omega, HKL, HU1, HLE', HMd.out _, HGL1.out.drewN _, HGHd.out _⟩
                                                case measure => simp [intOf]; omega
                                        · as_aux_lemma =>
                                            have e1 : decide ((i : Int) < (n : Int)) = false := decide_eq_false (by omega)
                                            have e1' : decide (i < n) = false := decide_eq_false hlt
                                            have hin : i = n := by omega
                                            rw [hin] at HLE
                                            have hcnt : K = bf.done.length := by
                                              rw [← HKL.out]
                                              exact PLx.out.count HI.out HRR.out HLE.out.nd HLE.out.mem
                                            obtain ⟨av, cv, AAv, Cv, hvo, hrv⟩ := SF.out.cs.rd
                                            have HRV := hide hrv
                                            clear hrv
                                            subst hvo
                                            obtain ⟨Dn, HDN⟩ : ∃ x, Hid (x = bf.done.length) := ⟨_, rfl⟩
                                            rw [← HDN.out] at hcnt HRV
                                            have KC := hide (SF.out.below HM.out.bl).circles
                                            rw [← HDN.out] at KC
                                            have KLn := hide (SF.out.below HM.out.bl).len
                                            have hDn : Dn ≤ 1048576 := by rw [HDN.out]; exact HLN.out.1
                                            subst hcnt
                                            have eK : ((K : Int) != (K : Int)) = false := neq_f rfl
                                            have enn : ((n : Int) != (n : Int)) = false := neq_f rfl
                                            obtain ⟨X, hX, hmk⟩ := run_mk1 (P := Try.prog) 22 3 _ _ Try.underlying22 Try.info3 n (by omega) (by omega)
                                            have HXS : Hid (X.size = n ∧ ∀ i, i < n → X.getD i (.bool false) = .int .i64 0) := by
                                              refine ⟨by rw [hX]; exact size_made1 _ _, fun i hi => ?_⟩
                                              rw [Array.getD_eq_getD_getElem?, hX, made1 _ rfl n i hi]
                                              rfl
                                            clear hX hin
                                            go_wp2_with fail
                                            refine Calls.mono KC.out ?_
                                            rintro e w' ⟨rfl, hw⟩
                                            obtain rfl := hw.symm
                                            go_wp2_with fail
                                            refine Calls.mono KLn.out ?_
                                            rintro e w' ⟨rfl, hw⟩
                                            obtain rfl := hw.symm
                                            go_wp2_with fail
                                            obtain ⟨w5, HW5⟩ : ∃ x, Hid (x = (wr.alloc (.cells X 3)).alloc (.cells X 3)) := ⟨_, rfl⟩
                                            rw [← HW5.out]
                                            have hwa : (wr.alloc (.cells X 3)).heap.size = wr.heap.size + 1 := by simp
                                            obtain ⟨gA, HGA⟩ : ∃ x, Hid (x = wr.heap.size) := ⟨_, rfl⟩
                                            obtain ⟨gP, HGP⟩ : ∃ x, Hid (x = wr.heap.size + 1) := ⟨_, rfl⟩
                                            rw [← HGP.out, ← HGA.out]
                                            have hgLA : gL < gA := by rw [HGA.out]; exact HGL.out.lt
                                            have hgAP : gA < gP := by rw [HGA.out, HGP.out]; omega
                                            have hb5 : Below wr.heap.size wr w5 := by rw [HW5.out]; exact ((Below.refl _ wr).alloc (Nat.le_refl _) _).alloc (by rw [hwa]; omega) _
                                            have HM5 : Hid (Om ws w5 gI gU n fi up) := HM.out.low hb5
                                            have HGL5 : Hid (Bk w5 gL 3 n (fun j => .int .i64 (LE j))) := HGL.out.sameBlock (hb5.block gL HGL.out.lt)
                                            have HA0 : Hid (Bk w5 gA 3 n (fun _ => .int .i64 0)) := by
                                              rw [HW5.out, HGA.out, ← HXS.out.1]
                                              exact ((Bk.new wr X 3).alloc _).congr (fun i hi => (HXS.out.2 i (by rw [← HXS.out.1]; exact hi)).symm)
                                            have HP0 : Hid (Bk w5 gP 3 n (fun _ => .int .i64 0)) := by
                                              have h1 := Bk.new (wr.alloc (.cells X 3)) X 3
                                              rw [hwa] at h1
                                              rw [HW5.out, HGP.out, ← HXS.out.1]
                                              exact h1.congr (fun i hi => (HXS.out.2 i (by rw [← HXS.out.1]; exact hi)).symm)
                                            clear HW5 HGA HGP hmk hlt e1 e1' hi HM HXS hwa hb5 HGL HGH KC KLn HKL hKi eK enn
                                            obtain ⟨wp5, rfl⟩ : ∃ x, x = wr := ⟨wr, rfl⟩
                                            go_loopw [38] (fun v wr => ∃ (i : Nat) (CA : Nat → Int), v = .int .i64 i ∧ i ≤ n ∧ Hid (∀ j, j < i → CA j = -1) ∧ Hid (Om ws wr gI gU n fi up) ∧ Hid (Bk wr gL 3 n (fun j => .int .i64 (LE j))) ∧ Hid (Bk wr gA 3 n (fun j => .int .i64 (CA j))) ∧ Hid (Bk wr gP 3 n (fun _ => .int .i64 0))) (fun v _ => n - (intOf v).toNat)
                                            case atStart => exact ⟨0, fun _ => 0, rfl, Nat.zero_le _, fun j hj => absurd hj (Nat.not_lt_zero _), HM5, HGL5, HA0, HP0⟩
                                            case round =>
                                              clear HM5 HGL5 HA0 HP0
                                              obtain ⟨i, CA, rfl, hi, HCA, HM, HGL, HA, HP⟩ := hrel
                                              by_cases hlt : i < n
                                              · as_aux_lemma =>
                                                  have e1 : decide ((i : Int) < (n : Int)) = true := decide_eq_true (by omega)
                                                  have e1' : decide (i < n) = true := decide_eq_true hlt
                                                  have k0 : wr.cell? ⟨gA, i, none⟩ = some (.int .i64 (CA i)) := HA.out.cell i hlt
                                                  have f0 : wr.frozen? ⟨gA, i, none⟩ = false := HA.out.frozen i
                                                  have HA' := hide (HA.out.setI i hlt (-1))
                                                  have HP' := hide (HP.out.other ⟨gA, i, none⟩ (by show gP ≠ gA; omega) (.int .i64 (-1)))
                                                  have HGL' := hide (HGL.out.other ⟨gA, i, none⟩ (by show gL ≠ gA; omega) (.int .i64 (-1)))
                                                  have HM' := hide (HM.out.set ⟨gA, i, none⟩ (.int .i64 (-1)) (by show ws.heap.size ≤ gA; omega) (by show gA ≠ gI; omega) (by show gA ≠ gU; omega))
                                                  have HCA' : Hid (∀ j, j < i + 1 → (if j = i then (-1 : Int) else CA j) = -1) := fun j hj => by
                                                    by_cases e : j = i
                                                    · rw [if_pos e]
                                                    · rw [if_neg e]; exact HCA.out j (by omega)
                                                  go_wp2_with fail
                                                  go_roundw
                                                  case rel => exact ⟨i + 1, _, by go_num, by omega, HCA', HM', HGL', HA', HP'⟩
                                                  case measure => simp [intOf]; omega
                                              · as_aux_lemma =>
                                                  have e1 : decide ((i : Int) < (n : Int)) = false := decide_eq_false (by omega)
                                                  have e1' : decide (i < n) = false := decide_eq_false hlt
                                                  have HCa : Hid (Ca n cc pos CA (fun _ => 0) 0 0) := Ca.start (fun j hj => HCA.out j (by omega))
                                                  go_wp2_with fail
                                                  clear hlt e1 e1' hi HCA
                                                  obtain ⟨wp6, rfl⟩ : ∃ x, x = wr := ⟨wr, rfl⟩
                                                  go_loopw [39] (fun v wr => ∃ (ci : Nat) (up : Nat → Nat) (CA PC : Nat → Int), v = .int .i64 (ci : Int) ∧ ci ≤ K ∧ Hid (Uf n d up rho) ∧ Hid (Ca n cc pos CA PC ci 0) ∧ Hid (Om ws wr gI gU n fi up) ∧ Hid (Bk wr gL 3 n (fun j => .int .i64 (LE j))) ∧ Hid (Bk wr gA 3 n (fun j => .int .i64 (CA j))) ∧ Hid (Bk wr gP 3 n (fun j => .int .i64 (PC j)))) (fun v _ => K - (intOf v).toNat)
                                                  case atStart => exact ⟨0, up, CA, fun _ => 0, rfl, Nat.zero_le _, HU, HCa, HM, HGL, HA, HP⟩
                                                  case round =>
                                                    clear HU HCa HM HGL HA HP
                                                    obtain ⟨ci, up, CA, PC, rfl, hci, HU, HCa, HM, HGL, HA, HP⟩ := hrel
                                                    by_cases hlt : ci < K
                                                    · as_aux_lemma =>
                                                        have e1 : decide ((ci : Int) < (K : Int)) = true := decide_eq_true (by omega)
                                                        have e1' : decide (ci < K) = true := decide_eq_true hlt
                                                        obtain ⟨l, HLd⟩ : ∃ x, Hid (x = bf.done.getD ci []) := ⟨_, rfl⟩
                                                        have HLC : Hid (bf.done[ci]? = some l) := by
                                                          have h1 : ci < bf.done.length := by rw [← HDN.out]; exact hlt
                                                          show bf.done[ci]? = some l
                                                          rw [HLd.out, List.getD_eq_getElem?_getD, List.getElem?_eq_getElem h1]
                                                          rfl
                                                        obtain ⟨m, HMl⟩ : ∃ x, Hid (l.length = x) := ⟨_, rfl⟩
                                                        have HCi := hide (PLx.out.ci ci l HLC.out)
                                                        have hm0 : 0 < m := by rw [← HMl.out]; exact HCi.out.pos
                                                        have hmb : m ≤ 1048576 := by
                                                          have := HLN.out.2 ci (by rw [← HDN.out]; exact hlt)
                                                          rw [← HLd.out, HMl.out] at this
                                                          exact this
                                                        obtain ⟨xv, hxv⟩ := HRV.out.at' (by omega)
                                                        obtain ⟨al, HAL⟩ : ∃ x, Hid (x = AAv ci) := ⟨_, rfl⟩
                                                        obtain ⟨cl, HCL⟩ : ∃ x, Hid (x = Cv ci) := ⟨_, rfl⟩
                                                        have HLV : Hid (∀ w' : World, Below ws.heap.size ws w' → w'.cell? (xv.add ci) = some (.slice al m cl) ∧ RdI .i64 w' al m (fun j => l.getD j 0)) := fun w' hb => by
                                                          have := ((HRV.out.below hb).2 xv hxv).2 ci hlt
                                                          rw [HAL.out, HCL.out, ← HMl.out, HLd.out]
                                                          exact this
                                                        subst hxv
                                                        obtain ⟨p0, HP0⟩ : ∃ x, Hid (x = l.getD 0 0) := ⟨_, rfl⟩
                                                        have HG0 : Hid (l[0]? = some p0) := by
                                                          show l[0]? = some p0
                                                          rw [HP0.out, List.getD_eq_getElem?_getD, List.getElem?_eq_getElem HCi.out.pos]
                                                          rfl
                                                        obtain ⟨jf, hjf, ejf, ecf, _⟩ := PLx.out.inv ci 0 l p0 HLC.out HG0.out
                                                        have HEC := hide ecf
                                                        have HLF : Hid (LE (rho jf) = p0) := by
                                                          have := HLE.out.first PLx.out HI.out HRR.out HLC.out hjf (ejf.trans HP0.out) ecf
                                                          rw [← HP0.out] at this
                                                          exact this
                                                        obtain ⟨xl, hxl⟩ := (HLV.out ws (Below.refl _ _)).2.at' hm0
                                                        have HKL0 : Hid (∀ (w' : World) (q : Nat) (x : Int), Below ws.heap.size ws w' → q < m → l[q]? = some x → w'.cell? (xl.add q) = some (.int .i64 x)) := fun w' q x hb hq hx => by
                                                          have h1 : w'.cell? (xl.add q) = some (.int .i64 (l.getD q 0)) := ((HLV.out w' hb).2.2 xl hxl).2 q hq
                                                          rw [List.getD_eq_getElem?_getD, hx] at h1
                                                          exact h1
                                                        obtain ⟨qi, hqi⟩ := HM.out.ix
                                                        have hlk1 := hqi.look (P := Try.prog) Try.underlying34 Try.underlying3 Try.zeroValue3 p0 true
                                                        rw [← ejf, HF2.out jf hjf, ejf] at hlk1
                                                        have hlk2 : (Instr.lookup 34 (.map (some gI)) (.int .i64 p0) true).run Try.prog wr = .ok (.tuple #[.int .i64 (jf : Int), .bool true]) wr := hlk1
                                                        have kv := (HLV.out _ HM.out.bl).1
                                                        have kl0 := HKL0.out wr 0 p0 HM.out.bl hm0 HG0.out
                                                        have HEX0 : Hid (xl.add 0 = xl) := by show _ = _; unfold Addr.add; cases xl; simp
                                                        have kl0' : wr.cell? xl = some (.int .i64 p0) := by have h1 := kl0; rw [HEX0.out] at h1; exact h1
                                                        have em : ((m : Int) == 0) = false := by simp; omega
                                                        have em' : (m == 0) = false := by simp; omega
                                                        have K17 := hide (findRoot_any n gU jf d up rho wr (by omega) hjf HU.out HM.out.uu)
                                                        clear hlk1 hqi ejf ecf
                                                        subst hxl
                                                        go_wp2_with fail
                                                        refine Calls.mono K17.out ?_
                                                        rintro e w6 ⟨rfl, up1, hU1, hB1, hT1⟩
                                                        have HU1 := hide hU1
                                                        have HM1 := hide (HM.out.tn hT1 hgU (by omega) hB1)
                                                        have HGL1 := hide (HGL.out.tn hT1 (by omega))
                                                        have HA1 := hide (HA.out.tn hT1 (by omega))
                                                        have HP1 := hide (HP.out.tn hT1 (by omega))
                                                        have hrf := (hU1.root' hjf).1
                                                        clear hU1 hB1 hT1 K17 HM HGL HA HP HU kv kl0 kl0' hlk2
                                                        obtain ⟨rf, HRF⟩ : ∃ x, Hid (x = rho jf) := ⟨_, rfl⟩
                                                        rw [← HRF.out] at hrf HLF ⊢
                                                        have kL : w6.cell? ⟨gL, rf, none⟩ = some (.int .i64 p0) := by rw [← HLF.out]; exact HGL1.out.cell rf hrf
                                                        have kl0 := HKL0.out w6 0 p0 HM1.out.bl hm0 HG0.out
                                                        have kl0' : w6.cell? xl = some (.int .i64 p0) := by have h1 := kl0; rw [HEX0.out] at h1; exact h1
                                                        have kv := (HLV.out _ HM1.out.bl).1
                                                        have epp : (p0 != p0) = false := by simp
                                                        have HD : Hid (∀ a b, Om ws ((w6.drewN a).drewN b) gI gU n fi up1) := fun a b => HM1.out.low (below_drewN (below_drewN (Below.refl _ w6) a) b)
                                                        have HDL : Hid (∀ a b, Bk ((w6.drewN a).drewN b) gL 3 n (fun j => .int .i64 (LE j))) := fun a b => HGL1.out
                                                        have HDA : Hid (∀ a b, Bk ((w6.drewN a).drewN b) gA 3 n (fun j => .int .i64 (CA j))) := fun a b => HA1.out
                                                        have HDP : Hid (∀ a b, Bk ((w6.drewN a).drewN b) gP 3 n (fun j => .int .i64 (PC j))) := fun a b => HP1.out
                                                        go_wp2_with fail
                                                        go_big_quiet (fail)
                                                        go_wp2_with fail
                                                        have hgo : (decide ((0 : Int) < (ci : Int)) = false ∧ decide (0 < ci) = false) ∨ ∃ (c' m' cl' : Nat) (xl' : Addr) (p' : Int), decide ((0 : Int) < (ci : Int)) = true ∧ decide (0 < ci) = true ∧ (ci : Int) - 1 = (c' : Int) ∧ c' < K ∧ 0 < m' ∧ w6.cell? (xv.add c') = some (.slice (some xl') m' cl') ∧ w6.cell? (xl'.add 0) = some (.int .i64 p') ∧ w6.cell? xl' = some (.int .i64 p') ∧ decide (p0 ≤ p') = false := by
                                                          by_cases h0 : 0 < ci
                                                          · right
                                                            have h1 : ci - 1 < bf.done.length := by rw [← HDN.out]; omega
                                                            have hl' := List.getElem?_eq_getElem h1
                                                            have hci' := PLx.out.ci _ _ hl'
                                                            have hrow : w6.cell? (xv.add (ci - 1)) = some (.slice (AAv (ci - 1)) (bf.done.getD (ci - 1) []).length (Cv (ci - 1))) ∧ RdI .i64 w6 (AAv (ci - 1)) (bf.done.getD (ci - 1) []).length (fun j => (bf.done.getD (ci - 1) []).getD j 0) := ((HRV.out.below HM1.out.bl).2 xv rfl).2 (ci - 1) (by omega)
                                                            have hgd : bf.done.getD (ci - 1) [] = bf.done[ci - 1] := by rw [List.getD_eq_getElem?_getD, hl']; rfl
                                                            rw [hgd] at hrow
                                                            obtain ⟨xl', hxl', kk⟩ := hrow.2.cell 0 hci'.pos
                                                            rw [hxl'] at hrow
                                                            refine ⟨ci - 1, (bf.done[ci - 1]).length, Cv (ci - 1), xl', (bf.done[ci - 1]).getD 0 0, decide_eq_true (by omega), decide_eq_true h0, by omega, by omega, hci'.pos, hrow.1, kk, ?_, decide_eq_false ?_⟩
                                                            · have h2 : xl'.add 0 = xl' := by unfold Addr.add; cases xl'; simp
                                                              rw [h2] at kk
                                                              exact kk
                                                            have := PLx.out.fst (ci - 1) ci _ l (by omega) hl' HLC.out
                                                            rw [← HP0.out] at this
                                                            omega
                                                          · exact .inl ⟨decide_eq_false (by omega), decide_eq_false h0⟩
                                                        have HNXT : Hid (∀ j, j < n → cc j = ci → pos j < m) := fun j hj hcj => by
                                                          obtain ⟨l', k1, k2, k3⟩ := PLx.out.mem hj
                                                          rw [hcj, HLC.out] at k1
                                                          cases k1
                                                          rw [← HMl.out]
                                                          exact k3
                                                        have HREST : Hid True := trivial
                                                        rcases hgo with ⟨e5, e5'⟩ | ⟨c', m', cl', xl', p', e5, e5', e6, hc', hm', kv', kk', ex', e7⟩
                                                        all_goals
                                                          go_big_quiet (fail)
                                                          go_wp2_with fail
                                                          as_aux_lemma =>
                                                            go_loopw [44] (fun v wr => ∃ (q : Nat) (up : Nat → Nat) (CA PC : Nat → Int), v = .int .i64 (q : Int) ∧ q ≤ m ∧ Hid (Uf n d up rho) ∧ Hid (Ca n cc pos CA PC ci q) ∧ Hid (Om ws wr gI gU n fi up) ∧ Hid (Bk wr gL 3 n (fun j => .int .i64 (LE j))) ∧ Hid (Bk wr gA 3 n (fun j => .int .i64 (CA j))) ∧ Hid (Bk wr gP 3 n (fun j => .int .i64 (PC j)))) (fun v _ => m - (intOf v).toNat)
                                                            case atStart => exact ⟨0, up1, CA, PC, rfl, Nat.zero_le _, HU1, HCa, HD.out _ _, HDL.out _ _, HDA.out _ _, HDP.out _ _⟩
                                                            case round =>
                                                              clear HU1 HCa HM1 HGL1 HA1 HP1 HD HDL HDA HDP kL kl0 kl0' kv
                                                              obtain ⟨q, up, CA, PC, rfl, hq, HU, HCa, HM, HGL, HA, HP⟩ := hrel
                                                              by_cases hltq : q < m
                                                              · as_aux_lemma =>
                                                                  have e8 : decide ((q : Int) < (m : Int)) = true := decide_eq_true (by omega)
                                                                  have e8' : decide (q < m) = true := decide_eq_true hltq
                                                                  obtain ⟨x, HXq⟩ : ∃ x, Hid (x = l.getD q 0) := ⟨_, rfl⟩
                                                                  have HGq : Hid (l[q]? = some x) := by
                                                                    have h1 : q < l.length := by rw [HMl.out]; exact hltq
                                                                    show l[q]? = some x
                                                                    rw [HXq.out, List.getD_eq_getElem?_getD, List.getElem?_eq_getElem h1]
                                                                    rfl
                                                                  obtain ⟨jq, hjq, ejq, ecq, epq⟩ := PLx.out.inv ci q l x HLC.out HGq.out
                                                                  obtain ⟨qi, hqi⟩ := HM.out.ix
                                                                  have hlk1 := hqi.look (P := Try.prog) Try.underlying34 Try.underlying3 Try.zeroValue3 x true
                                                                  rw [← ejq, HF2.out jq hjq, ejq] at hlk1
                                                                  have hlk2 : (Instr.lookup 34 (.map (some gI)) (.int .i64 x) true).run Try.prog wr = .ok (.tuple #[.int .i64 (jq : Int), .bool true]) wr := hlk1
                                                                  clear hlk1 hqi
                                                                  have klq := HKL0.out wr q x HM.out.bl hltq HGq.out
                                                                  have kA : wr.cell? ⟨gA, jq, none⟩ = some (.int .i64 (-1)) := by
                                                                    have := HA.out.cell jq hjq
                                                                    rw [(HCa.out jq hjq).2 (by omega)] at this
                                                                    exact this
                                                                  have K17 := hide (findRoot_any n gU jq d up rho wr (by omega) hjq HU.out HM.out.uu)
                                                                  have hrq : rho jq = rf := by rw [HRF.out]; exact (HRR.out jq jf hjq hjf).2 (by rw [ecq, HEC.out])
                                                                  have HCa' := hide (HCa.out.put hjq ecq epq (fun j' hj' h1 h2 => by
                                                                    obtain ⟨l', k1, k2⟩ := PLx.out.at' j' hj'
                                                                    rw [h1, HLC.out] at k1
                                                                    cases k1
                                                                    rw [h2, HGq.out] at k2
                                                                    have : PE j' = PE jq := by rw [ejq]; exact (Option.some.inj k2).symm
                                                                    exact HI.out.hinj j' jq hj' hjq this))
                                                                  have HCO : Hid (bf.co x = some ci) := by rw [← ejq, ← ecq]; exact HCC.out jq hjq
                                                                  clear ejq ecq epq
                                                                  go_wp2_with fail
                                                                  refine Calls.mono K17.out ?_
                                                                  rintro e w7 ⟨rfl, up2, hU2, hB2, hT2⟩
                                                                  have HU2 := hide hU2
                                                                  have HM2 := hide (HM.out.tn hT2 hgU (by omega) hB2)
                                                                  have HGL2 := hide (HGL.out.tn hT2 (by omega))
                                                                  have HA2 := hide (HA.out.tn hT2 (by omega))
                                                                  have HP2 := hide (HP.out.tn hT2 (by omega))
                                                                  clear hU2 hB2 hT2 K17 HM HGL HA HP HU
                                                                  rw [hrq]
                                                                  clear hrq
                                                                  have err : ((rf : Int) != (rf : Int)) = false := neq_f rfl
                                                                  have ecc : ((ci : Int) != (ci : Int)) = false := neq_f rfl
                                                                  have k8 : w7.cell? ⟨gA, jq, none⟩ = some (.int .i64 (CA jq)) := HA2.out.cell jq hjq
                                                                  have f8 : w7.frozen? ⟨gA, jq, none⟩ = false := HA2.out.frozen jq
                                                                  have g8 := HP2.out.other ⟨gA, jq, none⟩ (by show gP ≠ gA; omega) (.int .i64 (ci : Int))
                                                                  have k9 : (w7.setCell ⟨gA, jq, none⟩ (.int .i64 (ci : Int))).cell? ⟨gP, jq, none⟩ = some (.int .i64 (PC jq)) := g8.cell jq hjq
                                                                  have f9 : (w7.setCell ⟨gA, jq, none⟩ (.int .i64 (ci : Int))).frozen? ⟨gP, jq, none⟩ = false := g8.frozen jq
                                                                  obtain ⟨w8, HW8⟩ : ∃ y, Hid (y = (w7.setCell ⟨gA, jq, none⟩ (.int .i64 (ci : Int))).setCell ⟨gP, jq, none⟩ (.int .i64 (q : Int))) := ⟨_, rfl⟩
                                                                  have HM8 : Hid (Om ws w8 gI gU n fi up2) := by
                                                                    rw [HW8.out]
                                                                    exact (HM2.out.set _ _ (by show ws.heap.size ≤ gA; omega) (by show gA ≠ gI; omega) (by show gA ≠ gU; omega)).set _ _ (by show ws.heap.size ≤ gP; omega) (by show gP ≠ gI; omega) (by show gP ≠ gU; omega)
                                                                  have HGL8 : Hid (Bk w8 gL 3 n (fun j => .int .i64 (LE j))) := by
                                                                    rw [HW8.out]
                                                                    exact (HGL2.out.other _ (by show gL ≠ gA; omega) _).other _ (by show gL ≠ gP; omega) _
                                                                  have HA8 : Hid (Bk w8 gA 3 n (fun j => .int .i64 (if j = jq then (ci : Int) else CA j))) := by
                                                                    rw [HW8.out]
                                                                    exact (HA2.out.setI jq hjq (ci : Int)).other _ (by show gA ≠ gP; omega) _
                                                                  have HP8 : Hid (Bk w8 gP 3 n (fun j => .int .i64 (if j = jq then (q : Int) else PC j))) := by
                                                                    rw [HW8.out]
                                                                    exact g8.setI jq hjq (q : Int)
                                                                  have klr := HKL0.out w8 q x HM8.out.bl hltq HGq.out
                                                                  rw [HW8.out] at klr
                                                                  have K20 := hide ((SF.out.below HM8.out.bl).circleOf x ci HCO.out)
                                                                  rw [HW8.out] at K20
                                                                  clear g8
                                                                  go_wp2_with fail
                                                                  refine Calls.mono K20.out ?_
                                                                  rintro e w' ⟨rfl, hw⟩
                                                                  rw [← HW8.out] at hw
                                                                  obtain rfl := hw.symm
                                                                  clear HW8 klr K20 k9 f9
                                                                  go_wp2_with fail
                                                                  go_roundw
                                                                  case rel => exact ⟨q + 1, up2, _, _, by go_num, by omega, HU2, HCa', HM8, HGL8, HA8, HP8⟩
                                                                  case measure => simp [intOf]; omega
                                                              · as_aux_lemma =>
                                                                  have e8 : decide ((q : Int) < (m : Int)) = false := decide_eq_false (by omega)
                                                                  have e8' : decide (q < m) = false := decide_eq_false hltq
                                                                  have hqm : q = m := by omega
                                                                  rw [hqm] at HCa
                                                                  have HCa' := hide (HCa.out.next HNXT.out)
                                                                  obtain ⟨qi, hqi⟩ := HM.out.ix
                                                                  have K21 := hide (bff_any (SF.out.below HM.out.bl) HI.out PLx.out ci m l HLC.out HMl.out hmb (by omega) (some xl) cl (HLV.out _ HM.out.bl).2 gI qi fi hqi HF2.out gA gP CA PC HA.out HP.out (fun j hj hcj => by
                                                                    rw [((HCa.out j hj).1 (.inr ⟨hcj, HNXT.out j hj hcj⟩)).1, hcj]) (fun j hj hcj => ((HCa.out j hj).1 (.inr ⟨hcj, HNXT.out j hj hcj⟩)).2))
                                                                  clear hqm hqi
                                                                  go_wp2_with fail
                                                                  refine Calls.mono K21.out ?_
                                                                  rintro e w8 ⟨rfl, hb⟩
                                                                  have HM8 := hide (HM.out.low hb)
                                                                  have HGL8 := hide (HGL.out.sameBlock (hb.block gL HGL.out.lt))
                                                                  have HA8 := hide (HA.out.sameBlock (hb.block gA HA.out.lt))
                                                                  have HP8 := hide (HP.out.sameBlock (hb.block gP HP.out.lt))
                                                                  clear hb K21
                                                                  go_wp2_with fail
                                                                  go_roundw
                                                                  case rel => exact ⟨ci + 1, up, CA, PC, by go_num, by omega, HU, HCa', HM8, HGL8, HA8, HP8⟩
                                                                  case measure => simp [intOf]; omega
                                                    · as_aux_lemma =>
                                                        have e1 : decide ((ci : Int) < (K : Int)) = false := decide_eq_false (by omega)
                                                        have e1' : decide (ci < K) = false := decide_eq_false hlt
                                                        have hck : ci = K := by omega
                                                        rw [hck] at HCa
                                                        have HPOS : Hid (∀ j, j < n → CA j = (cc j : Int)) := fun j hj => by
                                                          obtain ⟨l', k1, _, _⟩ := PLx.out.mem hj
                                                          have := lt_of_get? k1
                                                          rw [← HDN.out] at this
                                                          exact ((HCa.out j hj).1 (.inl this)).1
                                                        clear hck
                                                        go_wp2_with fail
                                                        have HBL := hide HM.out.bl
                                                        clear hlt e1 e1' hci HCa HM HGL HP HU
                                                        obtain ⟨wp7, rfl⟩ : ∃ x, x = wr := ⟨wr, rfl⟩
                                                        go_loopw [49] (fun v wr => ∃ (i : Nat), v = .int .i64 i ∧ i ≤ n ∧ Hid (Below ws.heap.size ws wr) ∧ Hid (Bk wr gA 3 n (fun j => .int .i64 (CA j)))) (fun v _ => n - (intOf v).toNat)
                                                        case atStart => exact ⟨0, rfl, Nat.zero_le _, HBL, HA⟩
                                                        case round =>
                                                          clear HBL HA
                                                          obtain ⟨i, rfl, hi, HBL, HA⟩ := hrel
                                                          by_cases hlt : i < n
                                                          · have e1 : decide ((i : Int) < (n : Int)) = true := decide_eq_true (by omega)
                                                            have e1' : decide (i < n) = true := decide_eq_true hlt
                                                            obtain ⟨ccI, HCI⟩ : ∃ x, Hid (x = cc i) := ⟨_, rfl⟩
                                                            have k0 : wr.cell? ⟨gA, i, none⟩ = some (.int .i64 (ccI : Int)) := by rw [HCI.out, ← HPOS.out i hlt]; exact HA.out.cell i hlt
                                                            have e2 : decide ((ccI : Int) < 0) = false := decide_eq_false (by omega)
                                                            go_wp2_with fail
                                                            go_roundw
                                                            case rel => exact ⟨i + 1, by go_num, by omega, HBL, HA⟩
                                                            case measure => simp [intOf]; omega
                                                          · have e1 : decide ((i : Int) < (n : Int)) = false := decide_eq_false (by omega)
                                                            have e1' : decide (i < n) = false := decide_eq_false hlt
                                                            go_wp2_with fail
                                                            go_ret
                                                            exact ⟨rfl, bl_trans HB.out HBL.out⟩
end Go.Proofs.Qxb6605294a
