/-
  Seat b6605223a. THE LAW's WALK: FnResetAfterUseIsFresh (4).
-/
import Derived.Test.Qxb6605223aZ0
import Derived.Test.Qxb6605223aB1
import Derived.Test.Qxb6605223aV1
import Derived.Test.Qxb6605223aY1
set_option linter.unusedVariables false
set_option linter.unusedSimpArgs false
namespace Go.Proofs.Qxb6605223a
open Go.RowKit

set_option maxRecDepth 100000 in
set_option maxHeartbeats 16000000 in
theorem law4 (a1 a2 a3 a4 a5 a6 a7 a8 : Option Addr) (n n2 P n4 n5 n6 nr nb c1 c2 c3 c4 c5 c6 c7 c8 : Nat) (PR PO F RO WA RD RB : Nat → Int) (A : Nat → Option Addr) (L C : Nat → Nat) (Z : Nat → Nat → Int) (w : World)
    (m1 : n ≤ 9223372036854775807) (m2 : n2 ≤ 9223372036854775807) (m3 : P ≤ 9223372036854775807) (m4 : n4 ≤ 9223372036854775807) (m5 : n5 ≤ 9223372036854775807) (m6 : n6 ≤ 9223372036854775807) (m7 : nr ≤ 9223372036854775807) (m8 : nb ≤ 9223372036854775807) (mL : ∀ q, q < P → L q ≤ 9223372036854775807)
    (h1 : RdI .i64 w a1 n PR) (h2 : RdI .i32 w a2 n2 PO) (hPO : ∀ i, i < n2 → -2147483648 ≤ PO i ∧ PO i ≤ 2147483647) (h3 : RdL w a3 P A L C Z) (h4 : RdI .i64 w a4 n4 F) (h5 : RdI .i32 w a5 n5 RO) (h6 : RdI .i32 w a6 n6 WA) (h7 : RdI .i64 w a7 nr RD) (h8 : RdI .i64 w a8 nb RB) :
    Calls Try.prog 4 #[.slice a1 n c1, .slice a2 n2 c2, .slice a3 P c3, .slice a4 n4 c4, .slice a5 n5 c5, .slice a6 n6 c6, .slice a7 nr c7, .slice a8 nb c8] w fun e w' => e = .returned (.bool true) ∧ Below w.heap.size w w' := by
  have H1 : Hid (RdI .i64 w a1 n PR) := h1
  have H2 : Hid (RdI .i32 w a2 n2 PO) := h2
  have HPO : Hid (∀ i, i < n2 → -2147483648 ≤ PO i ∧ PO i ≤ 2147483647) := hPO
  have H3 : Hid (RdL w a3 P A L C Z) := h3
  have H4 : Hid (RdI .i64 w a4 n4 F) := h4
  have H5 : Hid (RdI .i32 w a5 n5 RO) := h5
  have H6 : Hid (RdI .i32 w a6 n6 WA) := h6
  have H7 : Hid (RdI .i64 w a7 nr RD) := h7
  have H8 : Hid (RdI .i64 w a8 nb RB) := h8
  have CB := hide (bytes17_any a1 a2 a3 a4 a5 a6 a7 a8 n n2 P n4 n5 n6 nr nb c1 c2 c3 c4 c5 c6 c7 c8 A L C Z w m1 m2 m3 m4 m5 m6 m7 m8 mL h3)
  clear h1 h2 hPO h3 h4 h5 h6 h7 h8 mL
  go_enter Try.func4, Try.ntmps4
  go_wp2_with fail
  refine Calls.mono CB.out ?_
  rintro e w1 ⟨f, rfl, hf, T1⟩
  clear CB
  cases f with
  | false =>
    go_wp2_with fail
    go_ret
    exact ⟨rfl, T1⟩
  | true =>
    have HL : Hid (∀ q, q < P → L q ≤ 1048576) := hf rfl
    clear hf
    by_cases hlen : n ≤ 4096 ∧ n2 ≤ 4096 ∧ P ≤ 4096 ∧ n4 ≤ 4096 ∧ n5 ≤ 4096 ∧ n6 ≤ 4096 ∧ nr ≤ 4096 ∧ nb ≤ 4096
    · obtain ⟨g1, g2, g3, g4, g5, g6, g7, g8⟩ := hlen
      have l0 : decide ((4096 : Int) < (n : Int)) = false := decide_eq_false (by omega)
      have k0 : decide (4096 < n) = false := decide_eq_false (by omega)
      have l1 : decide ((4096 : Int) < (n2 : Int)) = false := decide_eq_false (by omega)
      have k1 : decide (4096 < n2) = false := decide_eq_false (by omega)
      have l2 : decide ((4096 : Int) < (P : Int)) = false := decide_eq_false (by omega)
      have k2 : decide (4096 < P) = false := decide_eq_false (by omega)
      have l3 : decide ((4096 : Int) < (n4 : Int)) = false := decide_eq_false (by omega)
      have k3 : decide (4096 < n4) = false := decide_eq_false (by omega)
      have l4 : decide ((4096 : Int) < (n5 : Int)) = false := decide_eq_false (by omega)
      have k4 : decide (4096 < n5) = false := decide_eq_false (by omega)
      have l5 : decide ((4096 : Int) < (n6 : Int)) = false := decide_eq_false (by omega)
      have k5 : decide (4096 < n6) = false := decide_eq_false (by omega)
      have l6 : decide ((4096 : Int) < (nr : Int)) = false := decide_eq_false (by omega)
      have k6 : decide (4096 < nr) = false := decide_eq_false (by omega)
      have l7 : decide ((4096 : Int) < (nb : Int)) = false := decide_eq_false (by omega)
      have k7 : decide (4096 < nb) = false := decide_eq_false (by omega)
      have CZ := hide (zzb_any a1 a2 a3 a4 a5 a6 a7 a8 n n2 P n4 n5 n6 nr nb c1 c2 c3 c4 c5 c6 c7 c8 A L C Z w1 g1 g2 g3 g4 g5 g6 g7 g8 HL.out (H3.out.below T1))
      have HT1 : Hid (Below w.heap.size w w1) := T1
      clear T1
      go_wp2_with fail
      refine Calls.mono CZ.out ?_
      rintro e w2 ⟨⟨t, rfl⟩, T2⟩
      have HT2 : Hid (Below w.heap.size w w2) := HT1.out.trans (T2.mono HT1.out.size)
      clear CZ T2 HT1
      by_cases ht : 1048576 < t
      · have q1 : decide (1048576 < t) = true := decide_eq_true ht
        go_wp2_with fail
        go_ret
        exact ⟨rfl, HT2.out⟩
      · have q1 : decide (1048576 < t) = false := decide_eq_false ht
        by_cases heq : n2 = n ∧ n4 = n ∧ n5 = P ∧ n6 = P
        · obtain ⟨hn2, hn4, hn5, hn6⟩ := heq
          have hn2 := hn2.symm
          have hn4 := hn4.symm
          have hn5 := hn5.symm
          have hn6 := hn6.symm
          subst hn2 hn4 hn5 hn6
          have CW := hide (wf_main a1 a2 a3 a4 a5 a6 n P c1 c2 c3 c4 c5 c6 PR PO F A L C Z w2 (by omega) (by omega) HL.out HPO.out (H1.out.below HT2.out) (H2.out.below HT2.out) (H3.out.below HT2.out) (H4.out.below HT2.out))
          go_wp2_with fail
          refine Calls.mono CW.out ?_
          rintro e w3a ⟨f, rfl, hf, T3⟩
          have HT3a : Hid (Below w.heap.size w w3a) := HT2.out.trans (T3.mono HT2.out.size)
          clear CW T3 HT2
          cases f with
          | false =>
            go_wp2_with fail
            go_ret
            exact ⟨rfl, HT3a.out⟩
          | true =>
            have HOK : Hid (∀ i, i < n → OkAt n P PR PO F L Z i) := (hf rfl).2.2.2.2
            clear hf
            have CR := hide (readsIn_any a7 nr c7 n RD w3a (by omega) (by omega) (H7.out.below HT3a.out))
            go_wp2_with fail
            refine Calls.mono CR.out ?_
            rintro e w3 ⟨f, rfl, hf, T4⟩
            have HT3 : Hid (Below w.heap.size w w3) := HT3a.out.trans (T4.mono HT3a.out.size)
            clear CR T4 HT3a
            cases f with
            | false =>
              go_wp2_with fail
              go_ret
              exact ⟨rfl, HT3.out⟩
            | true =>
             have HRI : Hid (∀ i, i < nr → 0 ≤ RD i ∧ RD i < n) := hf rfl
             clear hf
             have CR := hide (readsIn_any a8 nb c8 n RB w3 (by omega) (by omega) (H8.out.below HT3.out))
             go_wp2_with fail
             refine Calls.mono CR.out ?_
             rintro e w4 ⟨f, rfl, hf, T4⟩
             have HT4 : Hid (Below w.heap.size w w4) := HT3.out.trans (T4.mono HT3.out.size)
             clear CR T4 HT3
             cases f with
             | false =>
              go_wp2_with fail
              go_ret
              exact ⟨rfl, HT4.out⟩
             | true =>
              have HRB : Hid (∀ i, i < nb → 0 ≤ RB i ∧ RB i < n) := hf rfl
              clear hf
              have K1 := hide (clone64_any a1 n c1 PR w4 (by omega) (H1.out.below HT4.out))
              go_wp2_with fail
              refine Calls.mono K1.out ?_
              intro e w5 hp
              obtain ⟨T, A1, d1, rfl, C1⟩ := hp.form
              have HT5 : Hid (Below w.heap.size w w5) := HT4.out.trans (T.mono HT4.out.size)
              have HC1 : Hid (Cln .i64 3 w5 w4.heap.size w5.heap.size A1 n d1 PR) := C1
              clear K1 hp T C1
              have K1 := hide (clone32_any a2 n c2 PO w5 (by omega) (H2.out.below HT5.out))
              go_wp2_with fail
              refine Calls.mono K1.out ?_
              intro e w6 hp
              obtain ⟨T, A2, d2, rfl, C2⟩ := hp.form
              have HT6 : Hid (Below w.heap.size w w6) := HT5.out.trans (T.mono HT5.out.size)
              have HC1' := hide (HC1.out.below T)
              have HC2 : Hid (Cln .i32 21 w6 w5.heap.size w6.heap.size A2 n d2 PO) := C2
              have HSZ6 : Hid (w5.heap.size ≤ w6.heap.size) := T.size
              clear K1 hp T C2
              have K1 := hide (clone2_any a3 P c3 A L C Z w6 (by omega) HL.out (H3.out.below HT6.out))
              go_wp2_with fail
              refine Calls.mono K1.out ?_
              intro e w7 hp
              obtain ⟨T, A3, d3, AA, rfl, C3, C3b, C3r⟩ := hp.form
              have HT7 : Hid (Below w.heap.size w w7) := HT6.out.trans (T.mono HT6.out.size)
              have HC1'' := hide (HC1'.out.below T)
              have HC2' := hide (HC2.out.below T)
              have HC3 : Hid (RdL w7 A3 P AA L L Z) := C3
              have HC3b : Hid (∀ x, A3 = some x → x.block < w7.heap.size) := C3b
              have HC3r : Hid (∀ q, q < P → ∀ x, AA q = some x → x.block < w7.heap.size) := C3r
              have HSZ7 : Hid (w6.heap.size ≤ w7.heap.size) := T.size
              clear K1 hp T C3 C3b C3r HC1 HC1' HC2
              have K1 := hide (clone64_any a4 n c4 F w7 (by omega) (H4.out.below HT7.out))
              go_wp2_with fail
              refine Calls.mono K1.out ?_
              intro e w8 hp
              obtain ⟨T, A4, d4, rfl, C4⟩ := hp.form
              have HT8 : Hid (Below w.heap.size w w8) := HT7.out.trans (T.mono HT7.out.size)
              have HB8 : Hid (Below w7.heap.size w7 w8) := T
              have HC4 : Hid (Cln .i64 3 w8 w7.heap.size w8.heap.size A4 n d4 F) := C4
              clear K1 hp T C4
              have K1 := hide (clone32_any a5 P c5 RO w8 (by omega) (H5.out.below HT8.out))
              go_wp2_with fail
              refine Calls.mono K1.out ?_
              intro e w9 hp
              obtain ⟨T, A5, d5, rfl, C5⟩ := hp.form
              have HT9 : Hid (Below w.heap.size w w9) := HT8.out.trans (T.mono HT8.out.size)
              have HB9 : Hid (Below w8.heap.size w8 w9) := T
              have HC5 : Hid (Cln .i32 21 w9 w8.heap.size w9.heap.size A5 P d5 RO) := C5
              clear K1 hp T C5
              have K1 := hide (clone32_any a6 P c6 WA w9 (by omega) (H6.out.below HT9.out))
              go_wp2_with fail
              refine Calls.mono K1.out ?_
              intro e w10 hp
              obtain ⟨T, A6, d6, rfl, C6⟩ := hp.form
              have HT10 : Hid (Below w.heap.size w w10) := HT9.out.trans (T.mono HT9.out.size)
              have HB10 : Hid (Below w9.heap.size w9 w10) := T
              have HC6 : Hid (Cln .i32 21 w10 w9.heap.size w10.heap.size A6 P d6 WA) := C6
              clear K1 hp T C6
              have K1 := hide (clone64_any a7 nr c7 RD w10 (by omega) (H7.out.below HT10.out))
              go_wp2_with fail
              refine Calls.mono K1.out ?_
              intro e w11 hp
              obtain ⟨T, A7, d7, rfl, C7⟩ := hp.form
              have HT11 : Hid (Below w.heap.size w w11) := HT10.out.trans (T.mono HT10.out.size)
              have HB11 : Hid (Below w10.heap.size w10 w11) := T
              have HC7 : Hid (Cln .i64 3 w11 w10.heap.size w11.heap.size A7 nr d7 RD) := C7
              clear K1 hp T C7
              have K1 := hide (clone64_any a8 nb c8 RB w11 (by omega) (H8.out.below HT11.out))
              go_wp2_with fail
              refine Calls.mono K1.out ?_
              intro e w12 hp
              obtain ⟨T, A8, d8, rfl, C8⟩ := hp.form
              have HT12 : Hid (Below w.heap.size w w12) := HT11.out.trans (T.mono HT11.out.size)
              have HB12 : Hid (Below w11.heap.size w11 w12) := T
              have HC8 : Hid (Cln .i64 3 w12 w11.heap.size w12.heap.size A8 nb d8 RB) := C8
              clear K1 hp T C8
              -- all clones, at w12
              have B7 : Below w7.heap.size w7 w12 := HB8.out.trans ((HB9.out.trans ((HB10.out.trans ((HB11.out.trans (HB12.out.mono HB11.out.size)).mono HB10.out.size)).mono HB9.out.size)).mono HB8.out.size)
              have B8 : Below w8.heap.size w8 w12 := HB9.out.trans ((HB10.out.trans ((HB11.out.trans (HB12.out.mono HB11.out.size)).mono HB10.out.size)).mono HB9.out.size)
              have B9 : Below w9.heap.size w9 w12 := HB10.out.trans ((HB11.out.trans (HB12.out.mono HB11.out.size)).mono HB10.out.size)
              have B10 : Below w10.heap.size w10 w12 := HB11.out.trans (HB12.out.mono HB11.out.size)
              have E1 := hide (HC1''.out.below B7)
              have E2 := hide (HC2'.out.below B7)
              have E3 : Hid (RdL w12 A3 P AA L L Z) := HC3.out.below B7
              have E4 := hide (HC4.out.below B8)
              have E5 := hide (HC5.out.below B9)
              have E6 := hide (HC6.out.below B10)
              have E7 := hide (HC7.out.below HB12.out)
              have E8 := hide HC8.out
              have hrd7 : RdI .i64 w12 A7 nr (fun i => ((RD i).toNat : Int)) := E7.out.rd.congr fun i hi => by have := HRI.out i hi; show ((RD i).toNat : Int) = RD i; omega
              have hrd8 : RdI .i64 w12 A8 nb (fun i => ((RB i).toNat : Int)) := E8.out.rd.congr fun i hi => by have := HRB.out i hi; show ((RB i).toNat : Int) = RB i; omega
              have K1 := hide (retBy_any A4 A7 n nr d4 d7 F (fun i => (RD i).toNat) w12 (by omega) (by omega) E4.out.rd hrd7 (fun i hi => ⟨(HOK.out i hi).2.2.2.2.2.1, (HOK.out i hi).2.2.2.2.2.2⟩) (fun i hi => by have := HRI.out i hi; show (RD i).toNat < n; omega))
              have HR7 := hide hrd7
              have HR8 := hide hrd8
              have HSS : Hid (w7.heap.size ≤ w8.heap.size ∧ w8.heap.size ≤ w9.heap.size ∧ w9.heap.size ≤ w10.heap.size ∧ w10.heap.size ≤ w11.heap.size ∧ w11.heap.size ≤ w12.heap.size ∧ w.heap.size ≤ w8.heap.size) := ⟨HB8.out.size, HB9.out.size, HB10.out.size, HB11.out.size, HB12.out.size, HT8.out.size⟩
              clear B7 B8 B9 B10 hrd7 hrd8 HC1'' HC2' HC3 HC4 HC5 HC6 HC7 HC8 HB8 HB9 HB10 HB11 HB12 HT4 HT5 HT6 HT7 HT8 HT9 HT10 HT11
              go_wp2_with fail
              refine Calls.mono K1.out ?_
              rintro e w13 ⟨gA, bA, rfl, gi1, BI, hmk, T13⟩
              have HBA : Hid (Bk w13 gA 4 n (fun j => .bool (bA j))) := BI
              have HMA : Hid (Mk F (fun i => (RD i).toNat) n nr bA) := hmk
              have HB13 : Hid (Below w12.heap.size w12 w13) := T13
              have HGA : Hid (w12.heap.size ≤ gA) := gi1
              have K2 := hide (retBy_any A4 A8 n nb d4 d8 F (fun i => (RB i).toNat) w13 (by omega) (by omega) (E4.out.rd.below T13) (HR8.out.below T13) (fun i hi => ⟨(HOK.out i hi).2.2.2.2.2.1, (HOK.out i hi).2.2.2.2.2.2⟩) (fun i hi => by have := HRB.out i hi; show (RB i).toNat < n; omega))
              clear K1 BI hmk T13 gi1
              obtain ⟨X, hX, hmkb⟩ := run_mk (P := Try.prog) 32 4 (.bool false) 1 1 Try.underlying32 (by kernel_rfl) P (by omega) (by omega)
              have HXS : Hid (X.size = P ∧ ∀ i, i < P → X.getD i (.bool false) = .bool false) := by
                rw [hX, Nat.mul_one]
                exact ⟨size_made1 _ _, fun i hi => made_bool P i hi⟩
              clear hX
              go_wp2_with fail
              refine Calls.mono K2.out ?_
              rintro e w14 ⟨gB, bB, rfl, gi1, BI, hmk, T14⟩
              have HBB : Hid (Bk w14 gB 4 n (fun j => .bool (bB j))) := BI
              have HMB : Hid (Mk F (fun i => (RB i).toNat) n nb bB) := hmk
              have HB14 : Hid (Below w13.heap.size w13 w14) := T14
              have HGB : Hid (w13.heap.size ≤ gB) := gi1
              have HBA4 : Hid (Bk w14 gA 4 n (fun j => .bool (bA j))) := HBA.out.sameBlock (T14.block gA HBA.out.lt)
              have HGAl : Hid (gA < w13.heap.size) := HBA.out.lt
              have HT14 : Hid (Below w.heap.size w w14) := (HT12.out.trans (HB13.out.mono HT12.out.size)).trans (T14.mono (Nat.le_trans HT12.out.size HB13.out.size))
              have HBW : Hid (Below w12.heap.size w12 w14) := HB13.out.trans (T14.mono HB13.out.size)
              clear K2 BI hmk T14 gi1 HBA
              go_wp2_with fail
              obtain ⟨w15, hw15⟩ : ∃ x, x = w14.alloc (.cells X 4) := ⟨_, rfl⟩
              rw [← hw15]
              obtain ⟨gN, HGN⟩ : ∃ x, Hid (x = w14.heap.size) := ⟨_, rfl⟩
              rw [← HGN.out]
              have HN0 : Hid (Bk w15 gN 4 P (fun i => .bool false)) := by
                have := Bk.new w14 X 4
                rw [HXS.out.1, ← HGN.out, ← hw15] at this
                exact this.congr fun i hi => (HXS.out.2 i hi).symm
              have HT0 : Hid (Below w14.heap.size w14 w15) := by rw [hw15]; exact (Below.refl _ _).alloc (Nat.le_refl _) _
              clear hw15 hmkb HXS
              go_loopw [22, 23] (fun v v' wr => ∃ (i : Nat) (a : Nat → Bool) (an : Bool), v = .bool an ∧ v' = .int .i64 i ∧ i ≤ n ∧ Hid (Bk wr gN 4 P (fun q => .bool (a q))) ∧ Hid (∀ q, q < P → (a q = true ↔ ∃ x, x < i ∧ bA x = true ∧ (PR x).toNat = q)) ∧ Hid (an = true ↔ ∃ x, x < i ∧ bA x = true) ∧ Hid (Below w14.heap.size w14 wr)) (fun _ v' _ => n - (intOf v').toNat)
              case atStart => exact ⟨0, fun _ => false, false, rfl, rfl, Nat.zero_le _, HN0, fun q hq => ⟨(fun h => by cases h), fun ⟨x, hx, _⟩ => absurd hx (Nat.not_lt_zero _)⟩, ⟨(fun h => by cases h), fun ⟨x, hx, _⟩ => absurd hx (Nat.not_lt_zero _)⟩, HT0⟩
              case round =>
                clear HN0 HT0
                obtain ⟨i, a, an, rfl, rfl, hi, HN, HIA, HAN, HT⟩ := hrel
                by_cases hlt : i < n
                · have e0 : decide ((i : Int) < (n : Int)) = true := decide_eq_true (by omega)
                  have e0' : decide (i < n) = true := decide_eq_true hlt
                  have ki := (HBA4.out.sameBlock (HT.out.block gA HBA4.out.lt)).cell i hlt
                  cases hbi : bA i with
                  | true =>
                    rw [hbi] at ki
                    have r1 := (E1.out.rd.below HBW.out).below HT.out
                    obtain ⟨xp, hxp⟩ := r1.at' (by omega)
                    have kp := (r1.2 xp hxp).2 i hlt
                    have ho := HOK.out i hlt
                    obtain ⟨pq, HPQ⟩ : ∃ pq : Nat, Hid (pq = (PR i).toNat) := ⟨_, rfl⟩
                    have epq : PR i = (pq : Int) := by rw [HPQ.out]; have := ho.1; omega
                    have hpq : pq < P := by have := ho.2.1; omega
                    rw [epq] at kp
                    have kN := HN.out.cell pq hpq
                    have zN := HN.out.frozen pq
                    have HN' : Hid (Bk (wr.setCell ⟨gN, pq, none⟩ (.bool true)) gN 4 P (fun q => .bool (if q = pq then true else a q))) := (HN.out.set pq hpq (.bool true)).congr fun q hq => by
                      by_cases e : q = pq
                      · simp [e]
                      · simp [e]
                    have HT' : Hid (Below w14.heap.size w14 (wr.setCell ⟨gN, pq, none⟩ (.bool true))) := HT.out.setCell (p := ⟨gN, pq, none⟩) (by show w14.heap.size ≤ gN; rw [HGN.out]; exact Nat.le_refl _) (.bool true)
                    have HIA' : Hid (∀ q, q < P → ((if q = pq then true else a q) = true ↔ ∃ x, x < i + 1 ∧ bA x = true ∧ (PR x).toNat = q)) := fun q hq => by
                      by_cases e : q = pq
                      · rw [if_pos e]; exact ⟨fun _ => ⟨i, by omega, hbi, by rw [e, HPQ.out]⟩, fun _ => rfl⟩
                      · rw [if_neg e, HIA.out q hq]
                        constructor
                        · rintro ⟨x, h1, h2, h3⟩; exact ⟨x, by omega, h2, h3⟩
                        · rintro ⟨x, h1, h2, h3⟩
                          rcases Nat.lt_or_ge x i with h | h
                          · exact ⟨x, h, h2, h3⟩
                          · obtain rfl : x = i := by omega
                            exact absurd (by rw [← h3, HPQ.out]) e
                    have HAN' : Hid (true = true ↔ ∃ x, x < i + 1 ∧ bA x = true) := ⟨fun _ => ⟨i, by omega, hbi⟩, fun _ => rfl⟩
                    clear hbi ho epq r1
                    subst hxp
                    go_wp2_with fail
                    go_roundw
                    case rel => exact ⟨i + 1, _, true, rfl, by go_num, by omega, HN', HIA', HAN', HT'⟩
                    case measure => simp [intOf]; omega
                  | false =>
                    rw [hbi] at ki
                    have HIA' : Hid (∀ q, q < P → (a q = true ↔ ∃ x, x < i + 1 ∧ bA x = true ∧ (PR x).toNat = q)) := fun q hq => by
                      rw [HIA.out q hq]
                      constructor
                      · rintro ⟨x, h1, h2, h3⟩; exact ⟨x, by omega, h2, h3⟩
                      · rintro ⟨x, h1, h2, h3⟩
                        rcases Nat.lt_or_ge x i with h | h
                        · exact ⟨x, h, h2, h3⟩
                        · obtain rfl : x = i := by omega
                          rw [hbi] at h2; cases h2
                    have HAN' : Hid (an = true ↔ ∃ x, x < i + 1 ∧ bA x = true) := by
                      show _ ↔ _
                      rw [HAN.out]
                      constructor
                      · rintro ⟨x, h1, h2⟩; exact ⟨x, by omega, h2⟩
                      · rintro ⟨x, h1, h2⟩
                        rcases Nat.lt_or_ge x i with h | h
                        · exact ⟨x, h, h2⟩
                        · obtain rfl : x = i := by omega
                          rw [hbi] at h2; cases h2
                    clear hbi
                    go_wp2_with fail
                    go_roundw
                    case rel => exact ⟨i + 1, a, an, rfl, by go_num, by omega, HN, HIA', HAN', HT⟩
                    case measure => simp [intOf]; omega
                · have e0 : decide ((i : Int) < (n : Int)) = false := decide_eq_false (by omega)
                  have e0' : decide (i < n) = false := decide_eq_false hlt
                  obtain rfl : n = i := by omega
                  obtain ⟨X, hX, hmkr⟩ := run_mk (P := Try.prog) 23 21 (.int .i32 0) 1 4 Try.underlying23 (by kernel_rfl) P (by omega) (by omega)
                  have HXS : Hid (X.size = P) := by rw [hX, Nat.mul_one]; exact size_made1 _ _
                  clear hX
                  go_wp2_with fail
                  obtain ⟨w16, hw16⟩ : ∃ x, x = (wr.alloc (.cells X 21)).alloc (.cells X 21) := ⟨_, rfl⟩
                  rw [← hw16]
                  obtain ⟨gW, HGW⟩ : ∃ x, Hid (x = wr.heap.size) := ⟨_, rfl⟩
                  rw [← HGW.out]
                  obtain ⟨gV, HGV⟩ : ∃ x, Hid (x = gW + 1) := ⟨_, rfl⟩
                  rw [← HGV.out]
                  have HW0 : Hid (Bk w16 gW 21 P (fun i => X.getD i (.bool false))) := by
                    have := (Bk.new wr X 21).alloc (.cells X 21)
                    rw [HXS.out, ← HGW.out, ← hw16] at this
                    exact this
                  have HV0 : Hid (Bk w16 gV 21 P (fun i => X.getD i (.bool false))) := by
                    have := Bk.new (wr.alloc (.cells X 21)) X 21
                    rw [HXS.out, show (wr.alloc (.cells X 21)).heap.size = wr.heap.size + 1 by simp, ← HGW.out, ← HGV.out, ← hw16] at this
                    exact this
                  have HTW0 : Hid (Below wr.heap.size wr w16) := by rw [hw16]; exact ((Below.refl _ _).alloc (Nat.le_refl _) _).alloc (by simp) _
                  obtain ⟨wL, HWL⟩ : ∃ x, Hid (x = wr) := ⟨wr, rfl⟩
                  have HGW' : Hid (gW = wL.heap.size) := by rw [HWL.out]; exact HGW.out
                  have HNL : Hid (Bk wL gN 4 P (fun q => .bool (a q))) := by rw [HWL.out]; exact HN.out
                  have HTL : Hid (Below w14.heap.size w14 wL) := by rw [HWL.out]; exact HT.out
                  have HTW : Hid (Below wL.heap.size wL w16) := by rw [HWL.out]; exact HTW0.out
                  clear hw16 hmkr HXS HGW HTW0 HWL HN HT
                  go_loopw [26] (fun v wr => ∃ (q : Nat) (U1 U2 : Nat → Value), v = .int .i64 q ∧ q ≤ P ∧ Hid (Bk wr gW 21 P U1) ∧ Hid (Bk wr gV 21 P U2) ∧ Hid (∀ j, j < q → U1 j = .int .i32 (if a j = true then (-1 : Int) else RO j) ∧ U2 j = .int .i32 (if a j = true then (0 : Int) else WA j)) ∧ Hid (Below wL.heap.size wL wr)) (fun v _ => P - (intOf v).toNat)
                  case atStart => exact ⟨0, _, _, rfl, Nat.zero_le _, HW0, HV0, fun j hj => absurd hj (Nat.not_lt_zero _), HTW⟩
                  case round =>
                    clear HW0 HV0 HTW
                    obtain ⟨q, U1, U2, rfl, hq, HU1, HU2, HUV, HT⟩ := hrel
                    by_cases hlt2 : q < P
                    · have e1 : decide ((q : Int) < (P : Int)) = true := decide_eq_true (by omega)
                      have e1' : decide (q < P) = true := decide_eq_true hlt2
                      have ka := (HNL.out.sameBlock (HT.out.block gN HNL.out.lt)).cell q hlt2
                      have d1 := HU1.out.cell q hlt2
                      have z1 := HU1.out.frozen q
                      have d2 := HU2.out.cell q hlt2
                      have z2 := HU2.out.frozen q
                      have nwv : ¬ gW = gV := by rw [HGV.out]; omega
                      have nvw : ¬ gV = gW := by rw [HGV.out]; omega
                      have gw1 : wL.heap.size ≤ gW := by rw [HGW'.out]; exact Nat.le_refl _
                      have gv1 : wL.heap.size ≤ gV := by rw [HGV.out]; omega
                      cases haq : a q with
                      | true =>
                        rw [haq] at ka
                        have HU1' : Hid _ := (HU1.out.set q hlt2 (.int .i32 (-1))).other ⟨gV, q, none⟩ nwv (.int .i32 0)
                        have HU2' : Hid _ := (HU2.out.other ⟨gW, q, none⟩ nvw (.int .i32 (-1))).set q hlt2 (.int .i32 0)
                        have HT' : Hid _ := (HT.out.setCell (p := ⟨gW, q, none⟩) gw1 (.int .i32 (-1))).setCell (p := ⟨gV, q, none⟩) gv1 (.int .i32 0)
                        have HUV' : Hid (∀ j, j < q + 1 → (if j = q then Value.int .i32 (-1) else U1 j) = .int .i32 (if a j = true then (-1 : Int) else RO j) ∧ (if j = q then Value.int .i32 0 else U2 j) = .int .i32 (if a j = true then (0 : Int) else WA j)) := fun j hj => by
                          by_cases e : j = q
                          · subst e; rw [if_pos rfl, if_pos rfl, if_pos haq, if_pos haq]; exact ⟨rfl, rfl⟩
                          · rw [if_neg e, if_neg e]; exact HUV.out j (by omega)
                        clear haq gw1 gv1
                        go_wp2_with fail
                        go_roundw
                        case rel => exact ⟨q + 1, _, _, by go_num, by omega, HU1', HU2', HUV', HT'⟩
                        case measure => simp [intOf]; omega
                      | false =>
                        rw [haq] at ka
                        have r5 := ((E5.out.rd.below HBW.out).below HTL.out).below HT.out
                        have r6 := ((E6.out.rd.below HBW.out).below HTL.out).below HT.out
                        obtain ⟨x5, hx5⟩ := r5.at' (by omega)
                        obtain ⟨x6, hx6⟩ := r6.at' (by omega)
                        have k5 := (r5.2 x5 hx5).2 q hlt2
                        have k6 := (r6.2 x6 hx6).2 q hlt2
                        have l5 : x5.block < wL.heap.size := by have := (E5.out.blk x5 hx5).2; have h1 := HSS.out; have h2 := HBW.out.size; have h3 := HTL.out.size; omega
                        have l6 : x6.block < wL.heap.size := by have := (E6.out.blk x6 hx6).2; have h1 := HSS.out; have h2 := HBW.out.size; have h3 := HTL.out.size; omega
                        obtain ⟨o5, HO5⟩ : ∃ x, Hid (x = RO q) := ⟨_, rfl⟩
                        obtain ⟨o6, HO6⟩ : ∃ x, Hid (x = WA q) := ⟨_, rfl⟩
                        rw [← HO5.out] at k5
                        rw [← HO6.out] at k6
                        have k6' : (wr.setCell ⟨gW, q, none⟩ (.int .i32 o5)).cell? (x6.add q) = some (.int .i32 o6) := by
                          rw [World.cell?_of_block (w := wr) (by rw [add_block]; exact Below.heap_setCell _ _ _ _ (by show x6.block ≠ gW; omega))]; exact k6
                        have HU1' : Hid _ := (HU1.out.set q hlt2 (.int .i32 o5)).other ⟨gV, q, none⟩ nwv (.int .i32 o6)
                        have HU2' : Hid _ := (HU2.out.other ⟨gW, q, none⟩ nvw (.int .i32 o5)).set q hlt2 (.int .i32 o6)
                        have HT' : Hid _ := (HT.out.setCell (p := ⟨gW, q, none⟩) gw1 (.int .i32 o5)).setCell (p := ⟨gV, q, none⟩) gv1 (.int .i32 o6)
                        have HUV' : Hid (∀ j, j < q + 1 → (if j = q then Value.int .i32 o5 else U1 j) = .int .i32 (if a j = true then (-1 : Int) else RO j) ∧ (if j = q then Value.int .i32 o6 else U2 j) = .int .i32 (if a j = true then (0 : Int) else WA j)) := fun j hj => by
                          by_cases e : j = q
                          · subst e; rw [if_pos rfl, if_pos rfl, if_neg (by rw [haq]; decide), if_neg (by rw [haq]; decide), HO5.out, HO6.out]; exact ⟨rfl, rfl⟩
                          · rw [if_neg e, if_neg e]; exact HUV.out j (by omega)
                        clear haq gw1 gv1 r5 r6 l5 l6
                        subst hx5 hx6
                        go_wp2_with fail
                        go_roundw
                        case rel => exact ⟨q + 1, _, _, by go_num, by omega, HU1', HU2', HUV', HT'⟩
                        case measure => simp [intOf]; omega
                    · have e1 : decide ((q : Int) < (P : Int)) = false := decide_eq_false (by omega)
                      have e1' : decide (q < P) = false := decide_eq_false hlt2
                      obtain rfl : P = q := by omega
                      have r8 : RdI .i32 wr (some ⟨gW, 0, none⟩) P (fun j => if a j = true then (-1 : Int) else RO j) := ⟨(fun h => by cases h), fun x hx => by cases hx; exact ⟨fun _ => HU1.out.lt, fun i hi => by rw [add_off, HU1.out.cell i hi, (HUV.out i hi).1]⟩⟩
                      have r9 : RdI .i32 wr (some ⟨gV, 0, none⟩) P (fun j => if a j = true then (0 : Int) else WA j) := ⟨(fun h => by cases h), fun x hx => by cases hx; exact ⟨fun _ => HU2.out.lt, fun i hi => by rw [add_off, HU2.out.cell i hi, (HUV.out i hi).2]⟩⟩
                      have HR8W : Hid _ := r8
                      have HR9W : Hid _ := r9
                      have HGWl : Hid (gW < wr.heap.size) := HU1.out.lt
                      have HGVl : Hid (gV < wr.heap.size) := HU2.out.lt
                      have HWL : Hid (w14.heap.size ≤ wL.heap.size) := HTL.out.size
                      have HTA : Hid (Below w14.heap.size w14 wr) := HTL.out.trans (HT.out.mono HTL.out.size)
                      obtain ⟨xn, HXN⟩ : ∃ xn : Nat, Hid (xn = if an = true then n else 0) := ⟨_, rfl⟩
                      have HR8W : Hid (RdI .i32 wr (some ⟨gW, 0, none⟩) P (fun j => if a j = true then (-1 : Int) else RO j)) := r8
                      have HR9W : Hid (RdI .i32 wr (some ⟨gV, 0, none⟩) P (fun j => if a j = true then (0 : Int) else WA j)) := r9
                      have hxn4 : xn ≤ 4096 := by rw [HXN.out]; split <;> omega
                      have K1 := hide (newForced_any A1 A2 A3 A4 A5 A6 n d1 d2 d3 d4 d5 d6 n P n P wr (by omega) (by omega))
                      clear r8 r9 HU1 HU2 HUV HT HNL HTL
                      cases an with
                      | true =>
                        as_aux_lemma =>
                          go_wp2_with fail
                          refine Calls.mono K1.out ?_
                          rintro e w20 ⟨rfl, N1, N2, N3, T20, N4⟩
                          obtain ⟨h, HH⟩ : ∃ x, Hid (x = wr.heap.size) := ⟨_, rfl⟩
                          rw [← HH.out] at N1 N2 N3 N4
                          have B14 : Below w14.heap.size w14 w20 := HTA.out.trans (T20.mono HTA.out.size)
                          have B12 : Below w12.heap.size w12 w20 := HBW.out.trans (B14.mono HBW.out.size)
                          have ho := HOK.out
                          have G1 := E1.out.below B12
                          have G2 := E2.out.below B12
                          have G3 := E3.out.below B12
                          have G4 := E4.out.below B12
                          have G5 := E5.out.below B12
                          have G6 := E6.out.below B12
                          have G7 := HR7.out.below B12
                          obtain ⟨z1, z2, z3, z4, z5, z7⟩ := HSS.out
                          have y13 := HB13.out.size
                          have y14 := HB14.out.size
                          have yA := HTA.out.size
                          have yh := HH.out
                          have hs6 := HSZ6.out
                          have hs7 := HSZ7.out
                          obtain ⟨t0, t7, hSt, hGk, hPre, hZs, hLA, hRo⟩ := assemble w20 h w8.heap.size w9.heap.size w10.heap.size n P nr A1 A2 A3 A4 A5 A6 A7 d1 d2 d3 d4 d5 d6 d7 (fun i => (PR i).toNat) (fun i => (PO i).toNat) (fun i => (RD i).toNat) F RO WA AA L Z (G1.rd.congr fun i hi => by have := (ho i hi).1; show ((PR i).toNat : Int) = PR i; omega) (fun x hx => by have := (G1.blk x hx).2; omega) (G2.rd.congr fun i hi => by have := (ho i hi).2.2.1; show ((PO i).toNat : Int) = PO i; omega) (fun x hx => by have := (G2.blk x hx).2; omega) G3 (fun x hx => by have := HC3b.out x hx; omega) (fun q hq x hx => by have := HC3r.out q hq x hx; omega) G4.rd (fun x hx => (G4.blk x hx).2) G7 (fun x hx => by have := E7.out.blk x hx; omega) G5 G6 z2 z3 (by omega) (by omega) N1 N2 N3 N4
                          have hW : Gwf (gdOf h n P A1 A2 A3 A4 d1 d2 d3 d4 (fun i => (PR i).toNat) (fun i => (PO i).toNat) F AA L Z) := gwf_of (by omega) (by omega) HL.out ho
                          have hrdn : ∀ i, i < nr → (RD i).toNat < n := fun i hi => by have := HRI.out i hi; omega
                          have hrdb : ∀ i, i < nb → (RB i).toNat < n := fun i hi => by have := HRB.out i hi; omega
                          have K2 := hide (zzReset (Q := fun e w' => e = .returned (.tuple #[]) ∧ ∃ tg R' m r K B ro1 ro2 wa1, Fin (tagOf A5 A6 h) w20 (h + 3) (gdOf h n P A1 A2 A3 A4 d1 d2 d3 d4 (fun i => (PR i).toNat) (fun i => (PO i).toNat) F AA L Z) A7 nr d7 (fun i => (RD i).toNat) (resOf A5 A6 d5 d6 h P RO WA) 0 (fun _ => 0) RO WA 0 tg w' R' m r K B ro1 ro2 wa1) (Calls.mono (reset_any (tagOf A5 A6 h) w20 (h + 3) (gdOf h n P A1 A2 A3 A4 d1 d2 d3 d4 (fun i => (PR i).toNat) (fun i => (PO i).toNat) F AA L Z) (.slice none 0 0) A7 nr d7 false (resOf A5 A6 d5 d6 h P RO WA) 0 (fun _ => 0) RO WA hSt hGk hW (by omega) hPre hZs hLA 0 rfl (fun i => (RD i).toNat) (by omega) hrdn hRo rfl (fun _ j hj => absurd hj (Nat.not_lt_zero _))) (fun e w' hp => ⟨hp.1, rfl, hp.2⟩)))
                          have HT20 : Hid (Below w.heap.size w w20) := HT14.out.trans (B14.mono HT14.out.size)
                          have HW := hide hW
                          have HRDN := hide hrdn
                          have HRDB := hide hrdb
                          have hgAl := HGAl.out
                          have hgA := HGA.out
                          have hgB := HGB.out
                          have hgBl := HBB.out.lt
                          have hgW := HGW'.out
                          have hgV := HGV.out
                          have hgWl := HGWl.out
                          have hgVl := HGVl.out
                          have hwl := HWL.out
                          have HTG : Hid ((tagOf A5 A6 h) gA = 0 ∧ (tagOf A5 A6 h) gB = 0 ∧ (tagOf A5 A6 h) gW = 0 ∧ (tagOf A5 A6 h) gV = 0 ∧ ∀ k, k < w.heap.size → (tagOf A5 A6 h) k = 0) := ⟨t7 _ (by omega) (by omega), t7 _ (by omega) (by omega), t7 _ (by omega) (by omega), t7 _ (by omega) (by omega), fun k hk => t0 k (by omega)⟩
                          have HRoB : Hid (Ro (tagOf A5 A6 h) .i64 w20 A8 nb (fun i => ((RB i).toNat : Int))) := ⟨HR8.out.below B12, fun x hx _ => by have := E8.out.blk x hx; exact t7 _ (by omega) (by omega)⟩
                          have I8 : Hid (RdI .i32 w20 (some ⟨gW, 0, none⟩) P (fun j => if a j = true then (-1 : Int) else RO j)) := HR8W.out.below T20
                          have I9 : Hid (RdI .i32 w20 (some ⟨gV, 0, none⟩) P (fun j => if a j = true then (0 : Int) else WA j)) := HR9W.out.below T20
                          have IBA : Hid (Bk w20 gA 4 n (fun j => .bool (bA j))) := HBA4.out.sameBlock (B14.block gA HBA4.out.lt)
                          have IBB : Hid (Bk w20 gB 4 n (fun j => .bool (bB j))) := HBB.out.sameBlock (B14.block gB HBB.out.lt)
                          rw [← HH.out]
                          clear K1 N1 N2 N3 N4 T20 B14 B12 ho G1 G2 G3 G4 G5 G6 G7 z1 z2 z3 z4 z5 z7 y13 y14 yA yh hs6 hs7 t0 t7 hSt hGk hPre hZs hLA hRo hW hrdn hrdb hgAl hgA hgB hgBl hgW hgV hgWl hgVl hwl HH
                          go_wp2_with fail
                          refine Calls.mono K2.out ?_
                          rintro e w21 ⟨rfl, tg, R', m, r, K, B, ro1, ro2, wa1, hFin⟩
                          have HFin := hide hFin
                          have hta : tg gA = 0 := by rw [hFin.al.ag gA IBA.out.lt]; exact HTG.out.1
                          have HTGA : Hid (tg gA = 0) := hta
                          have IBA1 : Hid (Bk w21 gA 4 n (fun j => .bool (bA j))) := IBA.out.sameBlock (hFin.al.ct.block gA IBA.out.lt HTG.out.1)
                          have HKX : Hid (∀ j, j < m → ∃ x, x < n ∧ K j = key (gdOf h n P A1 A2 A3 A4 d1 d2 d3 d4 (fun i => (PR i).toNat) (fun i => (PO i).toNat) F AA L Z) x) := fun j hj => by
                            obtain ⟨x, h1, _, h2⟩ := hFin.ks.mark HW.out HRDN.out HMA.out j hj
                            exact ⟨x, h1, h2⟩
                          have HR8' : Hid ((R' 8).v = .slice none 0 0) := by show _ = _; rw [hFin.s8.2.2.1]; rfl
                          clear hFin hta K2
                          go_wp2_with fail
                          go_loopw [29] (fun v wr => ∃ (i : Nat), v = .int .i64 i ∧ i ≤ n ∧ Hid (Bk wr gA 4 n (fun j => .bool (bA j))) ∧ Hid ((wr = w21 ∧ ∀ j, j < i → bA j = false) ∨ ((∃ j, j < i ∧ bA j = true) ∧ ∃ tg' R2 f, Ixd tg w21 (h + 3) (gdOf h n P A1 A2 A3 A4 d1 d2 d3 d4 (fun i => (PR i).toNat) (fun i => (PO i).toNat) F AA L Z) (.slice A7 nr d7) R' m K tg' wr R2 f))) (fun v _ => n - (intOf v).toNat)
                          case atStart => exact ⟨0, rfl, Nat.zero_le _, IBA1, .inl ⟨rfl, fun j hj => absurd hj (Nat.not_lt_zero _)⟩⟩
                          case round =>
                            obtain ⟨i, rfl, hi, HBAi, HD⟩ := hrel
                            by_cases hlt9 : i < n
                            · as_aux_lemma =>
                                have e9 : decide ((i : Int) < (n : Int)) = true := decide_eq_true (by omega)
                                have e9' : decide (i < n) = true := decide_eq_true hlt9
                                have ki := HBAi.out.cell i hlt9
                                cases hbi : bA i with
                                | true =>
                                  rw [hbi] at ki
                                  have HBI2 : Hid (bA i = true) := hbi
                                  clear hbi
                                  have HCI : Hid (Calls Try.prog 18 #[.pointer (some ⟨h + 3, 0, none⟩), .int .i64 i] wr fun e w' => (∃ j : Int, e = .returned (.int .i32 j)) ∧ Bk w' gA 4 n (fun j => .bool (bA j)) ∧ ∃ tg' R2 f, Ixd tg w21 (h + 3) (gdOf h n P A1 A2 A3 A4 d1 d2 d3 d4 (fun i => (PR i).toNat) (fun i => (PO i).toNat) F AA L Z) (.slice A7 nr d7) R' m K tg' w' R2 f) := by
                                    rcases HD.out with ⟨hw, _⟩ | ⟨_, tg', R2, f, hI⟩
                                    · subst hw
                                      refine zzIndex (Calls.mono (index_first _ _ _ _ _ _ _ _ _ _ R' m K (some ⟨h, 0, none⟩) n HFin.out.al HW.out HFin.out.m4 rfl HR8'.out HFin.out.n3 HFin.out.v3 HKX.out i hlt9) ?_)
                                      rintro e w' ⟨h1, tg', R2, f, hI⟩
                                      exact ⟨h1, h1, HBAi.out.sameBlock (hI.ct.block gA HBAi.out.lt HTGA.out), tg', R2, f, hI⟩
                                    · refine zzIndex (Calls.mono (index_again _ _ _ _ _ _ _ _ tg' wr R2 f hI i hlt9) ?_)
                                      rintro e w' ⟨h1, rfl⟩
                                      exact ⟨h1, h1, HBAi.out, tg', R2, f, hI⟩
                                  go_wp2_with fail
                                  refine Calls.mono HCI.out ?_
                                  rintro e wY ⟨⟨iv, rfl⟩, hBY, hIY⟩
                                  have HBY := hide hBY
                                  have HIY := hide hIY
                                  clear hBY hIY HCI HD ki
                                  go_wp2_with fail
                                  go_roundw
                                  case rel => exact ⟨i + 1, by go_num, by omega, HBY.out, .inr ⟨⟨i, by omega, HBI2.out⟩, HIY.out⟩⟩
                                  case measure => simp [intOf]; omega
                                | false =>
                                  rw [hbi] at ki
                                  have HD' : Hid ((wr = w21 ∧ ∀ j, j < i + 1 → bA j = false) ∨ ((∃ j, j < i + 1 ∧ bA j = true) ∧ ∃ tg' R2 f, Ixd tg w21 (h + 3) (gdOf h n P A1 A2 A3 A4 d1 d2 d3 d4 (fun i => (PR i).toNat) (fun i => (PO i).toNat) F AA L Z) (.slice A7 nr d7) R' m K tg' wr R2 f)) := by
                                    rcases HD.out with ⟨h1, h2⟩ | ⟨⟨j, h1, h2⟩, h3⟩
                                    · refine .inl ⟨h1, fun j hj => ?_⟩
                                      rcases Nat.lt_or_ge j i with hj' | hj'
                                      · exact h2 j hj'
                                      · obtain rfl : j = i := by omega
                                        exact hbi
                                    · exact .inr ⟨⟨j, by omega, h2⟩, h3⟩
                                  clear hbi HD
                                  go_wp2_with fail
                                  go_roundw
                                  case rel => exact ⟨i + 1, by go_num, by omega, HBAi, HD'⟩
                                  case measure => simp [intOf]; omega
                            · as_aux_lemma =>
                                have e9 : decide ((i : Int) < (n : Int)) = false := decide_eq_false (by omega)
                                have e9' : decide (i < n) = false := decide_eq_false hlt9
                                obtain rfl : n = i := by omega
                                have HU : Hid (∃ tag2 R2 ix, Ag w21 tg tag2 ∧ St tag2 wr (h + 3) (.pointer (some ⟨h + 1, 0, none⟩)) (.slice A7 nr d7) ix R2 ∧ Gok tag2 wr (gdOf h n P A1 A2 A3 A4 d1 d2 d3 d4 (fun i => (PR i).toNat) (fun i => (PO i).toNat) F AA L Z) ∧ Ct tg w21 wr ∧ Zs R2 ∧ (∀ t, t ≠ 8 → R2 t = R' t) ∧ (R2 8).n = n ∧ RetOk R2 (gdOf h n P A1 A2 A3 A4 d1 d2 d3 d4 (fun i => (PR i).toNat) (fun i => (PO i).toNat) F AA L Z) n ix ∧ (ix = true → n = n) ∧ (ix = false → ∀ j, j < n → (R2 8).V j = .int .i32 (-1))) := by
                                  have hex : ∃ x, x < n ∧ bA x = true := HAN.out.1 (by simp)
                                  rcases HD.out with ⟨_, hno⟩ | ⟨_, tg', R2, f, hI⟩
                                  · obtain ⟨x, h1, h2⟩ := hex
                                    rw [hno x h1] at h2; cases h2
                                  · exact ⟨tg', R2, true, hI.ag, hI.st, hI.gk, hI.ct, hI.zs, hI.oth, hI.n8, fun _ => ⟨by rw [hI.oth 3 (by omega), HFin.out.n3]; exact HFin.out.m4, K, by rw [hI.oth 3 (by omega), HFin.out.n3]; exact HFin.out.v3, fun j hj => by
                                        rw [hI.oth 3 (by omega), HFin.out.n3] at hj
                                        obtain ⟨x, x1, x2⟩ := HKX.out j hj
                                        exact ⟨x, x1, x1, x2⟩, fun k hk => by
                                        rw [hI.v8 k hk]
                                        rcases hI.cov k hk with e | ⟨j, j1, j2⟩
                                        · rw [e]; exact .inl rfl
                                        · exact .inr ⟨j, by rw [hI.oth 3 (by omega), HFin.out.n3]; exact j1, j2⟩⟩, fun _ => rfl, (fun e => by cases e)⟩

                                obtain ⟨tag2, R2, ix, u1, u2, u3, u4, u5, u6, u7, u8, u9, u10⟩ := HU.out
                                obtain ⟨p1, p2⟩ := HFin.out.pre HW.out HRDN.out R2 u6
                                have hct := HFin.out.al.ct.trans u4 HFin.out.al.ag
                                have hag := HFin.out.al.ag.trans u1 HFin.out.al.ct.size
                                have hRoB : Ro tag2 .i64 wr A8 nb (fun i => ((RB i).toNat : Int)) := HRoB.out.ct hct hag
                                have K2 := hide (zzReset (Q := fun e w' => e = .returned (.tuple #[]) ∧ ∃ tg R3 m r2 K2 B2 ro1 ro2' wa2, Fin tag2 wr (h + 3) (gdOf h n P A1 A2 A3 A4 d1 d2 d3 d4 (fun i => (PR i).toNat) (fun i => (PO i).toNat) F AA L Z) A8 nb d8 (fun i => (RB i).toNat) R2 r (fun k => K (B k) / 4294967296) ro2 wa1 n tg w' R3 m r2 K2 B2 ro1 ro2' wa2) (Calls.mono (reset_all tag2 wr (h + 3) (gdOf h n P A1 A2 A3 A4 d1 d2 d3 d4 (fun i => (PR i).toNat) (fun i => (PO i).toNat) F AA L Z) (.slice A7 nr d7) A8 nb d8 ix R2 r (fun k => K (B k) / 4294967296) ro2 wa1 u2 u3 HW.out HFin.out.r4 p1 u5 p2 n u7 (fun i => (RB i).toNat) (by omega) HRDB.out hRoB u8 u9 u10) (fun e w' hp => ⟨hp.1, rfl, hp.2⟩)))
                                have HCT := hide hct
                                have HU7 := hide u7
                                have HAG2 := hide hag
                                clear u1 u2 u3 u4 u5 u6 u7 u8 u9 u10 p1 p2 hct hag hRoB HU HD
                                go_wp2_with fail
                                refine Calls.mono K2.out ?_
                                rintro e w22 ⟨rfl, tg2, R3, m2', r2, K2', B2, ro1', ro2', wa2, hFin2⟩
                                have ct := HCT.out.trans hFin2.al.ct HAG2.out
                                have r8 : RdI .i32 w22 (some ⟨gW, 0, none⟩) P (fun j => if a j = true then (-1 : Int) else RO j) := I8.out.keep ct.size (fun x hx h0 => ct.block x.block ((I8.out.2 x hx).1 h0) (by cases hx; exact HTG.out.2.2.1))
                                have r9 : RdI .i32 w22 (some ⟨gV, 0, none⟩) P (fun j => if a j = true then (0 : Int) else WA j) := I9.out.keep ct.size (fun x hx h0 => ct.block x.block ((I9.out.2 x hx).1 h0) (by cases hx; exact HTG.out.2.2.2.1))
                                have bi : Bk w22 gB 4 n (fun j => .bool (bB j)) := IBB.out.sameBlock (ct.block gB IBB.out.lt HTG.out.2.1)
                                have hin : ∀ q, q < P → (a q = true ↔ ∃ k, k < r ∧ K (B k) / 4294967296 = q) := fun q hq => InA.runs (d := (gdOf h n P A1 A2 A3 A4 d1 d2 d3 d4 (fun i => (PR i).toNat) (fun i => (PO i).toNat) F AA L Z)) HW.out HRDN.out HFin.out.ks HFin.out.rn HMA.out HIA.out q hq
                                have hro1 : ∀ q, ro1 q = RO q := fun q => (HFin.out.c1 q).2 (fun ⟨j, hj, _⟩ => absurd hj (Nat.not_lt_zero _))
                                have hwa1 : ∀ q, wa1 q = WA q := fun q => (HFin.out.c2 q).2 (fun ⟨j, hj, _⟩ => absurd hj (Nat.not_lt_zero _))
                                have hwants := wants (d := (gdOf h n P A1 A2 A3 A4 d1 d2 d3 d4 (fun i => (PR i).toNat) (fun i => (PO i).toNat) F AA L Z)) (us := fun k => K (B k) / 4294967296) hin hro1 HFin.out.rv.r2 hwa1 hFin2.c1 hFin2.c2
                                have K3 := hide (fresh_any tag2 wr (h + 3) (gdOf h n P A1 A2 A3 A4 d1 d2 d3 d4 (fun i => (PR i).toNat) (fun i => (PO i).toNat) F AA L Z) A8 nb d8 (fun i => (RB i).toNat) R2 r (fun k => K (B k) / 4294967296) ro2 wa1 n tg2 w22 R3 m2' r2 K2' B2 ro1' ro2' wa2 hFin2 HW.out (by omega) HRDB.out (by rw [hFin2.s8.2.2.2]; exact HU7.out) (by omega) gB bB bi HMB.out (some ⟨gW, 0, none⟩) (some ⟨gV, 0, none⟩) P P _ _ r8 r9 (fun q hq _ => (hwants q hq).1) (fun q hq => (hwants q hq).2))
                                have HT22 : Hid (Below w.heap.size w w22) := ⟨ct.os.trans HT20.out.os, ct.tape.trans HT20.out.tape, ct.output.trans HT20.out.output, Nat.le_trans HT20.out.size ct.size, fun k hk => (ct.block k (Nat.lt_of_lt_of_le hk HT20.out.size) (HTG.out.2.2.2.2 k hk)).trans (HT20.out.block k hk)⟩
                                clear K2 ct r8 r9 bi hin hro1 hwa1 hwants hFin2
                                go_wp2_with fail
                                refine Calls.mono K3.out ?_
                                rintro e w23 ⟨rfl, T23⟩
                                have HT23 : Hid (Below w.heap.size w w23) := HT22.out.trans (T23.mono HT22.out.size)
                                clear T23 K3
                                go_wp2_with fail
                                go_ret
                                exact ⟨rfl, HT23.out⟩
                      | false =>
                        as_aux_lemma =>
                          go_wp2_with fail
                          refine Calls.mono K1.out ?_
                          rintro e w20 ⟨rfl, N1, N2, N3, T20, N4⟩
                          obtain ⟨h, HH⟩ : ∃ x, Hid (x = wr.heap.size) := ⟨_, rfl⟩
                          rw [← HH.out] at N1 N2 N3 N4
                          have B14 : Below w14.heap.size w14 w20 := HTA.out.trans (T20.mono HTA.out.size)
                          have B12 : Below w12.heap.size w12 w20 := HBW.out.trans (B14.mono HBW.out.size)
                          have ho := HOK.out
                          have G1 := E1.out.below B12
                          have G2 := E2.out.below B12
                          have G3 := E3.out.below B12
                          have G4 := E4.out.below B12
                          have G5 := E5.out.below B12
                          have G6 := E6.out.below B12
                          have G7 := HR7.out.below B12
                          obtain ⟨z1, z2, z3, z4, z5, z7⟩ := HSS.out
                          have y13 := HB13.out.size
                          have y14 := HB14.out.size
                          have yA := HTA.out.size
                          have yh := HH.out
                          have hs6 := HSZ6.out
                          have hs7 := HSZ7.out
                          obtain ⟨t0, t7, hSt, hGk, hPre, hZs, hLA, hRo⟩ := assemble w20 h w8.heap.size w9.heap.size w10.heap.size n P nr A1 A2 A3 A4 A5 A6 A7 d1 d2 d3 d4 d5 d6 d7 (fun i => (PR i).toNat) (fun i => (PO i).toNat) (fun i => (RD i).toNat) F RO WA AA L Z (G1.rd.congr fun i hi => by have := (ho i hi).1; show ((PR i).toNat : Int) = PR i; omega) (fun x hx => by have := (G1.blk x hx).2; omega) (G2.rd.congr fun i hi => by have := (ho i hi).2.2.1; show ((PO i).toNat : Int) = PO i; omega) (fun x hx => by have := (G2.blk x hx).2; omega) G3 (fun x hx => by have := HC3b.out x hx; omega) (fun q hq x hx => by have := HC3r.out q hq x hx; omega) G4.rd (fun x hx => (G4.blk x hx).2) G7 (fun x hx => by have := E7.out.blk x hx; omega) G5 G6 z2 z3 (by omega) (by omega) N1 N2 N3 N4
                          have hW : Gwf (gdOf h n P A1 A2 A3 A4 d1 d2 d3 d4 (fun i => (PR i).toNat) (fun i => (PO i).toNat) F AA L Z) := gwf_of (by omega) (by omega) HL.out ho
                          have hrdn : ∀ i, i < nr → (RD i).toNat < n := fun i hi => by have := HRI.out i hi; omega
                          have hrdb : ∀ i, i < nb → (RB i).toNat < n := fun i hi => by have := HRB.out i hi; omega
                          have K2 := hide (zzReset (Q := fun e w' => e = .returned (.tuple #[]) ∧ ∃ tg R' m r K B ro1 ro2 wa1, Fin (tagOf A5 A6 h) w20 (h + 3) (gdOf h n P A1 A2 A3 A4 d1 d2 d3 d4 (fun i => (PR i).toNat) (fun i => (PO i).toNat) F AA L Z) A7 nr d7 (fun i => (RD i).toNat) (resOf A5 A6 d5 d6 h P RO WA) 0 (fun _ => 0) RO WA 0 tg w' R' m r K B ro1 ro2 wa1) (Calls.mono (reset_any (tagOf A5 A6 h) w20 (h + 3) (gdOf h n P A1 A2 A3 A4 d1 d2 d3 d4 (fun i => (PR i).toNat) (fun i => (PO i).toNat) F AA L Z) (.slice none 0 0) A7 nr d7 false (resOf A5 A6 d5 d6 h P RO WA) 0 (fun _ => 0) RO WA hSt hGk hW (by omega) hPre hZs hLA 0 rfl (fun i => (RD i).toNat) (by omega) hrdn hRo rfl (fun _ j hj => absurd hj (Nat.not_lt_zero _))) (fun e w' hp => ⟨hp.1, rfl, hp.2⟩)))
                          have HT20 : Hid (Below w.heap.size w w20) := HT14.out.trans (B14.mono HT14.out.size)
                          have HW := hide hW
                          have HRDN := hide hrdn
                          have HRDB := hide hrdb
                          have hgAl := HGAl.out
                          have hgA := HGA.out
                          have hgB := HGB.out
                          have hgBl := HBB.out.lt
                          have hgW := HGW'.out
                          have hgV := HGV.out
                          have hgWl := HGWl.out
                          have hgVl := HGVl.out
                          have hwl := HWL.out
                          have HTG : Hid ((tagOf A5 A6 h) gA = 0 ∧ (tagOf A5 A6 h) gB = 0 ∧ (tagOf A5 A6 h) gW = 0 ∧ (tagOf A5 A6 h) gV = 0 ∧ ∀ k, k < w.heap.size → (tagOf A5 A6 h) k = 0) := ⟨t7 _ (by omega) (by omega), t7 _ (by omega) (by omega), t7 _ (by omega) (by omega), t7 _ (by omega) (by omega), fun k hk => t0 k (by omega)⟩
                          have HRoB : Hid (Ro (tagOf A5 A6 h) .i64 w20 A8 nb (fun i => ((RB i).toNat : Int))) := ⟨HR8.out.below B12, fun x hx _ => by have := E8.out.blk x hx; exact t7 _ (by omega) (by omega)⟩
                          have I8 : Hid (RdI .i32 w20 (some ⟨gW, 0, none⟩) P (fun j => if a j = true then (-1 : Int) else RO j)) := HR8W.out.below T20
                          have I9 : Hid (RdI .i32 w20 (some ⟨gV, 0, none⟩) P (fun j => if a j = true then (0 : Int) else WA j)) := HR9W.out.below T20
                          have IBA : Hid (Bk w20 gA 4 n (fun j => .bool (bA j))) := HBA4.out.sameBlock (B14.block gA HBA4.out.lt)
                          have IBB : Hid (Bk w20 gB 4 n (fun j => .bool (bB j))) := HBB.out.sameBlock (B14.block gB HBB.out.lt)
                          rw [← HH.out]
                          clear K1 N1 N2 N3 N4 T20 B14 B12 ho G1 G2 G3 G4 G5 G6 G7 z1 z2 z3 z4 z5 z7 y13 y14 yA yh hs6 hs7 t0 t7 hSt hGk hPre hZs hLA hRo hW hrdn hrdb hgAl hgA hgB hgBl hgW hgV hgWl hgVl hwl HH
                          go_wp2_with fail
                          refine Calls.mono K2.out ?_
                          rintro e w21 ⟨rfl, tg, R', m, r, K, B, ro1, ro2, wa1, hFin⟩
                          have HFin := hide hFin
                          have hta : tg gA = 0 := by rw [hFin.al.ag gA IBA.out.lt]; exact HTG.out.1
                          have HTGA : Hid (tg gA = 0) := hta
                          have IBA1 : Hid (Bk w21 gA 4 n (fun j => .bool (bA j))) := IBA.out.sameBlock (hFin.al.ct.block gA IBA.out.lt HTG.out.1)
                          have HKX : Hid (∀ j, j < m → ∃ x, x < n ∧ K j = key (gdOf h n P A1 A2 A3 A4 d1 d2 d3 d4 (fun i => (PR i).toNat) (fun i => (PO i).toNat) F AA L Z) x) := fun j hj => by
                            obtain ⟨x, h1, _, h2⟩ := hFin.ks.mark HW.out HRDN.out HMA.out j hj
                            exact ⟨x, h1, h2⟩
                          have HR8' : Hid ((R' 8).v = .slice none 0 0) := by show _ = _; rw [hFin.s8.2.2.1]; rfl
                          clear hFin hta K2
                          go_wp2_with fail
                          go_loopw [29] (fun v wr => ∃ (i : Nat), v = .int .i64 i ∧ i ≤ n ∧ Hid (Bk wr gA 4 n (fun j => .bool (bA j))) ∧ Hid ((wr = w21 ∧ ∀ j, j < i → bA j = false) ∨ ((∃ j, j < i ∧ bA j = true) ∧ ∃ tg' R2 f, Ixd tg w21 (h + 3) (gdOf h n P A1 A2 A3 A4 d1 d2 d3 d4 (fun i => (PR i).toNat) (fun i => (PO i).toNat) F AA L Z) (.slice A7 nr d7) R' m K tg' wr R2 f))) (fun v _ => n - (intOf v).toNat)
                          case atStart => exact ⟨0, rfl, Nat.zero_le _, IBA1, .inl ⟨rfl, fun j hj => absurd hj (Nat.not_lt_zero _)⟩⟩
                          case round =>
                            obtain ⟨i, rfl, hi, HBAi, HD⟩ := hrel
                            by_cases hlt9 : i < n
                            · as_aux_lemma =>
                                have e9 : decide ((i : Int) < (n : Int)) = true := decide_eq_true (by omega)
                                have e9' : decide (i < n) = true := decide_eq_true hlt9
                                have ki := HBAi.out.cell i hlt9
                                cases hbi : bA i with
                                | true =>
                                  rw [hbi] at ki
                                  have HBI2 : Hid (bA i = true) := hbi
                                  clear hbi
                                  have HCI : Hid (Calls Try.prog 18 #[.pointer (some ⟨h + 3, 0, none⟩), .int .i64 i] wr fun e w' => (∃ j : Int, e = .returned (.int .i32 j)) ∧ Bk w' gA 4 n (fun j => .bool (bA j)) ∧ ∃ tg' R2 f, Ixd tg w21 (h + 3) (gdOf h n P A1 A2 A3 A4 d1 d2 d3 d4 (fun i => (PR i).toNat) (fun i => (PO i).toNat) F AA L Z) (.slice A7 nr d7) R' m K tg' w' R2 f) := by
                                    rcases HD.out with ⟨hw, _⟩ | ⟨_, tg', R2, f, hI⟩
                                    · subst hw
                                      refine zzIndex (Calls.mono (index_first _ _ _ _ _ _ _ _ _ _ R' m K (some ⟨h, 0, none⟩) n HFin.out.al HW.out HFin.out.m4 rfl HR8'.out HFin.out.n3 HFin.out.v3 HKX.out i hlt9) ?_)
                                      rintro e w' ⟨h1, tg', R2, f, hI⟩
                                      exact ⟨h1, h1, HBAi.out.sameBlock (hI.ct.block gA HBAi.out.lt HTGA.out), tg', R2, f, hI⟩
                                    · refine zzIndex (Calls.mono (index_again _ _ _ _ _ _ _ _ tg' wr R2 f hI i hlt9) ?_)
                                      rintro e w' ⟨h1, rfl⟩
                                      exact ⟨h1, h1, HBAi.out, tg', R2, f, hI⟩
                                  go_wp2_with fail
                                  refine Calls.mono HCI.out ?_
                                  rintro e wY ⟨⟨iv, rfl⟩, hBY, hIY⟩
                                  have HBY := hide hBY
                                  have HIY := hide hIY
                                  clear hBY hIY HCI HD ki
                                  go_wp2_with fail
                                  go_roundw
                                  case rel => exact ⟨i + 1, by go_num, by omega, HBY.out, .inr ⟨⟨i, by omega, HBI2.out⟩, HIY.out⟩⟩
                                  case measure => simp [intOf]; omega
                                | false =>
                                  rw [hbi] at ki
                                  have HD' : Hid ((wr = w21 ∧ ∀ j, j < i + 1 → bA j = false) ∨ ((∃ j, j < i + 1 ∧ bA j = true) ∧ ∃ tg' R2 f, Ixd tg w21 (h + 3) (gdOf h n P A1 A2 A3 A4 d1 d2 d3 d4 (fun i => (PR i).toNat) (fun i => (PO i).toNat) F AA L Z) (.slice A7 nr d7) R' m K tg' wr R2 f)) := by
                                    rcases HD.out with ⟨h1, h2⟩ | ⟨⟨j, h1, h2⟩, h3⟩
                                    · refine .inl ⟨h1, fun j hj => ?_⟩
                                      rcases Nat.lt_or_ge j i with hj' | hj'
                                      · exact h2 j hj'
                                      · obtain rfl : j = i := by omega
                                        exact hbi
                                    · exact .inr ⟨⟨j, by omega, h2⟩, h3⟩
                                  clear hbi HD
                                  go_wp2_with fail
                                  go_roundw
                                  case rel => exact ⟨i + 1, by go_num, by omega, HBAi, HD'⟩
                                  case measure => simp [intOf]; omega
                            · as_aux_lemma =>
                                have e9 : decide ((i : Int) < (n : Int)) = false := decide_eq_false (by omega)
                                have e9' : decide (i < n) = false := decide_eq_false hlt9
                                obtain rfl : n = i := by omega
                                have HU : Hid (∃ tag2 R2 ix, Ag w21 tg tag2 ∧ St tag2 wr (h + 3) (.pointer (some ⟨h + 1, 0, none⟩)) (.slice A7 nr d7) ix R2 ∧ Gok tag2 wr (gdOf h n P A1 A2 A3 A4 d1 d2 d3 d4 (fun i => (PR i).toNat) (fun i => (PO i).toNat) F AA L Z) ∧ Ct tg w21 wr ∧ Zs R2 ∧ (∀ t, t ≠ 8 → R2 t = R' t) ∧ (R2 8).n = 0 ∧ RetOk R2 (gdOf h n P A1 A2 A3 A4 d1 d2 d3 d4 (fun i => (PR i).toNat) (fun i => (PO i).toNat) F AA L Z) 0 ix ∧ (ix = true → 0 = n) ∧ (ix = false → ∀ j, j < 0 → (R2 8).V j = .int .i32 (-1))) := by
                                  have hnx : ¬ ∃ x, x < n ∧ bA x = true := fun h => by have := HAN.out.2 h; cases this
                                  rcases HD.out with ⟨hw, _⟩ | ⟨hex, _⟩
                                  · subst hw
                                    exact ⟨tg, R', false, Ag.refl _ _, HFin.out.al.st, HFin.out.al.gk, Ct.refl _ _, HFin.out.al.zs, fun _ _ => rfl, by rw [HFin.out.s8.2.2.2]; rfl, (fun e => by cases e), (fun e => by cases e), fun _ j hj => absurd hj (Nat.not_lt_zero _)⟩
                                  · exact absurd hex hnx

                                obtain ⟨tag2, R2, ix, u1, u2, u3, u4, u5, u6, u7, u8, u9, u10⟩ := HU.out
                                obtain ⟨p1, p2⟩ := HFin.out.pre HW.out HRDN.out R2 u6
                                have hct := HFin.out.al.ct.trans u4 HFin.out.al.ag
                                have hag := HFin.out.al.ag.trans u1 HFin.out.al.ct.size
                                have hRoB : Ro tag2 .i64 wr A8 nb (fun i => ((RB i).toNat : Int)) := HRoB.out.ct hct hag
                                have K2 := hide (zzReset (Q := fun e w' => e = .returned (.tuple #[]) ∧ ∃ tg R3 m r2 K2 B2 ro1 ro2' wa2, Fin tag2 wr (h + 3) (gdOf h n P A1 A2 A3 A4 d1 d2 d3 d4 (fun i => (PR i).toNat) (fun i => (PO i).toNat) F AA L Z) A8 nb d8 (fun i => (RB i).toNat) R2 r (fun k => K (B k) / 4294967296) ro2 wa1 0 tg w' R3 m r2 K2 B2 ro1 ro2' wa2) (Calls.mono (reset_all tag2 wr (h + 3) (gdOf h n P A1 A2 A3 A4 d1 d2 d3 d4 (fun i => (PR i).toNat) (fun i => (PO i).toNat) F AA L Z) (.slice A7 nr d7) A8 nb d8 ix R2 r (fun k => K (B k) / 4294967296) ro2 wa1 u2 u3 HW.out HFin.out.r4 p1 u5 p2 0 u7 (fun i => (RB i).toNat) (by omega) HRDB.out hRoB u8 u9 u10) (fun e w' hp => ⟨hp.1, rfl, hp.2⟩)))
                                have HCT := hide hct
                                have HU7 := hide u7
                                have HAG2 := hide hag
                                clear u1 u2 u3 u4 u5 u6 u7 u8 u9 u10 p1 p2 hct hag hRoB HU HD
                                go_wp2_with fail
                                refine Calls.mono K2.out ?_
                                rintro e w22 ⟨rfl, tg2, R3, m2', r2, K2', B2, ro1', ro2', wa2, hFin2⟩
                                have ct := HCT.out.trans hFin2.al.ct HAG2.out
                                have r8 : RdI .i32 w22 (some ⟨gW, 0, none⟩) P (fun j => if a j = true then (-1 : Int) else RO j) := I8.out.keep ct.size (fun x hx h0 => ct.block x.block ((I8.out.2 x hx).1 h0) (by cases hx; exact HTG.out.2.2.1))
                                have r9 : RdI .i32 w22 (some ⟨gV, 0, none⟩) P (fun j => if a j = true then (0 : Int) else WA j) := I9.out.keep ct.size (fun x hx h0 => ct.block x.block ((I9.out.2 x hx).1 h0) (by cases hx; exact HTG.out.2.2.2.1))
                                have bi : Bk w22 gB 4 n (fun j => .bool (bB j)) := IBB.out.sameBlock (ct.block gB IBB.out.lt HTG.out.2.1)
                                have hin : ∀ q, q < P → (a q = true ↔ ∃ k, k < r ∧ K (B k) / 4294967296 = q) := fun q hq => InA.runs (d := (gdOf h n P A1 A2 A3 A4 d1 d2 d3 d4 (fun i => (PR i).toNat) (fun i => (PO i).toNat) F AA L Z)) HW.out HRDN.out HFin.out.ks HFin.out.rn HMA.out HIA.out q hq
                                have hro1 : ∀ q, ro1 q = RO q := fun q => (HFin.out.c1 q).2 (fun ⟨j, hj, _⟩ => absurd hj (Nat.not_lt_zero _))
                                have hwa1 : ∀ q, wa1 q = WA q := fun q => (HFin.out.c2 q).2 (fun ⟨j, hj, _⟩ => absurd hj (Nat.not_lt_zero _))
                                have hwants := wants (d := (gdOf h n P A1 A2 A3 A4 d1 d2 d3 d4 (fun i => (PR i).toNat) (fun i => (PO i).toNat) F AA L Z)) (us := fun k => K (B k) / 4294967296) hin hro1 HFin.out.rv.r2 hwa1 hFin2.c1 hFin2.c2
                                have K3 := hide (fresh_any tag2 wr (h + 3) (gdOf h n P A1 A2 A3 A4 d1 d2 d3 d4 (fun i => (PR i).toNat) (fun i => (PO i).toNat) F AA L Z) A8 nb d8 (fun i => (RB i).toNat) R2 r (fun k => K (B k) / 4294967296) ro2 wa1 0 tg2 w22 R3 m2' r2 K2' B2 ro1' ro2' wa2 hFin2 HW.out (by omega) HRDB.out (by rw [hFin2.s8.2.2.2]; exact HU7.out) (by omega) gB bB bi HMB.out (some ⟨gW, 0, none⟩) (some ⟨gV, 0, none⟩) P P _ _ r8 r9 (fun q hq _ => (hwants q hq).1) (fun q hq => (hwants q hq).2))
                                have HT22 : Hid (Below w.heap.size w w22) := ⟨ct.os.trans HT20.out.os, ct.tape.trans HT20.out.tape, ct.output.trans HT20.out.output, Nat.le_trans HT20.out.size ct.size, fun k hk => (ct.block k (Nat.lt_of_lt_of_le hk HT20.out.size) (HTG.out.2.2.2.2 k hk)).trans (HT20.out.block k hk)⟩
                                clear K2 ct r8 r9 bi hin hro1 hwa1 hwants hFin2
                                go_wp2_with fail
                                refine Calls.mono K3.out ?_
                                rintro e w23 ⟨rfl, T23⟩
                                have HT23 : Hid (Below w.heap.size w w23) := HT22.out.trans (T23.mono HT22.out.size)
                                clear T23 K3
                                go_wp2_with fail
                                go_ret
                                exact ⟨rfl, HT23.out⟩
        · have CW := hide (wf_lens a1 a2 a3 a4 a5 a6 n n2 P n4 n5 n6 c1 c2 c3 c4 c5 c6 PR PO F L Z w2 heq)
          have HE : Hid (¬ (n2 = n ∧ n4 = n ∧ n5 = P ∧ n6 = P)) := heq
          clear heq
          go_wp2_with fail
          refine Calls.mono CW.out ?_
          rintro e w3 ⟨f, rfl, hf, T3⟩
          have HT3 : Hid (Below w.heap.size w w3) := HT2.out.trans (T3.mono HT2.out.size)
          cases f with
          | true => exact absurd ⟨(hf rfl).1, (hf rfl).2.1, (hf rfl).2.2.1, (hf rfl).2.2.2.1⟩ HE.out
          | false =>
            clear hf T3 CW
            go_wp2_with fail
            go_ret
            exact ⟨rfl, HT3.out⟩
    · 
      by_cases b0 : n ≤ 4096
      · by_cases b1 : n2 ≤ 4096
        · by_cases b2 : P ≤ 4096
          · by_cases b3 : n4 ≤ 4096
            · by_cases b4 : n5 ≤ 4096
              · by_cases b5 : n6 ≤ 4096
                · by_cases b6 : nr ≤ 4096
                  · by_cases b7 : nb ≤ 4096
                    · exact absurd ⟨b0, b1, b2, b3, b4, b5, b6, b7⟩ hlen
                    · have l0 : decide ((4096 : Int) < (n : Int)) = false := decide_eq_false (by omega)
                      have m0 : decide (4096 < n) = false := decide_eq_false (by omega)
                      have l1 : decide ((4096 : Int) < (n2 : Int)) = false := decide_eq_false (by omega)
                      have m1 : decide (4096 < n2) = false := decide_eq_false (by omega)
                      have l2 : decide ((4096 : Int) < (P : Int)) = false := decide_eq_false (by omega)
                      have m2 : decide (4096 < P) = false := decide_eq_false (by omega)
                      have l3 : decide ((4096 : Int) < (n4 : Int)) = false := decide_eq_false (by omega)
                      have m3 : decide (4096 < n4) = false := decide_eq_false (by omega)
                      have l4 : decide ((4096 : Int) < (n5 : Int)) = false := decide_eq_false (by omega)
                      have m4 : decide (4096 < n5) = false := decide_eq_false (by omega)
                      have l5 : decide ((4096 : Int) < (n6 : Int)) = false := decide_eq_false (by omega)
                      have m5 : decide (4096 < n6) = false := decide_eq_false (by omega)
                      have l6 : decide ((4096 : Int) < (nr : Int)) = false := decide_eq_false (by omega)
                      have m6 : decide (4096 < nr) = false := decide_eq_false (by omega)
                      have l7 : decide ((4096 : Int) < (nb : Int)) = true := decide_eq_true (by omega)
                      have m7 : decide (4096 < nb) = true := decide_eq_true (by omega)
                      go_wp2_with fail
                      go_ret
                      exact ⟨rfl, T1⟩
                  · have l0 : decide ((4096 : Int) < (n : Int)) = false := decide_eq_false (by omega)
                    have m0 : decide (4096 < n) = false := decide_eq_false (by omega)
                    have l1 : decide ((4096 : Int) < (n2 : Int)) = false := decide_eq_false (by omega)
                    have m1 : decide (4096 < n2) = false := decide_eq_false (by omega)
                    have l2 : decide ((4096 : Int) < (P : Int)) = false := decide_eq_false (by omega)
                    have m2 : decide (4096 < P) = false := decide_eq_false (by omega)
                    have l3 : decide ((4096 : Int) < (n4 : Int)) = false := decide_eq_false (by omega)
                    have m3 : decide (4096 < n4) = false := decide_eq_false (by omega)
                    have l4 : decide ((4096 : Int) < (n5 : Int)) = false := decide_eq_false (by omega)
                    have m4 : decide (4096 < n5) = false := decide_eq_false (by omega)
                    have l5 : decide ((4096 : Int) < (n6 : Int)) = false := decide_eq_false (by omega)
                    have m5 : decide (4096 < n6) = false := decide_eq_false (by omega)
                    have l6 : decide ((4096 : Int) < (nr : Int)) = true := decide_eq_true (by omega)
                    have m6 : decide (4096 < nr) = true := decide_eq_true (by omega)
                    go_wp2_with fail
                    go_ret
                    exact ⟨rfl, T1⟩
                · have l0 : decide ((4096 : Int) < (n : Int)) = false := decide_eq_false (by omega)
                  have m0 : decide (4096 < n) = false := decide_eq_false (by omega)
                  have l1 : decide ((4096 : Int) < (n2 : Int)) = false := decide_eq_false (by omega)
                  have m1 : decide (4096 < n2) = false := decide_eq_false (by omega)
                  have l2 : decide ((4096 : Int) < (P : Int)) = false := decide_eq_false (by omega)
                  have m2 : decide (4096 < P) = false := decide_eq_false (by omega)
                  have l3 : decide ((4096 : Int) < (n4 : Int)) = false := decide_eq_false (by omega)
                  have m3 : decide (4096 < n4) = false := decide_eq_false (by omega)
                  have l4 : decide ((4096 : Int) < (n5 : Int)) = false := decide_eq_false (by omega)
                  have m4 : decide (4096 < n5) = false := decide_eq_false (by omega)
                  have l5 : decide ((4096 : Int) < (n6 : Int)) = true := decide_eq_true (by omega)
                  have m5 : decide (4096 < n6) = true := decide_eq_true (by omega)
                  go_wp2_with fail
                  go_ret
                  exact ⟨rfl, T1⟩
              · have l0 : decide ((4096 : Int) < (n : Int)) = false := decide_eq_false (by omega)
                have m0 : decide (4096 < n) = false := decide_eq_false (by omega)
                have l1 : decide ((4096 : Int) < (n2 : Int)) = false := decide_eq_false (by omega)
                have m1 : decide (4096 < n2) = false := decide_eq_false (by omega)
                have l2 : decide ((4096 : Int) < (P : Int)) = false := decide_eq_false (by omega)
                have m2 : decide (4096 < P) = false := decide_eq_false (by omega)
                have l3 : decide ((4096 : Int) < (n4 : Int)) = false := decide_eq_false (by omega)
                have m3 : decide (4096 < n4) = false := decide_eq_false (by omega)
                have l4 : decide ((4096 : Int) < (n5 : Int)) = true := decide_eq_true (by omega)
                have m4 : decide (4096 < n5) = true := decide_eq_true (by omega)
                go_wp2_with fail
                go_ret
                exact ⟨rfl, T1⟩
            · have l0 : decide ((4096 : Int) < (n : Int)) = false := decide_eq_false (by omega)
              have m0 : decide (4096 < n) = false := decide_eq_false (by omega)
              have l1 : decide ((4096 : Int) < (n2 : Int)) = false := decide_eq_false (by omega)
              have m1 : decide (4096 < n2) = false := decide_eq_false (by omega)
              have l2 : decide ((4096 : Int) < (P : Int)) = false := decide_eq_false (by omega)
              have m2 : decide (4096 < P) = false := decide_eq_false (by omega)
              have l3 : decide ((4096 : Int) < (n4 : Int)) = true := decide_eq_true (by omega)
              have m3 : decide (4096 < n4) = true := decide_eq_true (by omega)
              go_wp2_with fail
              go_ret
              exact ⟨rfl, T1⟩
          · have l0 : decide ((4096 : Int) < (n : Int)) = false := decide_eq_false (by omega)
            have m0 : decide (4096 < n) = false := decide_eq_false (by omega)
            have l1 : decide ((4096 : Int) < (n2 : Int)) = false := decide_eq_false (by omega)
            have m1 : decide (4096 < n2) = false := decide_eq_false (by omega)
            have l2 : decide ((4096 : Int) < (P : Int)) = true := decide_eq_true (by omega)
            have m2 : decide (4096 < P) = true := decide_eq_true (by omega)
            go_wp2_with fail
            go_ret
            exact ⟨rfl, T1⟩
        · have l0 : decide ((4096 : Int) < (n : Int)) = false := decide_eq_false (by omega)
          have m0 : decide (4096 < n) = false := decide_eq_false (by omega)
          have l1 : decide ((4096 : Int) < (n2 : Int)) = true := decide_eq_true (by omega)
          have m1 : decide (4096 < n2) = true := decide_eq_true (by omega)
          go_wp2_with fail
          go_ret
          exact ⟨rfl, T1⟩
      · have l0 : decide ((4096 : Int) < (n : Int)) = true := decide_eq_true (by omega)
        have m0 : decide (4096 < n) = true := decide_eq_true (by omega)
        go_wp2_with fail
        go_ret
        exact ⟨rfl, T1⟩
end Go.Proofs.Qxb6605223a
