/-
  Seat b6605223a. THE LAW's WALK: FnResetExact (3); ZZReset (15).
-/
import Derived.Test.Qxb6605223aY0
import Derived.Test.Qxb6605223aR1
import Derived.Test.Qxb6605223aV1
set_option linter.unusedVariables false
set_option linter.unusedSimpArgs false
namespace Go.Proofs.Qxb6605223a
open Go.RowKit

theorem hide {p : Prop} (h : p) : Hid p := h
theorem RdI.congr {k : IntKind} {w : World} {a : Option Addr} {n : Nat} {V V' : Nat → Int} (h : RdI k w a n V) (hv : ∀ i, i < n → V' i = V i) : RdI k w a n V' :=
  ⟨h.1, fun x hx => ⟨(h.2 x hx).1, fun i hi => by rw [hv i hi]; exact (h.2 x hx).2 i hi⟩⟩
/-- A walk through ZZReset is one through reset. -/
theorem zzReset {p v : Value} {w : World} {Q : Ending → World → Prop} (h : Calls Try.prog 22 #[p, v] w fun e w' => e = .returned (.tuple #[]) ∧ Q (.returned (.tuple #[])) w') : Calls Try.prog 15 #[p, v] w Q := by
  have H := hide (h)
  clear h
  go_enter Try.func15, Try.ntmps15
  go_wp2_with fail
  refine Calls.mono H.out ?_
  rintro e w' ⟨rfl, hq⟩
  have HQ := hide (hq)
  clear hq
  go_wp2_with fail
  go_end0
  exact HQ.out

theorem gwf_of {h n P : Nat} {A1 A2 A3 A4 : Option Addr} {c1 c2 c3 c4 : Nat} {PR PO F : Nat → Int} {AA : Nat → Option Addr} {L : Nat → Nat} {Z : Nat → Nat → Int} (hn : n ≤ 4096) (hP : P ≤ 4096) (hL : ∀ q, q < P → L q ≤ 1048576) (ho : ∀ i, i < n → OkAt n P PR PO F L Z i) :
    Gwf (gdOf h n P A1 A2 A3 A4 c1 c2 c3 c4 (fun i => (PR i).toNat) (fun i => (PO i).toNat) F AA L Z) := by
  refine ⟨hn, hP, fun i hi => ?_, fun i hi => ?_, fun i hi => ?_, fun i hi => ?_, fun i hi => (ho i hi).2.2.2.2.2.1, fun i hi => (ho i hi).2.2.2.2.2.2, hL⟩
  · obtain ⟨h1, h2, _⟩ := ho i hi
    show (PR i).toNat < P
    omega
  · obtain ⟨_, _, h3, _⟩ := ho i hi
    show 1 ≤ (PO i).toNat
    omega
  · obtain ⟨_, _, h3, h4, _⟩ := ho i hi
    show (PO i).toNat ≤ L (PR i).toNat
    omega
  · obtain ⟨_, _, h3, h4, h5, _⟩ := ho i hi
    show Z (PR i).toNat ((PO i).toNat - 1) = (i : Int)
    rw [← h5]
    congr 1
    omega

set_option maxRecDepth 100000 in
set_option maxHeartbeats 8000000 in
theorem law3 (a1 a2 a3 a4 a5 a6 a7 : Option Addr) (n n2 P n4 n5 n6 nr c1 c2 c3 c4 c5 c6 c7 : Nat) (PR PO F RO WA RD : Nat → Int) (A : Nat → Option Addr) (L C : Nat → Nat) (Z : Nat → Nat → Int) (w : World)
    (m1 : n ≤ 9223372036854775807) (m2 : n2 ≤ 9223372036854775807) (m3 : P ≤ 9223372036854775807) (m4 : n4 ≤ 9223372036854775807) (m5 : n5 ≤ 9223372036854775807) (m6 : n6 ≤ 9223372036854775807) (m7 : nr ≤ 9223372036854775807) (mL : ∀ q, q < P → L q ≤ 9223372036854775807)
    (h1 : RdI .i64 w a1 n PR) (h2 : RdI .i32 w a2 n2 PO) (hPO : ∀ i, i < n2 → -2147483648 ≤ PO i ∧ PO i ≤ 2147483647) (h3 : RdL w a3 P A L C Z) (h4 : RdI .i64 w a4 n4 F) (h5 : RdI .i32 w a5 n5 RO) (h6 : RdI .i32 w a6 n6 WA) (h7 : RdI .i64 w a7 nr RD) :
    Calls Try.prog 3 #[.slice a1 n c1, .slice a2 n2 c2, .slice a3 P c3, .slice a4 n4 c4, .slice a5 n5 c5, .slice a6 n6 c6, .slice a7 nr c7] w fun e w' => e = .returned (.bool true) ∧ Below w.heap.size w w' := by
  have H1 : Hid (RdI .i64 w a1 n PR) := h1
  have H2 : Hid (RdI .i32 w a2 n2 PO) := h2
  have HPO : Hid (∀ i, i < n2 → -2147483648 ≤ PO i ∧ PO i ≤ 2147483647) := hPO
  have H3 : Hid (RdL w a3 P A L C Z) := h3
  have H4 : Hid (RdI .i64 w a4 n4 F) := h4
  have H5 : Hid (RdI .i32 w a5 n5 RO) := h5
  have H6 : Hid (RdI .i32 w a6 n6 WA) := h6
  have H7 : Hid (RdI .i64 w a7 nr RD) := h7
  have CB := hide (bytes6_any a1 a2 a3 a4 a5 a6 a7 n n2 P n4 n5 n6 nr c1 c2 c3 c4 c5 c6 c7 A L C Z w m1 m2 m3 m4 m5 m6 m7 mL h3)
  clear h1 h2 hPO h3 h4 h5 h6 h7 mL
  go_enter Try.func3, Try.ntmps3
  go_wp2_with fail
  refine Calls.mono CB.out ?_
  rintro e w1 ⟨f, rfl, hf, T1⟩
  clear CB
  cases f with
  | false =>
    go_wp2_with fail
    go_ret
    exact ⟨rfl, T1⟩
  | true =>
    have HL : Hid (∀ q, q < P → L q ≤ 1048576) := hf rfl
    clear hf
    by_cases hlen : n ≤ 4096 ∧ n2 ≤ 4096 ∧ P ≤ 4096 ∧ n4 ≤ 4096 ∧ n5 ≤ 4096 ∧ n6 ≤ 4096 ∧ nr ≤ 4096
    · obtain ⟨g1, g2, g3, g4, g5, g6, g7⟩ := hlen
      have l0 : decide ((4096 : Int) < (n : Int)) = false := decide_eq_false (by omega)
      have k0 : decide (4096 < n) = false := decide_eq_false (by omega)
      have l1 : decide ((4096 : Int) < (n2 : Int)) = false := decide_eq_false (by omega)
      have k1 : decide (4096 < n2) = false := decide_eq_false (by omega)
      have l2 : decide ((4096 : Int) < (P : Int)) = false := decide_eq_false (by omega)
      have k2 : decide (4096 < P) = false := decide_eq_false (by omega)
      have l3 : decide ((4096 : Int) < (n4 : Int)) = false := decide_eq_false (by omega)
      have k3 : decide (4096 < n4) = false := decide_eq_false (by omega)
      have l4 : decide ((4096 : Int) < (n5 : Int)) = false := decide_eq_false (by omega)
      have k4 : decide (4096 < n5) = false := decide_eq_false (by omega)
      have l5 : decide ((4096 : Int) < (n6 : Int)) = false := decide_eq_false (by omega)
      have k5 : decide (4096 < n6) = false := decide_eq_false (by omega)
      have l6 : decide ((4096 : Int) < (nr : Int)) = false := decide_eq_false (by omega)
      have k6 : decide (4096 < nr) = false := decide_eq_false (by omega)
      have CZ := hide (zzb_any a1 a2 a3 a4 a5 a6 a7 none n n2 P n4 n5 n6 nr 0 c1 c2 c3 c4 c5 c6 c7 0 A L C Z w1 g1 g2 g3 g4 g5 g6 g7 (by omega) HL.out (H3.out.below T1))
      have HT1 : Hid (Below w.heap.size w w1) := T1
      clear T1
      go_wp2_with fail
      refine Calls.mono CZ.out ?_
      rintro e w2 ⟨⟨t, rfl⟩, T2⟩
      have HT2 : Hid (Below w.heap.size w w2) := HT1.out.trans (T2.mono HT1.out.size)
      clear CZ T2 HT1
      by_cases ht : 1048576 < t
      · have q1 : decide (1048576 < t) = true := decide_eq_true ht
        go_wp2_with fail
        go_ret
        exact ⟨rfl, HT2.out⟩
      · have q1 : decide (1048576 < t) = false := decide_eq_false ht
        by_cases heq : n2 = n ∧ n4 = n ∧ n5 = P ∧ n6 = P
        · obtain ⟨hn2, hn4, hn5, hn6⟩ := heq
          have hn2 := hn2.symm
          have hn4 := hn4.symm
          have hn5 := hn5.symm
          have hn6 := hn6.symm
          subst hn2 hn4 hn5 hn6
          have CW := hide (wf_main a1 a2 a3 a4 a5 a6 n P c1 c2 c3 c4 c5 c6 PR PO F A L C Z w2 (by omega) (by omega) HL.out HPO.out (H1.out.below HT2.out) (H2.out.below HT2.out) (H3.out.below HT2.out) (H4.out.below HT2.out))
          go_wp2_with fail
          refine Calls.mono CW.out ?_
          rintro e w3 ⟨f, rfl, hf, T3⟩
          have HT3 : Hid (Below w.heap.size w w3) := HT2.out.trans (T3.mono HT2.out.size)
          clear CW T3 HT2
          cases f with
          | false =>
            go_wp2_with fail
            go_ret
            exact ⟨rfl, HT3.out⟩
          | true =>
            have HOK : Hid (∀ i, i < n → OkAt n P PR PO F L Z i) := (hf rfl).2.2.2.2
            clear hf
            have CR := hide (readsIn_any a7 nr c7 n RD w3 (by omega) (by omega) (H7.out.below HT3.out))
            go_wp2_with fail
            refine Calls.mono CR.out ?_
            rintro e w4 ⟨f, rfl, hf, T4⟩
            have HT4 : Hid (Below w.heap.size w w4) := HT3.out.trans (T4.mono HT3.out.size)
            clear CR T4 HT3
            cases f with
            | false =>
              go_wp2_with fail
              go_ret
              exact ⟨rfl, HT4.out⟩
            | true =>
              have HRI : Hid (∀ i, i < nr → 0 ≤ RD i ∧ RD i < n) := hf rfl
              clear hf
              have K1 := hide (clone64_any a1 n c1 PR w4 (by omega) (H1.out.below HT4.out))
              go_wp2_with fail
              refine Calls.mono K1.out ?_
              intro e w5 hp
              obtain ⟨T, A1, d1, rfl, C1⟩ := hp.form
              have HT5 : Hid (Below w.heap.size w w5) := HT4.out.trans (T.mono HT4.out.size)
              have HC1 : Hid (Cln .i64 3 w5 w4.heap.size w5.heap.size A1 n d1 PR) := C1
              clear K1 hp T C1
              have K1 := hide (clone32_any a2 n c2 PO w5 (by omega) (H2.out.below HT5.out))
              go_wp2_with fail
              refine Calls.mono K1.out ?_
              intro e w6 hp
              obtain ⟨T, A2, d2, rfl, C2⟩ := hp.form
              have HT6 : Hid (Below w.heap.size w w6) := HT5.out.trans (T.mono HT5.out.size)
              have HC1' := hide (HC1.out.below T)
              have HC2 : Hid (Cln .i32 21 w6 w5.heap.size w6.heap.size A2 n d2 PO) := C2
              have HSZ6 : Hid (w5.heap.size ≤ w6.heap.size) := T.size
              clear K1 hp T C2
              have K1 := hide (clone2_any a3 P c3 A L C Z w6 (by omega) HL.out (H3.out.below HT6.out))
              go_wp2_with fail
              refine Calls.mono K1.out ?_
              intro e w7 hp
              obtain ⟨T, A3, d3, AA, rfl, C3, C3b, C3r⟩ := hp.form
              have HT7 : Hid (Below w.heap.size w w7) := HT6.out.trans (T.mono HT6.out.size)
              have HC1'' := hide (HC1'.out.below T)
              have HC2' := hide (HC2.out.below T)
              have HC3 : Hid (RdL w7 A3 P AA L L Z) := C3
              have HC3b : Hid (∀ x, A3 = some x → x.block < w7.heap.size) := C3b
              have HC3r : Hid (∀ q, q < P → ∀ x, AA q = some x → x.block < w7.heap.size) := C3r
              have HSZ7 : Hid (w6.heap.size ≤ w7.heap.size) := T.size
              clear K1 hp T C3 C3b C3r HC1 HC1' HC2
              have K1 := hide (clone64_any a4 n c4 F w7 (by omega) (H4.out.below HT7.out))
              go_wp2_with fail
              refine Calls.mono K1.out ?_
              intro e w8 hp
              obtain ⟨T, A4, d4, rfl, C4⟩ := hp.form
              have HT8 : Hid (Below w.heap.size w w8) := HT7.out.trans (T.mono HT7.out.size)
              have HB8 : Hid (Below w7.heap.size w7 w8) := T
              have HC4 : Hid (Cln .i64 3 w8 w7.heap.size w8.heap.size A4 n d4 F) := C4
              clear K1 hp T C4
              have K1 := hide (clone32_any a5 P c5 RO w8 (by omega) (H5.out.below HT8.out))
              go_wp2_with fail
              refine Calls.mono K1.out ?_
              intro e w9 hp
              obtain ⟨T, A5, d5, rfl, C5⟩ := hp.form
              have HT9 : Hid (Below w.heap.size w w9) := HT8.out.trans (T.mono HT8.out.size)
              have HB9 : Hid (Below w8.heap.size w8 w9) := T
              have HC5 : Hid (Cln .i32 21 w9 w8.heap.size w9.heap.size A5 P d5 RO) := C5
              clear K1 hp T C5
              have K1 := hide (clone32_any a6 P c6 WA w9 (by omega) (H6.out.below HT9.out))
              go_wp2_with fail
              refine Calls.mono K1.out ?_
              intro e w10 hp
              obtain ⟨T, A6, d6, rfl, C6⟩ := hp.form
              have HT10 : Hid (Below w.heap.size w w10) := HT9.out.trans (T.mono HT9.out.size)
              have HB10 : Hid (Below w9.heap.size w9 w10) := T
              have HC6 : Hid (Cln .i32 21 w10 w9.heap.size w10.heap.size A6 P d6 WA) := C6
              clear K1 hp T C6
              have K1 := hide (clone64_any a7 nr c7 RD w10 (by omega) (H7.out.below HT10.out))
              go_wp2_with fail
              refine Calls.mono K1.out ?_
              intro e w11 hp
              obtain ⟨T, A7, d7, rfl, C7⟩ := hp.form
              have HT11 : Hid (Below w.heap.size w w11) := HT10.out.trans (T.mono HT10.out.size)
              have HB11 : Hid (Below w10.heap.size w10 w11) := T
              have HC7 : Hid (Cln .i64 3 w11 w10.heap.size w11.heap.size A7 nr d7 RD) := C7
              clear K1 hp T C7
              have HC5' := hide ((HC5.out.below HB10.out).below HB11.out)
              have K1 := hide (clone32_any A5 P d5 RO w11 (by omega) HC5'.out.rd)
              go_wp2_with fail
              refine Calls.mono K1.out ?_
              intro e w12 hp
              obtain ⟨T, A8, d8, rfl, C8⟩ := hp.form
              have HT12 : Hid (Below w.heap.size w w12) := HT11.out.trans (T.mono HT11.out.size)
              have HB12 : Hid (Below w11.heap.size w11 w12) := T
              have HC8 : Hid (Cln .i32 21 w12 w11.heap.size w12.heap.size A8 P d8 RO) := C8
              clear K1 hp T C8
              have HC6' := hide ((HC6.out.below HB11.out).below HB12.out)
              have K1 := hide (clone32_any A6 P d6 WA w12 (by omega) HC6'.out.rd)
              go_wp2_with fail
              refine Calls.mono K1.out ?_
              intro e w13 hp
              obtain ⟨T, A9, d9, rfl, C9⟩ := hp.form
              have HT13 : Hid (Below w.heap.size w w13) := HT12.out.trans (T.mono HT12.out.size)
              have HB13 : Hid (Below w12.heap.size w12 w13) := T
              have HC9 : Hid (Cln .i32 21 w13 w12.heap.size w13.heap.size A9 P d9 WA) := C9
              clear K1 hp T C9
              -- all clones, at w13
              have B7 : Below w7.heap.size w7 w13 := HB8.out.trans ((HB9.out.trans ((HB10.out.trans ((HB11.out.trans ((HB12.out.trans (HB13.out.mono HB12.out.size)).mono HB11.out.size)).mono HB10.out.size)).mono HB9.out.size)).mono HB8.out.size)
              have B8 : Below w8.heap.size w8 w13 := HB9.out.trans ((HB10.out.trans ((HB11.out.trans ((HB12.out.trans (HB13.out.mono HB12.out.size)).mono HB11.out.size)).mono HB10.out.size)).mono HB9.out.size)
              have B9 : Below w9.heap.size w9 w13 := HB10.out.trans ((HB11.out.trans ((HB12.out.trans (HB13.out.mono HB12.out.size)).mono HB11.out.size)).mono HB10.out.size)
              have B10 : Below w10.heap.size w10 w13 := HB11.out.trans ((HB12.out.trans (HB13.out.mono HB12.out.size)).mono HB11.out.size)
              have B11 : Below w11.heap.size w11 w13 := HB12.out.trans (HB13.out.mono HB12.out.size)
              have E1 := hide (HC1''.out.below B7)
              have E2 := hide (HC2'.out.below B7)
              have E3 : Hid (RdL w13 A3 P AA L L Z) := HC3.out.below B7
              have E4 := hide (HC4.out.below B8)
              have E5 := hide (HC5.out.below B9)
              have E6 := hide (HC6.out.below B10)
              have E7 := hide (HC7.out.below B11)
              have E8 := hide (HC8.out.below HB13.out)
              have hrd7 : RdI .i64 w13 A7 nr (fun i => ((RD i).toNat : Int)) := E7.out.rd.congr fun i hi => by have := HRI.out i hi; show ((RD i).toNat : Int) = RD i; omega
              have K1 := hide (retBy_any A4 A7 n nr d4 d7 F (fun i => (RD i).toNat) w13 (by omega) (by omega) E4.out.rd hrd7 (fun i hi => ⟨(HOK.out i hi).2.2.2.2.2.1, (HOK.out i hi).2.2.2.2.2.2⟩) (fun i hi => by have := HRI.out i hi; show (RD i).toNat < n; omega))
              have HR7 := hide (hrd7)
              have HSS : Hid (w7.heap.size ≤ w8.heap.size ∧ w8.heap.size ≤ w9.heap.size ∧ w9.heap.size ≤ w10.heap.size ∧ w10.heap.size ≤ w11.heap.size ∧ w11.heap.size ≤ w12.heap.size ∧ w12.heap.size ≤ w13.heap.size ∧ w.heap.size ≤ w8.heap.size) := ⟨HB8.out.size, HB9.out.size, HB10.out.size, HB11.out.size, HB12.out.size, HB13.out.size, HT8.out.size⟩
              clear B7 B8 B9 B10 B11 hrd7 HC1'' HC2' HC3 HC4 HC5 HC5' HC6 HC6' HC7 HC8 HB8 HB9 HB10 HB11 HB12 HB13 HT4 HT5 HT6 HT7 HT8 HT9 HT10 HT11 HT12
              go_wp2_with fail
              refine Calls.mono K1.out ?_
              rintro e w14 ⟨gi, b, rfl, gi1, BI, hmk, T14⟩
              have HT14 : Hid (Below w.heap.size w w14) := HT13.out.trans (T14.mono HT13.out.size)
              have HBI : Hid (Bk w14 gi 4 n (fun j => .bool (b j))) := BI
              have HMK : Hid (Mk F (fun i => (RD i).toNat) n nr b) := hmk
              have HT14' : Hid (Below w13.heap.size w13 w14) := T14
              have HGI : Hid (w13.heap.size ≤ gi) := gi1
              clear K1 BI hmk T14 gi1
              have K1 := hide (newForced_any A1 A2 A3 A4 A5 A6 n d1 d2 d3 d4 d5 d6 n P n P w14 (by omega) (by omega))
              go_wp2_with fail
              refine Calls.mono K1.out ?_
              rintro e w15 ⟨rfl, N1, N2, N3, T15, N4⟩
              have B13 : Below w13.heap.size w13 w15 := HT14'.out.trans (T15.mono HT14'.out.size)
              have ho := HOK.out
              have hri := HRI.out
              have hsz14 := HT14'.out.size
              have G1 := E1.out.below B13
              have G2 := E2.out.below B13
              have G3 := E3.out.below B13
              have G4 := E4.out.below B13
              have G5 := E5.out.below B13
              have G6 := E6.out.below B13
              have G7 := HR7.out.below B13
              obtain ⟨z1, z2, z3, z4, z5, z6, z7⟩ := HSS.out
              have hs6 := HSZ6.out
              have hs7 := HSZ7.out
              have hGI := HGI.out
              have hgl := HBI.out.lt
              obtain ⟨t0, t7, hSt, hGk, hPre, hZs, hLA, hRo⟩ := assemble w15 w14.heap.size w8.heap.size w9.heap.size w10.heap.size n P nr A1 A2 A3 A4 A5 A6 A7 d1 d2 d3 d4 d5 d6 d7 (fun i => (PR i).toNat) (fun i => (PO i).toNat) (fun i => (RD i).toNat) F RO WA AA L Z
                (G1.rd.congr fun i hi => by have := (ho i hi).1; show ((PR i).toNat : Int) = PR i; omega) (fun x hx => by have := (G1.blk x hx).2; omega)
                (G2.rd.congr fun i hi => by have := (ho i hi).2.2.1; show ((PO i).toNat : Int) = PO i; omega) (fun x hx => by have := (G2.blk x hx).2; omega)
                G3 (fun x hx => by have := HC3b.out x hx; omega) (fun q hq x hx => by have := HC3r.out q hq x hx; omega)
                G4.rd (fun x hx => (G4.blk x hx).2) G7 (fun x hx => by have := E7.out.blk x hx; omega)
                G5 G6 z2 z3 (by omega) (by omega) N1 N2 N3 N4
              have hW : Gwf (gdOf w14.heap.size n P A1 A2 A3 A4 d1 d2 d3 d4 (fun i => (PR i).toNat) (fun i => (PO i).toNat) F AA L Z) := gwf_of (by omega) (by omega) HL.out ho
              have hrdn : ∀ i, i < nr → (RD i).toNat < n := fun i hi => by have := hri i hi; omega
              have K2 := hide (zzReset (Q := fun e w' => e = .returned (.tuple #[]) ∧ ∃ tg R' m r K B ro1 ro2 wa1, Fin (tagOf A5 A6 w14.heap.size) w15 (w14.heap.size + 3) (gdOf w14.heap.size n P A1 A2 A3 A4 d1 d2 d3 d4 (fun i => (PR i).toNat) (fun i => (PO i).toNat) F AA L Z) A7 nr d7 (fun i => (RD i).toNat) (resOf A5 A6 d5 d6 w14.heap.size P RO WA) 0 (fun _ => 0) RO WA 0 tg w' R' m r K B ro1 ro2 wa1) (Calls.mono (reset_any (tagOf A5 A6 w14.heap.size) w15 (w14.heap.size + 3) (gdOf w14.heap.size n P A1 A2 A3 A4 d1 d2 d3 d4 (fun i => (PR i).toNat) (fun i => (PO i).toNat) F AA L Z) (.slice none 0 0) A7 nr d7 false (resOf A5 A6 d5 d6 w14.heap.size P RO WA) 0 (fun _ => 0) RO WA hSt hGk hW (by omega) hPre hZs hLA 0 rfl (fun i => (RD i).toNat) (by omega) hrdn hRo rfl (fun _ j hj => absurd hj (Nat.not_lt_zero _))) (fun e w' hp => ⟨hp.1, rfl, hp.2⟩)))
              have HT15 : Hid (Below w.heap.size w w15) := HT14.out.trans (T15.mono HT14.out.size)
              have HW := hide (hW)
              have HRDN := hide (hrdn)
              have HTG : Hid (tagOf A5 A6 w14.heap.size gi = 0 ∧ (∀ x, A8 = some x → tagOf A5 A6 w14.heap.size x.block = 0) ∧ (∀ x, A9 = some x → tagOf A5 A6 w14.heap.size x.block = 0) ∧ ∀ k, k < w.heap.size → tagOf A5 A6 w14.heap.size k = 0) :=
                ⟨t7 _ (by omega) hgl, fun x hx => by have := E8.out.blk x hx; exact t7 _ (by omega) (by omega), fun x hx => by have := HC9.out.blk x hx; exact t7 _ (by omega) (by omega), fun k hk => t0 k (by omega)⟩
              have I8 := hide (E8.out.below B13)
              have I9 := hide (HC9.out.below B13)
              have IBI : Hid (Bk w15 gi 4 n (fun j => .bool (b j))) := HBI.out.sameBlock (T15.block gi hgl)
              clear K1 N1 N2 N3 N4 T15 B13 ho hri G1 G2 G3 G4 G5 G6 G7 t0 t7 hSt hGk hPre hZs hLA hRo hW hrdn z1 z2 z3 z4 z5 z6 z7 hs6 hs7 hGI hgl hsz14
              go_wp2_with fail
              refine Calls.mono K2.out ?_
              rintro e w16 ⟨rfl, tg, R', m, r, K, B, ro1, ro2, wa1, hFin⟩
              have ct := hFin.al.ct
              have r8 : RdI .i32 w16 A8 P RO := I8.out.rd.keep ct.size (fun x hx h0 => ct.block x.block ((I8.out.rd.2 x hx).1 h0) (HTG.out.2.1 x hx))
              have r9 : RdI .i32 w16 A9 P WA := I9.out.rd.keep ct.size (fun x hx h0 => ct.block x.block ((I9.out.rd.2 x hx).1 h0) (HTG.out.2.2.1 x hx))
              have bi : Bk w16 gi 4 n (fun j => .bool (b j)) := IBI.out.sameBlock (ct.block gi IBI.out.lt HTG.out.1)
              have K3 := hide (fresh_any _ _ _ _ A7 nr d7 _ _ _ _ _ _ 0 tg w16 R' m r K B ro1 ro2 wa1 hFin HW.out (by omega) HRDN.out (by rw [hFin.s8.2.2.2]; rfl) (by omega) gi b bi HMK.out A8 A9 d8 d9 RO WA r8 r9 (fun q hq _ => ((hFin.c1 q).2 (fun ⟨j, hj, _⟩ => absurd hj (Nat.not_lt_zero _))).symm) (fun q hq => ((hFin.c2 q).2 (fun ⟨j, hj, _⟩ => absurd hj (Nat.not_lt_zero _))).symm))
              have HT16 : Hid (Below w.heap.size w w16) := ⟨ct.os.trans HT15.out.os, ct.tape.trans HT15.out.tape, ct.output.trans HT15.out.output, Nat.le_trans HT15.out.size ct.size, fun k hk => (ct.block k (Nat.lt_of_lt_of_le hk HT15.out.size) (HTG.out.2.2.2 k hk)).trans (HT15.out.block k hk)⟩
              clear K2 ct r8 r9 bi hFin
              go_wp2_with fail
              refine Calls.mono K3.out ?_
              rintro e w17 ⟨rfl, T17⟩
              have HT17 : Hid (Below w.heap.size w w17) := HT16.out.trans (T17.mono HT16.out.size)
              clear T17 K3
              go_wp2_with fail
              go_ret
              exact ⟨rfl, HT17.out⟩
        · have CW := hide (wf_lens a1 a2 a3 a4 a5 a6 n n2 P n4 n5 n6 c1 c2 c3 c4 c5 c6 PR PO F L Z w2 heq)
          have HE : Hid (¬ (n2 = n ∧ n4 = n ∧ n5 = P ∧ n6 = P)) := heq
          clear heq
          go_wp2_with fail
          refine Calls.mono CW.out ?_
          rintro e w3 ⟨f, rfl, hf, T3⟩
          have HT3 : Hid (Below w.heap.size w w3) := HT2.out.trans (T3.mono HT2.out.size)
          cases f with
          | true => exact absurd ⟨(hf rfl).1, (hf rfl).2.1, (hf rfl).2.2.1, (hf rfl).2.2.2.1⟩ HE.out
          | false =>
            clear hf T3 CW
            go_wp2_with fail
            go_ret
            exact ⟨rfl, HT3.out⟩
    · 
      by_cases b0 : n ≤ 4096
      · by_cases b1 : n2 ≤ 4096
        · by_cases b2 : P ≤ 4096
          · by_cases b3 : n4 ≤ 4096
            · by_cases b4 : n5 ≤ 4096
              · by_cases b5 : n6 ≤ 4096
                · by_cases b6 : nr ≤ 4096
                  · exact absurd ⟨b0, b1, b2, b3, b4, b5, b6⟩ hlen
                  · have l0 : decide ((4096 : Int) < (n : Int)) = false := decide_eq_false (by omega)
                    have m0 : decide (4096 < n) = false := decide_eq_false (by omega)
                    have l1 : decide ((4096 : Int) < (n2 : Int)) = false := decide_eq_false (by omega)
                    have m1 : decide (4096 < n2) = false := decide_eq_false (by omega)
                    have l2 : decide ((4096 : Int) < (P : Int)) = false := decide_eq_false (by omega)
                    have m2 : decide (4096 < P) = false := decide_eq_false (by omega)
                    have l3 : decide ((4096 : Int) < (n4 : Int)) = false := decide_eq_false (by omega)
                    have m3 : decide (4096 < n4) = false := decide_eq_false (by omega)
                    have l4 : decide ((4096 : Int) < (n5 : Int)) = false := decide_eq_false (by omega)
                    have m4 : decide (4096 < n5) = false := decide_eq_false (by omega)
                    have l5 : decide ((4096 : Int) < (n6 : Int)) = false := decide_eq_false (by omega)
                    have m5 : decide (4096 < n6) = false := decide_eq_false (by omega)
                    have l6 : decide ((4096 : Int) < (nr : Int)) = true := decide_eq_true (by omega)
                    have m6 : decide (4096 < nr) = true := decide_eq_true (by omega)
                    go_wp2_with fail
                    go_ret
                    exact ⟨rfl, T1⟩
                · have l0 : decide ((4096 : Int) < (n : Int)) = false := decide_eq_false (by omega)
                  have m0 : decide (4096 < n) = false := decide_eq_false (by omega)
                  have l1 : decide ((4096 : Int) < (n2 : Int)) = false := decide_eq_false (by omega)
                  have m1 : decide (4096 < n2) = false := decide_eq_false (by omega)
                  have l2 : decide ((4096 : Int) < (P : Int)) = false := decide_eq_false (by omega)
                  have m2 : decide (4096 < P) = false := decide_eq_false (by omega)
                  have l3 : decide ((4096 : Int) < (n4 : Int)) = false := decide_eq_false (by omega)
                  have m3 : decide (4096 < n4) = false := decide_eq_false (by omega)
                  have l4 : decide ((4096 : Int) < (n5 : Int)) = false := decide_eq_false (by omega)
                  have m4 : decide (4096 < n5) = false := decide_eq_false (by omega)
                  have l5 : decide ((4096 : Int) < (n6 : Int)) = true := decide_eq_true (by omega)
                  have m5 : decide (4096 < n6) = true := decide_eq_true (by omega)
                  go_wp2_with fail
                  go_ret
                  exact ⟨rfl, T1⟩
              · have l0 : decide ((4096 : Int) < (n : Int)) = false := decide_eq_false (by omega)
                have m0 : decide (4096 < n) = false := decide_eq_false (by omega)
                have l1 : decide ((4096 : Int) < (n2 : Int)) = false := decide_eq_false (by omega)
                have m1 : decide (4096 < n2) = false := decide_eq_false (by omega)
                have l2 : decide ((4096 : Int) < (P : Int)) = false := decide_eq_false (by omega)
                have m2 : decide (4096 < P) = false := decide_eq_false (by omega)
                have l3 : decide ((4096 : Int) < (n4 : Int)) = false := decide_eq_false (by omega)
                have m3 : decide (4096 < n4) = false := decide_eq_false (by omega)
                have l4 : decide ((4096 : Int) < (n5 : Int)) = true := decide_eq_true (by omega)
                have m4 : decide (4096 < n5) = true := decide_eq_true (by omega)
                go_wp2_with fail
                go_ret
                exact ⟨rfl, T1⟩
            · have l0 : decide ((4096 : Int) < (n : Int)) = false := decide_eq_false (by omega)
              have m0 : decide (4096 < n) = false := decide_eq_false (by omega)
              have l1 : decide ((4096 : Int) < (n2 : Int)) = false := decide_eq_false (by omega)
              have m1 : decide (4096 < n2) = false := decide_eq_false (by omega)
              have l2 : decide ((4096 : Int) < (P : Int)) = false := decide_eq_false (by omega)
              have m2 : decide (4096 < P) = false := decide_eq_false (by omega)
              have l3 : decide ((4096 : Int) < (n4 : Int)) = true := decide_eq_true (by omega)
              have m3 : decide (4096 < n4) = true := decide_eq_true (by omega)
              go_wp2_with fail
              go_ret
              exact ⟨rfl, T1⟩
          · have l0 : decide ((4096 : Int) < (n : Int)) = false := decide_eq_false (by omega)
            have m0 : decide (4096 < n) = false := decide_eq_false (by omega)
            have l1 : decide ((4096 : Int) < (n2 : Int)) = false := decide_eq_false (by omega)
            have m1 : decide (4096 < n2) = false := decide_eq_false (by omega)
            have l2 : decide ((4096 : Int) < (P : Int)) = true := decide_eq_true (by omega)
            have m2 : decide (4096 < P) = true := decide_eq_true (by omega)
            go_wp2_with fail
            go_ret
            exact ⟨rfl, T1⟩
        · have l0 : decide ((4096 : Int) < (n : Int)) = false := decide_eq_false (by omega)
          have m0 : decide (4096 < n) = false := decide_eq_false (by omega)
          have l1 : decide ((4096 : Int) < (n2 : Int)) = true := decide_eq_true (by omega)
          have m1 : decide (4096 < n2) = true := decide_eq_true (by omega)
          go_wp2_with fail
          go_ret
          exact ⟨rfl, T1⟩
      · have l0 : decide ((4096 : Int) < (n : Int)) = true := decide_eq_true (by omega)
        have m0 : decide (4096 < n) = true := decide_eq_true (by omega)
        go_wp2_with fail
        go_ret
        exact ⟨rfl, T1⟩
end Go.Proofs.Qxb6605223a
