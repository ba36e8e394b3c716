/-
  Seat b6605223a. WALK: zzFreshAfter (16).
-/
import Derived.Test.Qxb6605223aU2
import Derived.Test.Qxb6605223aV0
import Derived.Test.Qxb6605223aR1
set_option linter.unusedVariables false
set_option linter.unusedSimpArgs false
namespace Go.Proofs.Qxb6605223a
open Go.RowKit

theorem made_z32 (n i : Nat) (h : i < n) : (madeCells (Value.cells (.int .i32 0)) n).getD i (.bool false) = .int .i32 0 := by
  have e : i % 1 = 0 := by omega
  simp [madeCells, Value.cells, Array.getD, h, e]

set_option maxRecDepth 100000 in
set_option maxHeartbeats 40000000 in
theorem fresh_any (tag0 : Nat → Nat) (w00 : World) (F : Nat) (d : Gd) (ar : Option Addr) (nr cr : Nat) (rd : Nat → Nat) (R0 : Nat → Res) (u0 : Nat) (us : Nat → Nat) (ro wa : Nat → Int) (xn : Nat) (tg : Nat → Nat) (w : World) (R : Nat → Res) (m r : Nat) (K B : Nat → Nat) (ro1 ro2 wa1 : Nat → Int)
    (hF : Fin tag0 w00 F d ar nr cr rd R0 u0 us ro wa xn tg w R m r K B ro1 ro2 wa1) (hW : Gwf d) (hnr : nr ≤ 4096) (hRD : ∀ t, t < nr → rd t < d.n) (h8 : (R 8).n = xn) (hxn : xn ≤ 4096)
    (gi : Nat) (b : Nat → Bool) (hb : Bk w gi 4 d.n (fun j => .bool (b j))) (hmk : Mk d.fr rd d.n nr b) (aw av : Option Addr) (cw cv : Nat) (row wat : Nat → Int) (h7 : RdI .i32 w aw d.P row) (h9 : RdI .i32 w av d.P wat)
    (hrow : ∀ q, q < d.P → (∀ k, k < r → K (B k) / 4294967296 ≠ q) → row q = ro1 q) (hwat : ∀ q, q < d.P → wat q = wa1 q) :
    Calls Try.prog 16 #[.pointer (some ⟨F, 0, none⟩), .slice d.a1 d.n d.c1, .slice d.a2 d.n d.c2, .slice d.a3 d.P d.c3, .slice ar nr cr, .slice (some ⟨gi, 0, none⟩) d.n d.n, .slice aw d.P cw, .slice av d.P cv, .int .i64 xn] w (fun e w' => e = .returned (.bool true) ∧ Below w.heap.size w w') := by
  have HC : Hid (Cnts d b m r K B) := Cnts.of hW hRD hF.ks hF.up hF.rn hmk
  have HF : Hid (Fin tag0 w00 F d ar nr cr rd R0 u0 us ro wa xn tg w R m r K B ro1 ro2 wa1) := hF
  have HW : Hid (Gwf d) := hW
  have HRD : Hid (∀ t, t < nr → rd t < d.n) := hRD
  have HBI : Hid (Bk w gi 4 d.n (fun j => .bool (b j))) := hb
  have HMK : Hid (Mk d.fr rd d.n nr b) := hmk
  have H7 : Hid (RdI .i32 w aw d.P row) := h7
  have H9 : Hid (RdI .i32 w av d.P wat) := h9
  have HROW : Hid (∀ q, q < d.P → (∀ k, k < r → K (B k) / 4294967296 ≠ q) → row q = ro1 q) := hrow
  have HWAT : Hid (∀ q, q < d.P → wat q = wa1 q) := hwat
  have hm4 := hF.m4
  have hP4 := hW.P4
  have hn4 := hW.n4
  have hrm : r ≤ m := by
    have hr := hF.rn
    have : ∀ k, k ≤ r → k ≤ B k := fun k => by
      induction k with
      | zero => intro _; exact Nat.zero_le _
      | succ k ih => intro hk; have h1 := ih (by omega); have h2 := hr.up k (by omega); omega
    have := this r (Nat.le_refl _)
    rw [hr.br] at this
    exact this
  have hS := hF.al.st
  obtain ⟨a2, c2, x2, _, _, _⟩ := (hS.2.2 2 (by omega) (by omega)).form
  obtain ⟨a8, c8, x8, _, _, _⟩ := (hS.2.2 8 (by omega) (by omega)).form
  obtain ⟨a9, c9, x9, _, _, _⟩ := (hS.2.2 9 (by omega) (by omega)).form
  obtain ⟨a10, c10, x10, _, _, _⟩ := (hS.2.2 10 (by omega) (by omega)).form
  obtain ⟨a6, c6, x6, _, _, _⟩ := (hS.2.2 6 (by omega) (by omega)).form
  obtain ⟨a7, c7, x7, _, _, _⟩ := (hS.2.2 7 (by omega) (by omega)).form
  obtain ⟨a4, c4, x4, _, _, _⟩ := (hS.2.2 4 (by omega) (by omega)).form
  obtain ⟨wd, HWD⟩ : ∃ wd : Nat, Hid (wd = (m + 63) / 64) := ⟨_, rfl⟩
  rw [hF.n2] at x2
  rw [h8] at x8
  rw [hF.rv.n9] at x9
  rw [hF.n10] at x10
  rw [hF.n6, ← HWD.out] at x6
  rw [hF.n7] at x7
  rw [hF.rv.n4] at x4
  have HX : Hid ((R 2).v = .slice a2 m c2 ∧ (R 8).v = .slice a8 xn c8 ∧ (R 9).v = .slice a9 d.P c9 ∧ (R 10).v = .slice a10 d.P c10 ∧ (R 6).v = .slice a6 wd c6 ∧ (R 7).v = .slice a7 nr c7 ∧ (R 4).v = .slice a4 r c4) := ⟨x2, x8, x9, x10, x6, x7, x4⟩
  have H8N : Hid ((R 8).n = xn) := h8
  have HCA : Hid _ := returned_any tg w F _ _ false R m (fun j c => rwV (K j) c) K hS hF.al.zs hF.n3 hm4 hF.v3 (fun _ _ => rfl)
  have HCB : Hid (∀ w' : World, Below w.heap.size w w' → Calls Try.prog 23 #[.pointer (some ⟨F, 0, none⟩)] w' (FlatPost 68 5 r (fun j c => rnV (B j) (B (j + 1) - B j) c) w')) := fun w' hb' =>
    runs_any tg w' F _ _ false R r _ B (hS.below hb') hF.al.zs hF.rv.n5 (by omega) hF.rv.v5 (fun _ _ => rfl)
  have HCC : Hid (∀ w' : World, Below w.heap.size w w' → Calls Try.prog 21 #[.pointer (some ⟨F, 0, none⟩)] w' (StPost ar a2 a8 a9 a10 a6 a7 a4 nr cr m c2 xn c8 d.P c9 d.P c10 wd c6 nr c7 r c4 d.P w')) := fun w' hb' =>
    state_any tg w' F _ ar a2 a8 a9 a10 a6 a7 a4 nr cr m c2 xn c8 d.P c9 d.P c10 wd c6 nr c7 r c4 d.P R (hS.below hb') hF.al.zs hF.n11 hP4 hF.v11 x2 x8 x9 x10 x6 x7 x4
  clear hS hF hW hRD hb hmk h7 h9 hrow hwat x2 x8 x9 x10 x6 x7 x4 h8
  obtain ⟨b1, HA1⟩ : ∃ x, Hid (x = d.a1) := ⟨_, rfl⟩
  obtain ⟨b2, HA2⟩ : ∃ x, Hid (x = d.a2) := ⟨_, rfl⟩
  obtain ⟨b3, HA3⟩ : ∃ x, Hid (x = d.a3) := ⟨_, rfl⟩
  rw [← HA1.out, ← HA2.out, ← HA3.out]
  go_enter Try.func16, Try.ntmps16
  go_wp2_with fail
  refine Calls.mono HCA.out ?_
  rintro e w2 ⟨gR, VR, rfl, gr1, BR, vR, T2⟩
  have HBR : Hid (Bk w2 gR 43 (m * 10) VR) := BR
  have HVR : Hid _ := vR
  have HT2 : Hid _ := T2
  clear BR vR T2 HCA
  go_wp2_with fail
  refine Calls.mono (HCB.out w2 HT2.out) ?_
  rintro e w3 ⟨gU, VU, rfl, gu1, BU, vU, T3⟩
  have HBR3 : Hid (Bk w3 gR 43 (m * 10) VR) := HBR.out.sameBlock (T3.block gR HBR.out.lt)
  have HBU : Hid (Bk w3 gU 68 (r * 5) VU) := BU
  have HVU : Hid _ := vU
  have HT3 : Hid (Below w.heap.size w w3) := HT2.out.trans (T3.mono HT2.out.size)
  clear BU vU T3 HBR HCB
  go_wp2_with fail
  refine Calls.mono (HCC.out w3 HT3.out) ?_
  rintro e w4 ⟨gL, VL, rfl, gl1, BL, vL, T4⟩
  have HBR4 : Hid (Bk w4 gR 43 (m * 10) VR) := HBR3.out.sameBlock (T4.block gR HBR3.out.lt)
  have HBU4 : Hid (Bk w4 gU 68 (r * 5) VU) := HBU.out.sameBlock (T4.block gU HBU.out.lt)
  have HT4 : Hid (Below w.heap.size w w4) := HT3.out.trans (T4.mono HT3.out.size)
  have HBL : Hid (Bk w4 gL 3 d.P VL) := BL
  have HVL : Hid _ := vL
  clear BL vL T4 HBR3 HBU HT3 HT2 HCC
  simp only [stV]
  go_wp2_with fail
  obtain ⟨w5, hw5⟩ : ∃ x, x = w4.alloc (.cells #[.slice ar nr cr, .slice none 0 0, .slice a2 m c2, .slice a8 xn c8, .bool false, .slice a9 d.P c9, .slice a10 d.P c10, .slice (some ⟨gL, 0, none⟩) d.P d.P, .int .i64 0, .slice a6 wd c6, .slice a7 nr c7, .slice none 0 0, .int .i64 0, .int .i64 0, .int .i64 0, .slice a4 r c4] 46) := ⟨_, rfl⟩
  rw [← hw5]
  obtain ⟨gS, HGS⟩ : ∃ x, Hid (x = w4.heap.size) := ⟨_, rfl⟩
  rw [← HGS.out]
  have HTA : Hid (Below w4.heap.size w4 w5) := by rw [hw5]; exact (Below.refl _ _).alloc (Nat.le_refl _) _
  have HBS : Hid (Bk w5 gS 46 16 (fun i => (#[.slice ar nr cr, .slice none 0 0, .slice a2 m c2, .slice a8 xn c8, .bool false, .slice a9 d.P c9, .slice a10 d.P c10, .slice (some ⟨gL, 0, none⟩) d.P d.P, .int .i64 0, .slice a6 wd c6, .slice a7 nr c7, .slice none 0 0, .int .i64 0, .int .i64 0, .int .i64 0, .slice a4 r c4] : Array Value).getD i (.bool false))) := by rw [hw5, HGS.out]; exact Bk.new w4 #[.slice ar nr cr, .slice none 0 0, .slice a2 m c2, .slice a8 xn c8, .bool false, .slice a9 d.P c9, .slice a10 d.P c10, .slice (some ⟨gL, 0, none⟩) d.P d.P, .int .i64 0, .slice a6 wd c6, .slice a7 nr c7, .slice none 0 0, .int .i64 0, .int .i64 0, .int .i64 0, .slice a4 r c4] 46
  have HT5 : Hid (Below w.heap.size w w5) := HT4.out.trans (HTA.out.mono HT4.out.size)
  have HBR5 : Hid (Bk w5 gR 43 (m * 10) VR) := HBR4.out.sameBlock (HTA.out.block gR HBR4.out.lt)
  have HBU5 : Hid (Bk w5 gU 68 (r * 5) VU) := HBU4.out.sameBlock (HTA.out.block gU HBU4.out.lt)
  have HBL5 : Hid (Bk w5 gL 3 d.P VL) := HBL.out.sameBlock (HTA.out.block gL HBL.out.lt)
  have HBI5 : Hid (Bk w5 gi 4 d.n (fun j => .bool (b j))) := HBI.out.sameBlock (HT5.out.block gi HBI.out.lt)
  clear hw5 HTA HBR4 HBU4 HBL HT4 HBI
  have HST : Hid (∀ x : World, Below w5.heap.size w5 x → x.cell? ⟨gS, 0, none⟩ = some (.slice ar nr cr) ∧ x.cell? ⟨gS, 1, none⟩ = some (.slice none 0 0) ∧ x.cell? ⟨gS, 2, none⟩ = some (.slice a2 m c2) ∧ x.cell? ⟨gS, 3, none⟩ = some (.slice a8 xn c8) ∧ x.cell? ⟨gS, 4, none⟩ = some (.bool false) ∧ x.cell? ⟨gS, 5, none⟩ = some (.slice a9 d.P c9) ∧ x.cell? ⟨gS, 6, none⟩ = some (.slice a10 d.P c10) ∧ x.cell? ⟨gS, 7, none⟩ = some (.slice (some ⟨gL, 0, none⟩) d.P d.P) ∧ x.cell? ⟨gS, 8, none⟩ = some (.int .i64 0) ∧ x.cell? ⟨gS, 9, none⟩ = some (.slice a6 wd c6) ∧ x.cell? ⟨gS, 10, none⟩ = some (.slice a7 nr c7) ∧ x.cell? ⟨gS, 11, none⟩ = some (.slice none 0 0) ∧ x.cell? ⟨gS, 12, none⟩ = some (.int .i64 0) ∧ x.cell? ⟨gS, 13, none⟩ = some (.int .i64 0) ∧ x.cell? ⟨gS, 14, none⟩ = some (.int .i64 0) ∧ x.cell? ⟨gS, 15, none⟩ = some (.slice a4 r c4)) := fun x hx => by
    have hb := HBS.out.sameBlock (hx.block gS HBS.out.lt)
    exact ⟨hb.cell 0 (by omega), hb.cell 1 (by omega), hb.cell 2 (by omega), hb.cell 3 (by omega), hb.cell 4 (by omega), hb.cell 5 (by omega), hb.cell 6 (by omega), hb.cell 7 (by omega), hb.cell 8 (by omega), hb.cell 9 (by omega), hb.cell 10 (by omega), hb.cell 11 (by omega), hb.cell 12 (by omega), hb.cell 13 (by omega), hb.cell 14 (by omega), hb.cell 15 (by omega)⟩
  have HRT : Hid (∀ x : World, Below w5.heap.size w5 x → ∀ j, j < m → ∀ c, c < 10 → x.cell? ⟨gR, j * 10 + c, none⟩ = some (rwV (K j) c)) := fun x hx j hj c hc => by
    rw [(HBR5.out.sameBlock (hx.block gR HBR5.out.lt)).cell (j * 10 + c) (by omega), HVR.out j hj c hc]
  have HUT : Hid (∀ x : World, Below w5.heap.size w5 x → ∀ j, j < r → ∀ c, c < 5 → x.cell? ⟨gU, j * 5 + c, none⟩ = some (rnV (B j) (B (j + 1) - B j) c)) := fun x hx j hj c hc => by
    rw [(HBU5.out.sameBlock (hx.block gU HBU5.out.lt)).cell (j * 5 + c) (by omega), HVU.out j hj c hc]
  have HLT : Hid (∀ x : World, Below w5.heap.size w5 x → ∀ q, q < d.P → x.cell? ⟨gL, q, none⟩ = some (.int .i64 0)) := fun x hx q hq => by
    rw [(HBL5.out.sameBlock (hx.block gL HBL5.out.lt)).cell q hq, HVL.out q hq]
  have HIT : Hid (∀ x : World, Below w5.heap.size w5 x → ∀ q, q < d.n → x.cell? ⟨gi, q, none⟩ = some (.bool (b q))) := fun x hx q hq => 
    (HBI5.out.sameBlock (hx.block gi HBI5.out.lt)).cell q hq
  have HBW : Hid (∀ x : World, Below w5.heap.size w5 x → Below w.heap.size w x) := fun x hx => HT5.out.trans (hx.mono HT5.out.size)
  have HAL : Hid (∀ x : World, Below w5.heap.size w5 x → Al tag0 w00 F d ar nr cr rd tg x R) := fun x hx => HF.out.al.below (HBW.out x hx)
  have HFC : Hid (∀ x : World, Below w5.heap.size w5 x → ∀ t n cap sz, (R t).n = n → (R t).sz = sz → 2 ≤ t → t ≤ 11 → ∀ a, (R t).v = .slice a n cap → 0 < n → ∃ g, a = some ⟨g, 0, none⟩ ∧ ∀ i, i < n * sz → x.cell? ⟨g, i, none⟩ = some ((R t).V i)) := fun x hx t n cap sz hn hs h2 h11 a hv h0 => by
    subst hn
    subst hs
    obtain ⟨g, c', e1, _, _, _, e2, _⟩ := ((HAL.out x hx).st.2.2 t h2 h11).at h0
    rw [hv] at e1
    simp only [Value.slice.injEq] at e1
    exact ⟨g, e1.1, e2⟩
  have HCS : Hid (∀ p : Nat → Bool, True) := fun _ => trivial
  clear HBR5 HBU5 HBL5 HBI5 HVR HVU HVL HBS HCS gr1 gu1 gl1
  go_loopw [24, 25] (fun v v' wr => ∃ (i : Nat), v = .int .i64 (ct b i : Nat) ∧ v' = .int .i64 i ∧ i ≤ d.n ∧ Hid (Below w5.heap.size w5 wr)) (fun _ v' _ => d.n - (intOf v').toNat)
  case atStart => exact ⟨0, rfl, rfl, Nat.zero_le _, Below.refl _ _⟩
  case round =>
    obtain ⟨i, rfl, rfl, hi, HT⟩ := hrel
    by_cases hlt : i < d.n
    · as_aux_lemma =>
        have e0 : decide ((i : Int) < (d.n : Int)) = true := decide_eq_true (by omega)
        have e0' : decide (i < d.n) = true := decide_eq_true hlt
        have ki := HIT.out wr HT.out i hlt
        have hcl := ct_le b i
        cases hbi : b i with
        | true =>
          rw [hbi] at ki
          have HCT : Hid (ct b (i + 1) = ct b i + 1) := by show _ = _; rw [ct_succ, hbi]; simp
          clear hbi
          obtain ⟨q, hq⟩ : ∃ q, q = ct b i := ⟨_, rfl⟩
          rw [← hq] at hcl HCT
          rw [← hq]
          clear hq
          go_wp2_with fail
          go_roundw
          case rel => exact ⟨i + 1, by rw [HCT.out]; go_num, by go_num, by omega, HT⟩
          case measure => simp [intOf]; omega
        | false =>
          rw [hbi] at ki
          have HCT : Hid (ct b (i + 1) = ct b i) := by show _ = _; rw [ct_succ, hbi]; simp
          clear hbi
          obtain ⟨q, hq⟩ : ∃ q, q = ct b i := ⟨_, rfl⟩
          rw [← hq] at hcl HCT
          rw [← hq]
          clear hq
          go_wp2_with fail
          go_roundw
          case rel => exact ⟨i + 1, by rw [HCT.out], by go_num, by omega, HT⟩
          case measure => simp [intOf]; omega
    · as_aux_lemma =>
        have e0 : decide ((i : Int) < (d.n : Int)) = false := decide_eq_false (by omega)
        have e0' : decide (i < d.n) = false := decide_eq_false hlt
        obtain rfl : i = d.n := by omega
        rw [HC.out.all]
        obtain ⟨s0, s1, s2, s3, s4, s5, s6, s7, s8, s9, s10, s11, s12, s13, s14, s15⟩ := HST.out wr HT.out
        go_wp2_with fail
        go_loopw [26] (fun v wr => ∃ (j : Nat), v = .int .i64 j ∧ j ≤ m ∧ Hid (Below w5.heap.size w5 wr)) (fun v _ => m - (intOf v).toNat)
        case atStart => exact ⟨0, rfl, Nat.zero_le _, HT⟩
        case round =>
          clear HT s0 s1 s2 s3 s4 s5 s6 s7 s8 s9 s10 s11 s12 s13 s14 s15
          obtain ⟨j, rfl, hj, HT⟩ := hrel
          by_cases hlt2 : j < m
          · as_aux_lemma =>
              have f0 : decide ((j : Int) < (m : Int)) = true := decide_eq_true (by omega)
              have f0' : decide (j < m) = true := decide_eq_true hlt2
              obtain ⟨x, hxn, hbx, hkx⟩ := HF.out.ks.mark HW.out HRD.out HMK.out j hlt2
              obtain ⟨kh, kl⟩ := key_hi HW.out hxn
              obtain ⟨hh, HHH⟩ : ∃ hh : Nat, Hid (hh = K j / 4294967296) := ⟨_, rfl⟩
              obtain ⟨ll, HLL⟩ : ∃ ll : Nat, Hid (ll = K j % 4294967296) := ⟨_, rfl⟩
              have ep : d.pr x = hh := by rw [HHH.out, hkx, kh]
              have eo : d.po x = ll := by rw [HLL.out, hkx, kl]
              have hhP : hh < d.P := by rw [← ep]; exact HW.out.prP x hxn
              have hl1 : 1 ≤ ll := by rw [← eo]; exact HW.out.po1 x hxn
              have hlL : ll ≤ d.L hh := by rw [← eo, ← ep]; exact HW.out.poL x hxn
              have hLb := HW.out.Lb hh hhP
              have hZx : d.Z hh (ll - 1) = x := by rw [← eo, ← ep]; exact HW.out.inv x hxn
              have e1 : ((K j : Nat) : Int) / 4294967296 = (hh : Int) := by rw [HHH.out]; omega
              have e2 : ((K j : Nat) : Int) % 4294967296 = (ll : Int) := by rw [HLL.out]; omega
              have kc : ∀ c, c < 10 → wr.cell? ⟨gR, j * 10 + c, none⟩ = some (rwL hh ll c) := fun c hc => by
                rw [HRT.out wr HT.out j hlt2 c hc, HHH.out, HLL.out]; rfl
              have k0 : wr.cell? ⟨gR, j * 10, none⟩ = some (.int .i32 (hh : Int)) := kc 0 (by omega)
              have k1 : wr.cell? ⟨gR, j * 10 + 1, none⟩ = some (.int .i32 (ll : Int)) := kc 1 (by omega)
              have k2 : wr.cell? ⟨gR, j * 10 + 2, none⟩ = some (.bool false) := kc 2 (by omega)
              have k3 : wr.cell? ⟨gR, j * 10 + 3, none⟩ = some (.bool false) := kc 3 (by omega)
              have k4 : wr.cell? ⟨gR, j * 10 + 4, none⟩ = some (.int .i32 0) := kc 4 (by omega)
              have k5 : wr.cell? ⟨gR, j * 10 + 5, none⟩ = some (.int .i32 0) := kc 5 (by omega)
              have k6 : wr.cell? ⟨gR, j * 10 + 6, none⟩ = some (.int .i32 0) := kc 6 (by omega)
              have k7 : wr.cell? ⟨gR, j * 10 + 7, none⟩ = some (.int .i32 0) := kc 7 (by omega)
              have k8 : wr.cell? ⟨gR, j * 10 + 8, none⟩ = some (.int .i32 0) := kc 8 (by omega)
              have k9 : wr.cell? ⟨gR, j * 10 + 9, none⟩ = some (.int .i32 (-1)) := kc 9 (by omega)
              have HBE : Hid (Below w5.heap.size w5 (wr.alloc (.cells #[.int .i32 (hh : Int), .int .i32 (ll : Int), .bool false, .bool false, .int .i32 0, .int .i32 0, .int .i32 0, .int .i32 0, .int .i32 0, .int .i32 (-1)] 43))) := HT.out.alloc HT.out.size _
              have c0 : (wr.alloc (.cells #[.int .i32 (hh : Int), .int .i32 (ll : Int), .bool false, .bool false, .int .i32 0, .int .i32 0, .int .i32 0, .int .i32 0, .int .i32 0, .int .i32 (-1)] 43)).cell? ⟨wr.heap.size, 0, none⟩ = some (.int .i32 (hh : Int)) := (Bk.new wr #[.int .i32 (hh : Int), .int .i32 (ll : Int), .bool false, .bool false, .int .i32 0, .int .i32 0, .int .i32 0, .int .i32 0, .int .i32 0, .int .i32 (-1)] 43).cell 0 (by simp)
              have c1 : (wr.alloc (.cells #[.int .i32 (hh : Int), .int .i32 (ll : Int), .bool false, .bool false, .int .i32 0, .int .i32 0, .int .i32 0, .int .i32 0, .int .i32 0, .int .i32 (-1)] 43)).cell? ⟨wr.heap.size, 1, none⟩ = some (.int .i32 (ll : Int)) := (Bk.new wr #[.int .i32 (hh : Int), .int .i32 (ll : Int), .bool false, .bool false, .int .i32 0, .int .i32 0, .int .i32 0, .int .i32 0, .int .i32 0, .int .i32 (-1)] 43).cell 1 (by simp)
              have c2' : (wr.alloc (.cells #[.int .i32 (hh : Int), .int .i32 (ll : Int), .bool false, .bool false, .int .i32 0, .int .i32 0, .int .i32 0, .int .i32 0, .int .i32 0, .int .i32 (-1)] 43)).cell? ⟨wr.heap.size, 2, none⟩ = some (.bool false) := (Bk.new wr #[.int .i32 (hh : Int), .int .i32 (ll : Int), .bool false, .bool false, .int .i32 0, .int .i32 0, .int .i32 0, .int .i32 0, .int .i32 0, .int .i32 (-1)] 43).cell 2 (by simp)
              have c3 : (wr.alloc (.cells #[.int .i32 (hh : Int), .int .i32 (ll : Int), .bool false, .bool false, .int .i32 0, .int .i32 0, .int .i32 0, .int .i32 0, .int .i32 0, .int .i32 (-1)] 43)).cell? ⟨wr.heap.size, 3, none⟩ = some (.bool false) := (Bk.new wr #[.int .i32 (hh : Int), .int .i32 (ll : Int), .bool false, .bool false, .int .i32 0, .int .i32 0, .int .i32 0, .int .i32 0, .int .i32 0, .int .i32 (-1)] 43).cell 3 (by simp)
              have c4' : (wr.alloc (.cells #[.int .i32 (hh : Int), .int .i32 (ll : Int), .bool false, .bool false, .int .i32 0, .int .i32 0, .int .i32 0, .int .i32 0, .int .i32 0, .int .i32 (-1)] 43)).cell? ⟨wr.heap.size, 4, none⟩ = some (.int .i32 0) := (Bk.new wr #[.int .i32 (hh : Int), .int .i32 (ll : Int), .bool false, .bool false, .int .i32 0, .int .i32 0, .int .i32 0, .int .i32 0, .int .i32 0, .int .i32 (-1)] 43).cell 4 (by simp)
              have c5 : (wr.alloc (.cells #[.int .i32 (hh : Int), .int .i32 (ll : Int), .bool false, .bool false, .int .i32 0, .int .i32 0, .int .i32 0, .int .i32 0, .int .i32 0, .int .i32 (-1)] 43)).cell? ⟨wr.heap.size, 5, none⟩ = some (.int .i32 0) := (Bk.new wr #[.int .i32 (hh : Int), .int .i32 (ll : Int), .bool false, .bool false, .int .i32 0, .int .i32 0, .int .i32 0, .int .i32 0, .int .i32 0, .int .i32 (-1)] 43).cell 5 (by simp)
              have c6' : (wr.alloc (.cells #[.int .i32 (hh : Int), .int .i32 (ll : Int), .bool false, .bool false, .int .i32 0, .int .i32 0, .int .i32 0, .int .i32 0, .int .i32 0, .int .i32 (-1)] 43)).cell? ⟨wr.heap.size, 6, none⟩ = some (.int .i32 0) := (Bk.new wr #[.int .i32 (hh : Int), .int .i32 (ll : Int), .bool false, .bool false, .int .i32 0, .int .i32 0, .int .i32 0, .int .i32 0, .int .i32 0, .int .i32 (-1)] 43).cell 6 (by simp)
              have c7' : (wr.alloc (.cells #[.int .i32 (hh : Int), .int .i32 (ll : Int), .bool false, .bool false, .int .i32 0, .int .i32 0, .int .i32 0, .int .i32 0, .int .i32 0, .int .i32 (-1)] 43)).cell? ⟨wr.heap.size, 7, none⟩ = some (.int .i32 0) := (Bk.new wr #[.int .i32 (hh : Int), .int .i32 (ll : Int), .bool false, .bool false, .int .i32 0, .int .i32 0, .int .i32 0, .int .i32 0, .int .i32 0, .int .i32 (-1)] 43).cell 7 (by simp)
              have c8' : (wr.alloc (.cells #[.int .i32 (hh : Int), .int .i32 (ll : Int), .bool false, .bool false, .int .i32 0, .int .i32 0, .int .i32 0, .int .i32 0, .int .i32 0, .int .i32 (-1)] 43)).cell? ⟨wr.heap.size, 8, none⟩ = some (.int .i32 0) := (Bk.new wr #[.int .i32 (hh : Int), .int .i32 (ll : Int), .bool false, .bool false, .int .i32 0, .int .i32 0, .int .i32 0, .int .i32 0, .int .i32 0, .int .i32 (-1)] 43).cell 8 (by simp)
              have c9' : (wr.alloc (.cells #[.int .i32 (hh : Int), .int .i32 (ll : Int), .bool false, .bool false, .int .i32 0, .int .i32 0, .int .i32 0, .int .i32 0, .int .i32 0, .int .i32 (-1)] 43)).cell? ⟨wr.heap.size, 9, none⟩ = some (.int .i32 (-1)) := (Bk.new wr #[.int .i32 (hh : Int), .int .i32 (ll : Int), .bool false, .bool false, .int .i32 0, .int .i32 0, .int .i32 0, .int .i32 0, .int .i32 0, .int .i32 (-1)] 43).cell 9 (by simp)
              have HXN : Hid (x < d.n ∧ b x = true ∧ d.pr x = hh ∧ d.po x = ll ∧ d.Z hh (ll - 1) = x) := ⟨hxn, hbx, ep, eo, hZx⟩
              clear kc hkx kh kl ep eo hbx hZx
              by_cases hz : j = 0
              · as_aux_lemma =>
                  have g0 : decide ((0 : Int) < (j : Int)) = false := decide_eq_false (by omega)
                  have g1 : decide ((j : Int) > 0) = false := decide_eq_false (by omega)
                  have g2 : decide (0 < j) = false := decide_eq_false (by omega)
                  clear hz
                  go_wp2_with fail
                  obtain ⟨wE, hwE⟩ : ∃ x, x = wr.alloc (.cells #[.int .i32 (hh : Int), .int .i32 (ll : Int), .bool false, .bool false, .int .i32 0, .int .i32 0, .int .i32 0, .int .i32 0, .int .i32 0, .int .i32 (-1)] 43) := ⟨_, rfl⟩
                  rw [← hwE]
                  rw [← hwE] at c0 c1 HBE
                  obtain ⟨hE, HHE⟩ : ∃ x, Hid (x = wr.heap.size) := ⟨_, rfl⟩
                  rw [← HHE.out]
                  rw [← HHE.out] at c0 c1
                  clear hwE c2' c3 c4' c5 c6' c7' c8' c9' k0 k1 k2 k3 k4 k5 k6 k7 k8 k9
                  have q1 : ¬ (hh : Int) < 0 := by omega
                  have q2 : ¬ (d.P : Int) ≤ (hh : Int) := by omega
                  have q2' : ¬ d.P ≤ hh := by omega
                  have q3 : ¬ (ll : Int) < 1 := by omega
                  have q3' : ¬ ll < 1 := by omega
                  have q4 : ¬ (d.L hh : Int) < (ll : Int) := by omega
                  have q4' : ¬ d.L hh < ll := by omega
                  have q5 : decide ((x : Int) < 0) = false := decide_eq_false (by omega)
                  have q6 : decide ((d.n : Int) ≤ (x : Int)) = false := decide_eq_false (by omega)
                  have q6' : decide (d.n ≤ x) = false := decide_eq_false (by omega)
                  obtain ⟨xb, hxb, _, _, kb⟩ := (HAL.out wE HBE.out).gk.bp (by omega)
                  have hb3 : b3 = some xb := HA3.out.trans hxb
                  have kb1 := kb hh hhP
                  obtain ⟨xA, hxA, kA⟩ := ((HAL.out wE HBE.out).gk.rows hh hhP).cell (ll - 1) (by omega)
                  rw [HXN.out.2.2.2.2] at kA
                  obtain ⟨lm, hlm⟩ : ∃ lm : Nat, lm = ll - 1 := ⟨_, rfl⟩
                  rw [← hlm] at kA
                  have el : (ll : Int) - 1 = (lm : Int) := by omega
                  have el2 : lm < d.L hh := by omega
                  have el3 : (lm : Int) < (d.L hh : Int) := by omega
                  rw [hxA] at kb1
                  have HXB : Hid (d.a3 = some xb) := hxb
                  clear kb hlm hxb hxA
                  subst hb3
                  go_big_quiet (fail)
                  obtain ⟨wF, hwF⟩ : ∃ x, x = wE.drewN nq := ⟨_, rfl⟩
                  rw [← hwF]
                  have HBF : Hid (Below w5.heap.size w5 wF) := by rw [hwF]; exact ⟨HBE.out.os, HBE.out.tape, HBE.out.output, HBE.out.size, HBE.out.block⟩
                  have c0f : wF.cell? ⟨hE, 0, none⟩ = some (.int .i32 (hh : Int)) := by rw [hwF]; exact c0
                  have c1f : wF.cell? ⟨hE, 1, none⟩ = some (.int .i32 (ll : Int)) := by rw [hwF]; exact c1
                  have kb2 : wF.cell? (xb.add hh) = some (.slice (some xA) (d.L hh) (d.C hh)) := by rw [hwF]; exact kb1
                  have kA2 : wF.cell? (xA.add lm) = some (.int .i64 (x : Int)) := by rw [hwF]; exact kA
                  clear hwF c0 c1 kb1 kA HBE q1 q2 q2' q3 q3' q4 q4'
                  go_wp2_with fail
                  go_big_quiet (fail)
                  obtain ⟨wG, hwG⟩ : ∃ x, x = wF.drewN nq := ⟨_, rfl⟩
                  rw [← hwG]
                  have HBG : Hid (Below w5.heap.size w5 wG) := by rw [hwG]; exact ⟨HBF.out.os, HBF.out.tape, HBF.out.output, HBF.out.size, HBF.out.block⟩
                  have c0g : wG.cell? ⟨hE, 0, none⟩ = some (.int .i32 (hh : Int)) := by rw [hwG]; exact c0f
                  have c1g : wG.cell? ⟨hE, 1, none⟩ = some (.int .i32 (ll : Int)) := by rw [hwG]; exact c1f
                  clear hwG c0f c1f kb2 kA2 HBF el el2 el3
                  have ki := HIT.out wG HBG.out x hxn
                  rw [HXN.out.2.1] at ki
                  obtain ⟨xp, hxp, kp⟩ := (HAL.out wG HBG.out).gk.pr.cell x hxn
                  obtain ⟨xo, hxo, ko⟩ := (HAL.out wG HBG.out).gk.po.cell x hxn
                  have hb1 : b1 = some xp := HA1.out.trans hxp
                  have hb2 : b2 = some xo := HA2.out.trans hxo
                  rw [HXN.out.2.2.1] at kp
                  rw [HXN.out.2.2.2.1] at ko
                  clear hxp hxo
                  subst hb1 hb2
                  go_wp2_with fail
                  go_big_quiet (fail)
                  obtain ⟨wH, hwH⟩ : ∃ x, x = wG.drewN nq := ⟨_, rfl⟩
                  rw [← hwH]
                  have HBH : Hid (Below w5.heap.size w5 wH) := by rw [hwH]; exact ⟨HBG.out.os, HBG.out.tape, HBG.out.output, HBG.out.size, HBG.out.block⟩
                  have c0h : wH.cell? ⟨hE, 0, none⟩ = some (.int .i32 (hh : Int)) := by rw [hwH]; exact c0g
                  have c1h : wH.cell? ⟨hE, 1, none⟩ = some (.int .i32 (ll : Int)) := by rw [hwH]; exact c1g
                  clear hwH c0g c1g ki kp ko HBG q5 q6 q6'
                  obtain ⟨r0, r1, r2, r3, r4, r5, r6, r7, r8, r9, r10, r11, r12, r13, r14, r15⟩ := HST.out wH HBH.out
                  clear r0 r1 r3 r4 r5 r6 r7 r8 r9 r10 r11 r12 r13 r14 r15
                  obtain ⟨gk, hgk, kk⟩ := HFC.out wH HBH.out 2 m c2 1 HF.out.n2 (HF.out.al.zs 2).2 (by omega) (by omega) a2 HX.out.1 (by omega)
                  have kk1 := kk j (by omega)
                  rw [HF.out.v2 j hlt2] at kk1
                  rw [hgk] at r2
                  have HBK : Hid (∀ q, Below w5.heap.size w5 (wH.drewN q)) := fun q => ⟨HBH.out.os, HBH.out.tape, HBH.out.output, HBH.out.size, HBH.out.block⟩
                  clear kk hgk
                  go_wp2_with fail
                  go_big_quiet (fail)
                  go_wp2_with fail
                  go_roundw
                  case rel => exact ⟨j + 1, by go_num, by omega, HBK.out _⟩
                  case measure => simp [intOf]; omega
              · as_aux_lemma =>
                  obtain ⟨s, hs⟩ : ∃ s : Nat, j = s + 1 := ⟨j - 1, by omega⟩
                  have g0 : decide ((0 : Int) < (j : Int)) = true := decide_eq_true (by omega)
                  have g1 : decide ((j : Int) > 0) = true := decide_eq_true (by omega)
                  have g2 : decide (0 < j) = true := decide_eq_true (by omega)
                  have es : (j : Int) - 1 = (s : Int) := by omega
                  have es2 : s < m := by omega
                  have es3 : (s : Int) < (m : Int) := by omega
                  have hup := HF.out.up s j (by omega) hlt2
                  obtain ⟨hq, HHQ⟩ : ∃ hq : Nat, Hid (hq = K s / 4294967296) := ⟨_, rfl⟩
                  obtain ⟨lq, HLQ⟩ : ∃ lq : Nat, Hid (lq = K s % 4294967296) := ⟨_, rfl⟩
                  have hle : hq ≤ hh := by rw [HHQ.out, HHH.out]; exact Nat.div_le_div_right (Nat.le_of_lt hup)
                  have hlo : hq = hh → lq < ll := fun e => by rw [HHQ.out, HHH.out] at e; rw [HLQ.out, HLL.out]; omega
                  have kc : ∀ c, c < 10 → (wr.alloc (.cells #[.int .i32 (hh : Int), .int .i32 (ll : Int), .bool false, .bool false, .int .i32 0, .int .i32 0, .int .i32 0, .int .i32 0, .int .i32 0, .int .i32 (-1)] 43)).cell? ⟨gR, s * 10 + c, none⟩ = some (rwL hq lq c) := fun c hc => by
                    rw [HRT.out _ HBE.out s es2 c hc, HHQ.out, HLQ.out]; rfl
                  have y0 : (wr.alloc (.cells #[.int .i32 (hh : Int), .int .i32 (ll : Int), .bool false, .bool false, .int .i32 0, .int .i32 0, .int .i32 0, .int .i32 0, .int .i32 0, .int .i32 (-1)] 43)).cell? ⟨gR, s * 10, none⟩ = some (.int .i32 (hq : Int)) := kc 0 (by omega)
                  have y1 : (wr.alloc (.cells #[.int .i32 (hh : Int), .int .i32 (ll : Int), .bool false, .bool false, .int .i32 0, .int .i32 0, .int .i32 0, .int .i32 0, .int .i32 0, .int .i32 (-1)] 43)).cell? ⟨gR, s * 10 + 1, none⟩ = some (.int .i32 (lq : Int)) := kc 1 (by omega)
                  have y2 : (wr.alloc (.cells #[.int .i32 (hh : Int), .int .i32 (ll : Int), .bool false, .bool false, .int .i32 0, .int .i32 0, .int .i32 0, .int .i32 0, .int .i32 0, .int .i32 (-1)] 43)).cell? ⟨gR, s * 10 + 2, none⟩ = some (.bool false) := kc 2 (by omega)
                  have y3 : (wr.alloc (.cells #[.int .i32 (hh : Int), .int .i32 (ll : Int), .bool false, .bool false, .int .i32 0, .int .i32 0, .int .i32 0, .int .i32 0, .int .i32 0, .int .i32 (-1)] 43)).cell? ⟨gR, s * 10 + 3, none⟩ = some (.bool false) := kc 3 (by omega)
                  have y4 : (wr.alloc (.cells #[.int .i32 (hh : Int), .int .i32 (ll : Int), .bool false, .bool false, .int .i32 0, .int .i32 0, .int .i32 0, .int .i32 0, .int .i32 0, .int .i32 (-1)] 43)).cell? ⟨gR, s * 10 + 4, none⟩ = some (.int .i32 0) := kc 4 (by omega)
                  have y5 : (wr.alloc (.cells #[.int .i32 (hh : Int), .int .i32 (ll : Int), .bool false, .bool false, .int .i32 0, .int .i32 0, .int .i32 0, .int .i32 0, .int .i32 0, .int .i32 (-1)] 43)).cell? ⟨gR, s * 10 + 5, none⟩ = some (.int .i32 0) := kc 5 (by omega)
                  have y6 : (wr.alloc (.cells #[.int .i32 (hh : Int), .int .i32 (ll : Int), .bool false, .bool false, .int .i32 0, .int .i32 0, .int .i32 0, .int .i32 0, .int .i32 0, .int .i32 (-1)] 43)).cell? ⟨gR, s * 10 + 6, none⟩ = some (.int .i32 0) := kc 6 (by omega)
                  have y7 : (wr.alloc (.cells #[.int .i32 (hh : Int), .int .i32 (ll : Int), .bool false, .bool false, .int .i32 0, .int .i32 0, .int .i32 0, .int .i32 0, .int .i32 0, .int .i32 (-1)] 43)).cell? ⟨gR, s * 10 + 7, none⟩ = some (.int .i32 0) := kc 7 (by omega)
                  have y8 : (wr.alloc (.cells #[.int .i32 (hh : Int), .int .i32 (ll : Int), .bool false, .bool false, .int .i32 0, .int .i32 0, .int .i32 0, .int .i32 0, .int .i32 0, .int .i32 (-1)] 43)).cell? ⟨gR, s * 10 + 8, none⟩ = some (.int .i32 0) := kc 8 (by omega)
                  have y9 : (wr.alloc (.cells #[.int .i32 (hh : Int), .int .i32 (ll : Int), .bool false, .bool false, .int .i32 0, .int .i32 0, .int .i32 0, .int .i32 0, .int .i32 0, .int .i32 (-1)] 43)).cell? ⟨gR, s * 10 + 9, none⟩ = some (.int .i32 (-1)) := kc 9 (by omega)
                  have t1 : decide ((hq : Int) > (hh : Int)) = false := decide_eq_false (by omega)
                  have t2 : decide ((hh : Int) < (hq : Int)) = false := decide_eq_false (by omega)
                  have t3 : decide (hh < hq) = false := decide_eq_false (by omega)
                  clear hz hs hup kc
                  by_cases heq : hq = hh
                  · as_aux_lemma =>
                      have hlt3 := hlo heq
                      have t4 : ((hq : Int) == (hh : Int)) = true := by simp; omega
                      have t5 : decide ((hq : Int) = (hh : Int)) = true := decide_eq_true (by omega)
                      have t6 : decide ((lq : Int) ≥ (ll : Int)) = false := decide_eq_false (by omega)
                      have t7 : decide ((ll : Int) ≤ (lq : Int)) = false := decide_eq_false (by omega)
                      have t8 : decide (ll ≤ lq) = false := decide_eq_false (by omega)
                      clear heq hlo hle
                      have HBP : Hid (Below w5.heap.size w5 ((wr.alloc (.cells #[.int .i32 (hh : Int), .int .i32 (ll : Int), .bool false, .bool false, .int .i32 0, .int .i32 0, .int .i32 0, .int .i32 0, .int .i32 0, .int .i32 (-1)] 43)).alloc (.cells #[.int .i32 (hq : Int), .int .i32 (lq : Int), .bool false, .bool false, .int .i32 0, .int .i32 0, .int .i32 0, .int .i32 0, .int .i32 0, .int .i32 (-1)] 43))) := HBE.out.alloc HBE.out.size _
                      have p0 : ((wr.alloc (.cells #[.int .i32 (hh : Int), .int .i32 (ll : Int), .bool false, .bool false, .int .i32 0, .int .i32 0, .int .i32 0, .int .i32 0, .int .i32 0, .int .i32 (-1)] 43)).alloc (.cells #[.int .i32 (hq : Int), .int .i32 (lq : Int), .bool false, .bool false, .int .i32 0, .int .i32 0, .int .i32 0, .int .i32 0, .int .i32 0, .int .i32 (-1)] 43)).cell? ⟨wr.heap.size + 1, 0, none⟩ = some (.int .i32 (hq : Int)) := by
                        have := (Bk.new (wr.alloc (.cells #[.int .i32 (hh : Int), .int .i32 (ll : Int), .bool false, .bool false, .int .i32 0, .int .i32 0, .int .i32 0, .int .i32 0, .int .i32 0, .int .i32 (-1)] 43)) #[.int .i32 (hq : Int), .int .i32 (lq : Int), .bool false, .bool false, .int .i32 0, .int .i32 0, .int .i32 0, .int .i32 0, .int .i32 0, .int .i32 (-1)] 43).cell 0 (by simp)
                        rw [show (wr.alloc (.cells #[.int .i32 (hh : Int), .int .i32 (ll : Int), .bool false, .bool false, .int .i32 0, .int .i32 0, .int .i32 0, .int .i32 0, .int .i32 0, .int .i32 (-1)] 43)).heap.size = wr.heap.size + 1 by simp] at this
                        exact this
                      have p1 : ((wr.alloc (.cells #[.int .i32 (hh : Int), .int .i32 (ll : Int), .bool false, .bool false, .int .i32 0, .int .i32 0, .int .i32 0, .int .i32 0, .int .i32 0, .int .i32 (-1)] 43)).alloc (.cells #[.int .i32 (hq : Int), .int .i32 (lq : Int), .bool false, .bool false, .int .i32 0, .int .i32 0, .int .i32 0, .int .i32 0, .int .i32 0, .int .i32 (-1)] 43)).cell? ⟨wr.heap.size + 1, 1, none⟩ = some (.int .i32 (lq : Int)) := by
                        have := (Bk.new (wr.alloc (.cells #[.int .i32 (hh : Int), .int .i32 (ll : Int), .bool false, .bool false, .int .i32 0, .int .i32 0, .int .i32 0, .int .i32 0, .int .i32 0, .int .i32 (-1)] 43)) #[.int .i32 (hq : Int), .int .i32 (lq : Int), .bool false, .bool false, .int .i32 0, .int .i32 0, .int .i32 0, .int .i32 0, .int .i32 0, .int .i32 (-1)] 43).cell 1 (by simp)
                        rw [show (wr.alloc (.cells #[.int .i32 (hh : Int), .int .i32 (ll : Int), .bool false, .bool false, .int .i32 0, .int .i32 0, .int .i32 0, .int .i32 0, .int .i32 0, .int .i32 (-1)] 43)).heap.size = wr.heap.size + 1 by simp] at this
                        exact this
                      have c0b : ((wr.alloc (.cells #[.int .i32 (hh : Int), .int .i32 (ll : Int), .bool false, .bool false, .int .i32 0, .int .i32 0, .int .i32 0, .int .i32 0, .int .i32 0, .int .i32 (-1)] 43)).alloc (.cells #[.int .i32 (hq : Int), .int .i32 (lq : Int), .bool false, .bool false, .int .i32 0, .int .i32 0, .int .i32 0, .int .i32 0, .int .i32 0, .int .i32 (-1)] 43)).cell? ⟨wr.heap.size, 0, none⟩ = some (.int .i32 (hh : Int)) := ((Bk.new wr #[.int .i32 (hh : Int), .int .i32 (ll : Int), .bool false, .bool false, .int .i32 0, .int .i32 0, .int .i32 0, .int .i32 0, .int .i32 0, .int .i32 (-1)] 43).alloc _).cell 0 (by simp)
                      have c1b : ((wr.alloc (.cells #[.int .i32 (hh : Int), .int .i32 (ll : Int), .bool false, .bool false, .int .i32 0, .int .i32 0, .int .i32 0, .int .i32 0, .int .i32 0, .int .i32 (-1)] 43)).alloc (.cells #[.int .i32 (hq : Int), .int .i32 (lq : Int), .bool false, .bool false, .int .i32 0, .int .i32 0, .int .i32 0, .int .i32 0, .int .i32 0, .int .i32 (-1)] 43)).cell? ⟨wr.heap.size, 1, none⟩ = some (.int .i32 (ll : Int)) := ((Bk.new wr #[.int .i32 (hh : Int), .int .i32 (ll : Int), .bool false, .bool false, .int .i32 0, .int .i32 0, .int .i32 0, .int .i32 0, .int .i32 0, .int .i32 (-1)] 43).alloc _).cell 1 (by simp)
                      go_wp2_with fail
                      obtain ⟨wE, hwE⟩ : ∃ x, x = (wr.alloc (.cells #[.int .i32 (hh : Int), .int .i32 (ll : Int), .bool false, .bool false, .int .i32 0, .int .i32 0, .int .i32 0, .int .i32 0, .int .i32 0, .int .i32 (-1)] 43)).alloc (.cells #[.int .i32 (hq : Int), .int .i32 (lq : Int), .bool false, .bool false, .int .i32 0, .int .i32 0, .int .i32 0, .int .i32 0, .int .i32 0, .int .i32 (-1)] 43) := ⟨_, rfl⟩
                      rw [← hwE]
                      rw [← hwE] at c0b c1b HBP
                      obtain ⟨hE, HHE⟩ : ∃ x, Hid (x = wr.heap.size) := ⟨_, rfl⟩
                      rw [← HHE.out]
                      rw [← HHE.out] at c0b c1b
                      clear hwE c0 c1 c2' c3 c4' c5 c6' c7' c8' c9' k0 k1 k2 k3 k4 k5 k6 k7 k8 k9 p0 p1 HBE y0 y1 y2 y3 y4 y5 y6 y7 y8 y9
                      have HBE := HBP
                      have c0 := c0b
                      have c1 := c1b
                      clear HBP c0b c1b
                      have q1 : ¬ (hh : Int) < 0 := by omega
                      have q2 : ¬ (d.P : Int) ≤ (hh : Int) := by omega
                      have q2' : ¬ d.P ≤ hh := by omega
                      have q3 : ¬ (ll : Int) < 1 := by omega
                      have q3' : ¬ ll < 1 := by omega
                      have q4 : ¬ (d.L hh : Int) < (ll : Int) := by omega
                      have q4' : ¬ d.L hh < ll := by omega
                      have q5 : decide ((x : Int) < 0) = false := decide_eq_false (by omega)
                      have q6 : decide ((d.n : Int) ≤ (x : Int)) = false := decide_eq_false (by omega)
                      have q6' : decide (d.n ≤ x) = false := decide_eq_false (by omega)
                      obtain ⟨xb, hxb, _, _, kb⟩ := (HAL.out wE HBE.out).gk.bp (by omega)
                      have hb3 : b3 = some xb := HA3.out.trans hxb
                      have kb1 := kb hh hhP
                      obtain ⟨xA, hxA, kA⟩ := ((HAL.out wE HBE.out).gk.rows hh hhP).cell (ll - 1) (by omega)
                      rw [HXN.out.2.2.2.2] at kA
                      obtain ⟨lm, hlm⟩ : ∃ lm : Nat, lm = ll - 1 := ⟨_, rfl⟩
                      rw [← hlm] at kA
                      have el : (ll : Int) - 1 = (lm : Int) := by omega
                      have el2 : lm < d.L hh := by omega
                      have el3 : (lm : Int) < (d.L hh : Int) := by omega
                      rw [hxA] at kb1
                      have HXB : Hid (d.a3 = some xb) := hxb
                      clear kb hlm hxb hxA
                      subst hb3
                      go_big_quiet (fail)
                      obtain ⟨wF, hwF⟩ : ∃ x, x = wE.drewN nq := ⟨_, rfl⟩
                      rw [← hwF]
                      have HBF : Hid (Below w5.heap.size w5 wF) := by rw [hwF]; exact ⟨HBE.out.os, HBE.out.tape, HBE.out.output, HBE.out.size, HBE.out.block⟩
                      have c0f : wF.cell? ⟨hE, 0, none⟩ = some (.int .i32 (hh : Int)) := by rw [hwF]; exact c0
                      have c1f : wF.cell? ⟨hE, 1, none⟩ = some (.int .i32 (ll : Int)) := by rw [hwF]; exact c1
                      have kb2 : wF.cell? (xb.add hh) = some (.slice (some xA) (d.L hh) (d.C hh)) := by rw [hwF]; exact kb1
                      have kA2 : wF.cell? (xA.add lm) = some (.int .i64 (x : Int)) := by rw [hwF]; exact kA
                      clear hwF c0 c1 kb1 kA HBE q1 q2 q2' q3 q3' q4 q4'
                      go_wp2_with fail
                      go_big_quiet (fail)
                      obtain ⟨wG, hwG⟩ : ∃ x, x = wF.drewN nq := ⟨_, rfl⟩
                      rw [← hwG]
                      have HBG : Hid (Below w5.heap.size w5 wG) := by rw [hwG]; exact ⟨HBF.out.os, HBF.out.tape, HBF.out.output, HBF.out.size, HBF.out.block⟩
                      have c0g : wG.cell? ⟨hE, 0, none⟩ = some (.int .i32 (hh : Int)) := by rw [hwG]; exact c0f
                      have c1g : wG.cell? ⟨hE, 1, none⟩ = some (.int .i32 (ll : Int)) := by rw [hwG]; exact c1f
                      clear hwG c0f c1f kb2 kA2 HBF el el2 el3
                      have ki := HIT.out wG HBG.out x hxn
                      rw [HXN.out.2.1] at ki
                      obtain ⟨xp, hxp, kp⟩ := (HAL.out wG HBG.out).gk.pr.cell x hxn
                      obtain ⟨xo, hxo, ko⟩ := (HAL.out wG HBG.out).gk.po.cell x hxn
                      have hb1 : b1 = some xp := HA1.out.trans hxp
                      have hb2 : b2 = some xo := HA2.out.trans hxo
                      rw [HXN.out.2.2.1] at kp
                      rw [HXN.out.2.2.2.1] at ko
                      clear hxp hxo
                      subst hb1 hb2
                      go_wp2_with fail
                      go_big_quiet (fail)
                      obtain ⟨wH, hwH⟩ : ∃ x, x = wG.drewN nq := ⟨_, rfl⟩
                      rw [← hwH]
                      have HBH : Hid (Below w5.heap.size w5 wH) := by rw [hwH]; exact ⟨HBG.out.os, HBG.out.tape, HBG.out.output, HBG.out.size, HBG.out.block⟩
                      have c0h : wH.cell? ⟨hE, 0, none⟩ = some (.int .i32 (hh : Int)) := by rw [hwH]; exact c0g
                      have c1h : wH.cell? ⟨hE, 1, none⟩ = some (.int .i32 (ll : Int)) := by rw [hwH]; exact c1g
                      clear hwH c0g c1g ki kp ko HBG q5 q6 q6'
                      obtain ⟨r0, r1, r2, r3, r4, r5, r6, r7, r8, r9, r10, r11, r12, r13, r14, r15⟩ := HST.out wH HBH.out
                      clear r0 r1 r3 r4 r5 r6 r7 r8 r9 r10 r11 r12 r13 r14 r15
                      obtain ⟨gk, hgk, kk⟩ := HFC.out wH HBH.out 2 m c2 1 HF.out.n2 (HF.out.al.zs 2).2 (by omega) (by omega) a2 HX.out.1 (by omega)
                      have kk1 := kk j (by omega)
                      rw [HF.out.v2 j hlt2] at kk1
                      rw [hgk] at r2
                      have HBK : Hid (∀ q, Below w5.heap.size w5 (wH.drewN q)) := fun q => ⟨HBH.out.os, HBH.out.tape, HBH.out.output, HBH.out.size, HBH.out.block⟩
                      clear kk hgk
                      go_wp2_with fail
                      go_big_quiet (fail)
                      go_wp2_with fail
                      go_roundw
                      case rel => exact ⟨j + 1, by go_num, by omega, HBK.out _⟩
                      case measure => simp [intOf]; omega
                  · as_aux_lemma =>
                      have t4 : ((hq : Int) == (hh : Int)) = false := by simp; omega
                      have t5 : decide ((hq : Int) = (hh : Int)) = false := decide_eq_false (by omega)
                      have t9 : decide (hq = hh) = false := decide_eq_false heq
                      clear heq hlo hle
                      have HBP : Hid (Below w5.heap.size w5 ((wr.alloc (.cells #[.int .i32 (hh : Int), .int .i32 (ll : Int), .bool false, .bool false, .int .i32 0, .int .i32 0, .int .i32 0, .int .i32 0, .int .i32 0, .int .i32 (-1)] 43)).alloc (.cells #[.int .i32 (hq : Int), .int .i32 (lq : Int), .bool false, .bool false, .int .i32 0, .int .i32 0, .int .i32 0, .int .i32 0, .int .i32 0, .int .i32 (-1)] 43))) := HBE.out.alloc HBE.out.size _
                      have p0 : ((wr.alloc (.cells #[.int .i32 (hh : Int), .int .i32 (ll : Int), .bool false, .bool false, .int .i32 0, .int .i32 0, .int .i32 0, .int .i32 0, .int .i32 0, .int .i32 (-1)] 43)).alloc (.cells #[.int .i32 (hq : Int), .int .i32 (lq : Int), .bool false, .bool false, .int .i32 0, .int .i32 0, .int .i32 0, .int .i32 0, .int .i32 0, .int .i32 (-1)] 43)).cell? ⟨wr.heap.size + 1, 0, none⟩ = some (.int .i32 (hq : Int)) := by
                        have := (Bk.new (wr.alloc (.cells #[.int .i32 (hh : Int), .int .i32 (ll : Int), .bool false, .bool false, .int .i32 0, .int .i32 0, .int .i32 0, .int .i32 0, .int .i32 0, .int .i32 (-1)] 43)) #[.int .i32 (hq : Int), .int .i32 (lq : Int), .bool false, .bool false, .int .i32 0, .int .i32 0, .int .i32 0, .int .i32 0, .int .i32 0, .int .i32 (-1)] 43).cell 0 (by simp)
                        rw [show (wr.alloc (.cells #[.int .i32 (hh : Int), .int .i32 (ll : Int), .bool false, .bool false, .int .i32 0, .int .i32 0, .int .i32 0, .int .i32 0, .int .i32 0, .int .i32 (-1)] 43)).heap.size = wr.heap.size + 1 by simp] at this
                        exact this
                      have p1 : ((wr.alloc (.cells #[.int .i32 (hh : Int), .int .i32 (ll : Int), .bool false, .bool false, .int .i32 0, .int .i32 0, .int .i32 0, .int .i32 0, .int .i32 0, .int .i32 (-1)] 43)).alloc (.cells #[.int .i32 (hq : Int), .int .i32 (lq : Int), .bool false, .bool false, .int .i32 0, .int .i32 0, .int .i32 0, .int .i32 0, .int .i32 0, .int .i32 (-1)] 43)).cell? ⟨wr.heap.size + 1, 1, none⟩ = some (.int .i32 (lq : Int)) := by
                        have := (Bk.new (wr.alloc (.cells #[.int .i32 (hh : Int), .int .i32 (ll : Int), .bool false, .bool false, .int .i32 0, .int .i32 0, .int .i32 0, .int .i32 0, .int .i32 0, .int .i32 (-1)] 43)) #[.int .i32 (hq : Int), .int .i32 (lq : Int), .bool false, .bool false, .int .i32 0, .int .i32 0, .int .i32 0, .int .i32 0, .int .i32 0, .int .i32 (-1)] 43).cell 1 (by simp)
                        rw [show (wr.alloc (.cells #[.int .i32 (hh : Int), .int .i32 (ll : Int), .bool false, .bool false, .int .i32 0, .int .i32 0, .int .i32 0, .int .i32 0, .int .i32 0, .int .i32 (-1)] 43)).heap.size = wr.heap.size + 1 by simp] at this
                        exact this
                      have c0b : ((wr.alloc (.cells #[.int .i32 (hh : Int), .int .i32 (ll : Int), .bool false, .bool false, .int .i32 0, .int .i32 0, .int .i32 0, .int .i32 0, .int .i32 0, .int .i32 (-1)] 43)).alloc (.cells #[.int .i32 (hq : Int), .int .i32 (lq : Int), .bool false, .bool false, .int .i32 0, .int .i32 0, .int .i32 0, .int .i32 0, .int .i32 0, .int .i32 (-1)] 43)).cell? ⟨wr.heap.size, 0, none⟩ = some (.int .i32 (hh : Int)) := ((Bk.new wr #[.int .i32 (hh : Int), .int .i32 (ll : Int), .bool false, .bool false, .int .i32 0, .int .i32 0, .int .i32 0, .int .i32 0, .int .i32 0, .int .i32 (-1)] 43).alloc _).cell 0 (by simp)
                      have c1b : ((wr.alloc (.cells #[.int .i32 (hh : Int), .int .i32 (ll : Int), .bool false, .bool false, .int .i32 0, .int .i32 0, .int .i32 0, .int .i32 0, .int .i32 0, .int .i32 (-1)] 43)).alloc (.cells #[.int .i32 (hq : Int), .int .i32 (lq : Int), .bool false, .bool false, .int .i32 0, .int .i32 0, .int .i32 0, .int .i32 0, .int .i32 0, .int .i32 (-1)] 43)).cell? ⟨wr.heap.size, 1, none⟩ = some (.int .i32 (ll : Int)) := ((Bk.new wr #[.int .i32 (hh : Int), .int .i32 (ll : Int), .bool false, .bool false, .int .i32 0, .int .i32 0, .int .i32 0, .int .i32 0, .int .i32 0, .int .i32 (-1)] 43).alloc _).cell 1 (by simp)
                      go_wp2_with fail
                      obtain ⟨wE, hwE⟩ : ∃ x, x = (wr.alloc (.cells #[.int .i32 (hh : Int), .int .i32 (ll : Int), .bool false, .bool false, .int .i32 0, .int .i32 0, .int .i32 0, .int .i32 0, .int .i32 0, .int .i32 (-1)] 43)).alloc (.cells #[.int .i32 (hq : Int), .int .i32 (lq : Int), .bool false, .bool false, .int .i32 0, .int .i32 0, .int .i32 0, .int .i32 0, .int .i32 0, .int .i32 (-1)] 43) := ⟨_, rfl⟩
                      rw [← hwE]
                      rw [← hwE] at c0b c1b HBP
                      obtain ⟨hE, HHE⟩ : ∃ x, Hid (x = wr.heap.size) := ⟨_, rfl⟩
                      rw [← HHE.out]
                      rw [← HHE.out] at c0b c1b
                      clear hwE c0 c1 c2' c3 c4' c5 c6' c7' c8' c9' k0 k1 k2 k3 k4 k5 k6 k7 k8 k9 p0 p1 HBE y0 y1 y2 y3 y4 y5 y6 y7 y8 y9
                      have HBE := HBP
                      have c0 := c0b
                      have c1 := c1b
                      clear HBP c0b c1b
                      have q1 : ¬ (hh : Int) < 0 := by omega
                      have q2 : ¬ (d.P : Int) ≤ (hh : Int) := by omega
                      have q2' : ¬ d.P ≤ hh := by omega
                      have q3 : ¬ (ll : Int) < 1 := by omega
                      have q3' : ¬ ll < 1 := by omega
                      have q4 : ¬ (d.L hh : Int) < (ll : Int) := by omega
                      have q4' : ¬ d.L hh < ll := by omega
                      have q5 : decide ((x : Int) < 0) = false := decide_eq_false (by omega)
                      have q6 : decide ((d.n : Int) ≤ (x : Int)) = false := decide_eq_false (by omega)
                      have q6' : decide (d.n ≤ x) = false := decide_eq_false (by omega)
                      obtain ⟨xb, hxb, _, _, kb⟩ := (HAL.out wE HBE.out).gk.bp (by omega)
                      have hb3 : b3 = some xb := HA3.out.trans hxb
                      have kb1 := kb hh hhP
                      obtain ⟨xA, hxA, kA⟩ := ((HAL.out wE HBE.out).gk.rows hh hhP).cell (ll - 1) (by omega)
                      rw [HXN.out.2.2.2.2] at kA
                      obtain ⟨lm, hlm⟩ : ∃ lm : Nat, lm = ll - 1 := ⟨_, rfl⟩
                      rw [← hlm] at kA
                      have el : (ll : Int) - 1 = (lm : Int) := by omega
                      have el2 : lm < d.L hh := by omega
                      have el3 : (lm : Int) < (d.L hh : Int) := by omega
                      rw [hxA] at kb1
                      have HXB : Hid (d.a3 = some xb) := hxb
                      clear kb hlm hxb hxA
                      subst hb3
                      go_big_quiet (fail)
                      obtain ⟨wF, hwF⟩ : ∃ x, x = wE.drewN nq := ⟨_, rfl⟩
                      rw [← hwF]
                      have HBF : Hid (Below w5.heap.size w5 wF) := by rw [hwF]; exact ⟨HBE.out.os, HBE.out.tape, HBE.out.output, HBE.out.size, HBE.out.block⟩
                      have c0f : wF.cell? ⟨hE, 0, none⟩ = some (.int .i32 (hh : Int)) := by rw [hwF]; exact c0
                      have c1f : wF.cell? ⟨hE, 1, none⟩ = some (.int .i32 (ll : Int)) := by rw [hwF]; exact c1
                      have kb2 : wF.cell? (xb.add hh) = some (.slice (some xA) (d.L hh) (d.C hh)) := by rw [hwF]; exact kb1
                      have kA2 : wF.cell? (xA.add lm) = some (.int .i64 (x : Int)) := by rw [hwF]; exact kA
                      clear hwF c0 c1 kb1 kA HBE q1 q2 q2' q3 q3' q4 q4'
                      go_wp2_with fail
                      go_big_quiet (fail)
                      obtain ⟨wG, hwG⟩ : ∃ x, x = wF.drewN nq := ⟨_, rfl⟩
                      rw [← hwG]
                      have HBG : Hid (Below w5.heap.size w5 wG) := by rw [hwG]; exact ⟨HBF.out.os, HBF.out.tape, HBF.out.output, HBF.out.size, HBF.out.block⟩
                      have c0g : wG.cell? ⟨hE, 0, none⟩ = some (.int .i32 (hh : Int)) := by rw [hwG]; exact c0f
                      have c1g : wG.cell? ⟨hE, 1, none⟩ = some (.int .i32 (ll : Int)) := by rw [hwG]; exact c1f
                      clear hwG c0f c1f kb2 kA2 HBF el el2 el3
                      have ki := HIT.out wG HBG.out x hxn
                      rw [HXN.out.2.1] at ki
                      obtain ⟨xp, hxp, kp⟩ := (HAL.out wG HBG.out).gk.pr.cell x hxn
                      obtain ⟨xo, hxo, ko⟩ := (HAL.out wG HBG.out).gk.po.cell x hxn
                      have hb1 : b1 = some xp := HA1.out.trans hxp
                      have hb2 : b2 = some xo := HA2.out.trans hxo
                      rw [HXN.out.2.2.1] at kp
                      rw [HXN.out.2.2.2.1] at ko
                      clear hxp hxo
                      subst hb1 hb2
                      go_wp2_with fail
                      go_big_quiet (fail)
                      obtain ⟨wH, hwH⟩ : ∃ x, x = wG.drewN nq := ⟨_, rfl⟩
                      rw [← hwH]
                      have HBH : Hid (Below w5.heap.size w5 wH) := by rw [hwH]; exact ⟨HBG.out.os, HBG.out.tape, HBG.out.output, HBG.out.size, HBG.out.block⟩
                      have c0h : wH.cell? ⟨hE, 0, none⟩ = some (.int .i32 (hh : Int)) := by rw [hwH]; exact c0g
                      have c1h : wH.cell? ⟨hE, 1, none⟩ = some (.int .i32 (ll : Int)) := by rw [hwH]; exact c1g
                      clear hwH c0g c1g ki kp ko HBG q5 q6 q6'
                      obtain ⟨r0, r1, r2, r3, r4, r5, r6, r7, r8, r9, r10, r11, r12, r13, r14, r15⟩ := HST.out wH HBH.out
                      clear r0 r1 r3 r4 r5 r6 r7 r8 r9 r10 r11 r12 r13 r14 r15
                      obtain ⟨gk, hgk, kk⟩ := HFC.out wH HBH.out 2 m c2 1 HF.out.n2 (HF.out.al.zs 2).2 (by omega) (by omega) a2 HX.out.1 (by omega)
                      have kk1 := kk j (by omega)
                      rw [HF.out.v2 j hlt2] at kk1
                      rw [hgk] at r2
                      have HBK : Hid (∀ q, Below w5.heap.size w5 (wH.drewN q)) := fun q => ⟨HBH.out.os, HBH.out.tape, HBH.out.output, HBH.out.size, HBH.out.block⟩
                      clear kk hgk
                      go_wp2_with fail
                      go_big_quiet (fail)
                      go_wp2_with fail
                      go_roundw
                      case rel => exact ⟨j + 1, by go_num, by omega, HBK.out _⟩
                      case measure => simp [intOf]; omega
          · as_aux_lemma =>
              have f0 : decide ((j : Int) < (m : Int)) = false := decide_eq_false (by omega)
              have f0' : decide (j < m) = false := decide_eq_false hlt2
              obtain rfl : m = j := by omega
              obtain ⟨s0, s1, s2, s3, s4, s5, s6, s7, s8, s9, s10, s11, s12, s13, s14, s15⟩ := HST.out wr HT.out
              obtain ⟨X, hX, hmkr⟩ := run_mk (P := Try.prog) 23 21 (.int .i32 0) 1 4 Try.underlying23 (by kernel_rfl) d.P (by omega) (by omega)
              have HXS : Hid (X.size = d.P ∧ ∀ i, i < d.P → X.getD i (.bool false) = .int .i32 0) := by
                rw [hX, Nat.mul_one]
                exact ⟨size_made1 _ _, fun i hi => made_z32 d.P i hi⟩
              clear hX
              go_wp2_with fail
              obtain ⟨wC, hwC⟩ : ∃ x, x = wr.alloc (.cells X 21) := ⟨_, rfl⟩
              rw [← hwC]
              obtain ⟨gC, HGC⟩ : ∃ x, Hid (x = wr.heap.size) := ⟨_, rfl⟩
              rw [← HGC.out]
              have HGW : Hid (w5.heap.size ≤ gC) := by rw [HGC.out]; exact HT.out.size
              have HB0 : Hid (Bk wC gC 21 d.P (fun i => X.getD i (.bool false))) := by
                have := Bk.new wr X 21
                rw [HXS.out.1, ← HGC.out, ← hwC] at this
                exact this
              have HT0 : Hid (Below w5.heap.size w5 wC) := by rw [hwC]; exact HT.out.alloc HT.out.size _
              clear hwC hmkr HT s0 s1 s2 s3 s4 s5 s6 s7 s8 s9 s10 s11 s12 s13 s14 s15
              go_loopw [31] (fun v wr => ∃ (i : Nat) (C : Nat → Value), v = .int .i64 i ∧ i ≤ d.n ∧ Hid (Bk wr gC 21 d.P C) ∧ Hid (∀ q, q < d.P → C q = .int .i32 ((ct (fun x => b x && decide (d.pr x = q)) i : Nat) : Int)) ∧ Hid (Below w5.heap.size w5 wr)) (fun v _ => d.n - (intOf v).toNat)
              case atStart => exact ⟨0, _, rfl, Nat.zero_le _, HB0, fun q hq => by rw [HXS.out.2 q hq]; rfl, HT0⟩
              case round =>
                clear HB0 HT0 HXS
                obtain ⟨i, C, rfl, hi, HBC, HCQ, HT⟩ := hrel
                by_cases hlt3 : i < d.n
                · as_aux_lemma =>
                    have e3 : decide ((i : Int) < (d.n : Int)) = true := decide_eq_true (by omega)
                    have e3' : decide (i < d.n) = true := decide_eq_true hlt3
                    have ki := HIT.out wr HT.out i hlt3
                    cases hbi : b i with
                    | true =>
                      rw [hbi] at ki
                      obtain ⟨xp, hxp, kp⟩ := (HAL.out wr HT.out).gk.pr.cell i hlt3
                      have hb1 : b1 = some xp := HA1.out.trans hxp
                      have hpP := HW.out.prP i hlt3
                      obtain ⟨pq, HPQ⟩ : ∃ pq : Nat, Hid (pq = d.pr i) := ⟨_, rfl⟩
                      rw [← HPQ.out] at kp hpP
                      have hcl := ct_le (fun x => b x && decide (d.pr x = pq)) i
                      obtain ⟨cc, HCC⟩ : ∃ cc : Nat, Hid (cc = ct (fun x => b x && decide (d.pr x = pq)) i) := ⟨_, rfl⟩
                      rw [← HCC.out] at hcl
                      have kC := HBC.out.cell pq hpP
                      have zC := HBC.out.frozen pq
                      rw [HCQ.out pq hpP, ← HCC.out] at kC
                      have HBC' : Hid _ := HBC.out.set pq hpP (.int .i32 ((cc : Int) + 1))
                      have HT' : Hid _ := HT.out.setCell (p := ⟨gC, pq, none⟩) HGW.out (.int .i32 ((cc : Int) + 1))
                      have HCQ' : Hid (∀ q, q < d.P → (if q = pq then Value.int .i32 ((cc : Int) + 1) else C q) = .int .i32 ((ct (fun x => b x && decide (d.pr x = q)) (i + 1) : Nat) : Int)) := fun q hq => by
                        rw [ct_succ]
                        by_cases e : q = pq
                        · subst e
                          rw [if_pos rfl, if_pos (by simp [hbi, HPQ.out]), ← HCC.out]
                          rfl
                        · rw [if_neg e, if_neg (by simp [hbi]; rw [← HPQ.out]; exact fun h => e h.symm), Nat.add_zero]
                          exact HCQ.out q hq
                      clear hbi hxp
                      subst hb1
                      go_wp2_with fail
                      go_roundw
                      case rel => exact ⟨i + 1, _, by go_num, by omega, HBC', HCQ', HT'⟩
                      case measure => simp [intOf]; omega
                    | false =>
                      rw [hbi] at ki
                      have HCQ' : Hid (∀ q, q < d.P → C q = .int .i32 ((ct (fun x => b x && decide (d.pr x = q)) (i + 1) : Nat) : Int)) := fun q hq => by
                        rw [ct_succ, if_neg (by simp [hbi]), Nat.add_zero]
                        exact HCQ.out q hq
                      clear hbi
                      go_wp2_with fail
                      go_roundw
                      case rel => exact ⟨i + 1, _, by go_num, by omega, HBC, HCQ', HT⟩
                      case measure => simp [intOf]; omega
                · as_aux_lemma =>
                    have e3 : decide ((i : Int) < (d.n : Int)) = false := decide_eq_false (by omega)
                    have e3' : decide (i < d.n) = false := decide_eq_false hlt3
                    obtain rfl : i = d.n := by omega
                    have HCR : Hid (∀ k, k < r → ∃ h : K (B k) / 4294967296 < d.P, C (K (B k) / 4294967296) = .int .i32 ((B (k + 1) - B k : Nat) : Int)) := fun k hk => by
                      obtain ⟨x, hxn, _, hkx⟩ := HF.out.ks.mark HW.out HRD.out HMK.out (B k) (by have := HF.out.rn.up k hk; have := HF.out.rn.le (k + 1) (by omega); omega)
                      have hp : K (B k) / 4294967296 < d.P := by rw [hkx, (key_hi HW.out hxn).1]; exact HW.out.prP x hxn
                      refine ⟨hp, ?_⟩
                      rw [HCQ.out _ hp, HC.out.run k hk]
                    have HCN : Hid (∀ q, q < d.P → (∀ k, k < r → K (B k) / 4294967296 ≠ q) → C q = .int .i32 0) := fun q hq hn => by
                      rw [HCQ.out q hq, HC.out.non q hn]; rfl
                    clear HCQ
                    go_wp2_with fail
                    go_loopw [32, 33, 34] (fun v v' v'' wr => ∃ (q k : Nat), v = .int .i32 (B k) ∧ v' = .int .i32 k ∧ v'' = .int .i64 q ∧ q ≤ d.P ∧ k ≤ r ∧ Hid (∀ k', k' < k → K (B k') / 4294967296 < q) ∧ Hid (∀ k', k ≤ k' → k' < r → q ≤ K (B k') / 4294967296) ∧ Hid (Bk wr gC 21 d.P C) ∧ Hid (Below w5.heap.size w5 wr)) (fun _ _ v'' _ => d.P - (intOf v'').toNat)
                    case atStart => exact ⟨0, 0, by rw [HF.out.rn.b0]; rfl, rfl, rfl, Nat.zero_le _, Nat.zero_le _, fun k' hk' => absurd hk' (Nat.not_lt_zero _), fun k' _ _ => Nat.zero_le _, HBC, HT⟩
                    case round =>
                      clear HBC HT
                      obtain ⟨q, k, rfl, rfl, rfl, hq, hkr, HK1, HK2, HBC, HT⟩ := hrel
                      by_cases hlt4 : q < d.P
                      · as_aux_lemma =>
                          have e4 : decide ((q : Int) < (d.P : Int)) = true := decide_eq_true (by omega)
                          have e4' : decide (q < d.P) = true := decide_eq_true hlt4
                          obtain ⟨s0, s1, s2, s3, s4, s5, s6, s7, s8, s9, s10, s11, s12, s13, s14, s15⟩ := HST.out wr HT.out
                          clear s0 s1 s2 s3 s4 s8 s9 s10 s11 s12 s13 s14
                          have kL := HLT.out wr HT.out q hlt4
                          obtain ⟨g10, hg10, c10'⟩ := HFC.out wr HT.out 10 d.P c10 1 HF.out.n10 (HF.out.al.zs 10).2 (by omega) (by omega) a10 HX.out.2.2.2.1 (by omega)
                          have k10 := c10' q (by omega)
                          rw [HF.out.v10 q hlt4] at k10
                          obtain ⟨xv, hxv⟩ := (H9.out.below (HBW.out wr HT.out)).at' (by omega)
                          have kv := ((H9.out.below (HBW.out wr HT.out)).2 xv hxv).2 q hlt4
                          rw [HWAT.out q hlt4] at kv
                          obtain ⟨wq, HWQ⟩ : ∃ x, Hid (x = wa1 q) := ⟨_, rfl⟩
                          rw [← HWQ.out] at k10 kv
                          rw [hg10] at s6
                          obtain ⟨g9, hg9, c9'⟩ := HFC.out wr HT.out 9 d.P c9 1 HF.out.rv.n9 (HF.out.al.zs 9).2 (by omega) (by omega) a9 HX.out.2.2.1 (by omega)
                          have k9 := c9' q (by omega)
                          rw [HF.out.rv.v9 q hlt4] at k9
                          rw [hg9] at s5
                          have HBk : Hid (B k ≤ m) := HF.out.rn.le k hkr
                          have kC := HBC.out.cell q hlt4
                          clear c10' c9' hg10 hg9
                          by_cases hcase : k < r ∧ K (B k) / 4294967296 = q
                          · as_aux_lemma =>
                              obtain ⟨hk, hkq⟩ := hcase
                              obtain ⟨hp, eC⟩ := HCR.out k hk
                              have hup := HF.out.rn.up k hk
                              have hle := HF.out.rn.le (k + 1) (by omega)
                              obtain ⟨bk, HBKK⟩ : ∃ x, Hid (x = B k) := ⟨_, rfl⟩
                              obtain ⟨cc, HCC⟩ : ∃ x, Hid (x = B (k + 1) - B k) := ⟨_, rfl⟩
                              rw [hkq, ← HCC.out] at eC
                              rw [eC] at kC
                              have hcc : 0 < cc := by rw [HCC.out]; omega
                              have hcc2 : bk + cc ≤ 4096 := by rw [HCC.out, HBKK.out]; omega
                              have hbk : bk + cc = B (k + 1) := by rw [HCC.out, HBKK.out]; omega
                              have HBS1 : Hid (bk + cc = B (k + 1)) := hbk
                              rw [← HBKK.out]
                              have er2 := HF.out.rv.r1 k hk
                              rw [hkq] at er2
                              rw [er2] at k9
                              have hr1 : decide ((r : Int) ≤ (k : Int)) = false := decide_eq_false (by omega)
                              have hr2 : decide (r ≤ k) = false := decide_eq_false (by omega)
                              have hc1 : decide ((0 : Int) < (cc : Int)) = true := decide_eq_true (by omega)
                              have hc2 : decide (0 < cc) = true := decide_eq_true hcc
                              have ku : ∀ c, c < 5 → wr.cell? ⟨gU, k * 5 + c, none⟩ = some (rnL bk cc c) := fun c hc => by
                                rw [HUT.out wr HT.out k hk c hc, HBKK.out, HCC.out]; rfl
                              obtain ⟨g4, hg4, c4'⟩ := HFC.out wr HT.out 4 r c4 1 HF.out.rv.n4 (HF.out.al.zs 4).2 (by omega) (by omega) a4 HX.out.2.2.2.2.2.2 (by omega)
                              have k4 := c4' k (by omega)
                              rw [HF.out.rv.v4 k hk, hkq] at k4
                              rw [hg4] at s15
                              have HK1' : Hid (∀ k', k' < k + 1 → K (B k') / 4294967296 < q + 1) := fun k' hk' => by
                                rcases Nat.lt_or_ge k' k with h | h
                                · have := HK1.out k' h; omega
                                · obtain rfl : k' = k := by omega
                                  omega
                              have HK2' : Hid (∀ k', k + 1 ≤ k' → k' < r → q + 1 ≤ K (B k') / 4294967296) := fun k' h1 h2 => by
                                have := HF.out.rn.lt k k' (by omega) h2
                                omega
                              clear hkq hp eC hup hle hbk er2 c4' hg4
                              subst hxv
                              go_wp2_with fail
                              go_big_quiet (fail)
                              obtain ⟨wF, hwF⟩ : ∃ x, x = wr.drewN nq := ⟨_, rfl⟩
                              rw [← hwF]
                              have HTF : Hid (Below w5.heap.size w5 wF) := by rw [hwF]; exact ⟨HT.out.os, HT.out.tape, HT.out.output, HT.out.size, HT.out.block⟩
                              have HBF : Hid (Bk wF gC 21 d.P C) := by rw [hwF]; exact HBC.out
                              have kC2 : wF.cell? ⟨gC, q, none⟩ = some (.int .i32 (cc : Int)) := by rw [hwF]; exact kC
                              have s5f : wF.cell? ⟨gS, 5, none⟩ = some (.slice (some ⟨g9, 0, none⟩) d.P c9) := by rw [hwF]; exact s5
                              have s15f : wF.cell? ⟨gS, 15, none⟩ = some (.slice (some ⟨g4, 0, none⟩) r c4) := by rw [hwF]; exact s15
                              have k9f : wF.cell? ⟨g9, q, none⟩ = some (.int .i32 (k : Int)) := by rw [hwF]; exact k9
                              have k4f : wF.cell? ⟨g4, k, none⟩ = some (.int .i64 (q : Int)) := by rw [hwF]; exact k4
                              have u0 : wF.cell? ⟨gU, k * 5, none⟩ = some (.int .i32 (bk : Int)) := by rw [hwF]; exact ku 0 (by omega)
                              have u1 : wF.cell? ⟨gU, k * 5 + 1, none⟩ = some (.int .i32 (cc : Int)) := by rw [hwF]; exact ku 1 (by omega)
                              have u2 : wF.cell? ⟨gU, k * 5 + 2, none⟩ = some (.int .i32 (cc : Int)) := by rw [hwF]; exact ku 2 (by omega)
                              have u3 : wF.cell? ⟨gU, k * 5 + 3, none⟩ = some (.int .i32 0) := by rw [hwF]; exact ku 3 (by omega)
                              have u4 : wF.cell? ⟨gU, k * 5 + 4, none⟩ = some (.int .i32 0) := by rw [hwF]; exact ku 4 (by omega)
                              clear hwF kC s5 s6 s7 s15 k9 k4 kL k10 kv ku HT HBC
                              go_wp2_with fail
                              obtain ⟨wG, hwG⟩ : ∃ x, x = wF.alloc (.cells #[.int .i32 (bk : Int), .int .i32 (cc : Int), .int .i32 (cc : Int), .int .i32 0, .int .i32 0] 68) := ⟨_, rfl⟩
                              rw [← hwG]
                              obtain ⟨hE, HHE⟩ : ∃ x, Hid (x = wF.heap.size) := ⟨_, rfl⟩
                              rw [← HHE.out]
                              have HTG : Hid (Below w5.heap.size w5 wG) := by rw [hwG]; exact HTF.out.alloc HTF.out.size _
                              have HBG : Hid (Bk wG gC 21 d.P C) := by rw [hwG]; exact HBF.out.alloc _
                              have HEN : Hid (Bk wG hE 68 5 (fun i => (#[.int .i32 (bk : Int), .int .i32 (cc : Int), .int .i32 (cc : Int), .int .i32 0, .int .i32 0] : Array Value).getD i (.bool false))) := by rw [hwG, HHE.out]; exact Bk.new wF #[.int .i32 (bk : Int), .int .i32 (cc : Int), .int .i32 (cc : Int), .int .i32 0, .int .i32 0] 68
                              have n0 : wG.cell? ⟨hE, 0, none⟩ = some (.int .i32 (bk : Int)) := HEN.out.cell 0 (by omega)
                              have n1 : wG.cell? ⟨hE, 1, none⟩ = some (.int .i32 (cc : Int)) := HEN.out.cell 1 (by omega)
                              have n2 : wG.cell? ⟨hE, 2, none⟩ = some (.int .i32 (cc : Int)) := HEN.out.cell 2 (by omega)
                              have n3 : wG.cell? ⟨hE, 3, none⟩ = some (.int .i32 0) := HEN.out.cell 3 (by omega)
                              have n4 : wG.cell? ⟨hE, 4, none⟩ = some (.int .i32 0) := HEN.out.cell 4 (by omega)
                              have bel : Below wF.heap.size wF wG := by rw [hwG]; exact (Below.refl _ _).alloc (Nat.le_refl _) _
                              have kCg : wG.cell? ⟨gC, q, none⟩ = some (.int .i32 (cc : Int)) := by rw [bel.cell (World.block_lt_of_cell? _ _ kC2)]; exact kC2
                              have s5g : wG.cell? ⟨gS, 5, none⟩ = some (.slice (some ⟨g9, 0, none⟩) d.P c9) := by rw [bel.cell (World.block_lt_of_cell? _ _ s5f)]; exact s5f
                              have s15g : wG.cell? ⟨gS, 15, none⟩ = some (.slice (some ⟨g4, 0, none⟩) r c4) := by rw [bel.cell (World.block_lt_of_cell? _ _ s15f)]; exact s15f
                              have k9g : wG.cell? ⟨g9, q, none⟩ = some (.int .i32 (k : Int)) := by rw [bel.cell (World.block_lt_of_cell? _ _ k9f)]; exact k9f
                              have k4g : wG.cell? ⟨g4, k, none⟩ = some (.int .i64 (q : Int)) := by rw [bel.cell (World.block_lt_of_cell? _ _ k4f)]; exact k4f
                              clear hwG bel kC2 s5f s15f k9f k4f u0 u1 u2 u3 u4 HTF HBF HEN
                              go_big_quiet (fail)
                              obtain ⟨wH, hwH⟩ : ∃ x, x = wG.drewN nq := ⟨_, rfl⟩
                              rw [← hwH]
                              have HTH : Hid (Below w5.heap.size w5 wH) := by rw [hwH]; exact ⟨HTG.out.os, HTG.out.tape, HTG.out.output, HTG.out.size, HTG.out.block⟩
                              have HBH : Hid (Bk wH gC 21 d.P C) := by rw [hwH]; exact HBG.out
                              have kCh : wH.cell? ⟨gC, q, none⟩ = some (.int .i32 (cc : Int)) := by rw [hwH]; exact kCg
                              have s5h : wH.cell? ⟨gS, 5, none⟩ = some (.slice (some ⟨g9, 0, none⟩) d.P c9) := by rw [hwH]; exact s5g
                              have s15h : wH.cell? ⟨gS, 15, none⟩ = some (.slice (some ⟨g4, 0, none⟩) r c4) := by rw [hwH]; exact s15g
                              have k9h : wH.cell? ⟨g9, q, none⟩ = some (.int .i32 (k : Int)) := by rw [hwH]; exact k9g
                              have k4h : wH.cell? ⟨g4, k, none⟩ = some (.int .i64 (q : Int)) := by rw [hwH]; exact k4g
                              clear hwH kCg s5g s15g k9g k4g n0 n1 n2 n3 n4 HTG HBG
                              go_wp2_with fail
                              go_roundw
                              case rel => exact ⟨q + 1, k + 1, by rw [← HBS1.out]; go_num, by go_num, by go_num, by omega, by omega, HK1', HK2', HBH, HTH⟩
                              case measure => simp [intOf]; omega
                          · as_aux_lemma =>
                              have hnon : ∀ k', k' < r → K (B k') / 4294967296 ≠ q := fun k' hk' e => by
                                rcases Nat.lt_or_ge k' k with h | h
                                · have := HK1.out k' h; omega
                                · rcases Nat.lt_or_ge k r with hk | hk
                                  · have h1 := HK2.out k (Nat.le_refl _) hk
                                    rcases Nat.eq_or_lt_of_le h with h2 | h2
                                    · subst h2; exact hcase ⟨hk', e⟩
                                    · have := HF.out.rn.lt k k' h2 hk'
                                      exact hcase ⟨hk, by omega⟩
                                  · omega
                              rw [HCN.out q hlt4 hnon] at kC
                              have er := HF.out.rv.r2 q hnon
                              rw [er] at k9
                              obtain ⟨xw, hxw⟩ := (H7.out.below (HBW.out wr HT.out)).at' (by omega)
                              have kw := ((H7.out.below (HBW.out wr HT.out)).2 xw hxw).2 q hlt4
                              rw [HROW.out q hlt4 hnon] at kw
                              obtain ⟨rq, HRQ⟩ : ∃ x, Hid (x = ro1 q) := ⟨_, rfl⟩
                              rw [← HRQ.out] at k9 kw
                              have hBk := HBk.out
                              obtain ⟨bk, HBKK⟩ : ∃ x, Hid (x = B k) := ⟨_, rfl⟩
                              rw [← HBKK.out] at hBk
                              rw [← HBKK.out]
                              have HK1' : Hid (∀ k', k' < k → K (B k') / 4294967296 < q + 1) := fun k' hk' => by have := HK1.out k' hk'; omega
                              have HK2' : Hid (∀ k', k ≤ k' → k' < r → q + 1 ≤ K (B k') / 4294967296) := fun k' h1 h2 => by
                                have h3 := HK2.out k' h1 h2
                                have h4 := hnon k' h2
                                omega
                              clear hnon hcase er s15
                              subst hxv hxw
                              go_wp2_with fail
                              go_big_quiet (fail)
                              obtain ⟨wF, hwF⟩ : ∃ x, x = wr.drewN nq := ⟨_, rfl⟩
                              rw [← hwF]
                              have HTF : Hid (Below w5.heap.size w5 wF) := by rw [hwF]; exact ⟨HT.out.os, HT.out.tape, HT.out.output, HT.out.size, HT.out.block⟩
                              have HBF : Hid (Bk wF gC 21 d.P C) := by rw [hwF]; exact HBC.out
                              have kC2 : wF.cell? ⟨gC, q, none⟩ = some (.int .i32 0) := by rw [hwF]; exact kC
                              have s5f : wF.cell? ⟨gS, 5, none⟩ = some (.slice (some ⟨g9, 0, none⟩) d.P c9) := by rw [hwF]; exact s5
                              have k9f : wF.cell? ⟨g9, q, none⟩ = some (.int .i32 rq) := by rw [hwF]; exact k9
                              have kwf : wF.cell? (xw.add q) = some (.int .i32 rq) := by rw [hwF]; exact kw
                              clear hwF kC s5 s6 s7 k9 kw kL k10 kv HT HBC
                              go_wp2_with fail
                              go_big_quiet (fail)
                              obtain ⟨wG, hwG⟩ : ∃ x, x = wF.drewN nq := ⟨_, rfl⟩
                              rw [← hwG]
                              have HTG : Hid (Below w5.heap.size w5 wG) := by rw [hwG]; exact ⟨HTF.out.os, HTF.out.tape, HTF.out.output, HTF.out.size, HTF.out.block⟩
                              have HBG : Hid (Bk wG gC 21 d.P C) := by rw [hwG]; exact HBF.out
                              have kC3 : wG.cell? ⟨gC, q, none⟩ = some (.int .i32 0) := by rw [hwG]; exact kC2
                              clear hwG kC2 s5f k9f kwf HTF HBF
                              go_wp2_with fail
                              go_roundw
                              case rel => exact ⟨q + 1, k, by rw [← HBKK.out], rfl, by go_num, by omega, by omega, HK1', HK2', HBG, HTG⟩
                              case measure => simp [intOf]; omega
                      · as_aux_lemma =>
                          have e4 : decide ((q : Int) < (d.P : Int)) = false := decide_eq_false (by omega)
                          have e4' : decide (q < d.P) = false := decide_eq_false hlt4
                          obtain rfl : k = r := by
                            rcases Nat.lt_or_ge k r with h | h
                            · have h1 := HK2.out k (Nat.le_refl _) h
                              obtain ⟨hp, _⟩ := HCR.out k h
                              omega
                            · omega
                          obtain ⟨s0, s1, s2, s3, s4, s5, s6, s7, s8, s9, s10, s11, s12, s13, s14, s15⟩ := HST.out wr HT.out
                          have hwd := HWD.out
                          have w1 : decide ((wd : Int) * 64 < (m : Int)) = false := decide_eq_false (by omega)
                          have w2' : decide ((m : Int) + 64 ≤ (wd : Int) * 64) = false := decide_eq_false (by omega)
                          have hwd2 : wd ≤ 4096 := by omega
                          have hbr := HF.out.rn.br
                          rw [hbr]
                          clear hwd hbr
                          go_wp2_with fail
                          go_loopw [37] (fun v wr => ∃ (t : Nat), v = .int .i64 t ∧ t ≤ wd ∧ Hid (Below w5.heap.size w5 wr)) (fun v _ => wd - (intOf v).toNat)
                          case atStart => exact ⟨0, rfl, Nat.zero_le _, HT⟩
                          case round =>
                            clear HT HBC s0 s1 s2 s3 s4 s5 s6 s7 s8 s9 s10 s11 s12 s13 s14 s15
                            obtain ⟨t, rfl, ht, HT⟩ := hrel
                            obtain ⟨s0, s1, s2, s3, s4, s5, s6, s7, s8, s9, s10, s11, s12, s13, s14, s15⟩ := HST.out wr HT.out
                            by_cases hlt5 : t < wd
                            · as_aux_lemma =>
                                have e5 : decide ((t : Int) < (wd : Int)) = true := decide_eq_true (by omega)
                                have e5' : decide (t < wd) = true := decide_eq_true hlt5
                                obtain ⟨g6, hg6, c6'⟩ := HFC.out wr HT.out 6 wd c6 1 (by rw [HF.out.n6, HWD.out]) (HF.out.al.zs 6).2 (by omega) (by omega) a6 HX.out.2.2.2.2.1 (by omega)
                                have k6 := c6' t (by omega)
                                rw [HF.out.v6 t (by rw [← HWD.out]; exact hlt5)] at k6
                                rw [hg6] at s9
                                clear c6' hg6
                                go_wp2_with fail
                                go_roundw
                                case rel => exact ⟨t + 1, by go_num, by omega, HT⟩
                                case measure => simp [intOf]; omega
                            · as_aux_lemma =>
                                have e5 : decide ((t : Int) < (wd : Int)) = false := decide_eq_false (by omega)
                                have e5' : decide (t < wd) = false := decide_eq_false hlt5
                                obtain rfl : wd = t := by omega
                                go_wp2_with fail
                                go_loopw [38] (fun v wr => ∃ (t : Nat), v = .int .i64 t ∧ t ≤ nr ∧ Hid (Below w5.heap.size w5 wr)) (fun v _ => nr - (intOf v).toNat)
                                case atStart => exact ⟨0, rfl, Nat.zero_le _, HT⟩
                                case round =>
                                  clear HT s0 s1 s2 s3 s4 s5 s6 s7 s8 s9 s10 s11 s12 s13 s14 s15
                                  obtain ⟨t, rfl, ht, HT⟩ := hrel
                                  obtain ⟨s0, s1, s2, s3, s4, s5, s6, s7, s8, s9, s10, s11, s12, s13, s14, s15⟩ := HST.out wr HT.out
                                  by_cases hlt6 : t < nr
                                  · as_aux_lemma =>
                                      have e6 : decide ((t : Int) < (nr : Int)) = true := decide_eq_true (by omega)
                                      have e6' : decide (t < nr) = true := decide_eq_true hlt6
                                      obtain ⟨g7, hg7, c7'⟩ := HFC.out wr HT.out 7 nr c7 1 HF.out.n7 (HF.out.al.zs 7).2 (by omega) (by omega) a7 HX.out.2.2.2.2.2.1 (by omega)
                                      have k7 := c7' t (by omega)
                                      rw [HF.out.v7 t hlt6] at k7
                                      rw [hg7] at s10
                                      obtain ⟨xr, hxr, kr⟩ := (HAL.out wr HT.out).ro.cell t hlt6
                                      have HBK : Hid (∀ q, Below w5.heap.size w5 (wr.drewN q)) := fun q => ⟨HT.out.os, HT.out.tape, HT.out.output, HT.out.size, HT.out.block⟩
                                      clear c7' hg7 s1 s2 s3 s4 s5 s6 s7 s8 s9 s11 s12 s13 s14 s15
                                      subst hxr
                                      go_wp2_with fail
                                      go_big_quiet (fail)
                                      go_wp2_with fail
                                      go_roundw
                                      case rel => exact ⟨t + 1, by go_num, by omega, HBK.out _⟩
                                      case measure => simp [intOf]; omega
                                  · as_aux_lemma =>
                                      have e6 : decide ((t : Int) < (nr : Int)) = false := decide_eq_false (by omega)
                                      have e6' : decide (t < nr) = false := decide_eq_false hlt6
                                      obtain rfl : nr = t := by omega
                                      by_cases hx0 : xn = 0
                                      · as_aux_lemma =>
                                          have z1 : ((xn : Int) == 0) = true := by rw [hx0]; rfl
                                          have z2 : decide ((xn : Int) = 0) = true := by rw [hx0]; rfl
                                          have z3 : decide (xn = 0) = true := by rw [hx0]; rfl
                                          clear hx0
                                          go_wp2_with fail
                                          go_ret
                                          exact ⟨rfl, HBW.out _ HT.out⟩
                                      · as_aux_lemma =>
                                          have z1 : ((xn : Int) == 0) = false := by simp; omega
                                          have z2 : decide ((xn : Int) = 0) = false := decide_eq_false (by omega)
                                          have z3 : decide (xn = 0) = false := decide_eq_false hx0
                                          clear hx0
                                          go_wp2_with fail
                                          go_loopw [39] (fun v wr => ∃ (t : Nat), v = .int .i64 t ∧ t ≤ xn ∧ Hid (Below w5.heap.size w5 wr)) (fun v _ => xn - (intOf v).toNat)
                                          case atStart => exact ⟨0, rfl, Nat.zero_le _, HT⟩
                                          case round =>
                                            clear HT s0 s1 s2 s3 s4 s5 s6 s7 s8 s9 s10 s11 s12 s13 s14 s15
                                            obtain ⟨t, rfl, ht, HT⟩ := hrel
                                            obtain ⟨s0, s1, s2, s3, s4, s5, s6, s7, s8, s9, s10, s11, s12, s13, s14, s15⟩ := HST.out wr HT.out
                                            by_cases hlt7 : t < xn
                                            · as_aux_lemma =>
                                                have e7 : decide ((t : Int) < (xn : Int)) = true := decide_eq_true (by omega)
                                                have e7' : decide (t < xn) = true := decide_eq_true hlt7
                                                obtain ⟨g8, hg8, c8'⟩ := HFC.out wr HT.out 8 xn c8 1 H8N.out (HF.out.al.zs 8).2 (by omega) (by omega) a8 HX.out.2.1 (by omega)
                                                have k8 := c8' t (by omega)
                                                rw [HF.out.v8 t hlt7] at k8
                                                rw [hg8] at s3
                                                clear c8' hg8
                                                go_wp2_with fail
                                                go_roundw
                                                case rel => exact ⟨t + 1, by go_num, by omega, HT⟩
                                                case measure => simp [intOf]; omega
                                            · as_aux_lemma =>
                                                have e7 : decide ((t : Int) < (xn : Int)) = false := decide_eq_false (by omega)
                                                have e7' : decide (t < xn) = false := decide_eq_false hlt7
                                                obtain rfl : xn = t := by omega
                                                go_wp2_with fail
                                                go_ret
                                                exact ⟨rfl, HBW.out _ HT.out⟩
end Go.Proofs.Qxb6605223a
