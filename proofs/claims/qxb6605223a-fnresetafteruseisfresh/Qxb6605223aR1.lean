import Derived.Test.Qxb6605223aT11
import Derived.BigRegion
import Derived.Deep.DeepCutAuto
import Derived.Deep.CutBlock
set_option linter.unusedVariables false
set_option linter.unusedSimpArgs false
namespace Go.Proofs.Qxb6605223a
open Go.RowKit

attribute [local go_sem ↓ 3000] builtin_app builtin_clr

/-- What reset leaves. -/
structure Fin (tag : Nat → Nat) (w : World) (F : Nat) (d : Gd) (ar : Option Addr) (nr cr : Nat) (rd : Nat → Nat) (R : Nat → Res) (u : Nat) (us : Nat → Nat) (ro wa : Nat → Int) (xn : Nat) (tg : Nat → Nat) (w' : World) (R' : Nat → Res) (m r : Nat) (K B : Nat → Nat) (ro1 ro2 wa1 : Nat → Int) : Prop where
  al : Al tag w F d ar nr cr rd tg w' R'
  m4 : m ≤ 4096
  ks : Ks d rd nr m K
  up : UpN K m
  n2 : (R' 2).n = m
  v2 : ∀ j, j < m → (R' 2).V j = .int .u64 (K j)
  n3 : (R' 3).n = m
  v3 : ∀ j, j < m → ∀ c, c < 10 → (R' 3).V (j * 10 + c) = rwV (K j) c
  rn : Rn K m r B
  rv : Rv R' K B r d.P ro1 ro2
  c1 : Cl us u ro ro1 (-1)
  c2 : Cl us u wa wa1 0
  n10 : (R' 10).n = d.P
  v10 : ∀ q, q < d.P → (R' 10).V q = .int .i32 (wa1 q)
  n11 : (R' 11).n = d.P
  v11 : ∀ q, q < d.P → (R' 11).V q = .slice none 0 0
  n6 : (R' 6).n = (m + 63) / 64
  v6 : ∀ j, j < (m + 63) / 64 → (R' 6).V j = .int .u64 0
  n7 : (R' 7).n = nr
  v7 : ∀ j, j < nr → (R' 7).V j = .int .i32 (-1)
  s8 : Sh (R' 8) (R 8)
  v8 : ∀ j, j < xn → (R' 8).V j = .int .i32 (-1)
def ResetPost (tag : Nat → Nat) (w : World) (F : Nat) (d : Gd) (ar : Option Addr) (nr cr : Nat) (rd : Nat → Nat) (R : Nat → Res) (u : Nat) (us : Nat → Nat) (ro wa : Nat → Int) (xn : Nat) (e : Ending) (w' : World) : Prop :=
  e = .returned (.tuple #[]) ∧ ∃ tg R' m r K B ro1 ro2 wa1, Fin tag w F d ar nr cr rd R u us ro wa xn tg w' R' m r K B ro1 ro2 wa1

set_option maxRecDepth 100000 in
set_option maxHeartbeats 4000000 in
theorem reset_any (tag : Nat → Nat) (w : World) (F : Nat) (d : Gd) (rv0 : Value) (ar : Option Addr) (nr cr : Nat) (ix : Bool) (R : Nat → Res) (u : Nat) (us : Nat → Nat) (ro wa : Nat → Int)
    (hS : St tag w F (.pointer (some ⟨d.Gb, 0, none⟩)) rv0 ix R) (hG : Gok tag w d) (hW : Gwf d) (hu4 : u ≤ 4096) (hP : Pre R d.P u us) (hZ : Zs R) (hA : LA R R d.P ro wa) (xn : Nat) (hx : (R 8).n = xn) (rd : Nat → Nat) (hnr : nr ≤ 4096) (hrd : ∀ i, i < nr → rd i < d.n) (hr : Ro tag .i64 w ar nr (fun i => (rd i : Int))) (hix0 : ix = false) (hix : ix = false → ∀ j, j < xn → (R 8).V j = .int .i32 (-1)) :
    Calls Try.prog 22 #[.pointer (some ⟨F, 0, none⟩), .slice ar nr cr] w (ResetPost tag w F d ar nr cr rd R u us ro wa xn) := by
  have HS : Hid (St tag w F (.pointer (some ⟨d.Gb, 0, none⟩)) rv0 ix R) := hS
  have HG : Hid (Gok tag w d) := hG
  have HW : Hid (Gwf d) := hW
  have HP : Hid (Pre R d.P u us) := hP
  have HA : Hid (LA R R d.P ro wa) := hA
  have HIX : Hid (ix = false → ∀ j, j < xn → (R 8).V j = .int .i32 (-1)) := hix
  have HZ : Hid (Zs R) := hZ
  have HX0 : Hid (ix = false) := hix0
  have HX8 : Hid ((R 8).n = xn) := hx
  have HRD : Hid (∀ i, i < nr → rd i < d.n) := hrd
  have HRO : Hid (Ro tag .i64 w ar nr (fun i => (rd i : Int))) := hr
  clear hix hix0 hx hrd hr hZ
  have f0 := hS.2.1.cell 0 (by omega)
  have f19 := hS.2.1.cell 19 (by omega)
  simp only [fld] at f0 f19
  obtain ⟨a4, c4, h4, hc4, hm4, _⟩ := (hS.2.2 4 (by omega) (by omega)).form
  have H4 : Hid ((R 4).v = .slice a4 u c4) := by show _ = _; rw [h4, hP.n4]
  rw [H4.out] at f19
  rw [hP.n4] at hc4
  clear hS hG hW hP hA h4
  go_enter Try.func22, Try.ntmps22
  go_wp2_with fail
  go_loopw [28] (fun v wr => ∃ (i : Nat) (R1 : Nat → Res) (ro' wa' : Nat → Int), v = .int .i64 i ∧ i ≤ u ∧ Hid (LA R R1 d.P ro' wa') ∧ Hid (Cl us i ro ro' (-1)) ∧ Hid (Cl us i wa wa' 0) ∧ Hid (St tag wr F (.pointer (some ⟨d.Gb, 0, none⟩)) rv0 ix R1) ∧ Hid (Gok tag wr d) ∧ Hid (Ct tag w wr)) (fun v _ => u - (intOf v).toNat)
  case atStart => exact ⟨0, R, ro, wa, rfl, Nat.zero_le _, HA, Cl.start _ _ _, Cl.start _ _ _, HS, HG, Ct.refl _ _⟩
  case round =>
    clear HS HG HA f0 f19
    obtain ⟨i, R1, ro', wa', rfl, hi, HA, HC1, HC2, HS, HG, HT⟩ := hrel
    by_cases hlt : i < u
    · 
      have e0 : decide ((i : Int) < (u : Int)) = true := decide_eq_true (by omega)
      have e0' : decide (i < u) = true := decide_eq_true hlt
      have hqP := HP.out.us1 i hlt
      have hA := HA.out
      have hS := HS.out
      have r4 := hS.2.2 4 (by omega) (by omega)
      rw [hA.oth 4 (by omega) (by omega) (by omega)] at r4
      obtain ⟨g4, k4, x4, y4, t4, l4, q4, z4⟩ := r4.at (by rw [HP.out.n4]; omega)
      have hv4 : a4 = some ⟨g4, 0, none⟩ := by have := H4.out.symm.trans x4; simp only [Value.slice.injEq] at this; exact this.1
      subst hv4
      have c4' := q4 i (by rw [HP.out.n4, HP.out.s4]; omega)
      rw [HP.out.v4 i hlt] at c4'
      obtain ⟨g9, k9, x9, y9, t9, l9, q9, z9⟩ := (hS.2.2 9 (by omega) (by omega)).at (by rw [hA.s9.2.2.2, HP.out.n9]; omega)
      obtain ⟨g10, k10, x10, y10, t10, l10, q10, z10⟩ := (hS.2.2 10 (by omega) (by omega)).at (by rw [hA.s10.2.2.2, HP.out.n10]; omega)
      obtain ⟨g11, k11, x11, y11, t11, l11, q11, z11⟩ := (hS.2.2 11 (by omega) (by omega)).at (by rw [hA.s11.2.2.2, HP.out.n11]; omega)
      have b9 := q9 (us i) (by rw [hA.s9.2.2.2, HP.out.n9, hA.s9.2.1, HP.out.s9]; omega)
      have b10 := q10 (us i) (by rw [hA.s10.2.2.2, HP.out.n10, hA.s10.2.1, HP.out.s10]; omega)
      have b11 := q11 (us i) (by rw [hA.s11.2.2.2, HP.out.n11, hA.s11.2.1, HP.out.s11]; omega)
      rw [hA.v9 _ hqP] at b9
      rw [hA.v10 _ hqP] at b10
      rw [hA.v11 _ hqP] at b11
      have z9' := z9 (us i)
      have z10' := z10 (us i)
      have z11' := z11 (us i)
      have f9 := hS.2.1.cell 9 (by omega)
      have f10 := hS.2.1.cell 10 (by omega)
      have f12 := hS.2.1.cell 12 (by omega)
      simp only [fld] at f9 f10 f12
      rw [x9, hA.s9.2.2.2, HP.out.n9] at f9
      rw [x11, hA.s11.2.2.2, HP.out.n11] at f10
      rw [x10, hA.s10.2.2.2, HP.out.n10] at f12
      have tF := hS.1
      have n1 : ¬ F = g9 := fun e => by rw [e, t9] at tF; omega
      have n2 : ¬ F = g11 := fun e => by rw [e, t11] at tF; omega
      have n3 : ¬ g11 = g9 := fun e => by rw [e, t9] at t11; omega
      have n4 : ¬ g10 = g9 := fun e => by rw [e, t9] at t10; omega
      have n5 : ¬ g10 = g11 := fun e => by rw [e, t11] at t10; omega
      clear q4 q9 q10 q11 z4 z9 z10 z11 r4 hA hS
      have hi9 : us i < (R1 9).n * (R1 9).sz := by rw [HA.out.s9.2.2.2, HP.out.n9, HA.out.s9.2.1, HP.out.s9]; omega
      have hS5 := HS.out.upd 9 g9 k9 (us i) (by omega) (by omega) x9 t9 hi9 (.int .i32 (-1))
      have hG5 := HG.out.ch (Ch.set wr t9 (us i) none (.int .i32 (-1))) (by omega)
      have hT5 := HT.out.step (Ch.set wr t9 (us i) none (.int .i32 (-1))) (by omega) (fun _ _ => rfl)
      go_wp2_with fail
      obtain ⟨w5, hw5⟩ : ∃ x, x = wr.setCell ⟨g9, us i, none⟩ (.int .i32 (-1)) := ⟨_, rfl⟩
      rw [← hw5]
      rw [← hw5] at hS5 hG5 hT5
      clear hw5
      obtain ⟨q11, z11, _, _⟩ := Rs.cells (r := R1 11) (hS5.2.2 11 (by omega) (by omega)) x11
      have i11 : us i < (R1 11).n * (R1 11).sz := by rw [HA.out.s11.2.2.2, HP.out.n11, HA.out.s11.2.1, HP.out.s11]; omega
      have f10' : w5.cell? ⟨F, 10, none⟩ = some (R1 11).v := hS5.2.1.cell 10 (by omega)
      rw [x11, HA.out.s11.2.2.2, HP.out.n11] at f10'
      have b11' := q11 (us i) i11
      rw [HA.out.v11 _ hqP] at b11'
      have z11'' := z11 (us i)
      have hS6 := hS5.upd 11 g11 k11 (us i) (by omega) (by omega) x11 t11 i11 (.slice none 0 0)
      have hG6 := hG5.ch (Ch.set w5 t11 (us i) none (.slice none 0 0)) (by omega)
      have hT6 := hT5.step (Ch.set w5 t11 (us i) none (.slice none 0 0)) (by omega) (fun _ _ => rfl)
      have HS6 : Hid _ := hS6
      have HG6 : Hid _ := hG6
      have HT6 : Hid _ := hT6
      clear hS6 hG6 hT6 hS5 hG5 hT5 q11 z11 HS HG HT b9 b10 b11 z9' z10' z11' f9 f10 f12
      go_big_region
      all_goals
        obtain ⟨w6, hw6⟩ : ∃ x, x = (w5.setCell ⟨g11, us i, none⟩ (.slice none 0 0)).drew := ⟨_, rfl⟩
        rw [← hw6]
        have hS6 : St tag w6 F (.pointer (some ⟨d.Gb, 0, none⟩)) rv0 ix (put (put R1 9 { R1 9 with V := fun k => if k = us i then .int .i32 (-1) else (R1 9).V k }) 11 { R1 11 with V := fun k => if k = us i then .slice none 0 0 else (R1 11).V k }) := by rw [hw6]; exact HS6.out
        have hG6 : Gok tag w6 d := by rw [hw6]; exact HG6.out.ch (Ch.drewN _ 1) (t := 1) (by omega)
        have hT6 : Ct tag w w6 := by rw [hw6]; exact HT6.out.step (t := 1) (Ch.drewN _ 1) (by omega) (fun _ _ => rfl)
        clear hw6 HS6 HG6 HT6 f10' b11' z11''
        obtain ⟨q10, z10, _, _⟩ := Rs.cells (r := R1 10) (hS6.2.2 10 (by omega) (by omega)) x10
        have i10 : us i < (R1 10).n * (R1 10).sz := by rw [HA.out.s10.2.2.2, HP.out.n10, HA.out.s10.2.1, HP.out.s10]; omega
        have f12' : w6.cell? ⟨F, 12, none⟩ = some (R1 10).v := hS6.2.1.cell 12 (by omega)
        rw [x10, HA.out.s10.2.2.2, HP.out.n10] at f12'
        have b10' := q10 (us i) i10
        rw [HA.out.v10 _ hqP] at b10'
        have z10'' := z10 (us i)
        have HS7 : Hid _ := hS6.upd 10 g10 k10 (us i) (by omega) (by omega) x10 t10 i10 (.int .i32 0)
        have HG7 : Hid _ := hG6.ch (Ch.set w6 t10 (us i) none (.int .i32 0)) (by omega)
        have HT7 : Hid _ := hT6.step (Ch.set w6 t10 (us i) none (.int .i32 0)) (by omega) (fun _ _ => rfl)
        have HA' : Hid (LA R (put (put (put R1 9 { R1 9 with V := fun k => if k = us i then .int .i32 (-1) else (R1 9).V k }) 11 { R1 11 with V := fun k => if k = us i then .slice none 0 0 else (R1 11).V k }) 10 { R1 10 with V := fun k => if k = us i then .int .i32 0 else (R1 10).V k }) d.P (fun k => if k = us i then -1 else ro' k) (fun k => if k = us i then 0 else wa' k)) := by
          have h := HA.out
          refine ⟨fun t h1 h2 h3 => ?_, h.s9, h.s10, h.s11, fun q hq => ?_, fun q hq => ?_, fun q hq => ?_⟩
          · rw [put_other _ _ _ _ h2, put_other _ _ _ _ h3, put_other _ _ _ _ h1]; exact h.oth t h1 h2 h3
          · show (if q = us i then Value.int .i32 (-1) else (R1 9).V q) = _
            by_cases e : q = us i
            · rw [if_pos e, if_pos e]
            · rw [if_neg e, if_neg e]; exact h.v9 q hq
          · show (if q = us i then Value.int .i32 0 else (R1 10).V q) = _
            by_cases e : q = us i
            · rw [if_pos e, if_pos e]
            · rw [if_neg e, if_neg e]; exact h.v10 q hq
          · show (if q = us i then Value.slice none 0 0 else (R1 11).V q) = _
            by_cases e : q = us i
            · rw [if_pos e]
            · rw [if_neg e]; exact h.v11 q hq
        have HC1' : Hid (Cl us (i + 1) ro (fun k => if k = us i then -1 else ro' k) (-1)) := HC1.out.step
        have HC2' : Hid (Cl us (i + 1) wa (fun k => if k = us i then 0 else wa' k) 0) := HC2.out.step
        clear hS6 hG6 hT6 q10 z10 HA HC1 HC2
        go_wp2_with fail
        go_roundw
        case rel => exact ⟨i + 1, _, _, _, by go_num, by omega, HA', HC1', HC2', HS7, HG7, HT7⟩
        case measure => simp [intOf]; omega
    · have e0 : decide ((i : Int) < (u : Int)) = false := decide_eq_false (by omega)
      have e0' : decide (i < u) = false := decide_eq_false hlt
      obtain rfl : u = i := by omega
      have hS := HS.out
      have f1 := hS.2.1.cell 1 (by omega)
      have f2 := hS.2.1.cell 2 (by omega)
      have f3 := hS.2.1.cell 3 (by omega)
      have f7 := hS.2.1.cell 7 (by omega)
      have f11 := hS.2.1.cell 11 (by omega)
      have f15 := hS.2.1.cell 15 (by omega)
      have f16 := hS.2.1.cell 16 (by omega)
      have f17 := hS.2.1.cell 17 (by omega)
      have f18 := hS.2.1.cell 18 (by omega)
      have f19 := hS.2.1.cell 19 (by omega)
      simp only [fld] at f1 f2 f3 f7 f11 f15 f16 f17 f18 f19
      rw [HA.out.oth 4 (by omega) (by omega) (by omega), H4.out] at f19
      have y1 := hS.2.1.frozen 1
      have y2 := hS.2.1.frozen 2
      have y11 := hS.2.1.frozen 11
      have y15 := hS.2.1.frozen 15
      have y16 := hS.2.1.frozen 16
      have y17 := hS.2.1.frozen 17
      have y18 := hS.2.1.frozen 18
      have y19 := hS.2.1.frozen 19
      clear hS
      have hS := HS.out
      have h4' : (R1 4).v = .slice a4 (R1 4).n c4 := by rw [HA.out.oth 4 (by omega) (by omega) (by omega), H4.out, HP.out.n4]
      have hSB := hS.stageB (rv' := .slice ar nr cr) h4'
      have hCB := Ch.stageB (tag := tag) wr hS.1 (.slice a4 0 c4) (.slice ar nr cr)
      have hGB := HG.out.ch hCB (by omega)
      have hTB := HT.out.step hCB (by omega) (fun _ _ => rfl)
      have HSB : Hid _ := hSB
      have HGB : Hid _ := hGB
      have HTB : Hid _ := hTB
      clear hS hSB hCB hGB hTB HS HG HT
      go_upto_if 106 with fail
      obtain ⟨wB, hwB⟩ : ∃ x, x = ((((((((wr.setCell ⟨F, 19, none⟩ (.slice a4 0 c4)).setCell ⟨F, 1, none⟩ (.slice ar nr cr)).setCell ⟨F, 2, none⟩ (.slice none 0 0)).setCell ⟨F, 15, none⟩ (.slice none 0 0)).setCell ⟨F, 11, none⟩ (.slice none 0 0)).setCell ⟨F, 16, none⟩ (.int .i64 0)).setCell ⟨F, 17, none⟩ (.int .i64 0)).setCell ⟨F, 18, none⟩ (.int .i64 0)) := ⟨_, rfl⟩
      rw [← hwB]
      have HSC : Hid (St tag wB F (.pointer (some ⟨d.Gb, 0, none⟩)) (.slice ar nr cr) ix (put R1 4 { R1 4 with v := .slice a4 0 c4, n := 0 })) := by rw [hwB]; exact HSB
      have HGC : Hid (Gok tag wB d) := by rw [hwB]; exact HGB
      have HTC : Hid (Ct tag w wB) := by rw [hwB]; exact HTB
      clear hwB HSB HGB HTB f1 f2 f3 f7 f11 f15 f16 f17 f18 f19 y1 y2 y11 y15 y16 y17 y18 y19
      obtain ⟨R1', hR1'⟩ : ∃ R', R' = put R1 4 { R1 4 with v := .slice a4 0 c4, n := 0 } := ⟨_, rfl⟩
      rw [← hR1'] at HSC
      have HR1 : Hid (R1' = put R1 4 { R1 4 with v := .slice a4 0 c4, n := 0 }) := hR1'
      clear hR1'
      go_cut [8] from 112 to 134 (fun v8 wx => ∃ (R2 : Nat → Res), Hid (∀ t, t ≠ 8 → R2 t = R1' t) ∧ Hid (Sh (R2 8) (R 8)) ∧ Hid (∀ j, j < xn → (R2 8).V j = .int .i32 (-1)) ∧ Hid (St tag wx F (.pointer (some ⟨d.Gb, 0, none⟩)) (.slice ar nr cr) false R2) ∧ Hid (Gok tag wx d) ∧ Hid (Ct tag w wx))
      case first =>
        cases ix with
        | false =>
          have hz : (R1' 8) = R 8 := by rw [HR1.out, put_other _ _ _ _ (by omega)]; exact HA.out.oth 8 (by omega) (by omega) (by omega)
          have HE1 : Hid (Sh (R1' 8) (R 8)) := by rw [hz]; exact Sh.refl _
          have HE2 : Hid (∀ j, j < xn → (R1' 8).V j = .int .i32 (-1)) := by rw [hz]; exact HIX.out rfl
          clear hz
          go_wp2_with fail
          go_meet
          exact ⟨R1', fun t _ => rfl, HE1, HE2, HSC, HGC, HTC⟩
        | true =>
          exact absurd HX0.out (by decide)
      case rest =>
        clear HSC HGC HTC
        obtain ⟨R2, HO2, HE1, HE2, HS, HG, HT⟩ := hcut
        have hS := HS.out
        obtain ⟨a2, c2, h2, hc2, hm2, _⟩ := (hS.2.2 2 (by omega) (by omega)).form
        have f5 : wc.cell? ⟨F, 5, none⟩ = some (R2 2).v := hS.2.1.cell 5 (by omega)
        rw [h2] at f5
        have y5 := hS.2.1.frozen 5
        have HSn : Hid _ := (hS.sf.set 5 (by omega) (.slice a2 0 c2)).res 2 { R2 2 with v := .slice a2 0 c2, n := 0 } (((hS.sf.set 5 (by omega) (.slice a2 0 c2)).2.2 2 (by omega) (by omega)).cut0 h2 (R2 2).V)
        have hc : Ch tag 1 wc (wc.setCell ⟨F, 5, none⟩ (.slice a2 0 c2)) := Ch.set wc hS.1 5 none _
        have HGn : Hid _ := HG.out.ch hc (by omega)
        have HTn : Hid _ := HT.out.step hc (by omega) (fun _ _ => rfl)
        clear hS h2 hc HS HG HT
        go_wp2_with fail
        obtain ⟨wD, hwD⟩ : ∃ x, x = wc.setCell ⟨F, 5, none⟩ (.slice a2 0 c2) := ⟨_, rfl⟩
        rw [← hwD]
        rw [← hwD] at HSn HGn HTn
        obtain ⟨R3, hR3⟩ : ∃ R', R' = put R2 2 { R2 2 with v := .slice a2 0 c2, n := 0 } := ⟨_, rfl⟩
        have HSD : Hid (St tag wD F (.pointer (some ⟨d.Gb, 0, none⟩)) (.slice ar nr cr) false R3) := by
          rw [hR3]
          exact Sf.st HSn.out rfl rfl rfl rfl rfl rfl rfl rfl rfl rfl rfl rfl rfl rfl rfl rfl rfl rfl rfl rfl
        have HR3 : Hid (R3 = put R2 2 { R2 2 with v := .slice a2 0 c2, n := 0 }) := hR3
        have HMD : Hid (Al tag w F d ar nr cr rd tag wD R3) := ⟨Ag.refl _ _, HSD.out, HGn.out, HRO.out.ct HTn.out (Ag.refl _ _), HTn.out, by
          rw [hR3]
          refine Zs.put (fun t => ?_) 2 _ rfl rfl
          by_cases e8 : t = 8
          · subst e8; rw [HE1.out.1, HE1.out.2.1]; exact HZ.out 8
          · rw [HO2.out t e8, HR1.out]; exact (HZ.out.la HA.out).put 4 { R1 4 with v := .slice a4 0 c4, n := 0 } rfl rfl t⟩
        clear hwD hR3 HSn HSD HGn HTn
        go_loopw [148] (fun v wr => ∃ (i k : Nat) (tg : Nat → Nat) (R4 : Nat → Res) (K : Nat → Nat), v = .int .i64 i ∧ i ≤ nr ∧ k ≤ i ∧ Hid (∀ t, t ≠ 2 → R4 t = R3 t) ∧ Hid ((R4 2).n = k ∧ ∀ j, j < k → (R4 2).V j = .int .u64 (K j)) ∧ Hid (Ks d rd i k K) ∧ Hid (Al tag w F d ar nr cr rd tg wr R4)) (fun v _ => nr - (intOf v).toNat)
        case atStart => exact ⟨0, 0, tag, R3, fun _ => 0, rfl, Nat.zero_le _, Nat.le_refl _, fun _ _ => rfl, ⟨by rw [HR3.out]; rfl, fun j hj => absurd hj (Nat.not_lt_zero _)⟩, ⟨fun j hj => absurd hj (Nat.not_lt_zero _), fun t x ht => absurd ht (Nat.not_lt_zero _)⟩, HMD⟩
        case round =>
          clear HMD
          obtain ⟨i, k, tg, R4, K, rfl, hi, hki, HO4, HR4, HK, HM⟩ := hrel
          by_cases hlt : i < nr
          · 
            have e0 : decide ((i : Int) < (nr : Int)) = true := decide_eq_true (by omega)
            have e0' : decide (i < nr) = true := decide_eq_true hlt
            obtain ⟨xr, hxr, kr⟩ := HM.out.ro.cell i hlt
            have hri := HRD.out i hlt
            obtain ⟨xf, hxf, kf⟩ := HM.out.gk.fr.cell (rd i) hri
            have g4 := HM.out.gk.k4
            rw [hxf] at g4
            have hn4 := HW.out.n4
            have hf1 := HW.out.fr1 (rd i) hri
            have hf2 := HW.out.fr2 (rd i) hri
            subst hxr
            by_cases hx : 0 ≤ d.fr (rd i)
            · obtain ⟨x, hxe⟩ : ∃ x : Nat, d.fr (rd i) = (x : Int) := ⟨(d.fr (rd i)).toNat, by omega⟩
              have hxn : x < d.n := by omega
              obtain ⟨x1, hx1, k1⟩ := HM.out.gk.pr.cell x hxn
              obtain ⟨x2, hx2, k2⟩ := HM.out.gk.po.cell x hxn
              have g1 := HM.out.gk.k1
              have g2 := HM.out.gk.k2
              rw [hx1] at g1
              rw [hx2] at g2
              obtain ⟨a2', c2', h2', hc2', hm2', _⟩ := (HM.out.st.2.2 2 (by omega) (by omega)).form
              obtain ⟨he, hs⟩ := HM.out.zs 2
              have hnk := HR4.out.1
              rw [hnk] at h2'
              have f5' : wr.cell? ⟨F, 5, none⟩ = some (R4 2).v := HM.out.st.2.1.cell 5 (by omega)
              rw [h2'] at f5'
              have f5a : ∀ o : Obj, (wr.alloc o).cell? ⟨F, 5, none⟩ = some (.slice a2' k c2') := fun o => by
                have := (HM.out.alloc o).st.2.1.cell 5 (by omega)
                rw [show fld (.pointer (some ⟨d.Gb, 0, none⟩)) (.slice (some xr) nr cr) false R4 5 = (R4 2).v from rfl, h2'] at this
                exact this
              have hpr := HW.out.prP x hxn
              have hP4 := HW.out.P4
              have hpo := HW.out.poL x hxn
              have hLb := HW.out.Lb (d.pr x) hpr
              rw [hxe] at kf
              obtain ⟨kx, hkx⟩ : ∃ kx, kx = key d x := ⟨_, rfl⟩
              have HKX : Hid (kx = key d x) := hkx
              have eK : bits .or .u64 ((d.pr x : Int) * 4294967296) (d.po x : Int) = (kx : Int) := by
                have := key_or (d.pr x) (d.po x) (by omega) (by omega)
                rw [wrap_u64_nat (d.pr x) (by omega), wrap_u64_nat (d.po x) (by omega), show (d.pr x : Int) * 4294967296 = ((d.pr x * 4294967296 : Nat) : Int) by omega, wrap_u64_nat _ (by omega)] at this
                rw [hkx, show (d.pr x : Int) * 4294967296 = ((d.pr x * 4294967296 : Nat) : Int) by omega, this]
                rfl
              clear hkx
              have hk4 : k ≤ 4096 := by omega
              have HK' : Hid (Ks d rd (i + 1) (k + 1) (fun j => if j < k then K j else key d x)) := by
                refine ⟨fun j hj => ?_, fun t y ht he => ?_⟩
                · rcases Nat.lt_or_ge j k with h1 | h1
                  · obtain ⟨t, y, p1, p2, p3⟩ := HK.out.1 j h1
                    exact ⟨t, y, by omega, p2, by simp only [if_pos h1]; exact p3⟩
                  · exact ⟨i, x, by omega, hxe, by simp only [if_neg (Nat.not_lt.2 h1)]⟩
                · rcases Nat.lt_or_ge t i with h1 | h1
                  · obtain ⟨j, p1, p2⟩ := HK.out.2 t y h1 he
                    exact ⟨j, by omega, by simp only [if_pos p1]; exact p2⟩
                  · obtain rfl : t = i := by omega
                    rw [hxe] at he
                    obtain rfl : x = y := by omega
                    exact ⟨k, by omega, by simp only [if_neg (Nat.lt_irrefl k)]⟩
              obtain ⟨g', c', w', tg', hrun, fz5, fy5, HM'⟩ := Al.app1 HM.out fk2 (by omega) (by omega) (by omega) 44 (.int .u64 0) 8 Try.underlying44 (by kernel_rfl) rfl (by decide) a2' k c2' h2' hnk [.int .u64 (kx : Int)] rfl (by simp [Value.oneCell']) (by unfold maxLen; omega) (by omega) ((wr.alloc (.cells #[.int .u64 (kx : Int)] 64)).drew) rfl ⟨rfl, rfl, rfl⟩
              rw [show fld (.pointer (some ⟨d.Gb, 0, none⟩)) (.slice (some xr) nr cr) false R4 5 = (R4 2).v from rfl, h2'] at fz5
              clear hx hf1 hf2 hxe hx1 hx2 hxf hnk he hs h2'
              go_wp2_with fail
              go_big_region
              all_goals
                go_wp2_with fail
                go_roundw
                case rel => exact ⟨i + 1, k + 1, tg', _, _, by go_num, by omega, by omega, fun t ht => (put_other _ _ _ _ ht).trans (HO4.out t ht), ⟨by rw [put_same], fun j hj => by
                    rw [put_same]
                    show (if j < k * 1 then _ else _) = _
                    rw [Nat.mul_one]
                    rcases Nat.lt_or_ge j k with h1 | h1
                    · rw [if_pos h1, if_pos h1]; exact HR4.out.2 j h1
                    · rw [if_neg (Nat.not_lt.2 h1), if_neg (Nat.not_lt.2 h1)]
                      obtain rfl : j = k := by omega
                      rw [← HKX.out]
                      simp [sT]⟩, HK', HM'⟩
                case measure => simp [intOf]; omega
            · have HK' : Hid (Ks d rd (i + 1) k K) := ⟨fun j hj => by
                  obtain ⟨t, x, h1, h2, h3⟩ := HK.out.1 j hj
                  exact ⟨t, x, by omega, h2, h3⟩, fun t x ht he => by
                  rcases Nat.lt_or_ge t i with h1 | h1
                  · exact HK.out.2 t x h1 he
                  · obtain rfl : t = i := by omega
                    omega⟩
              clear HK hxf
              go_wp2_with fail
              go_roundw
              case rel => exact ⟨i + 1, k, tg, R4, K, by go_num, by omega, by omega, HO4, HR4, HK', HM⟩
              case measure => simp [intOf]; omega
          · have e0 : decide ((i : Int) < (nr : Int)) = false := decide_eq_false (by omega)
            have e0' : decide (i < nr) = false := decide_eq_false hlt
            obtain rfl : nr = i := by omega
            have hn2 := HR4.out.1
            obtain ⟨ak, ck, hk2, hkc, hkm, _⟩ := (HM.out.st.2.2 2 (by omega) (by omega)).form
            rw [hn2] at hk2 hkc
            have f5 : wr.cell? ⟨F, 5, none⟩ = some (R4 2).v := HM.out.st.2.1.cell 5 (by omega)
            rw [hk2] at f5
            have HCS : Hid _ := HM.out.sort hn2 (by omega) hk2 HR4.out.2
            have HK2 : Hid ((R4 2).v = .slice ak k ck) := hk2
            clear hn2 hk2
            go_wp2_with fail
            refine Calls.mono HCS.out ?_
            rintro e ws ⟨rfl, V1, K1, v1, M1, s1, s2⟩
            have HM1 : Hid _ := M1
            have HS2 : Hid (SameVals K1 K k k) := s2
            have f5s : ws.cell? ⟨F, 5, none⟩ = some (R4 2).v := M1.st.2.1.cell 5 (by omega)
            rw [HK2.out] at f5s
            have HCC : Hid _ := M1.comp (n := k) (c := ck) (a := ak) (K := K1) (by rw [put_same]; exact HR4.out.1) (by omega) (by rw [put_same]; exact HK2.out) (by rw [put_same]; exact v1) s1
            clear f5 v1 M1 s1 s2 HCS
            go_wp2_with fail
            refine Calls.mono HCC.out ?_
            rintro e wt ⟨m, V2, K2, rfl, hm, v2, M2, u2, s3⟩
            have HS3 : Hid (SameVals K2 K1 m k) := s3
            have HU2 : Hid (UpN K2 m) := u2
            have HV2 : Hid (∀ i, i < m → V2 i = .int .u64 ((K2 i : Nat) : Int)) := v2
            have f5t : wt.cell? ⟨F, 5, none⟩ = some (R4 2).v := M2.st.2.1.cell 5 (by omega)
            rw [HK2.out] at f5t
            have y5t := M2.st.2.1.frozen 5
            have M3 := M2.slim fk2 (by omega) (by omega) (by omega) ak k ck m (by rw [put_same]; exact HR4.out.1) (by rw [put_same]; exact HK2.out) hm
            obtain ⟨a3, c3, h3, _, _, _⟩ := (M3.st.2.2 3 (by omega) (by omega)).form
            have f4t : wt.cell? ⟨F, 4, none⟩ = some (R4 3).v := M2.st.2.1.cell 4 (by omega)
            have h3' : (R4 3).v = .slice a3 (R4 3).n c3 := h3
            rw [h3'] at f4t
            have y4t := M2.st.2.1.frozen 4
            have M4 := M3.cut fk3 (by omega) (by omega) (by omega) a3 c3 h3
            obtain ⟨R5, hR5⟩ : ∃ R', R' = put (put (put (put R4 2 { R4 2 with V := V1 }) 2 { put R4 2 { R4 2 with V := V1 } 2 with V := V2 }) 2 { put (put R4 2 { R4 2 with V := V1 }) 2 { put R4 2 { R4 2 with V := V1 } 2 with V := V2 } 2 with v := .slice ak m ck, n := m }) 3 { put (put (put R4 2 { R4 2 with V := V1 }) 2 { put R4 2 { R4 2 with V := V1 } 2 with V := V2 }) 2 { put (put R4 2 { R4 2 with V := V1 }) 2 { put R4 2 { R4 2 with V := V1 } 2 with V := V2 } 2 with v := .slice ak m ck, n := m } 3 with v := .slice a3 0 c3, n := 0 } := ⟨_, rfl⟩
            rw [← hR5] at M4
            have HO5 : Hid (∀ t, t ≠ 2 → t ≠ 3 → R5 t = R3 t) := fun t h2 h3 => by
              rw [hR5, put_other _ _ _ _ h3, put_other _ _ _ _ h2, put_other _ _ _ _ h2, put_other _ _ _ _ h2]; exact HO4.out t h2
            have H52 : Hid ((R5 2).v = .slice ak m ck ∧ (R5 2).n = m ∧ ∀ j, j < m → (R5 2).V j = .int .u64 (K2 j)) := by
              rw [hR5]
              exact ⟨rfl, rfl, v2⟩
            have H53 : Hid ((R5 3).n = 0) := by rw [hR5]; rfl
            have HKK : Hid (Ks d rd nr m K2) := by
              refine ⟨fun j hj => ?_, fun t x ht he => ?_⟩
              · obtain ⟨j1, l1, e1⟩ := s3.1 j hj
                obtain ⟨j2, l2, e2⟩ := HS2.out.1 j1 l1
                obtain ⟨t, x, p1, p2, p3⟩ := HK.out.1 j2 l2
                exact ⟨t, x, p1, p2, by rw [e1, e2]; exact p3⟩
              · obtain ⟨j, l, e⟩ := HK.out.2 t x ht he
                obtain ⟨j1, l1, e1⟩ := HS2.out.2 j l
                obtain ⟨j2, l2, e2⟩ := s3.2 j1 l1
                exact ⟨j2, l2, by rw [← e2, ← e1]; exact e⟩
            have HM4 : Hid _ := M4
            clear f5s v2 M2 M3 M4 u2 s3 h3 h3' hR5 HCC HM1 HM HR4 HK HS2 HS3 HV2 HO4
            go_wp2_with fail
            obtain ⟨wE, hwE⟩ : ∃ x, x = (wt.setCell ⟨F, 5, none⟩ (.slice ak m ck)).setCell ⟨F, 4, none⟩ (.slice a3 0 c3) := ⟨_, rfl⟩
            rw [← hwE]
            rw [← hwE] at HM4
            clear hwE f5t f4t y5t y4t
            have hm4' : m ≤ 4096 := by omega
            have HKB : Hid (∀ j, j < m → K2 j / 4294967296 < d.P ∧ K2 j / 4294967296 < 4096 ∧ 1 ≤ K2 j % 4294967296 ∧ K2 j % 4294967296 ≤ 1048576) := fun j hj => by
              obtain ⟨t, x, p1, p2, p3⟩ := HKK.out.1 j hj
              have hxn : x < d.n := by have := HW.out.fr2 (rd t) (HRD.out t p1); omega
              have q1 := HW.out.prP x hxn
              have q2 := HW.out.P4
              have q3 := HW.out.poL x hxn
              have q4 := HW.out.Lb _ q1
              have q5 := HW.out.po1 x hxn
              rw [p3]
              unfold key
              omega
            go_loopw [215] (fun v wr => ∃ (p : Nat) (tg : Nat → Nat) (R6 : Nat → Res), v = .int .i64 p ∧ p ≤ m ∧ Hid (∀ t, t ≠ 3 → R6 t = R5 t) ∧ Hid ((R6 3).n = p ∧ ∀ j, j < p → ∀ c, c < 10 → (R6 3).V (j * 10 + c) = rwV (K2 j) c) ∧ Hid (Al tag w F d ar nr cr rd tg wr R6)) (fun v _ => m - (intOf v).toNat)
            case atStart => exact ⟨0, tg, R5, rfl, Nat.zero_le _, fun _ _ => rfl, ⟨H53.out, fun j hj => absurd hj (Nat.not_lt_zero _)⟩, HM4⟩
            case round =>
              clear HM4
              obtain ⟨p, tg, R6, rfl, hp, HO6, HR6, HM⟩ := hrel
              by_cases hlt : p < m
              · 
                have e0 : decide ((p : Int) < (m : Int)) = true := decide_eq_true (by omega)
                have e0' : decide (p < m) = true := decide_eq_true hlt
                have r2 := HM.out.st.2.2 2 (by omega) (by omega)
                rw [HO6.out 2 (by omega)] at r2
                obtain ⟨gk, kk, x2, y2, t2, l2, q2, z2⟩ := r2.at (by rw [H52.out.2.1]; omega)
                have hak : ak = some ⟨gk, 0, none⟩ := by have := H52.out.1.symm.trans x2; simp only [Value.slice.injEq] at this; exact this.1
                have kc := q2 p (by rw [H52.out.2.1, ← HO6.out 2 (by omega), (HM.out.zs 2).2]; show p < m * 1; omega)
                rw [H52.out.2.2 p hlt] at kc
                obtain ⟨a3', c3', h3', hc3', hm3', _⟩ := (HM.out.st.2.2 3 (by omega) (by omega)).form
                have hnk := HR6.out.1
                rw [hnk] at h3'
                have f4' : wr.cell? ⟨F, 4, none⟩ = some (R6 3).v := HM.out.st.2.1.cell 4 (by omega)
                rw [h3'] at f4'
                clear r2 q2 z2 x2
                subst hak
                obtain ⟨b1, b2, b3, b4⟩ := HKB.out p hlt
                obtain ⟨hh, HHH⟩ : ∃ hh : Nat, Hid (hh = K2 p / 4294967296) := ⟨_, rfl⟩
                obtain ⟨ll, HLL⟩ : ∃ ll : Nat, Hid (ll = K2 p % 4294967296) := ⟨_, rfl⟩
                have e1 : ((K2 p : Nat) : Int) / 4294967296 = (hh : Int) := by rw [HHH.out]; omega
                have e2 : wrap32 ((K2 p : Nat) : Int) = (ll : Int) := by rw [HLL.out]; unfold wrap32; omega
                have hhb : hh < 4096 := by rw [HHH.out]; exact b2
                clear b1 b2 b3 b4
                obtain ⟨g', c', w', tg', hrun, fz, fy, HM'⟩ := Al.app1 HM.out fk3 (by omega) (by omega) (by omega) 56 (.agg #[.int .i32 0, .int .i32 0, .bool false, .bool false, .int .i32 0, .int .i32 0, .int .i32 0, .int .i32 0, .int .i32 0, .int .i32 0]) 36 Try.underlying56 (by kernel_rfl) (by kernel_rfl) (by decide) a3' p c3' h3' hnk [.int .i32 (hh : Int), .int .i32 (ll : Int), .bool false, .bool false, .int .i32 0, .int .i32 0, .int .i32 0, .int .i32 0, .int .i32 0, .int .i32 (-1)] rfl (by simp [Value.oneCell']) (by unfold maxLen; omega) (by omega) (wr.alloc (.cells #[.int .i32 (hh : Int), .int .i32 (ll : Int), .bool false, .bool false, .int .i32 0, .int .i32 0, .int .i32 0, .int .i32 0, .int .i32 0, .int .i32 (-1)] 73)) rfl ⟨rfl, rfl, rfl⟩
                rw [show fld (.pointer (some ⟨d.Gb, 0, none⟩)) (.slice ar nr cr) false R6 4 = (R6 3).v from rfl, h3'] at fz
                clear hnk h3' t2 l2
                go_wp2_with fail
                go_roundw
                case rel => exact ⟨p + 1, tg', _, by go_num, by omega, fun t ht => (put_other _ _ _ _ ht).trans (HO6.out t ht), ⟨by rw [put_same], fun j hj c hc => by
                    rw [put_same]
                    show (if j * 10 + c < p * 10 then _ else _) = _
                    rcases Nat.lt_or_ge j p with h1 | h1
                    · rw [if_pos (by omega)]; exact HR6.out.2 j h1 c hc
                    · obtain rfl : j = p := by omega
                      rw [if_neg (by omega), show j * 10 + c - j * sT 3 = c by show j * 10 + c - j * 10 = c; omega]
                      rw [HHH.out, HLL.out]
                      have : c = 0 ∨ c = 1 ∨ c = 2 ∨ c = 3 ∨ c = 4 ∨ c = 5 ∨ c = 6 ∨ c = 7 ∨ c = 8 ∨ c = 9 := by omega
                      rcases this with rfl | rfl | rfl | rfl | rfl | rfl | rfl | rfl | rfl | rfl <;> rfl⟩, HM'⟩
                case measure => simp [intOf]; omega
              · have e0 : decide ((p : Int) < (m : Int)) = false := decide_eq_false (by omega)
                have e0' : decide (p < m) = false := decide_eq_false hlt
                obtain rfl : m = p := by omega
                obtain ⟨a5, c5, h5, _, _, _⟩ := (HM.out.st.2.2 5 (by omega) (by omega)).form
                obtain ⟨a3', c3', h3', _, _, _⟩ := (HM.out.st.2.2 3 (by omega) (by omega)).form
                rw [HR6.out.1] at h3'
                have f8 : wr.cell? ⟨F, 8, none⟩ = some (R6 5).v := HM.out.st.2.1.cell 8 (by omega)
                rw [h5] at f8
                have y8 := HM.out.st.2.1.frozen 8
                have f4 : wr.cell? ⟨F, 4, none⟩ = some (R6 3).v := HM.out.st.2.1.cell 4 (by omega)
                rw [h3'] at f4
                have HM7 : Hid _ := HM.out.cut fk5 (by omega) (by omega) (by omega) a5 c5 h5
                have H63 : Hid ((R6 3).v = .slice a3' m c3') := h3'
                clear HM h5 h3'
                go_wp2_with fail
                obtain ⟨wG, hwG⟩ : ∃ x, x = wr.setCell ⟨F, 8, none⟩ (.slice a5 0 c5) := ⟨_, rfl⟩
                rw [← hwG]
                rw [← hwG] at HM7
                clear hwG f8 y8 f4
                obtain ⟨R7, hR7⟩ : ∃ R', R' = put R6 5 { R6 5 with v := .slice a5 0 c5, n := 0 } := ⟨_, rfl⟩
                rw [← hR7] at HM7
                have HO7 : Hid (∀ t, t ≠ 5 → R7 t = R6 t) := fun t ht => by rw [hR7, put_other _ _ _ _ ht]
                have HR1i : Hid (∀ t, t ≠ 2 → t ≠ 3 → t ≠ 5 → t ≠ 8 → R7 t = R1' t) := fun t h2 h3 h5 h8 => by rw [HO7.out t h5, HO6.out t h3, HO5.out t h2 h3, HR3.out, put_other _ _ _ _ h2]; exact HO2.out t h8
                have HV0 : Hid (Rv R7 K2 (fun _ => 0) 0 d.P ro' ro') := by
                  have n9 : R7 9 = R1 9 := by rw [HR1i.out 9 (by omega) (by omega) (by omega) (by omega), HR1.out, put_other _ _ _ _ (by omega)]
                  exact ⟨by rw [HR1i.out 4 (by omega) (by omega) (by omega) (by omega), HR1.out]; rfl, by rw [hR7]; rfl, by rw [n9, HA.out.s9.2.2.2]; exact HP.out.n9, fun k hk => absurd hk (Nat.not_lt_zero _), fun k hk => absurd hk (Nat.not_lt_zero _), fun q hq => by rw [n9]; exact HA.out.v9 q hq, fun k hk => absurd hk (Nat.not_lt_zero _), fun _ _ => rfl⟩
                clear hR7
                go_loopw [248] (fun v wr => ∃ (p r : Nat) (tg : Nat → Nat) (R8 : Nat → Res) (B : Nat → Nat) (ro2 : Nat → Int), v = .int .i64 p ∧ p ≤ m ∧ r ≤ p ∧ Hid (∀ t, t ≠ 4 → t ≠ 5 → t ≠ 9 → R8 t = R7 t) ∧ Hid (Rn K2 p r B) ∧ Hid (Rv R8 K2 B r d.P ro' ro2) ∧ Hid (Al tag w F d ar nr cr rd tg wr R8)) (fun v _ => m - (intOf v).toNat)
                case atStart => exact ⟨0, 0, tg, R7, fun _ => 0, ro', rfl, Nat.zero_le _, Nat.le_refl _, fun _ _ _ _ => rfl, ⟨fun _ => rfl, fun h => absurd h (Nat.lt_irrefl _), rfl, rfl, fun k hk => absurd hk (Nat.not_lt_zero _), fun k hk => absurd hk (Nat.not_lt_zero _), fun k hk => absurd hk (Nat.not_lt_zero _)⟩, HV0, HM7⟩
                case round =>
                  clear HM7 HV0
                  obtain ⟨p, r, tg, R8, B, ro2, rfl, hp, hrp, HO8, HN, HV, HM⟩ := hrel
                  by_cases hlt : p < m
                  · 
                    have e0 : decide ((p : Int) < (m : Int)) = true := decide_eq_true (by omega)
                    have e0' : decide (p < m) = true := decide_eq_true hlt
                    have e83 : R8 3 = R6 3 := by rw [HO8.out 3 (by omega) (by omega) (by omega), HO7.out 3 (by omega)]
                    have r3 := HM.out.st.2.2 3 (by omega) (by omega)
                    rw [e83] at r3
                    obtain ⟨g3, k3, x3, y3, t3, l3, q3, z3⟩ := r3.at (by rw [HR6.out.1]; omega)
                    rw [HR6.out.1] at x3
                    have ha3 : a3' = some ⟨g3, 0, none⟩ := by have := H63.out.symm.trans x3; simp only [Value.slice.injEq] at this; exact this.1
                    have s3 : (R6 3).sz = 10 := by have := (HM.out.zs 3).2; rw [e83] at this; exact this
                    have kc : ∀ c, c < 10 → wr.cell? ⟨g3, p * 10 + c, none⟩ = some (rwV (K2 p) c) := fun c hc => by
                      rw [q3 (p * 10 + c) (by rw [HR6.out.1, s3]; omega)]
                      rw [HR6.out.2 p hlt c hc]
                    have k0 : wr.cell? ⟨g3, p * 10, none⟩ = some (.int .i32 ((K2 p / 4294967296 : Nat) : Int)) := kc 0 (by omega)
                    have k1 : wr.cell? ⟨g3, p * 10 + 1, none⟩ = some (.int .i32 ((K2 p % 4294967296 : Nat) : Int)) := kc 1 (by omega)
                    have k2 : wr.cell? ⟨g3, p * 10 + 2, none⟩ = some (.bool false) := kc 2 (by omega)
                    have k3' : wr.cell? ⟨g3, p * 10 + 3, none⟩ = some (.bool false) := kc 3 (by omega)
                    have k4 : wr.cell? ⟨g3, p * 10 + 4, none⟩ = some (.int .i32 0) := kc 4 (by omega)
                    have k5 : wr.cell? ⟨g3, p * 10 + 5, none⟩ = some (.int .i32 0) := kc 5 (by omega)
                    have k6 : wr.cell? ⟨g3, p * 10 + 6, none⟩ = some (.int .i32 0) := kc 6 (by omega)
                    have k7 : wr.cell? ⟨g3, p * 10 + 7, none⟩ = some (.int .i32 0) := kc 7 (by omega)
                    have k8 : wr.cell? ⟨g3, p * 10 + 8, none⟩ = some (.int .i32 0) := kc 8 (by omega)
                    have k9 : wr.cell? ⟨g3, p * 10 + 9, none⟩ = some (.int .i32 (-1)) := kc 9 (by omega)
                    obtain ⟨b1, b2, b3, b4⟩ := HKB.out p hlt
                    obtain ⟨hh, HHH⟩ : ∃ hh : Nat, Hid (hh = K2 p / 4294967296) := ⟨_, rfl⟩
                    obtain ⟨ll, HLL⟩ : ∃ ll : Nat, Hid (ll = K2 p % 4294967296) := ⟨_, rfl⟩
                    rw [← HHH.out] at k0 b1 b2
                    rw [← HLL.out] at k1 b3 b4
                    clear r3 q3 z3 x3 kc e83 y3
                    subst ha3
                    have hnew : ¬ wr.heap.size = g3 := by omega
                    have M1 := HM.out.alloc (.cells #[.int .i32 (hh : Int), .int .i32 (ll : Int), .bool false, .bool false, .int .i32 0, .int .i32 0, .int .i32 0, .int .i32 0, .int .i32 0, .int .i32 (-1)] 73)
                    have c15 : (wr.alloc (.cells #[.int .i32 (hh : Int), .int .i32 (ll : Int), .bool false, .bool false, .int .i32 0, .int .i32 0, .int .i32 0, .int .i32 0, .int .i32 0, .int .i32 (-1)] 73)).cell? ⟨wr.heap.size, 0, none⟩ = some (.int .i32 (hh : Int)) := (Bk.new wr #[.int .i32 (hh : Int), .int .i32 (ll : Int), .bool false, .bool false, .int .i32 0, .int .i32 0, .int .i32 0, .int .i32 0, .int .i32 0, .int .i32 (-1)] 73).cell 0 (by simp)
                    have HMA : Hid _ := M1
                    clear M1
                    go_wp2_with fail
                    obtain ⟨w1, hw1⟩ : ∃ x, x = wr.alloc (.cells #[.int .i32 (hh : Int), .int .i32 (ll : Int), .bool false, .bool false, .int .i32 0, .int .i32 0, .int .i32 0, .int .i32 0, .int .i32 0, .int .i32 (-1)] 73) := ⟨_, rfl⟩
                    rw [← hw1]
                    rw [← hw1] at HMA c15
                    clear hw1
                    obtain ⟨h15, HH15⟩ : ∃ x, Hid (x = wr.heap.size) := ⟨_, rfl⟩
                    rw [← HH15.out]
                    rw [← HH15.out] at c15
                    clear k0 k1 k2 k3' k4 k5 k6 k7 k8 k9 hnew
                    have hP4 := HW.out.P4
                    have f4 : w1.cell? ⟨F, 4, none⟩ = some (R8 3).v := HMA.out.st.2.1.cell 4 (by omega)
                    have e83 : R8 3 = R6 3 := by rw [HO8.out 3 (by omega) (by omega) (by omega), HO7.out 3 (by omega)]
                    rw [e83, H63.out] at f4
                    by_cases hz : p = 0
                    · have eg : ((p : Int) == 0) = true := by rw [hz]; rfl
                      have eg2 : decide ((p : Int) = 0) = true := by rw [hz]; rfl
                      have eg3 : decide (p = 0) = true := by rw [hz]; rfl
                      have HDF : Hid (p = 0 ∨ K2 (p - 1) / 4294967296 ≠ K2 p / 4294967296) := .inl hz
                      have HZ0 : Hid (p = 0) := hz
                      clear hz
                      go_big_quiet (fail)
                      rename_i nq
                      obtain ⟨w2, hw2⟩ : ∃ x, x = w1.drewN nq := ⟨_, rfl⟩
                      rw [← hw2]
                      have HM2 : Hid (Al tag w F d ar nr cr rd tg w2 R8) := by rw [hw2]; exact HMA.out.drewN nq
                      have c15a : w2.cell? ⟨h15, 0, none⟩ = some (.int .i32 (hh : Int)) := by rw [hw2]; exact c15
                      clear hw2 f4 c15
                      have HLT : Hid (∀ k, k < r → K2 (B k) / 4294967296 < K2 p / 4294967296) := HN.out.pos HU2.out hlt HDF.out
                      -- region 44
                      obtain ⟨g9, k9, x9, y9, t9, l9, q9, z9⟩ := (HM2.out.st.2.2 9 (by omega) (by omega)).at (by rw [HV.out.n9]; omega)
                      rw [HV.out.n9] at x9
                      have s9 : (R8 9).sz = 1 := (HM.out.zs 9).2
                      have b9 := q9 hh (by rw [HV.out.n9, s9]; omega)
                      have z9' := z9 hh
                      obtain ⟨a5', c5', h5', hc5', hm5', _⟩ := (HM2.out.st.2.2 5 (by omega) (by omega)).form
                      rw [HV.out.n5] at h5'
                      have f9 : w2.cell? ⟨F, 9, none⟩ = some (R8 9).v := HM2.out.st.2.1.cell 9 (by omega)
                      have f8 : w2.cell? ⟨F, 8, none⟩ = some (R8 5).v := HM2.out.st.2.1.cell 8 (by omega)
                      rw [x9] at f9
                      rw [h5'] at f8
                      have l9' : g9 < h15 := by
                        have hlt9 := (HM.out.st.2.2 9 (by omega) (by omega)).at (by rw [HV.out.n9]; omega)
                        obtain ⟨g9', k9', x9', _, _, l9', _, _⟩ := hlt9
                        rw [HV.out.n9, x9] at x9'
                        cases x9'
                        rw [HH15.out]; exact l9'
                      have M3 := HM2.out.upd 9 g9 k9 hh (by omega) (by omega) (by rw [HV.out.n9]; exact x9) (by rw [HV.out.n9, s9]; omega) (.int .i32 (r : Int))
                      have c15b : (w2.setCell ⟨g9, hh, none⟩ (.int .i32 (r : Int))).cell? ⟨h15, 0, none⟩ = some (.int .i32 (hh : Int)) := by
                        rw [World.cell?_of_block (w := w2) (Below.heap_setCell _ _ _ _ (by show h15 ≠ g9; omega))]; exact c15a
                      have n15 : ¬ g9 = h15 := by omega
                      have tF := HM2.out.st.1
                      have n9F : ¬ F = g9 := fun e => by rw [e, t9] at tF; omega
                      have HM3 : Hid _ := M3
                      have H8 : Hid ((R8 5).v = .slice a5' r c5') := h5'
                      clear q9 z9 M3 h5' tF
                      go_wp2_with fail
                      go_big_region
                      all_goals
                        obtain ⟨w3, hw3⟩ : ∃ x, x = (w2.setCell ⟨g9, hh, none⟩ (.int .i32 (r : Int))).drew := ⟨_, rfl⟩
                        rw [← hw3]
                        have HM3' : Hid (Al tag w F d ar nr cr rd tg w3 (put R8 9 { R8 9 with V := fun k => if k = hh then .int .i32 (r : Int) else (R8 9).V k })) := by rw [hw3]; exact HM3.out.drew
                        have c15c : w3.cell? ⟨h15, 0, none⟩ = some (.int .i32 (hh : Int)) := by rw [hw3]; exact c15b
                        clear hw3 HM3 c15b c15a b9 z9' f9 f8 n9F n15
                        -- region 45: append onto used
                        obtain ⟨a4', c4', h4'', hc4', hm4', _⟩ := (HM3'.out.st.2.2 4 (by omega) (by omega)).form
                        have h44 : (R8 4).v = .slice a4' r c4' := by rw [← HV.out.n4]; exact h4''
                        have f19 : w3.cell? ⟨F, 19, none⟩ = some (R8 4).v := HM3'.out.st.2.1.cell 19 (by omega)
                        rw [h44] at f19
                        have f19a : ∀ o : Obj, (w3.alloc o).cell? ⟨F, 19, none⟩ = some (.slice a4' r c4') := fun o => by
                          have h1 : (w3.alloc o).cell? ⟨F, 19, none⟩ = some (R8 4).v := (HM3'.out.alloc o).st.2.1.cell 19 (by omega)
                          rw [h44] at h1
                          exact h1
                        obtain ⟨g', c', w', tg', hrun, fz, fy, HM4⟩ := Al.app1 HM3'.out fk4 (by omega) (by omega) (by omega) 22 (.int .i64 0) 8 Try.underlying22 (by kernel_rfl) rfl (by decide) a4' r c4' h44 HV.out.n4 [.int .i64 (hh : Int)] rfl (by simp [Value.oneCell']) (by unfold maxLen; omega) (by omega) ((w3.alloc (.cells #[.int .i64 (hh : Int)] 3)).drew) rfl ⟨rfl, rfl, rfl⟩
                        have fz' : w'.cell? ⟨F, 19, none⟩ = some (.slice a4' r c4') := by rw [fz]; exact congrArg some h44
                        clear fz h4'' h44
                        go_wp2_with fail
                        go_big_region
                        all_goals
                          obtain ⟨w4, hw4⟩ : ∃ x, x = w'.setCell ⟨F, 19, none⟩ (.slice (some ⟨g', 0, none⟩) (r + 1) c') := ⟨_, rfl⟩
                          rw [← hw4]
                          rw [← hw4] at HM4
                          clear hw4 hrun fz' fy f19 f19a c15c
                          -- region 46: append onto runs
                          have f8 : w4.cell? ⟨F, 8, none⟩ = some (R8 5).v := HM4.out.st.2.1.cell 8 (by omega)
                          rw [H8.out] at f8
                          obtain ⟨g5, c5'', w5, tg5, hrun, fz, fy, HM5⟩ := Al.app1 HM4.out fk5 (by omega) (by omega) (by omega) 57 (.agg #[.int .i32 0, .int .i32 0, .int .i32 0, .int .i32 0, .int .i32 0]) 20 Try.underlying57 (by kernel_rfl) rfl (by decide) a5' r c5' H8.out HV.out.n5 [.int .i32 (p : Int), .int .i32 0, .int .i32 0, .int .i32 0, .int .i32 0] rfl (by simp [Value.oneCell']) (by unfold maxLen; omega) (by omega) (w4.alloc (.cells #[.int .i32 (p : Int), .int .i32 0, .int .i32 0, .int .i32 0, .int .i32 0] 79)) rfl ⟨rfl, rfl, rfl⟩
                          have fz' : w5.cell? ⟨F, 8, none⟩ = some (.slice a5' r c5') := by rw [fz]; exact congrArg some H8.out
                          clear fz
                          have f8b : (w5.setCell ⟨F, 8, none⟩ (.slice (some ⟨g5, 0, none⟩) (r + 1) c5'')).cell? ⟨F, 8, none⟩ = some (.slice (some ⟨g5, 0, none⟩) (r + 1) c5'') := HM5.out.st.2.1.cell 8 (by omega)
                          go_wp2_with fail
                          obtain ⟨w6, hw6⟩ : ∃ x, x = w5.setCell ⟨F, 8, none⟩ (.slice (some ⟨g5, 0, none⟩) (r + 1) c5'') := ⟨_, rfl⟩
                          rw [← hw6]
                          rw [← hw6] at HM5 f8b
                          clear hw6 hrun fz' fy f8
                          obtain ⟨R9, HR9⟩ : ∃ x, Hid (x = newR R8 r p hh (.slice (some ⟨g', 0, none⟩) (r + 1) c') (.slice (some ⟨g5, 0, none⟩) (r + 1) c5'')) := ⟨_, rfl⟩
                          have HM5' : Hid (Al tag w F d ar nr cr rd tg5 w6 R9) := by rw [HR9.out]; exact HM5.out
                          clear HM5
                          have h95 : (R9 5).v = .slice (some ⟨g5, 0, none⟩) (r + 1) c5'' ∧ (R9 5).n = r + 1 ∧ (R9 5).sz = 5 := by rw [HR9.out]; exact ⟨rfl, rfl, rfl⟩
                          have v95 : ∀ c, c < 5 → (R9 5).V (r * 5 + c) = [Value.int .i32 (p : Int), .int .i32 0, .int .i32 0, .int .i32 0, .int .i32 0].getD c (.bool false) := fun c hc => by
                            rw [HR9.out]
                            show (if r * 5 + c < r * 5 then _ else _) = _
                            rw [if_neg (by omega)]
                            show List.getD _ (r * 5 + c - r * 5) _ = _
                            rw [show r * 5 + c - r * 5 = c by omega]
                          obtain ⟨q5, z5, t5, l5⟩ := Rs.cells (HM5'.out.st.2.2 5 (by omega) (by omega)) (g := g5) (cap := c5'') (by rw [h95.2.1]; exact h95.1)
                          have b51 := q5 (r * 5 + 1) (by rw [h95.2.1, h95.2.2]; omega)
                          have b52 := q5 (r * 5 + 2) (by rw [h95.2.1, h95.2.2]; omega)
                          rw [v95 1 (by omega)] at b51
                          rw [v95 2 (by omega)] at b52
                          have b51' : w6.cell? ⟨g5, r * 5 + 1, none⟩ = some (.int .i32 0) := b51
                          have b52' : w6.cell? ⟨g5, r * 5 + 2, none⟩ = some (.int .i32 0) := b52
                          have z51 := z5 (r * 5 + 1)
                          have z52 := z5 (r * 5 + 2)
                          have HM6 : Hid (∀ q, Al tag w F d ar nr cr rd tg5 ((w6.drewN q).setCell ⟨g5, r * 5 + 1, none⟩ (.int .i32 1)) (put R9 5 { R9 5 with V := fun k => if k = r * 5 + 1 then .int .i32 1 else (R9 5).V k })) := fun q => (HM5'.out.drewN q).upd 5 g5 c5'' (r * 5 + 1) (by omega) (by omega) (by rw [h95.2.1]; exact h95.1) (by rw [h95.2.1, h95.2.2]; omega) (.int .i32 1)
                          have HM7 : Hid (∀ q, Al tag w F d ar nr cr rd tg5 (((w6.drewN q).setCell ⟨g5, r * 5 + 1, none⟩ (.int .i32 1)).setCell ⟨g5, r * 5 + 2, none⟩ (.int .i32 1)) (put (put R9 5 { R9 5 with V := fun k => if k = r * 5 + 1 then .int .i32 1 else (R9 5).V k }) 5 { R9 5 with V := fun k => if k = r * 5 + 2 then .int .i32 1 else if k = r * 5 + 1 then .int .i32 1 else (R9 5).V k })) := fun q => (HM6.out q).upd 5 g5 c5'' (r * 5 + 2) (by omega) (by omega) (by rw [put_same]; show (R9 5).v = .slice _ (R9 5).n c5''; rw [h95.2.1]; exact h95.1) (by rw [put_same]; show r * 5 + 2 < (R9 5).n * (R9 5).sz; rw [h95.2.1, h95.2.2]; omega) (.int .i32 1)
                          have HRV : Hid _ := Rv.newPut (R' := put (put R9 5 { R9 5 with V := fun k => if k = r * 5 + 1 then .int .i32 1 else (R9 5).V k }) 5 { R9 5 with V := fun k => if k = r * 5 + 2 then .int .i32 1 else if k = r * 5 + 1 then .int .i32 1 else (R9 5).V k }) HV.out HN.out HHH.out HLT.out HR9.out rfl rfl h95.2.1 (fun k => rfl)
                          have HRO : Hid (∀ t, t ≠ 4 → t ≠ 5 → t ≠ 9 → put (put R9 5 { R9 5 with V := fun k => if k = r * 5 + 1 then .int .i32 1 else (R9 5).V k }) 5 { R9 5 with V := fun k => if k = r * 5 + 2 then .int .i32 1 else if k = r * 5 + 1 then .int .i32 1 else (R9 5).V k } t = R7 t) := fun t h4 h5 h9 => by
                            rw [put_other _ _ _ _ h5, put_other _ _ _ _ h5, HR9.out, newR_other t h4 h5 h9]; exact HO8.out t h4 h5 h9
                          have HRN : Hid _ := HN.out.new HLT.out
                          clear q5 z5 b51 b52 v95 h95 HM6 HM5'
                          go_big_quiet (fail)
                          go_wp2_with fail
                          go_roundw
                          case rel => exact ⟨p + 1, r + 1, tg5, _, _, _, by go_num, by omega, by omega, HRO, HRN, HRV, HM7.out _⟩
                          case measure => simp [intOf]; omega
                    · have h0 : 0 < p := by omega
                      obtain ⟨s, hs⟩ : ∃ s : Nat, p = s + 1 := ⟨p - 1, by omega⟩
                      have eg : ((p : Int) == 0) = false := by simp; omega
                      have eg2 : decide ((p : Int) = 0) = false := decide_eq_false (by omega)
                      have eg3 : decide (p = 0) = false := decide_eq_false hz
                      have es : (p : Int) - 1 = (s : Int) := by omega
                      have es2 : s < m := by omega
                      have es3 : (s : Int) < (m : Int) := by omega
                      have ks : w1.cell? ⟨g3, s * 10, none⟩ = some (.int .i32 ((K2 s / 4294967296 : Nat) : Int)) := by
                        have r3 := HMA.out.st.2.2 3 (by omega) (by omega)
                        rw [e83] at r3
                        obtain ⟨q3, _⟩ := Rs.cells r3 (g := g3) (cap := c3') (by rw [HR6.out.1]; exact H63.out)
                        rw [q3 (s * 10) (by rw [HR6.out.1, s3]; omega)]
                        have := HR6.out.2 s es2 0 (by omega)
                        rw [Nat.add_zero] at this
                        rw [this]
                        rfl
                      obtain ⟨hq, HHQ⟩ : ∃ hq : Nat, Hid (hq = K2 s / 4294967296) := ⟨_, rfl⟩
                      rw [← HHQ.out] at ks
                      have HPS : Hid (p = s + 1) := hs
                      have HZ0 : Hid (0 < p) := h0
                      by_cases hne : hh = hq
                      · have en1 : ((hh : Int) == (hq : Int)) = true := by simp; omega
                        have en2 : decide ((hh : Int) = (hq : Int)) = true := decide_eq_true (by omega)
                        have en3 : decide (hh = hq) = true := decide_eq_true hne
                        have en4 : ((hh : Int) != (hq : Int)) = false := by simp; omega
                        have HDF : Hid (K2 (p - 1) / 4294967296 = K2 p / 4294967296) := by
                          rw [hs, show s + 1 - 1 = s by omega, ← hs, ← HHH.out, ← HHQ.out]; exact hne.symm
                        clear hz hs h0 hne
                        go_big_quiet (fail)
                        rename_i nq
                        obtain ⟨w2, hw2⟩ : ∃ x, x = w1.drewN nq := ⟨_, rfl⟩
                        rw [← hw2]
                        have HM2 : Hid (Al tag w F d ar nr cr rd tg w2 R8) := by rw [hw2]; exact HMA.out.drewN nq
                        have c15a : w2.cell? ⟨h15, 0, none⟩ = some (.int .i32 (hh : Int)) := by rw [hw2]; exact c15
                        clear hw2 f4 c15 ks
                        obtain ⟨z, hz⟩ : ∃ z, r = z + 1 := ⟨r - 1, by have := HN.out.p HZ0.out; omega⟩
                        have HRZ : Hid (r = z + 1) := hz
                        have er1 : (r : Int) - 1 = (z : Int) := by omega
                        have er2 : z < r := by omega
                        have er3 : (z : Int) < (r : Int) := by omega
                        clear hz
                        obtain ⟨g5, c5'', h5', y5, t5, l5, q5, z5⟩ := (HM2.out.st.2.2 5 (by omega) (by omega)).at (by rw [HV.out.n5]; omega)
                        have s5 : (R8 5).sz = 5 := (HM.out.zs 5).2
                        have h55 := h5'
                        rw [HV.out.n5] at h5'
                        have f8b : w2.cell? ⟨F, 8, none⟩ = some (R8 5).v := HM2.out.st.2.1.cell 8 (by omega)
                        rw [h5'] at f8b
                        have hBz : B z < p := by
                          have := HN.out.up z er2
                          rw [← HRZ.out, HN.out.br] at this
                          exact this
                        have hBr : B (z + 1) = p := by rw [← HRZ.out]; exact HN.out.br
                        obtain ⟨nn, HNN⟩ : ∃ nn : Nat, Hid (nn = p - B z) := ⟨_, rfl⟩
                        have hnn : nn ≤ 4096 := by rw [HNN.out]; omega
                        have v51 := HV.out.v5 z er2 1 (by omega)
                        have v52 := HV.out.v5 z er2 2 (by omega)
                        rw [hBr, ← HNN.out] at v51 v52
                        have b51' : w2.cell? ⟨g5, z * 5 + 1, none⟩ = some (.int .i32 (nn : Int)) := by
                          rw [q5 (z * 5 + 1) (by rw [HV.out.n5, s5]; omega), v51]; rfl
                        have b52' : w2.cell? ⟨g5, z * 5 + 2, none⟩ = some (.int .i32 (nn : Int)) := by
                          rw [q5 (z * 5 + 2) (by rw [HV.out.n5, s5]; omega), v52]; rfl
                        have z51 := z5 (z * 5 + 1)
                        have z52 := z5 (z * 5 + 2)
                        have HM6 : Hid (∀ q, Al tag w F d ar nr cr rd tg ((w2.drewN q).setCell ⟨g5, z * 5 + 1, none⟩ (.int .i32 ((nn : Int) + 1))) (put R8 5 { R8 5 with V := fun k => if k = z * 5 + 1 then .int .i32 ((nn : Int) + 1) else (R8 5).V k })) := fun q => (HM2.out.drewN q).upd 5 g5 c5'' (z * 5 + 1) (by omega) (by omega) h55 (by rw [HV.out.n5, s5]; omega) _
                        have HM7 : Hid (∀ q, Al tag w F d ar nr cr rd tg (((w2.drewN q).setCell ⟨g5, z * 5 + 1, none⟩ (.int .i32 ((nn : Int) + 1))).setCell ⟨g5, z * 5 + 2, none⟩ (.int .i32 ((nn : Int) + 1))) (put (put R8 5 { R8 5 with V := fun k => if k = z * 5 + 1 then .int .i32 ((nn : Int) + 1) else (R8 5).V k }) 5 { R8 5 with V := fun k => if k = z * 5 + 2 then .int .i32 ((nn : Int) + 1) else if k = z * 5 + 1 then .int .i32 ((nn : Int) + 1) else (R8 5).V k })) := fun q => (HM6.out q).upd 5 g5 c5'' (z * 5 + 2) (by omega) (by omega) (by rw [put_same]; exact h55) (by rw [put_same]; show z * 5 + 2 < (R8 5).n * (R8 5).sz; rw [HV.out.n5, s5]; omega) _
                        have HRV : Hid _ := Rv.more (R' := put (put R8 5 { R8 5 with V := fun k => if k = z * 5 + 1 then .int .i32 ((nn : Int) + 1) else (R8 5).V k }) 5 { R8 5 with V := fun k => if k = z * 5 + 2 then .int .i32 ((nn : Int) + 1) else if k = z * 5 + 1 then .int .i32 ((nn : Int) + 1) else (R8 5).V k }) (p := p) HV.out HN.out HRZ.out rfl rfl rfl (fun k => by
                          rw [show ((p + 1 - B z : Nat) : Int) = (nn : Int) + 1 by rw [HNN.out]; omega]
                          rfl)
                        have HRO : Hid (∀ t, t ≠ 4 → t ≠ 5 → t ≠ 9 → put (put R8 5 { R8 5 with V := fun k => if k = z * 5 + 1 then .int .i32 ((nn : Int) + 1) else (R8 5).V k }) 5 { R8 5 with V := fun k => if k = z * 5 + 2 then .int .i32 ((nn : Int) + 1) else if k = z * 5 + 1 then .int .i32 ((nn : Int) + 1) else (R8 5).V k } t = R7 t) := fun t h4 h5 h9 => by
                          rw [put_other _ _ _ _ h5, put_other _ _ _ _ h5]; exact HO8.out t h4 h5 h9
                        have HRN : Hid _ := HN.out.more HZ0.out HDF.out
                        clear q5 z5 HM6 h5' h55 hBz hBr v51 v52
                        go_wp2_with fail
                        go_big_quiet (fail)
                        go_wp2_with fail
                        go_roundw
                        case rel => exact ⟨p + 1, r, tg, _, _, _, by go_num, by omega, by omega, HRO, HRN, HRV, HM7.out _⟩
                        case measure => simp [intOf]; omega
                      · have en1 : ((hh : Int) == (hq : Int)) = false := by simp; omega
                        have en2 : decide ((hh : Int) = (hq : Int)) = false := decide_eq_false (by omega)
                        have en3 : decide (hh = hq) = false := decide_eq_false hne
                        have en4 : ((hh : Int) != (hq : Int)) = true := by simp; omega
                        have HDF : Hid (p = 0 ∨ K2 (p - 1) / 4294967296 ≠ K2 p / 4294967296) := by
                          refine .inr ?_; rw [hs, show s + 1 - 1 = s by omega, ← hs, ← HHH.out, ← HHQ.out]; exact fun e => hne e.symm
                        clear hz hs h0 hne
                        go_big_quiet (fail)
                        rename_i nq
                        obtain ⟨w2, hw2⟩ : ∃ x, x = w1.drewN nq := ⟨_, rfl⟩
                        rw [← hw2]
                        have HM2 : Hid (Al tag w F d ar nr cr rd tg w2 R8) := by rw [hw2]; exact HMA.out.drewN nq
                        have c15a : w2.cell? ⟨h15, 0, none⟩ = some (.int .i32 (hh : Int)) := by rw [hw2]; exact c15
                        clear hw2 f4 c15 ks
                        have HLT : Hid (∀ k, k < r → K2 (B k) / 4294967296 < K2 p / 4294967296) := HN.out.pos HU2.out hlt HDF.out
                        -- region 44
                        obtain ⟨g9, k9, x9, y9, t9, l9, q9, z9⟩ := (HM2.out.st.2.2 9 (by omega) (by omega)).at (by rw [HV.out.n9]; omega)
                        rw [HV.out.n9] at x9
                        have s9 : (R8 9).sz = 1 := (HM.out.zs 9).2
                        have b9 := q9 hh (by rw [HV.out.n9, s9]; omega)
                        have z9' := z9 hh
                        obtain ⟨a5', c5', h5', hc5', hm5', _⟩ := (HM2.out.st.2.2 5 (by omega) (by omega)).form
                        rw [HV.out.n5] at h5'
                        have f9 : w2.cell? ⟨F, 9, none⟩ = some (R8 9).v := HM2.out.st.2.1.cell 9 (by omega)
                        have f8 : w2.cell? ⟨F, 8, none⟩ = some (R8 5).v := HM2.out.st.2.1.cell 8 (by omega)
                        rw [x9] at f9
                        rw [h5'] at f8
                        have l9' : g9 < h15 := by
                          have hlt9 := (HM.out.st.2.2 9 (by omega) (by omega)).at (by rw [HV.out.n9]; omega)
                          obtain ⟨g9', k9', x9', _, _, l9', _, _⟩ := hlt9
                          rw [HV.out.n9, x9] at x9'
                          cases x9'
                          rw [HH15.out]; exact l9'
                        have M3 := HM2.out.upd 9 g9 k9 hh (by omega) (by omega) (by rw [HV.out.n9]; exact x9) (by rw [HV.out.n9, s9]; omega) (.int .i32 (r : Int))
                        have c15b : (w2.setCell ⟨g9, hh, none⟩ (.int .i32 (r : Int))).cell? ⟨h15, 0, none⟩ = some (.int .i32 (hh : Int)) := by
                          rw [World.cell?_of_block (w := w2) (Below.heap_setCell _ _ _ _ (by show h15 ≠ g9; omega))]; exact c15a
                        have n15 : ¬ g9 = h15 := by omega
                        have tF := HM2.out.st.1
                        have n9F : ¬ F = g9 := fun e => by rw [e, t9] at tF; omega
                        have HM3 : Hid _ := M3
                        have H8 : Hid ((R8 5).v = .slice a5' r c5') := h5'
                        clear q9 z9 M3 h5' tF
                        go_wp2_with fail
                        go_big_region
                        all_goals
                          obtain ⟨w3, hw3⟩ : ∃ x, x = (w2.setCell ⟨g9, hh, none⟩ (.int .i32 (r : Int))).drew := ⟨_, rfl⟩
                          rw [← hw3]
                          have HM3' : Hid (Al tag w F d ar nr cr rd tg w3 (put R8 9 { R8 9 with V := fun k => if k = hh then .int .i32 (r : Int) else (R8 9).V k })) := by rw [hw3]; exact HM3.out.drew
                          have c15c : w3.cell? ⟨h15, 0, none⟩ = some (.int .i32 (hh : Int)) := by rw [hw3]; exact c15b
                          clear hw3 HM3 c15b c15a b9 z9' f9 f8 n9F n15
                          -- region 45: append onto used
                          obtain ⟨a4', c4', h4'', hc4', hm4', _⟩ := (HM3'.out.st.2.2 4 (by omega) (by omega)).form
                          have h44 : (R8 4).v = .slice a4' r c4' := by rw [← HV.out.n4]; exact h4''
                          have f19 : w3.cell? ⟨F, 19, none⟩ = some (R8 4).v := HM3'.out.st.2.1.cell 19 (by omega)
                          rw [h44] at f19
                          have f19a : ∀ o : Obj, (w3.alloc o).cell? ⟨F, 19, none⟩ = some (.slice a4' r c4') := fun o => by
                            have h1 : (w3.alloc o).cell? ⟨F, 19, none⟩ = some (R8 4).v := (HM3'.out.alloc o).st.2.1.cell 19 (by omega)
                            rw [h44] at h1
                            exact h1
                          obtain ⟨g', c', w', tg', hrun, fz, fy, HM4⟩ := Al.app1 HM3'.out fk4 (by omega) (by omega) (by omega) 22 (.int .i64 0) 8 Try.underlying22 (by kernel_rfl) rfl (by decide) a4' r c4' h44 HV.out.n4 [.int .i64 (hh : Int)] rfl (by simp [Value.oneCell']) (by unfold maxLen; omega) (by omega) ((w3.alloc (.cells #[.int .i64 (hh : Int)] 3)).drew) rfl ⟨rfl, rfl, rfl⟩
                          have fz' : w'.cell? ⟨F, 19, none⟩ = some (.slice a4' r c4') := by rw [fz]; exact congrArg some h44
                          clear fz h4'' h44
                          go_wp2_with fail
                          go_big_region
                          all_goals
                            obtain ⟨w4, hw4⟩ : ∃ x, x = w'.setCell ⟨F, 19, none⟩ (.slice (some ⟨g', 0, none⟩) (r + 1) c') := ⟨_, rfl⟩
                            rw [← hw4]
                            rw [← hw4] at HM4
                            clear hw4 hrun fz' fy f19 f19a c15c
                            -- region 46: append onto runs
                            have f8 : w4.cell? ⟨F, 8, none⟩ = some (R8 5).v := HM4.out.st.2.1.cell 8 (by omega)
                            rw [H8.out] at f8
                            obtain ⟨g5, c5'', w5, tg5, hrun, fz, fy, HM5⟩ := Al.app1 HM4.out fk5 (by omega) (by omega) (by omega) 57 (.agg #[.int .i32 0, .int .i32 0, .int .i32 0, .int .i32 0, .int .i32 0]) 20 Try.underlying57 (by kernel_rfl) rfl (by decide) a5' r c5' H8.out HV.out.n5 [.int .i32 (p : Int), .int .i32 0, .int .i32 0, .int .i32 0, .int .i32 0] rfl (by simp [Value.oneCell']) (by unfold maxLen; omega) (by omega) (w4.alloc (.cells #[.int .i32 (p : Int), .int .i32 0, .int .i32 0, .int .i32 0, .int .i32 0] 79)) rfl ⟨rfl, rfl, rfl⟩
                            have fz' : w5.cell? ⟨F, 8, none⟩ = some (.slice a5' r c5') := by rw [fz]; exact congrArg some H8.out
                            clear fz
                            have f8b : (w5.setCell ⟨F, 8, none⟩ (.slice (some ⟨g5, 0, none⟩) (r + 1) c5'')).cell? ⟨F, 8, none⟩ = some (.slice (some ⟨g5, 0, none⟩) (r + 1) c5'') := HM5.out.st.2.1.cell 8 (by omega)
                            go_wp2_with fail
                            obtain ⟨w6, hw6⟩ : ∃ x, x = w5.setCell ⟨F, 8, none⟩ (.slice (some ⟨g5, 0, none⟩) (r + 1) c5'') := ⟨_, rfl⟩
                            rw [← hw6]
                            rw [← hw6] at HM5 f8b
                            clear hw6 hrun fz' fy f8
                            obtain ⟨R9, HR9⟩ : ∃ x, Hid (x = newR R8 r p hh (.slice (some ⟨g', 0, none⟩) (r + 1) c') (.slice (some ⟨g5, 0, none⟩) (r + 1) c5'')) := ⟨_, rfl⟩
                            have HM5' : Hid (Al tag w F d ar nr cr rd tg5 w6 R9) := by rw [HR9.out]; exact HM5.out
                            clear HM5
                            have h95 : (R9 5).v = .slice (some ⟨g5, 0, none⟩) (r + 1) c5'' ∧ (R9 5).n = r + 1 ∧ (R9 5).sz = 5 := by rw [HR9.out]; exact ⟨rfl, rfl, rfl⟩
                            have v95 : ∀ c, c < 5 → (R9 5).V (r * 5 + c) = [Value.int .i32 (p : Int), .int .i32 0, .int .i32 0, .int .i32 0, .int .i32 0].getD c (.bool false) := fun c hc => by
                              rw [HR9.out]
                              show (if r * 5 + c < r * 5 then _ else _) = _
                              rw [if_neg (by omega)]
                              show List.getD _ (r * 5 + c - r * 5) _ = _
                              rw [show r * 5 + c - r * 5 = c by omega]
                            obtain ⟨q5, z5, t5, l5⟩ := Rs.cells (HM5'.out.st.2.2 5 (by omega) (by omega)) (g := g5) (cap := c5'') (by rw [h95.2.1]; exact h95.1)
                            have b51 := q5 (r * 5 + 1) (by rw [h95.2.1, h95.2.2]; omega)
                            have b52 := q5 (r * 5 + 2) (by rw [h95.2.1, h95.2.2]; omega)
                            rw [v95 1 (by omega)] at b51
                            rw [v95 2 (by omega)] at b52
                            have b51' : w6.cell? ⟨g5, r * 5 + 1, none⟩ = some (.int .i32 0) := b51
                            have b52' : w6.cell? ⟨g5, r * 5 + 2, none⟩ = some (.int .i32 0) := b52
                            have z51 := z5 (r * 5 + 1)
                            have z52 := z5 (r * 5 + 2)
                            have HM6 : Hid (∀ q, Al tag w F d ar nr cr rd tg5 ((w6.drewN q).setCell ⟨g5, r * 5 + 1, none⟩ (.int .i32 1)) (put R9 5 { R9 5 with V := fun k => if k = r * 5 + 1 then .int .i32 1 else (R9 5).V k })) := fun q => (HM5'.out.drewN q).upd 5 g5 c5'' (r * 5 + 1) (by omega) (by omega) (by rw [h95.2.1]; exact h95.1) (by rw [h95.2.1, h95.2.2]; omega) (.int .i32 1)
                            have HM7 : Hid (∀ q, Al tag w F d ar nr cr rd tg5 (((w6.drewN q).setCell ⟨g5, r * 5 + 1, none⟩ (.int .i32 1)).setCell ⟨g5, r * 5 + 2, none⟩ (.int .i32 1)) (put (put R9 5 { R9 5 with V := fun k => if k = r * 5 + 1 then .int .i32 1 else (R9 5).V k }) 5 { R9 5 with V := fun k => if k = r * 5 + 2 then .int .i32 1 else if k = r * 5 + 1 then .int .i32 1 else (R9 5).V k })) := fun q => (HM6.out q).upd 5 g5 c5'' (r * 5 + 2) (by omega) (by omega) (by rw [put_same]; show (R9 5).v = .slice _ (R9 5).n c5''; rw [h95.2.1]; exact h95.1) (by rw [put_same]; show r * 5 + 2 < (R9 5).n * (R9 5).sz; rw [h95.2.1, h95.2.2]; omega) (.int .i32 1)
                            have HRV : Hid _ := Rv.newPut (R' := put (put R9 5 { R9 5 with V := fun k => if k = r * 5 + 1 then .int .i32 1 else (R9 5).V k }) 5 { R9 5 with V := fun k => if k = r * 5 + 2 then .int .i32 1 else if k = r * 5 + 1 then .int .i32 1 else (R9 5).V k }) HV.out HN.out HHH.out HLT.out HR9.out rfl rfl h95.2.1 (fun k => rfl)
                            have HRO : Hid (∀ t, t ≠ 4 → t ≠ 5 → t ≠ 9 → put (put R9 5 { R9 5 with V := fun k => if k = r * 5 + 1 then .int .i32 1 else (R9 5).V k }) 5 { R9 5 with V := fun k => if k = r * 5 + 2 then .int .i32 1 else if k = r * 5 + 1 then .int .i32 1 else (R9 5).V k } t = R7 t) := fun t h4 h5 h9 => by
                              rw [put_other _ _ _ _ h5, put_other _ _ _ _ h5, HR9.out, newR_other t h4 h5 h9]; exact HO8.out t h4 h5 h9
                            have HRN : Hid _ := HN.out.new HLT.out
                            clear q5 z5 b51 b52 v95 h95 HM6 HM5'
                            go_big_quiet (fail)
                            go_wp2_with fail
                            go_roundw
                            case rel => exact ⟨p + 1, r + 1, tg5, _, _, _, by go_num, by omega, by omega, HRO, HRN, HRV, HM7.out _⟩
                            case measure => simp [intOf]; omega
                  · have e0 : decide ((p : Int) < (m : Int)) = false := decide_eq_false (by omega)
                    have e0' : decide (p < m) = false := decide_eq_false hlt
                    obtain rfl : m = p := by omega
                    have e83 : R8 3 = R6 3 := by rw [HO8.out 3 (by omega) (by omega) (by omega), HO7.out 3 (by omega)]
                    have f4 : wr.cell? ⟨F, 4, none⟩ = some (R8 3).v := HM.out.st.2.1.cell 4 (by omega)
                    rw [e83, H63.out] at f4
                    obtain ⟨wd, HWD⟩ : ∃ wd : Nat, Hid (wd = (m + 63) / 64) := ⟨_, rfl⟩
                    have hwd : wd ≤ 4096 := by rw [HWD.out]; omega
                    have ew1 : ((m : Int) + 63) / 64 = (wd : Int) := by rw [HWD.out]; omega
                    have ew2 : Int.tdiv ((m : Int) + 63) 64 = (wd : Int) := by rw [← ew1]; exact Int.tdiv_eq_ediv_of_nonneg (by omega)
                    obtain ⟨a6, c6, h6, _, _, _⟩ := (HM.out.st.2.2 6 (by omega) (by omega)).form
                    have f13 : wr.cell? ⟨F, 13, none⟩ = some (R8 6).v := HM.out.st.2.1.cell 13 (by omega)
                    rw [h6] at f13
                    have HCG : Hid _ := HM.out.grow64 h6 rfl hwd
                    have H86 : Hid ((R8 6).v = .slice a6 (R8 6).n c6) := h6
                    clear h6 e83
                    go_wp2_with fail
                    refine Calls.mono HCG.out ?_
                    rintro e wg ⟨ag, cg, tgg, Vg, rfl, hgc, hgs, fg, yg, MG⟩
                    rw [H86.out] at fg
                    have hgc' : (wd : Int) ≤ (cg : Int) := by omega
                    have HMG : Hid _ := MG
                    obtain ⟨R9, HR9⟩ : ∃ x, Hid (x = put R8 6 ⟨eT 6, sT 6, .slice ag wd cg, wd, Vg⟩) := ⟨_, rfl⟩
                    rw [← HR9.out] at HMG
                    obtain ⟨W, Vc, hrun, hVc, MC⟩ := HMG.out.clr (a := ag) (n := wd) (c := cg) (by rw [HR9.out]; rfl) (by rw [HR9.out]; rfl) hgs
                    have fb : (wg.setCell ⟨F, 13, none⟩ (.slice ag wd cg)).cell? ⟨F, 13, none⟩ = some (.slice ag wd cg) := by
                      have := HMG.out.st.2.1.cell 13 (by omega)
                      rw [this, HR9.out]; rfl
                    have HMC : Hid _ := MC
                    obtain ⟨a7, c7, h7, _, _, _⟩ := (HMC.out.st.2.2 7 (by omega) (by omega)).form
                    have h7' : (R8 7).v = .slice a7 (R8 7).n c7 := by rw [HR9.out] at h7; exact h7
                    have f14 : W.cell? ⟨F, 14, none⟩ = some (R9 7).v := HMC.out.st.2.1.cell 14 (by omega)
                    rw [show R9 7 = R8 7 by rw [HR9.out]; rfl, h7'] at f14
                    have HCD : Hid _ := HMC.out.grow32 (n := nr) h7 rfl hnr
                    have HVC : Hid _ := hVc
                    clear MG MC hVc h7 hgs
                    go_wp2_with fail
                    refine Calls.mono HCD.out ?_
                    rintro e wh ⟨ah, ch, tgh, Vh, rfl, hhc, hhs, fh, yh, MH⟩
                    have fh' : wh.cell? ⟨F, 14, none⟩ = some (.slice a7 (R8 7).n c7) := by
                      rw [fh, show (put R9 6 { R9 6 with V := Vc } 7).v = (R9 7).v from rfl, show R9 7 = R8 7 by rw [HR9.out]; rfl, h7']
                    have hhc' : (nr : Int) ≤ (ch : Int) := by omega
                    have HMH : Hid _ := MH
                    clear fh MH
                    have fc : (wh.setCell ⟨F, 14, none⟩ (.slice ah nr ch)).cell? ⟨F, 14, none⟩ = some (.slice ah nr ch) := HMH.out.st.2.1.cell 14 (by omega)
                    go_wp2_with fail
                    obtain ⟨wH, hwH⟩ : ∃ x, x = wh.setCell ⟨F, 14, none⟩ (.slice ah nr ch) := ⟨_, rfl⟩
                    rw [← hwH]
                    rw [← hwH] at HMH
                    obtain ⟨RA, HRA⟩ : ∃ x, Hid (x = put (put R9 6 { R9 6 with V := Vc }) 7 ⟨eT 7, sT 7, .slice ah nr ch, nr, Vh⟩) := ⟨_, rfl⟩
                    rw [← HRA.out] at HMH
                    clear hwH fc fh' yh hrun fb fg yg f13 f4 f14
                    have HOA : Hid (∀ t, t ≠ 6 → t ≠ 7 → RA t = R8 t) := fun t h6 h7 => by rw [HRA.out, put_other _ _ _ _ h7, put_other _ _ _ _ h6, HR9.out, put_other _ _ _ _ h6]
                    have HA6 : Hid ((RA 6).n = wd ∧ ∀ j, j < wd → (RA 6).V j = .int .u64 0) := by
                      rw [HRA.out]
                      exact ⟨by show (R9 6).n = wd; rw [HR9.out]; rfl, HVC.out⟩
                    have HA7 : Hid ((RA 7).v = .slice ah nr ch ∧ (RA 7).n = nr) := by rw [HRA.out]; exact ⟨rfl, rfl⟩
                    clear HCG HCD HMC HMG
                    go_loopw [374] (fun v wr => ∃ (p : Nat) (RB : Nat → Res), v = .int .i64 p ∧ p ≤ nr ∧ Hid (∀ t, t ≠ 7 → RB t = RA t) ∧ Hid ((RB 7).v = .slice ah nr ch ∧ (RB 7).n = nr ∧ ∀ j, j < p → (RB 7).V j = .int .i32 (-1)) ∧ Hid (Al tag w F d ar nr cr rd tgh wr RB)) (fun v _ => nr - (intOf v).toNat)
                    case atStart => exact ⟨0, RA, rfl, Nat.zero_le _, fun _ _ => rfl, ⟨HA7.out.1, HA7.out.2, fun j hj => absurd hj (Nat.not_lt_zero _)⟩, HMH⟩
                    case round =>
                      clear HMH
                      obtain ⟨p, RB, rfl, hp, HOB, HB7, HMB⟩ := hrel
                      by_cases hlt : p < nr
                      · have e0 : decide ((p : Int) < (nr : Int)) = true := decide_eq_true (by omega)
                        have e0' : decide (p < nr) = true := decide_eq_true hlt
                        obtain ⟨g7, k7, x7, y7, t7, l7, q7, z7⟩ := (HMB.out.st.2.2 7 (by omega) (by omega)).at (by rw [HB7.out.2.1]; omega)
                        have s7 : (RB 7).sz = 1 := (HMB.out.zs 7).2
                        have b7 := q7 p (by rw [HB7.out.2.1, s7]; omega)
                        have z7' := z7 p
                        rw [HB7.out.2.1] at x7
                        have hah : ah = some ⟨g7, 0, none⟩ := by have := HB7.out.1.symm.trans x7; simp only [Value.slice.injEq] at this; exact this.1
                        have f14 : wr.cell? ⟨F, 14, none⟩ = some (RB 7).v := HMB.out.st.2.1.cell 14 (by omega)
                        rw [HB7.out.1] at f14
                        have HMB' : Hid _ := HMB.out.upd 7 g7 k7 p (by omega) (by omega) (by rw [HB7.out.2.1]; exact x7) (by rw [HB7.out.2.1, s7]; omega) (.int .i32 (-1))
                        clear q7 z7 x7
                        subst hah
                        go_wp2_with fail
                        go_roundw
                        case rel => exact ⟨p + 1, _, by go_num, by omega, fun t ht => (put_other _ _ _ _ ht).trans (HOB.out t ht), ⟨by rw [put_same]; exact HB7.out.1, by rw [put_same]; exact HB7.out.2.1, fun j hj => by
                            rw [put_same]
                            show (if j = p then Value.int .i32 (-1) else (RB 7).V j) = _
                            by_cases e : j = p
                            · rw [if_pos e]
                            · rw [if_neg e]; exact HB7.out.2.2 j (by omega)⟩, HMB'⟩
                        case measure => simp [intOf]; omega
                      · have e0 : decide ((p : Int) < (nr : Int)) = false := decide_eq_false (by omega)
                        have e0' : decide (p < nr) = false := decide_eq_false hlt
                        obtain rfl : nr = p := by omega
                        have HFIN : Hid (Fin tag w F d ar nr cr rd R u us ro wa xn tgh wr RB m r K2 B ro' ro2 wa') := by
                          have eB : ∀ t, t ≠ 6 → t ≠ 7 → RB t = R8 t := fun t h6 h7 => (HOB.out t h7).trans (HOA.out t h6 h7)
                          have e8 : ∀ t, t ≠ 2 → t ≠ 3 → t ≠ 4 → t ≠ 5 → t ≠ 6 → t ≠ 7 → t ≠ 8 → t ≠ 9 → RB t = R1 t := fun t h2 h3 h4 h5 h6 h7 h8 h9 => by
                            rw [eB t h6 h7, HO8.out t h4 h5 h9, HR1i.out t h2 h3 h5 h8, HR1.out, put_other _ _ _ _ h4]
                          have e10 := e8 10 (by omega) (by omega) (by omega) (by omega) (by omega) (by omega) (by omega) (by omega)
                          have e11 := e8 11 (by omega) (by omega) (by omega) (by omega) (by omega) (by omega) (by omega) (by omega)
                          have e2 : RB 2 = R5 2 := by rw [eB 2 (by omega) (by omega), HO8.out 2 (by omega) (by omega) (by omega), HO7.out 2 (by omega), HO6.out 2 (by omega)]
                          have e3 : RB 3 = R6 3 := by rw [eB 3 (by omega) (by omega), HO8.out 3 (by omega) (by omega) (by omega), HO7.out 3 (by omega)]
                          have e88 : RB 8 = R2 8 := by rw [eB 8 (by omega) (by omega), HO8.out 8 (by omega) (by omega) (by omega), HO7.out 8 (by omega), HO6.out 8 (by omega), HO5.out 8 (by omega) (by omega), HR3.out, put_other _ _ _ _ (by omega)]
                          have e6 : RB 6 = RA 6 := HOB.out 6 (by omega)
                          have e4 := eB 4 (by omega) (by omega)
                          have e5 := eB 5 (by omega) (by omega)
                          have e9 := eB 9 (by omega) (by omega)
                          have hv := HV.out
                          refine ⟨HMB.out, by omega, HKK.out, HU2.out, by rw [e2]; exact H52.out.2.1, by rw [e2]; exact H52.out.2.2, by rw [e3]; exact HR6.out.1, by rw [e3]; exact HR6.out.2, HN.out, ⟨by rw [e4]; exact hv.n4, by rw [e5]; exact hv.n5, by rw [e9]; exact hv.n9, by rw [e4]; exact hv.v4, by rw [e5]; exact hv.v5, by rw [e9]; exact hv.v9, hv.r1, hv.r2⟩, HC1.out, HC2.out, by rw [e10, HA.out.s10.2.2.2]; exact HP.out.n10, by rw [e10]; exact HA.out.v10, by rw [e11, HA.out.s11.2.2.2]; exact HP.out.n11, by rw [e11]; exact HA.out.v11, ?_, ?_, HB7.out.2.1, HB7.out.2.2, by rw [e88]; exact HE1.out, by rw [e88]; exact HE2.out⟩
                          · rw [e6, HA6.out.1, HWD.out]
                          · rw [e6, ← HWD.out]; exact HA6.out.2
                        go_wp2_with fail
                        go_end0
                        exact ⟨rfl, _, _, _, _, _, _, _, _, _, HFIN.out⟩
end Go.Proofs.Qxb6605223a
