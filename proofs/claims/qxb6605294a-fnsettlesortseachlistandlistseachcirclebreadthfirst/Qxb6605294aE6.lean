/-
  Seat b6605294a. WALK: breadthFirstFromLeast (21).
-/
import Derived.Test.Qxb6605294aE5
set_option linter.unusedVariables false
set_option linter.unusedSimpArgs false
namespace Go.Proofs.Qxb6605294a
open Go.RowKit

/-- finder and rank in memory. -/
def FR (w : World) (gF gR m : Nat) (FI RK : Nat → Int) : Prop := Bk w gF 3 m (fun j => .int .i64 (FI j)) ∧ Bk w gR 3 m (fun j => .int .i64 (RK j))
theorem FR.below {w w' : World} {gF gR m : Nat} {FI RK : Nat → Int} (h : FR w gF gR m FI RK) (hb : Below w.heap.size w w') : FR w' gF gR m FI RK := ⟨h.1.sameBlock (hb.block _ h.1.lt), h.2.sameBlock (hb.block _ h.2.lt)⟩
theorem Bk.setI {w : World} {g N : Nat} {V : Nat → Int} (h : Bk w g 3 N (fun j => .int .i64 (V j))) (i : Nat) (hi : i < N) (u : Int) : Bk (w.setCell ⟨g, i, none⟩ (.int .i64 u)) g 3 N (fun j => .int .i64 (if j = i then u else V j)) :=
  (h.set i hi _).congr (fun k hk => by by_cases e : k = i <;> simp [e])

set_option maxRecDepth 100000 in
set_option maxHeartbeats 16000000 in
theorem bff_any {w : World} {B lo hi F n : Nat} {PE : Nat → Int} {N : Nat → Nat → Nat} {Z : Nat → Nat → Nat → Int} {kl : Int → Nat → List Int} {b : Bf} {gM : Nat} {f : Int → Option Value} {gk : Nat → Nat} {A : Nat → Nat → Option Addr} {gC : Nat} {vo : Value} {PS : Nat → Int} {cc pos : Nat → Nat}
    (hS : Sr w B lo hi F n PE N Z kl b gM f gk A gC vo) (hI : Inp n PE N Z kl PS) (pl : Pl n PE kl b.done cc pos) (ci m : Nat) (l : List Int) (hl : b.done[ci]? = some l) (hm : l.length = m) (hm' : m ≤ 1048576) (hci : ci ≤ 1048576) (ac : Option Addr) (cap : Nat) (hc : RdI .i64 w ac m (fun j => l.getD j 0))
    (gI qI : Nat) (fi : Int → Option Value) (hMi : Mi w gI fi qI) (hfi : ∀ j, j < n → fi (PE j) = some (.int .i64 (j : Int))) (gA gP : Nat) (CA PC : Nat → Int) (hA : Bk w gA 3 n (fun j => .int .i64 (CA j))) (hP : Bk w gP 3 n (fun j => .int .i64 (PC j)))
    (hCA : ∀ j, j < n → cc j = ci → CA j = (ci : Int)) (hPC : ∀ j, j < n → cc j = ci → PC j = (pos j : Int)) :
    Calls Try.prog 21 #[.pointer (some ⟨F, 0, none⟩), .slice ac m cap, .int .i64 (ci : Int), .map (some gI), .slice (some ⟨gA, 0, none⟩) n n, .slice (some ⟨gP, 0, none⟩) n n] w (fun e w' => e = .returned (.bool true) ∧ Below w.heap.size w w') := by
  have hn : n ≤ 1048576 := hI.hn
  have HS := hide hS
  have HI := hide hI
  have PLx := hide pl
  have HL := hide hl
  have HLM := hide hm
  have HC := hide hc
  have HMi := hide hMi
  have HFI := hide hfi
  have HA := hide hA
  have HP := hide hP
  have HCA := hide hCA
  have HPC := hide hPC
  have HCI := hide (pl.ci ci l hl)
  obtain ⟨Fd, Rk, ho⟩ := HCI.out.ord
  have HO : Hid (OrdOk kl l Fd Rk) := ho
  have hm0 : 0 < m := by rw [← hm]; exact HCI.out.pos
  clear hS hI pl hl hm hc hMi hfi hA hP hCA hPC ho
  obtain ⟨X, hX, hmk⟩ := run_mk1 (P := Try.prog) 22 3 _ _ Try.underlying22 Try.info3 m (by omega) (by omega)
  have HXG : Hid (X.size = m ∧ ∀ i, i < m → X.getD i (.bool false) = .int .i64 0) := by
    refine ⟨by rw [hX]; exact size_made1 _ _, fun i hi => ?_⟩
    rw [Array.getD_eq_getD_getElem?, hX, made1 _ rfl m i hi]
    rfl
  clear hX
  go_enter Try.func21, Try.ntmps21
  go_wp2_with fail
  obtain ⟨w2, HW2⟩ : ∃ x, Hid (x = (w.alloc (.cells X 3)).alloc (.cells X 3)) := ⟨_, rfl⟩
  rw [← HW2.out]
  have hwa : (w.alloc (.cells X 3)).heap.size = w.heap.size + 1 := by simp
  obtain ⟨gF, HGF⟩ : ∃ x, Hid (x = w.heap.size) := ⟨_, rfl⟩
  obtain ⟨gR, HGR⟩ : ∃ x, Hid (x = w.heap.size + 1) := ⟨_, rfl⟩
  rw [← HGR.out, ← HGF.out]
  have hgF : w.heap.size ≤ gF := Nat.le_of_eq HGF.out.symm
  have hgFR : gF < gR := by rw [HGF.out, HGR.out]; omega
  have HFR0 : Hid (FR w2 gF gR m (fun _ => 0) (fun _ => 0)) := by
    refine ⟨?_, ?_⟩
    · rw [HW2.out, HGF.out, ← HXG.out.1]
      exact ((Bk.new w X 3).alloc _).congr (fun i hi => (HXG.out.2 i (by rw [← HXG.out.1]; exact hi)).symm)
    · have h1 := Bk.new (w.alloc (.cells X 3)) X 3
      rw [hwa] at h1
      rw [HW2.out, HGR.out, ← HXG.out.1]
      exact h1.congr (fun i hi => (HXG.out.2 i (by rw [← HXG.out.1]; exact hi)).symm)
  have HB0 : Hid (Below w.heap.size w w2) := by
    show Below _ _ _
    rw [HW2.out]
    exact ((Below.refl _ w).alloc (Nat.le_refl _) _).alloc (by rw [hwa]; omega) _
  clear HW2 hwa hmk HXG HGF HGR
  go_loopw [16] (fun v wr => ∃ (i : Nat) (FI : Nat → Int), v = .int .i64 i ∧ i ≤ m ∧ Hid (FR wr gF gR m FI (fun _ => 0)) ∧ Hid (∀ j, j < i → FI j = -1) ∧ Hid (Below w.heap.size w wr)) (fun v _ => m - (intOf v).toNat)
  case atStart => exact ⟨0, _, rfl, Nat.zero_le _, HFR0, fun j hj => absurd hj (Nat.not_lt_zero _), HB0⟩
  case round =>
    clear HFR0 HB0
    obtain ⟨i, FI, rfl, hi, HFR, HF1, HB⟩ := hrel
    by_cases hlt : i < m
    · have e0 : decide ((i : Int) < (m : Int)) = true := decide_eq_true (by omega)
      have e0' : decide (i < m) = true := decide_eq_true hlt
      have k0 : wr.cell? ⟨gF, i, none⟩ = some (.int .i64 (FI i)) := HFR.out.1.cell i hlt
      have f0 : wr.frozen? ⟨gF, i, none⟩ = false := HFR.out.1.frozen i
      have HFR' : Hid (FR (wr.setCell ⟨gF, i, none⟩ (.int .i64 (-1))) gF gR m (fun j => if j = i then -1 else FI j) (fun _ => 0)) := ⟨HFR.out.1.setI i hlt (-1), HFR.out.2.other _ (by show gR ≠ gF; omega) _⟩
      have HF1' : Hid (∀ j, j < i + 1 → (if j = i then (-1 : Int) else FI j) = -1) := fun j hj => by
        by_cases e : j = i
        · rw [if_pos e]
        · rw [if_neg e]; exact HF1.out j (by omega)
      have HB' : Hid (Below w.heap.size w (wr.setCell ⟨gF, i, none⟩ (.int .i64 (-1)))) := HB.out.setCell hgF _
      go_wp2_with fail
      go_roundw
      case rel => exact ⟨i + 1, _, by go_num, by omega, HFR', HF1', HB'⟩
      case measure => simp [intOf]; omega
    · have e0 : decide ((i : Int) < (m : Int)) = false := decide_eq_false (by omega)
      have e0' : decide (i < m) = false := decide_eq_false hlt
      go_wp2_with fail
      have HFS0 : Hid (FS l Fd Rk FI (fun _ => 0) 0 0) := FS.start (fun j hj => HF1.out j (by rw [HLM.out] at hj; omega))
      obtain ⟨w3, rfl⟩ : ∃ x, x = wr := ⟨wr, rfl⟩
      clear HF1 hi hlt e0 e0'
      go_loopw [17] (fun v wr => ∃ (i : Nat) (FI RK : Nat → Int), v = .int .i64 i ∧ i ≤ m ∧ Hid (FR wr gF gR m FI RK) ∧ Hid (FS l Fd Rk FI RK i 0) ∧ Hid (Below w.heap.size w wr)) (fun v _ => m - (intOf v).toNat)
      case atStart => exact ⟨0, FI, _, rfl, Nat.zero_le _, HFR, HFS0, HB⟩
      case round =>
        clear HFR HFS0 HB
        obtain ⟨i, FI, RK, rfl, hi, HFR, HFS, HB⟩ := hrel
        by_cases hlt : i < m
        · as_aux_lemma =>
            have e0 : decide ((i : Int) < (m : Int)) = true := decide_eq_true (by omega)
            have e0' : decide (i < m) = true := decide_eq_true hlt
            obtain ⟨p, HPd⟩ : ∃ x, Hid (x = l.getD i 0) := ⟨_, rfl⟩
            have HGET : Hid (l[i]? = some p) := by
              have h1 : i < l.length := by rw [HLM.out]; exact hlt
              show l[i]? = some p
              rw [HPd.out, List.getD_eq_getElem?_getD, List.getElem?_eq_getElem h1]
              rfl
            obtain ⟨xc, hxc, kc0⟩ := (HC.out.below HB.out).cell i hlt
            have kc : wr.cell? (xc.add i) = some (.int .i64 p) := by rw [HPd.out]; exact kc0
            clear kc0
            obtain ⟨jp, hjp, ejp, ecp, _⟩ := PLx.out.inv ci i l p HL.out HGET.out
            obtain ⟨g, a, M, N', V, q1, q2, q3, q4, q5⟩ := HS.out.kx.look p ⟨jp, hjp, ejp⟩
            have HV := hide q5
            have hFs := HS.out.ff.lt
            obtain ⟨a0, Ha0⟩ : ∃ x, Hid (x = a 0) := ⟨_, rfl⟩
            obtain ⟨M0, HM0⟩ : ∃ x, Hid (x = M 0) := ⟨_, rfl⟩
            obtain ⟨N0, HN0⟩ : ∃ x, Hid (x = N' 0) := ⟨_, rfl⟩
            obtain ⟨a1, Ha1⟩ : ∃ x, Hid (x = a 1) := ⟨_, rfl⟩
            obtain ⟨M1, HM1⟩ : ∃ x, Hid (x = M 1) := ⟨_, rfl⟩
            obtain ⟨N1, HN1⟩ : ∃ x, Hid (x = N' 1) := ⟨_, rfl⟩
            obtain ⟨a2, Ha2⟩ : ∃ x, Hid (x = a 2) := ⟨_, rfl⟩
            obtain ⟨M2, HM2⟩ : ∃ x, Hid (x = M 2) := ⟨_, rfl⟩
            obtain ⟨N2, HN2⟩ : ∃ x, Hid (x = N' 2) := ⟨_, rfl⟩
            obtain ⟨a3, Ha3⟩ : ∃ x, Hid (x = a 3) := ⟨_, rfl⟩
            obtain ⟨M3, HM3⟩ : ∃ x, Hid (x = M 3) := ⟨_, rfl⟩
            obtain ⟨N3, HN3⟩ : ∃ x, Hid (x = N' 3) := ⟨_, rfl⟩
            have K15 : Hid (Calls Try.prog 15 #[.pointer (some ⟨F, 0, none⟩), .int .i64 p] wr (fun e w' => e = .returned (.tuple #[.slice a0 M0 N0, .slice a1 M1 N1, .slice a2 M2 N2, .slice a3 M3 N3, .bool true]) ∧ Below wr.heap.size wr w')) := by
              rw [Ha0.out, HM0.out, HN0.out, Ha1.out, HM1.out, HN1.out, Ha2.out, HM2.out, HN2.out, Ha3.out, HM3.out, HN3.out]
              exact (kin_any F gM n g vo (.map (some gC)) f _ p wr (HS.out.ff.sameBlock (HB.out.block F hFs)) (HS.out.mp.alloc (HB.out.block gM HS.out.mp.lt)) q1 (q2.sameBlock (HB.out.block g q2.lt)))
            clear q1 q2 q3 q4 q5 ejp ecp
            subst hxc
            go_wp2_with fail
            refine Calls.mono K15.out ?_
            rintro e wk ⟨rfl, hb⟩
            have HFR := hide (HFR.out.below hb)
            have HB := hide (HB.out.trans (hb.mono HB.out.size))
            clear hb K15
            go_wp2_with fail
            obtain ⟨w5, HW5⟩ : ∃ x, Hid (x = wk.alloc (.cells #[.slice a0 M0 N0, .slice a1 M1 N1, .slice a2 M2 N2, .slice a3 M3 N3] 35)) := ⟨_, rfl⟩
            rw [← HW5.out]
            obtain ⟨h4, HH4⟩ : ∃ x, Hid (x = wk.heap.size) := ⟨_, rfl⟩
            rw [← HH4.out]
            have hgh : gR < h4 := by rw [HH4.out]; exact HFR.out.2.lt
            have HFR5 : Hid (FR w5 gF gR m FI RK) := by rw [HW5.out]; exact ⟨HFR.out.1.alloc _, HFR.out.2.alloc _⟩
            have HB5 : Hid (Below w.heap.size w w5) := by rw [HW5.out]; exact HB.out.alloc HB.out.size _
            have HB4 : Hid (Bk w5 h4 35 4 (fun k => .slice (a k) (M k) (N' k))) := by
              show Bk _ _ _ _ _
              rw [HW5.out, HH4.out]
              refine (Bk.new wk _ 35).congr (fun k hk => ?_)
              have hk : k < 4 := hk
              have : k = 0 ∨ k = 1 ∨ k = 2 ∨ k = 3 := by omega
              rcases this with rfl | rfl | rfl | rfl
              · show Value.slice (a 0) (M 0) (N' 0) = .slice a0 M0 N0
                rw [Ha0.out, HM0.out, HN0.out]
              · show Value.slice (a 1) (M 1) (N' 1) = .slice a1 M1 N1
                rw [Ha1.out, HM1.out, HN1.out]
              · show Value.slice (a 2) (M 2) (N' 2) = .slice a2 M2 N2
                rw [Ha2.out, HM2.out, HN2.out]
              · show Value.slice (a 3) (M 3) (N' 3) = .slice a3 M3 N3
                rw [Ha3.out, HM3.out, HN3.out]
            clear HW5 HH4 HFR HB
            obtain ⟨wB, rfl⟩ : ∃ x, x = wr := ⟨wr, rfl⟩
            go_loopw [24, 25] (fun vr v wr => ∃ (k r : Nat) (FI RK : Nat → Int), vr = .int .i64 r ∧ v = .int .i64 k ∧ k ≤ 4 ∧ Hid (r = off kl p k) ∧ r ≤ 1048576 * k ∧ Hid (FR wr gF gR m FI RK) ∧ Hid (FS l Fd Rk FI RK i r) ∧ Hid (Bk wr h4 35 4 (fun k => .slice (a k) (M k) (N' k))) ∧ Hid (Below w.heap.size w wr)) (fun _ v _ => 4 - (intOf v).toNat)
            case atStart => exact ⟨0, 0, FI, RK, rfl, rfl, by omega, rfl, by omega, HFR5, HFS, HB4, HB5⟩
            case round =>
              clear HFR5 HFS HB4 HB5
              obtain ⟨k, r, FI, RK, rfl, rfl, hk4, HRO, hr1, HFR, HFS, HB4, HB⟩ := hrel
              by_cases hlk : k < 4
              · have e1 : decide ((k : Int) < 4) = true := decide_eq_true (by omega)
                have e1' : decide (k < 4) = true := decide_eq_true hlk
                have hki : (k : Int) < 4 := by omega
                have k4 : wr.cell? ⟨h4, k, none⟩ = some (.slice (a k) (M k) (N' k)) := HB4.out.cell k hlk
                obtain ⟨hrd, hkl, hMk, _⟩ := HV.out k hlk
                obtain ⟨ak, HAK⟩ : ∃ x, Hid (x = a k) := ⟨_, rfl⟩
                obtain ⟨mk, HMK⟩ : ∃ x, Hid (x = M k) := ⟨_, rfl⟩
                obtain ⟨nk, HNK⟩ : ∃ x, Hid (x = N' k) := ⟨_, rfl⟩
                rw [← HAK.out, ← HMK.out, ← HNK.out] at k4
                rw [← HAK.out, ← HMK.out] at hrd
                rw [← HMK.out] at hkl hMk
                have HRD := hide hrd
                have HKL := hide hkl
                clear hrd hkl
                go_wp2_with fail
                obtain ⟨wD, rfl⟩ : ∃ x, x = wr := ⟨wr, rfl⟩
                go_loopw [24, 78] (fun vr v wr => ∃ (t r : Nat) (FI RK : Nat → Int), vr = .int .i64 r ∧ v = .int .i64 t ∧ t ≤ mk ∧ Hid (r = off kl p k + t) ∧ r ≤ 1048576 * k + t ∧ Hid (FR wr gF gR m FI RK) ∧ Hid (FS l Fd Rk FI RK i r) ∧ Hid (Bk wr h4 35 4 (fun k => .slice (a k) (M k) (N' k))) ∧ Hid (Below w.heap.size w wr)) (fun _ v _ => mk - (intOf v).toNat)
                case atStart => exact ⟨0, r, FI, RK, rfl, rfl, Nat.zero_le _, HRO, by omega, HFR, HFS, HB4, HB⟩
                case round =>
                  clear HFR HFS HB4 HB HRO hr1 k4
                  obtain ⟨t, r, FI, RK, rfl, rfl, htm, HRO, hr1, HFR, HFS, HB4, HB⟩ := hrel
                  by_cases hlt4 : t < mk
                  · have e2 : decide ((t : Int) < (mk : Int)) = true := decide_eq_true (by omega)
                    have e2' : decide (t < mk) = true := decide_eq_true hlt4
                    obtain ⟨x, hx, kx⟩ := (HRD.out.below HB.out).cell t hlt4
                    obtain ⟨u, HUU⟩ : ∃ u, Hid (u = V k t) := ⟨_, rfl⟩
                    rw [← HUU.out] at kx
                    have hlen : (kl p k).length = mk := by rw [← HKL.out, ofN_length]
                    have HXE : Hid ((Fl kl (l.getD i 0))[r]? = some u) := by
                      show (Fl kl (l.getD i 0))[r]? = some u
                      rw [← HPd.out, HRO.out, Fl_get kl p k t hlk (by omega), ← HKL.out, ofN_get? _ _ _ hlt4, HUU.out]
                    have hul : u ∈ l := PLx.out.closed ci l HL.out p (List.mem_of_getElem? HGET.out) u (by
                      have := List.mem_of_getElem? HXE.out
                      rw [← HPd.out] at this
                      exact this)
                    obtain ⟨y, hy⟩ := List.mem_iff_getElem?.1 hul
                    obtain ⟨jx, hjx, ejx, ecx, epx⟩ := PLx.out.inv ci y l u HL.out hy
                    have HYL := hide hy
                    have hym : y < m := by rw [← HLM.out]; exact lt_of_get? hy
                    have hlk1 := (HMi.out.alloc (HB.out.block gI HMi.out.lt)).look (P := Try.prog) Try.underlying34 Try.underlying3 Try.zeroValue3 u true
                    rw [← ejx, HFI.out jx hjx, ejx] at hlk1
                    have hlk2 : (Instr.lookup 34 (.map (some gI)) (.int .i64 u) true).run Try.prog wr = .ok (.tuple #[.int .i64 (jx : Int), .bool true]) wr := hlk1
                    clear hlk1
                    have kA : wr.cell? ⟨gA, jx, none⟩ = some (.int .i64 (ci : Int)) := by
                      have := (HA.out.sameBlock (HB.out.block gA HA.out.lt)).cell jx hjx
                      rw [HCA.out jx hjx ecx] at this
                      exact this
                    have kP : wr.cell? ⟨gP, jx, none⟩ = some (.int .i64 (y : Int)) := by
                      have := (HP.out.sameBlock (HB.out.block gP HP.out.lt)).cell jx hjx
                      rw [HPC.out jx hjx ecx, epx] at this
                      exact this
                    have eci : ((ci : Int) == (ci : Int)) = true := by simp
                    obtain ⟨z, HZ⟩ : ∃ z, Hid (z = FI y) := ⟨_, rfl⟩
                    have kz : wr.cell? ⟨gF, y, none⟩ = some (.int .i64 z) := by rw [HZ.out]; exact HFR.out.1.cell y hym
                    clear hul hy ejx ecx epx hlen
                    subst hx
                    have hro : r + 1 ≤ 1048576 * k + (t + 1) := by omega
                    by_cases hiy : i < y
                    · have e3 : decide ((i : Int) < (y : Int)) = true := decide_eq_true (by omega)
                      have e3' : decide (i < y) = true := decide_eq_true hiy
                      by_cases hz0 : z < 0
                      · have e4 : decide (z < 0) = true := decide_eq_true hz0
                        have f0 : wr.frozen? ⟨gF, y, none⟩ = false := HFR.out.1.frozen y
                        have HFS' := hide (HFS.out.put HO.out HCI.out.nd HXE.out HYL.out hiy (by rw [← HZ.out]; omega))
                        have h1 := HFR.out.1.setI y hym (i : Int)
                        have h2 := HFR.out.2.other ⟨gF, y, none⟩ (by show gR ≠ gF; omega) (.int .i64 (i : Int))
                        have kr : (wr.setCell ⟨gF, y, none⟩ (.int .i64 (i : Int))).cell? ⟨gR, y, none⟩ = some (.int .i64 (RK y)) := h2.cell y hym
                        have fr : (wr.setCell ⟨gF, y, none⟩ (.int .i64 (i : Int))).frozen? ⟨gR, y, none⟩ = false := h2.frozen y
                        have HFR' : Hid (FR ((wr.setCell ⟨gF, y, none⟩ (.int .i64 (i : Int))).setCell ⟨gR, y, none⟩ (.int .i64 (r : Int))) gF gR m (fun q => if q = y then (i : Int) else FI q) (fun q => if q = y then (r : Int) else RK q)) := ⟨h1.other _ (by show gF ≠ gR; omega) _, h2.setI y hym (r : Int)⟩
                        have HB4' : Hid (Bk ((wr.setCell ⟨gF, y, none⟩ (.int .i64 (i : Int))).setCell ⟨gR, y, none⟩ (.int .i64 (r : Int))) h4 35 4 (fun k => .slice (a k) (M k) (N' k))) := (HB4.out.other _ (by show h4 ≠ gF; omega) _).other _ (by show h4 ≠ gR; omega) _
                        have HB' : Hid (Below w.heap.size w ((wr.setCell ⟨gF, y, none⟩ (.int .i64 (i : Int))).setCell ⟨gR, y, none⟩ (.int .i64 (r : Int)))) := (HB.out.setCell hgF _).setCell (by show w.heap.size ≤ gR; omega) _
                        clear h1 h2
                        go_wp2_with fail
                        go_roundw
                        case rel => exact ⟨t + 1, r + 1, _, _, by go_num, by go_num, by omega, by show _ = _; rw [HRO.out]; omega, hro, HFR', HFS', HB4', HB'⟩
                        case measure => simp [intOf]; omega
                      · have e4 : decide (z < 0) = false := decide_eq_false hz0
                        have HFS' := hide (HFS.out.skip HO.out HCI.out.nd HXE.out HYL.out (.inr (by rw [← HZ.out]; omega)))
                        go_wp2_with fail
                        go_roundw
                        case rel => exact ⟨t + 1, r + 1, _, _, by go_num, by go_num, by omega, by show _ = _; rw [HRO.out]; omega, hro, HFR, HFS', HB4, HB⟩
                        case measure => simp [intOf]; omega
                    · have e3 : decide ((i : Int) < (y : Int)) = false := decide_eq_false (by omega)
                      have e3' : decide (i < y) = false := decide_eq_false hiy
                      have HFS' := hide (HFS.out.skip HO.out HCI.out.nd HXE.out HYL.out (.inl (by omega)))
                      go_wp2_with fail
                      go_roundw
                      case rel => exact ⟨t + 1, r + 1, _, _, by go_num, by go_num, by omega, by show _ = _; rw [HRO.out]; omega, hro, HFR, HFS', HB4, HB⟩
                      case measure => simp [intOf]; omega
                  · have e2 : decide ((t : Int) < (mk : Int)) = false := decide_eq_false (by omega)
                    have e2' : decide (t < mk) = false := decide_eq_false hlt4
                    have HRO' : Hid (r = off kl p (k + 1)) := by
                      show r = off kl p k + (kl p k).length
                      rw [HRO.out, ← HKL.out, ofN_length]
                      omega
                    go_wp2_with fail
                    go_roundw
                    case rel => exact ⟨k + 1, r, FI, RK, rfl, by go_num, by omega, HRO', by omega, HFR, HFS, HB4, HB⟩
                    case measure => simp [intOf]; omega
              · have e1 : decide ((k : Int) < 4) = false := decide_eq_false (by omega)
                have e1' : decide (k < 4) = false := decide_eq_false hlk
                have HFS' : Hid (FS l Fd Rk FI RK (i + 1) 0) := by
                  refine HFS.out.next HO.out ?_
                  have hk : k = 4 := by omega
                  rw [← HPd.out, ← off_four, HRO.out, hk]
                  exact Nat.le_refl _
                go_wp2_with fail
                go_roundw
                case rel => exact ⟨i + 1, FI, RK, by go_num, by omega, HFR, HFS', HB⟩
                case measure => simp [intOf]; omega
        · as_aux_lemma =>
            have e0 : decide ((i : Int) < (m : Int)) = false := decide_eq_false (by omega)
            have e0' : decide (i < m) = false := decide_eq_false hlt
            have HFIN : Hid (∀ j, 1 ≤ j → j < m → FI j = (Fd j : Int) ∧ RK j = (Rk j : Int)) := fun j h1 h2 => by
              have h3 : j < l.length := by rw [HLM.out]; exact h2
              refine (HFS.out j h3).1 h1 (.inl ?_)
              have := (HO.out j h1 h3).1
              omega
            go_wp2_with fail
            obtain ⟨wE, rfl⟩ : ∃ x, x = wr := ⟨wr, rfl⟩
            clear hlt e0 e0' HFS hi
            go_loopw [31] (fun v wr => ∃ (j : Nat), v = .int .i64 (j : Int) ∧ 1 ≤ j ∧ j ≤ m ∧ Hid (FR wr gF gR m FI RK) ∧ Hid (Below w.heap.size w wr)) (fun v _ => m - (intOf v).toNat)
            case atStart => exact ⟨1, rfl, Nat.le_refl _, hm0, HFR, HB⟩
            case round =>
              clear HFR HB
              obtain ⟨j, rfl, hj1, hjm, HFR, HB⟩ := hrel
              by_cases hlt : j < m
              · have e0 : decide ((j : Int) < (m : Int)) = true := decide_eq_true (by omega)
                have e0' : decide (j < m) = true := decide_eq_true hlt
                obtain ⟨fj, HFJ⟩ : ∃ x, Hid (x = Fd j) := ⟨_, rfl⟩
                obtain ⟨rj, HRJ⟩ : ∃ x, Hid (x = Rk j) := ⟨_, rfl⟩
                have kf : wr.cell? ⟨gF, j, none⟩ = some (.int .i64 (fj : Int)) := by rw [HFJ.out, ← (HFIN.out j hj1 hlt).1]; exact HFR.out.1.cell j hlt
                have kr : wr.cell? ⟨gR, j, none⟩ = some (.int .i64 (rj : Int)) := by rw [HRJ.out, ← (HFIN.out j hj1 hlt).2]; exact HFR.out.2.cell j hlt
                have e1 : decide ((fj : Int) < 0) = false := decide_eq_false (by omega)
                by_cases hj2 : 1 < j
                · have e2 : decide ((1 : Int) < (j : Int)) = true := decide_eq_true (by omega)
                  obtain ⟨j', HJ'⟩ : ∃ x, Hid (j = x + 1) := ⟨j - 1, by show j = j - 1 + 1; omega⟩
                  have hj'm : j' < m := by have := HJ'.out; omega
                  have hj'1 : 1 ≤ j' := by have := HJ'.out; omega
                  have ej : (j : Int) - 1 = (j' : Int) := by have := HJ'.out; omega
                  obtain ⟨fp, HFP⟩ : ∃ x, Hid (x = Fd j') := ⟨_, rfl⟩
                  obtain ⟨rp, HRP⟩ : ∃ x, Hid (x = Rk j') := ⟨_, rfl⟩
                  have kf' : wr.cell? ⟨gF, j', none⟩ = some (.int .i64 (fp : Int)) := by rw [HFP.out, ← (HFIN.out j' hj'1 hj'm).1]; exact HFR.out.1.cell j' hj'm
                  have kr' : wr.cell? ⟨gR, j', none⟩ = some (.int .i64 (rp : Int)) := by rw [HRP.out, ← (HFIN.out j' hj'1 hj'm).2]; exact HFR.out.2.cell j' hj'm
                  have hlx : fp < fj ∨ (fp = fj ∧ rp < rj) := by
                    have := (HO.out j hj1 (by rw [HLM.out]; exact hlt)).2.2.2 hj2
                    have e : j - 1 = j' := by have := HJ'.out; omega
                    rw [e, ← HFP.out, ← HRP.out, ← HFJ.out, ← HRJ.out] at this
                    exact this
                  have HBd : Hid (∀ q, Below w.heap.size w (wr.drewN q)) := fun q => below_drewN HB.out q
                  rcases hlx with hlx | ⟨hlx, hlr⟩
                  · have e3 : decide ((fj : Int) < (fp : Int)) = false := decide_eq_false (by omega)
                    have e4 : ((fp : Int) == (fj : Int)) = false := by simp; omega
                    have e3' : decide (fj < fp) = false := decide_eq_false (by omega)
                    have e4' : (fp == fj) = false := by simp; omega
                    go_wp2_with fail
                    go_big_quiet (fail)
                    go_wp2_with fail
                    go_roundw
                    case rel => exact ⟨j + 1, by go_num, by omega, by omega, HFR.out, HBd.out _⟩
                    case measure => simp [intOf]; omega
                  · have e3 : decide ((fj : Int) < (fp : Int)) = false := decide_eq_false (by omega)
                    have e4 : ((fp : Int) == (fj : Int)) = true := by simp; omega
                    have e5 : decide ((rj : Int) ≤ (rp : Int)) = false := decide_eq_false (by omega)
                    have e3' : decide (fj < fp) = false := decide_eq_false (by omega)
                    have e4' : (fp == fj) = true := by simp; omega
                    have e5' : decide (rj ≤ rp) = false := decide_eq_false (by omega)
                    clear hlx
                    go_wp2_with fail
                    go_big_quiet (fail)
                    go_wp2_with fail
                    go_roundw
                    case rel => exact ⟨j + 1, by go_num, by omega, by omega, HFR.out, HBd.out _⟩
                    case measure => simp [intOf]; omega
                · have e2 : decide ((1 : Int) < (j : Int)) = false := decide_eq_false (by omega)
                  have HBd : Hid (∀ q, Below w.heap.size w (wr.drewN q)) := fun q => below_drewN HB.out q
                  go_wp2_with fail
                  go_big_quiet (fail)
                  go_wp2_with fail
                  go_roundw
                  case rel => exact ⟨j + 1, by go_num, by omega, by omega, HFR.out, HBd.out _⟩
                  case measure => simp [intOf]; omega
              · have e0 : decide ((j : Int) < (m : Int)) = false := decide_eq_false (by omega)
                have e0' : decide (j < m) = false := decide_eq_false hlt
                go_wp2_with fail
                go_ret
                exact ⟨rfl, HB.out⟩
end Go.Proofs.Qxb6605294a
