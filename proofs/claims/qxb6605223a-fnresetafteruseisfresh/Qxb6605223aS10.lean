/-
  Seat b6605223a. WALK: slices.pdqsortOrdered[uint64] (29).
-/
import Derived.Test.Qxb6605223aS9
set_option linter.unusedVariables false
set_option linter.unusedSimpArgs false
namespace Go.Proofs.Qxb6605223a
open Go.RowKit

/-- Outside [a1, b1) all of [a, b) is settled. -/
def Out (D : Nat → Int) (a b a1 b1 : Nat) : Prop := ∀ x y, a ≤ x → x < y → y < b → (x < a1 ∨ b1 ≤ y) → D x ≤ D y

theorem Out.same {D D' : Nat → Int} {a b a1 b1 : Nat} (h : Out D a b a1 b1) (ha : a ≤ a1) (hb : b1 ≤ b) (hs : Same D D' a1 b1) : Out D' a b a1 b1 := by
  intro x y h1 h2 h3 h4
  by_cases hx : a1 ≤ x ∧ x < b1
  · obtain ⟨x', x1, x2, ex⟩ := hs.2.1 x hx.1 hx.2
    rw [ex, hs.out (i := y) (.inr (by omega))]
    exact h x' y (by omega) (by omega) h3 (.inr (by omega))
  · rw [hs.out (i := x) (by omega)]
    by_cases hy : a1 ≤ y ∧ y < b1
    · obtain ⟨y', y1, y2, ey⟩ := hs.2.1 y hy.1 hy.2
      rw [ey]
      exact h x y' h1 (by omega) (by omega) (.inl (by omega))
    · rw [hs.out (i := y) (by omega)]
      exact h x y h1 h2 h3 h4
theorem Out.fin {D : Nat → Int} {a b a1 b1 : Nat} (h : Out D a b a1 b1) (hs : Srt D a1 b1) : Srt D a b := by
  intro x y h1 h2 h3
  by_cases hx : x < a1 ∨ b1 ≤ y
  · exact h x y h1 h2 h3 hx
  · exact hs x y (by omega) h2 (by omega)
theorem Out.lo {D : Nat → Int} {a b a1 b1 : Nat} (h : Out D a b a1 b1) (hl : Lo D a b) (ha : a ≤ a1) (hb : b1 ≤ b) : Lo D a1 b1 := fun h0 i h1 h2 => by
  rcases Nat.lt_or_ge a a1 with h3 | h3
  · exact h (a1 - 1) i (by omega) (by omega) (by omega) (.inl (by omega))
  · obtain rfl : a = a1 := by omega
    exact hl h0 i h1 (by omega)
theorem Out.left {D D' : Nat → Int} {a b a1 b1 m : Nat} {P : Int} (h : Out D a b a1 b1) (ha : a ≤ a1) (hb : b1 ≤ b) (hm1 : a1 ≤ m) (hm2 : m < b1) (hp : PTd D a1 b1 m P) (hs : Same D D' a1 m) (hr : Srt D' a1 m) : Out D' a b (m + 1) b1 := by
  have hO := h.same ha hb (hs.mono (Nat.le_refl _) (by omega : m ≤ b1))
  have hlt : ∀ x, a1 ≤ x → x < m → D' x < P := hs.all (p := fun v => v < P) hp.2.1
  have hm : D' m = P := by rw [hs.out (i := m) (.inr (Nat.le_refl _))]; exact hp.1
  have hge : ∀ y, m < y → y < b1 → P ≤ D' y := fun y h1 h2 => by rw [hs.out (i := y) (.inr (by omega))]; exact hp.2.2 y h1 h2
  intro x y h1 h2 h3 h4
  by_cases hx : x < a1 ∨ b1 ≤ y
  · exact hO x y h1 h2 h3 hx
  · by_cases hym : y < m
    · exact hr x y (by omega) h2 hym
    · by_cases ey : y = m
      · have := hlt x (by omega) (by omega); rw [ey, hm]; omega
      · have h5 := hge y (by omega) (by omega)
        by_cases ex : x = m
        · rw [ex, hm]; exact h5
        · have := hlt x (by omega) (by omega); omega
theorem Out.right {D D' : Nat → Int} {a b a1 b1 m : Nat} {P : Int} (h : Out D a b a1 b1) (ha : a ≤ a1) (hb : b1 ≤ b) (hm1 : a1 ≤ m) (hm2 : m < b1) (hp : PTd D a1 b1 m P) (hs : Same D D' (m + 1) b1) (hr : Srt D' (m + 1) b1) : Out D' a b a1 m := by
  have hO := h.same ha hb (hs.mono (by omega : a1 ≤ m + 1) (Nat.le_refl _))
  have hge : ∀ y, m + 1 ≤ y → y < b1 → P ≤ D' y := hs.all (p := fun v => P ≤ v) (fun y h1 h2 => hp.2.2 y (by omega) h2)
  have hm : D' m = P := by rw [hs.out (i := m) (.inl (by omega))]; exact hp.1
  have hlt : ∀ x, a1 ≤ x → x < m → D' x < P := fun x h1 h2 => by rw [hs.out (i := x) (.inl (by omega))]; exact hp.2.1 x h1 h2
  intro x y h1 h2 h3 h4
  by_cases hx : x < a1 ∨ b1 ≤ y
  · exact hO x y h1 h2 h3 hx
  · by_cases hxm : m < x
    · exact hr x y (by omega) h2 (by omega)
    · by_cases ex : x = m
      · rw [ex, hm]; exact hge y (by omega) (by omega)
      · have h5 := hlt x (by omega) (by omega)
        by_cases ey : y = m
        · rw [ey, hm]; omega
        · have := hge y (by omega) (by omega); omega
theorem Out.eqs {D D' : Nat → Int} {a b a1 b1 m : Nat} {P : Int} (h : Out D a b a1 b1) (ha : a ≤ a1) (hb : b1 ≤ b) (hm1 : a1 < m) (hm2 : m ≤ b1) (h0 : 0 < a1) (hl : Lo D a1 b1) (hP : P ≤ D (a1 - 1)) (hs : Same D D' a1 b1)
    (h1 : ∀ x, a1 ≤ x → x < m → D' x ≤ P) (h2 : ∀ x, m ≤ x → x < b1 → P < D' x) : Out D' a b m b1 := by
  have hO := h.same ha hb hs
  have hge : ∀ x, a1 ≤ x → x < b1 → P ≤ D' x := hs.all (p := fun v => P ≤ v) (fun x h3 h4 => Int.le_trans hP (hl h0 x h3 h4))
  intro x y h3 h4 h5 h6
  by_cases hx : x < a1 ∨ b1 ≤ y
  · exact hO x y h3 h4 h5 hx
  · have e1 := h1 x (by omega) (by omega)
    have e2 := hge y (by omega) (by omega)
    omega

theorem Rw.below {w w' : World} {g n c : Nat} {D : Nat → Int} (h : Rw w g n c D) (hb : Below w.heap.size w w') : Rw w' g n c D := by
  have hl := h.lt
  obtain ⟨cur, h1, h2, h3, h4⟩ := h
  exact ⟨cur, by rw [hb.block g hl]; exact h1, h2, h3, h4⟩
theorem Fr.ofBelow {w w' : World} (g : Nat) (h : Below w.heap.size w w') : Fr g w w' := ⟨h.os, h.tape, h.output, h.size, fun k hk _ => h.block k hk⟩

/-- pdqsort on every range shorter than N. -/
def PDQ (N : Nat) : Prop := ∀ (g n c cp a b l : Nat) (D : Nat → Int) (w : World), Rw w g n c D → n ≤ 1048576 → b ≤ n → a ≤ b → b - a < N → l ≤ 64 → Lo D a b →
  Calls Try.prog 29 #[.slice (some ⟨g, 0, none⟩) n cp, .int .i64 a, .int .i64 b, .int .i64 l] w (SPost g n c D a b (fun D' => Srt D' a b) (.tuple #[]) w)

set_option maxRecDepth 100000 in
set_option maxHeartbeats 4000000 in
theorem pdq_step (N : Nat) (hN : PDQ N) : PDQ (N + 1) := by
  intro g n c cp a b l D w h hn hb hab hlen hl64 hlo
  have HN : Hid (∀ (g n c cp a b l : Nat) (D : Nat → Int) (w : World), Rw w g n c D → n ≤ 1048576 → b ≤ n → a ≤ b → b - a < N → l ≤ 64 → Lo D a b →
    Calls Try.prog 29 #[.slice (some ⟨g, 0, none⟩) n cp, .int .i64 a, .int .i64 b, .int .i64 l] w (SPost g n c D a b (fun D' => Srt D' a b) (.tuple #[]) w)) := hN
  have HD : Hid (Rw w g n c D) := h
  have HL : Hid (Lo D a b) := hlo
  clear h hlo hN
  go_enter Try.func29, Try.ntmps29
  go_wp2_with fail
  go_loopw [1, 2, 3, 8, 9] (fun v1 v2 v3 v8 v9 wr => ∃ (a1 b1 l1 : Nat) (f8 f9 : Bool) (D1 : Nat → Int), v1 = .int .i64 a1 ∧ v2 = .int .i64 b1 ∧ v3 = .int .i64 l1 ∧ v8 = .bool f8 ∧ v9 = .bool f9 ∧ a ≤ a1 ∧ a1 ≤ b1 ∧ b1 ≤ b ∧ l1 ≤ 64 ∧ Hid (Rw wr g n c D1) ∧ Hid (Same D D1 a b) ∧ Hid (Out D1 a b a1 b1) ∧ Hid (Fr g w wr)) (fun v1 v2 _ _ _ _ => (intOf v2).toNat - (intOf v1).toNat)
  case atStart => exact ⟨a, b, l, true, true, D, rfl, rfl, rfl, rfl, rfl, Nat.le_refl _, hab, Nat.le_refl _, hl64, HD, Same.refl _ _ _, fun x y h1 h2 h3 h4 => by omega, Fr.refl _ _⟩
  case round =>
    clear HD
    obtain ⟨a1, b1, l1, f8, f9, D1, rfl, rfl, rfl, rfl, rfl, haa, hab1, hbb, hl1, HR, HS, HO, HF⟩ := hrel
    obtain ⟨L, hL⟩ : ∃ L, b1 = a1 + L := ⟨b1 - a1, by omega⟩
    have e0 : (b1 : Int) - (a1 : Int) = (L : Int) := by omega
    have hL1 : a1 + L ≤ b1 := by omega
    have hL2 : b1 ≤ a1 + L := by omega
    clear hL
    by_cases h12 : L ≤ 12
    · have h12' : (L : Int) ≤ 12 := by omega
      have cI := insertion_any g n c cp a1 b1 D1 wr HR.out hn (by omega) hab1
      go_wp2_with fail
      refine cI.mono ?_
      rintro e w2 ⟨rfl, hf, D2, r1, r2, r3⟩
      have HE : Hid (Srt D2 a b) := (HO.out.same haa hbb r2).fin r3
      have HS2 : Hid (Same D D2 a b) := HS.out.trans (r2.mono haa hbb)
      have HR2 : Hid (Rw w2 g n c D2) := r1
      have HF2 : Hid (Fr g w w2) := HF.out.trans hf
      clear hf r1 r2 r3 cI
      go_wp2_with fail
      go_end0
      exact ⟨rfl, HF2.out, D2, HR2.out, HS2.out, HE.out⟩
    · have h12' : ¬ (L : Int) ≤ 12 := by omega
      by_cases hl0 : l1 = 0
      · subst hl0
        have cH := heap_any g n c cp a1 b1 D1 wr HR.out hn (by omega) (by omega)
        go_wp2_with fail
        refine cH.mono ?_
        rintro e w2 ⟨rfl, hf, D2, r1, r2, r3⟩
        have HE : Hid (Srt D2 a b) := (HO.out.same haa hbb r2).fin r3
        have HS2 : Hid (Same D D2 a b) := HS.out.trans (r2.mono haa hbb)
        have HR2 : Hid (Rw w2 g n c D2) := r1
        have HF2 : Hid (Fr g w w2) := HF.out.trans hf
        clear hf r1 r2 r3 cH
        go_wp2_with fail
        go_end0
        exact ⟨rfl, HF2.out, D2, HR2.out, HS2.out, HE.out⟩
      · obtain ⟨l2, hl2⟩ : ∃ l2, l1 = l2 + 1 := ⟨l1 - 1, by omega⟩
        subst hl2
        have el : ((l2 : Int) + 1 == 0) = false := by simpa using (fun e : (l2 : Int) + 1 = 0 => by omega)
        go_upto_if 35 with fail
        go_cut [3] from 19 to 133 (fun v3 wx => ∃ (l3 : Nat) (D2 : Nat → Int), v3 = .int .i64 l3 ∧ l3 ≤ 64 ∧ Hid (Rw wx g n c D2) ∧ Hid (Same D D2 a b) ∧ Hid (Out D2 a b a1 b1) ∧ Hid (Fr g w wx))
        case first =>
          cases f8 with
          | true =>
            go_wp2_with fail
            go_meet
            exact ⟨l2 + 1, D1, rfl, hl1, HR, HS, HO, HF⟩
          | false =>
            have cB := break_any g n c cp a1 b1 D1 wr HR.out hn (by omega) (by omega)
            go_wp2_with fail
            refine cB.mono ?_
            rintro e w2 ⟨rfl, hf, D2, r1, r2, r3⟩
            have HO2 : Hid (Out D2 a b a1 b1) := HO.out.same haa hbb r2
            have HS2 : Hid (Same D D2 a b) := HS.out.trans (r2.mono haa hbb)
            have HR2 : Hid (Rw w2 g n c D2) := r1
            have HF2 : Hid (Fr g w w2) := HF.out.trans hf
            clear hf r1 r2 r3 cB
            go_wp2_with fail
            go_meet
            exact ⟨l2, D2, by go_num, by omega, HR2, HS2, HO2, HF2⟩
        case rest =>
          clear HR HS HO HF
          obtain ⟨l3, D2, rfl, hl3, HR, HS, HO, HF⟩ := hcut
          have cP := pivot_any g n c cp a1 b1 D2 wc HR.out hn (by omega) (by omega)
          go_wp2_with fail
          refine cP.mono ?_
          rintro e w3 ⟨p, hh, rfl, hp1, hp2, hh2, hB⟩
          have HR3 : Hid (Rw w3 g n c D2) := HR.out.below hB
          have HF3 : Hid (Fr g w w3) := HF.out.trans (Fr.ofBelow g hB)
          clear hB cP HR HF
          go_upto_if 50 with fail
          go_cut [11, 12] from 19 to 133 (fun v11 v12 wx => ∃ (p hh : Nat) (D3 : Nat → Int), v11 = .int .i64 p ∧ v12 = .int .i64 hh ∧ a1 ≤ p ∧ p < b1 ∧ hh ≤ 2 ∧ Hid (Rw wx g n c D3) ∧ Hid (Same D D3 a b) ∧ Hid (Out D3 a b a1 b1) ∧ Hid (Fr g w wx))
          case first =>
            by_cases h2 : hh = 2
            · subst h2
              have cV := reverse_any g n c cp a1 b1 D2 w3 HR3.out hn (by omega) (by omega)
              obtain ⟨p', hp'⟩ : ∃ p', b1 + a1 = p + p' + 1 := ⟨b1 + a1 - p - 1, by omega⟩
              have ep : (b1 : Int) - 1 - ((p : Int) - (a1 : Int)) = (p' : Int) := by omega
              go_wp2_with fail
              refine cV.mono ?_
              rintro e w4 ⟨rfl, hf, D3, r1, r2, r3⟩
              have HO3 : Hid (Out D3 a b a1 b1) := HO.out.same haa hbb r2
              have HS3 : Hid (Same D D3 a b) := HS.out.trans (r2.mono haa hbb)
              have HR4 : Hid (Rw w4 g n c D3) := r1
              have HF4 : Hid (Fr g w w4) := HF3.out.trans hf
              clear hf r1 r2 r3 cV
              go_wp2_with fail
              go_meet
              exact ⟨p', 1, D3, rfl, rfl, by omega, by omega, by omega, HR4, HS3, HO3, HF4⟩
            · have eh : ((hh : Int) == 2) = false := by simpa using (fun e : (hh : Int) = 2 => h2 (by omega))
              go_wp2_with fail
              go_meet
              exact ⟨p, hh, D2, rfl, rfl, hp1, hp2, hh2, HR3, HS, HO, HF3⟩
          case rest =>
            clear HR3 HF3 HS HO hp1 hp2 hh2
            clear p hh D2
            obtain ⟨p, hh, D3, rfl, rfl, hp1, hp2, hh2, HR, HS, HO, HF⟩ := hcut
            obtain ⟨w5, hw5⟩ : ∃ x, x = wc := ⟨wc, rfl⟩
            subst hw5
            have HLo : Hid (Lo D3 a1 b1) := HO.out.lo (HL.out.same HS.out) haa hbb
            go_step
            go_step
            go_cut [11] from 19 to 133 (fun v11 wx => ∃ (D4 : Nat → Int), v11 = .int .i64 p ∧ Hid (Rw wx g n c D4) ∧ Hid (Same D D4 a b) ∧ Hid (Out D4 a b a1 b1) ∧ Hid (Fr g w wx))
            case first =>
              by_cases hgo : f8 = true ∧ f9 = true ∧ hh = 1
              · obtain ⟨rfl, rfl, rfl⟩ := hgo
                have cI := partial_any g n c cp a1 b1 D3 _ HR.out hn (by omega) (by omega) HLo.out
                go_wp2_with fail
                refine cI.mono ?_
                rintro e w6 ⟨f, rfl, hf, D4, r1, r2, r3⟩
                have HO4 : Hid (Out D4 a b a1 b1) := HO.out.same haa hbb r2
                have HS4 : Hid (Same D D4 a b) := HS.out.trans (r2.mono haa hbb)
                have HR4 : Hid (Rw w6 g n c D4) := r1
                have HF4 : Hid (Fr g w w6) := HF.out.trans hf
                cases f with
                | true =>
                  have HE : Hid (Srt D4 a b) := HO4.out.fin (r3 rfl)
                  clear hf r1 r2 r3 cI
                  go_wp2_with fail
                  go_end0
                  exact ⟨rfl, HF4.out, D4, HR4.out, HS4.out, HE.out⟩
                | false =>
                  clear hf r1 r2 r3 cI
                  go_wp2_with fail
                  go_meet
                  exact ⟨D4, rfl, HR4, HS4, HO4, HF4⟩
              · have hno : f8 = false ∨ (f8 = true ∧ f9 = false) ∨ (f8 = true ∧ f9 = true ∧ ((hh : Int) == 1) = false) := by
                  cases f8 with
                  | false => exact .inl rfl
                  | true =>
                    cases f9 with
                    | false => exact .inr (.inl ⟨rfl, rfl⟩)
                    | true => exact .inr (.inr ⟨rfl, rfl, by simpa using (fun e : (hh : Int) = 1 => hgo ⟨rfl, rfl, by omega⟩)⟩)
                clear hgo
                rcases hno with rfl | ⟨rfl, rfl⟩ | ⟨rfl, rfl, eh⟩
                all_goals
                  go_wp2_with fail
                  go_meet
                  exact ⟨D3, rfl, HR, HS, HO, HF⟩
            case rest =>
              clear HR HS HO HF HLo
              obtain ⟨D4, rfl, HR, HS, HO, HF⟩ := hcut
              obtain ⟨w7, hw7⟩ : ∃ x, x = wc := ⟨wc, rfl⟩
              subst hw7
              have HLo : Hid (Lo D4 a1 b1) := HO.out.lo (HL.out.same HS.out) haa hbb
              by_cases h0 : 0 < a1
              · obtain ⟨k, hk⟩ : ∃ k, a1 = k + 1 := ⟨a1 - 1, by omega⟩
                have ek : (a1 : Int) - 1 = (k : Int) := by omega
                have hk2 : Hid (a1 = k + 1) := hk
                have hk3 : k < n := by omega
                clear hk
                have ea : decide ((0 : Int) < (a1 : Int)) = true := decide_eq_true (by omega)
                have ea2 : decide (0 < a1) = true := decide_eq_true h0
                have gc1 := HR.out.cell k hk3
                have gc2 := HR.out.cell p (by omega)
                by_cases hl : D4 k < D4 p
                · have cl := less_t hl
                  clear hl
                  go_wp2_with fail
                  go_big_quiet (first | (go_at_call 37; exact Calls.quiet_of_same (cl _)) | fail)
                  obtain ⟨wz, hwwz⟩ : ∃ x, x = w7.drewN nq := ⟨_, rfl⟩
                  rw [← hwwz]
                  have HRwz : Hid (Rw wz g n c D4) := by show Rw ..; rw [hwwz]; exact HR.out
                  have HFwz : Hid (Fr g w wz) := by show Fr ..; rw [hwwz]; exact HF.out.drewN _
                  clear hwwz HR HF gc1 gc2 ea ea2
                  have cT := part_any g n c cp a1 b1 p D4 wz HRwz.out hn (by omega) hp1 hp2
                  go_wp2_with fail
                  refine cT.mono ?_
                  rintro e w8 ⟨m, f, rfl, hm1, hm2, hf, D5, r1, r2, r3⟩
                  have HO5 : Hid (Out D5 a b a1 b1) := HO.out.same haa hbb r2
                  have HS5 : Hid (Same D D5 a b) := HS.out.trans (r2.mono haa hbb)
                  have HR5 : Hid (Rw w8 g n c D5) := r1
                  have HF5 : Hid (Fr g w w8) := HFwz.out.trans hf
                  have HT5 : Hid (PTd D5 a1 b1 m (D4 p)) := r3
                  have HL5 : Hid (Lo D5 a1 b1) := HLo.out.same r2
                  clear hf r1 r2 r3 cT HRwz HFwz HO HS HLo
                  by_cases hlt : (m : Int) - (a1 : Int) < (b1 : Int) - (m : Int)
                  · have cQ := HN.out g n c cp a1 m l3 D5 w8 HR5.out hn (by omega) hm1 (by omega) hl3 (fun h0 i h1 h2 => HL5.out h0 i h1 (by omega))
                    go_wp2_with fail
                    refine cQ.mono ?_
                    rintro e w9 ⟨rfl, hf, D6, r1, r2, r3⟩
                    have HO6 : Hid (Out D6 a b (m + 1) b1) := HO5.out.left haa hbb hm1 hm2 HT5.out r2 r3
                    have HS6 : Hid (Same D D6 a b) := HS5.out.trans (r2.mono haa (by omega))
                    have HR6 : Hid (Rw w9 g n c D6) := r1
                    have HF6 : Hid (Fr g w w9) := HF5.out.trans hf
                    clear hf r1 r2 r3 cQ
                    go_wp2_with fail
                    go_roundw
                    case rel => exact ⟨m + 1, b1, l3, _, f, D6, by go_num, rfl, rfl, rfl, rfl, by omega, by omega, by omega, by omega, HR6, HS6, HO6, HF6⟩
                    case measure => simp [intOf]; omega
                  · have cQ := HN.out g n c cp (m + 1) b1 l3 D5 w8 HR5.out hn (by omega) (by omega) (by omega) hl3 (fun h0 i h1 h2 => by
                      have e1 := HT5.out.1
                      have e2 := HT5.out.2.2 i (by omega) h2
                      rw [show m + 1 - 1 = m by omega, e1]
                      exact e2)
                    rw [show ((m + 1 : Nat) : Int) = (m : Int) + 1 by omega] at cQ
                    go_wp2_with fail
                    refine cQ.mono ?_
                    rintro e w9 ⟨rfl, hf, D6, r1, r2, r3⟩
                    have HO6 : Hid (Out D6 a b a1 m) := HO5.out.right haa hbb hm1 hm2 HT5.out r2 r3
                    have HS6 : Hid (Same D D6 a b) := HS5.out.trans (r2.mono (by omega) hbb)
                    have HR6 : Hid (Rw w9 g n c D6) := r1
                    have HF6 : Hid (Fr g w w9) := HF5.out.trans hf
                    clear hf r1 r2 r3 cQ
                    go_wp2_with fail
                    go_roundw
                    case rel => exact ⟨a1, m, l3, _, f, D6, rfl, rfl, rfl, rfl, rfl, by omega, by omega, by omega, by omega, HR6, HS6, HO6, HF6⟩
                    case measure => simp [intOf]; omega
                · have cl := less_f hl
                  have HP : Hid (D4 p ≤ D4 (a1 - 1)) := by show _ ≤ _; rw [hk2.out, show k + 1 - 1 = k by omega]; omega
                  clear hl
                  go_wp2_with fail
                  go_big_quiet (first | (go_at_call 37; exact Calls.quiet_of_same (cl _)) | fail)
                  obtain ⟨wz, hwwz⟩ : ∃ x, x = w7.drewN nq := ⟨_, rfl⟩
                  rw [← hwwz]
                  have HRwz : Hid (Rw wz g n c D4) := by show Rw ..; rw [hwwz]; exact HR.out
                  have HFwz : Hid (Fr g w wz) := by show Fr ..; rw [hwwz]; exact HF.out.drewN _
                  clear hwwz HR HF gc1 gc2 ea ea2
                  have cE := partEq_any g n c cp a1 b1 p D4 wz HRwz.out hn (by omega) hp1 hp2
                  go_wp2_with fail
                  refine cE.mono ?_
                  rintro e w8 ⟨m, rfl, hm1, hm2, hf, D5, r1, r2, r3, r4⟩
                  have HO5 : Hid (Out D5 a b m b1) := HO.out.eqs haa hbb hm1 hm2 h0 HLo.out HP.out r2 r3 r4
                  have HS5 : Hid (Same D D5 a b) := HS.out.trans (r2.mono haa hbb)
                  have HR5 : Hid (Rw w8 g n c D5) := r1
                  have HF5 : Hid (Fr g w w8) := HFwz.out.trans hf
                  clear hf r1 r2 r3 r4 cE HRwz HFwz HO HS HLo HP
                  go_wp2_with fail
                  go_roundw
                  case rel => exact ⟨m, b1, l3, f8, f9, D5, rfl, rfl, rfl, rfl, rfl, by omega, by omega, by omega, by omega, HR5, HS5, HO5, HF5⟩
                  case measure => simp [intOf]; omega
              · have ea : decide ((0 : Int) < (a1 : Int)) = false := decide_eq_false (by omega)
                have ea2 : decide (0 < a1) = false := decide_eq_false h0
                go_wp2_with fail
                go_big_quiet (fail)
                obtain ⟨wz, hwwz⟩ : ∃ x, x = w7.drewN nq := ⟨_, rfl⟩
                rw [← hwwz]
                have HRwz : Hid (Rw wz g n c D4) := by show Rw ..; rw [hwwz]; exact HR.out
                have HFwz : Hid (Fr g w wz) := by show Fr ..; rw [hwwz]; exact HF.out.drewN _
                clear hwwz HR HF ea ea2
                have cT := part_any g n c cp a1 b1 p D4 wz HRwz.out hn (by omega) hp1 hp2
                go_wp2_with fail
                refine cT.mono ?_
                rintro e w8 ⟨m, f, rfl, hm1, hm2, hf, D5, r1, r2, r3⟩
                have HO5 : Hid (Out D5 a b a1 b1) := HO.out.same haa hbb r2
                have HS5 : Hid (Same D D5 a b) := HS.out.trans (r2.mono haa hbb)
                have HR5 : Hid (Rw w8 g n c D5) := r1
                have HF5 : Hid (Fr g w w8) := HFwz.out.trans hf
                have HT5 : Hid (PTd D5 a1 b1 m (D4 p)) := r3
                have HL5 : Hid (Lo D5 a1 b1) := HLo.out.same r2
                clear hf r1 r2 r3 cT HRwz HFwz HO HS HLo
                by_cases hlt : (m : Int) - (a1 : Int) < (b1 : Int) - (m : Int)
                · have cQ := HN.out g n c cp a1 m l3 D5 w8 HR5.out hn (by omega) hm1 (by omega) hl3 (fun h0 i h1 h2 => HL5.out h0 i h1 (by omega))
                  go_wp2_with fail
                  refine cQ.mono ?_
                  rintro e w9 ⟨rfl, hf, D6, r1, r2, r3⟩
                  have HO6 : Hid (Out D6 a b (m + 1) b1) := HO5.out.left haa hbb hm1 hm2 HT5.out r2 r3
                  have HS6 : Hid (Same D D6 a b) := HS5.out.trans (r2.mono haa (by omega))
                  have HR6 : Hid (Rw w9 g n c D6) := r1
                  have HF6 : Hid (Fr g w w9) := HF5.out.trans hf
                  clear hf r1 r2 r3 cQ
                  go_wp2_with fail
                  go_roundw
                  case rel => exact ⟨m + 1, b1, l3, _, f, D6, by go_num, rfl, rfl, rfl, rfl, by omega, by omega, by omega, by omega, HR6, HS6, HO6, HF6⟩
                  case measure => simp [intOf]; omega
                · have cQ := HN.out g n c cp (m + 1) b1 l3 D5 w8 HR5.out hn (by omega) (by omega) (by omega) hl3 (fun h0 i h1 h2 => by
                    have e1 := HT5.out.1
                    have e2 := HT5.out.2.2 i (by omega) h2
                    rw [show m + 1 - 1 = m by omega, e1]
                    exact e2)
                  rw [show ((m + 1 : Nat) : Int) = (m : Int) + 1 by omega] at cQ
                  go_wp2_with fail
                  refine cQ.mono ?_
                  rintro e w9 ⟨rfl, hf, D6, r1, r2, r3⟩
                  have HO6 : Hid (Out D6 a b a1 m) := HO5.out.right haa hbb hm1 hm2 HT5.out r2 r3
                  have HS6 : Hid (Same D D6 a b) := HS5.out.trans (r2.mono (by omega) hbb)
                  have HR6 : Hid (Rw w9 g n c D6) := r1
                  have HF6 : Hid (Fr g w w9) := HF5.out.trans hf
                  clear hf r1 r2 r3 cQ
                  go_wp2_with fail
                  go_roundw
                  case rel => exact ⟨a1, m, l3, _, f, D6, rfl, rfl, rfl, rfl, rfl, by omega, by omega, by omega, by omega, HR6, HS6, HO6, HF6⟩
                  case measure => simp [intOf]; omega

theorem pdq_all : ∀ N, PDQ N
  | 0 => fun g n c cp a b l D w h1 h2 h3 h4 h5 => absurd h5 (Nat.not_lt_zero _)
  | N + 1 => pdq_step N (pdq_all N)

/-- slices.Sort[[]uint64,uint64]. -/
theorem sort_any (g n c cp : Nat) (D : Nat → Int) (w : World) (h : Rw w g n c D) (hn : n ≤ 1048576) :
    Calls Try.prog 25 #[.slice (some ⟨g, 0, none⟩) n cp] w (SPost g n c D 0 n (fun D' => Srt D' 0 n) (.tuple #[]) w) := by
  have cL := fun w => len_any n (by omega) w
  have cQ := fun l hl => pdq_all (n + 1) g n c cp 0 n l D w h hn (Nat.le_refl _) (Nat.zero_le _) (by omega) hl (fun h0 => absurd h0 (Nat.lt_irrefl _))
  have HQ : Hid (∀ l : Nat, l ≤ 64 → Calls Try.prog 29 #[.slice (some ⟨g, 0, none⟩) n cp, .int .i64 0, .int .i64 n, .int .i64 l] w (SPost g n c D 0 n (fun D' => Srt D' 0 n) (.tuple #[]) w)) := cQ
  clear cQ h
  go_enter Try.func25, Try.ntmps25
  go_wp2_with fail
  refine (cL w).mono ?_
  rintro e w2 ⟨⟨l, hl, rfl⟩, hw2⟩
  obtain rfl := hw2.symm
  go_wp2_with fail
  refine (HQ.out l hl).mono ?_
  rintro e w3 ⟨rfl, hf, D2, r1, r2, r3⟩
  have H : Hid (Fr g w w3 ∧ ∃ D', Rw w3 g n c D' ∧ Same D D' 0 n ∧ Srt D' 0 n) := ⟨hf, D2, r1, r2, r3⟩
  clear hf r1 r2 r3
  go_wp2_with fail
  go_end0
  exact ⟨rfl, H.out⟩
end Go.Proofs.Qxb6605223a
