/-
  Seat b6605207a. WALKS: validItems (28), given validValue at later places.
-/
import Derived.Test.Qxb6605207aW6
import Derived.Test.Qxb6605207aPlainC
import Derived.Test.Qxb6605207aW2
import Derived.Test.Qxb6605207aW3
import Derived.Deep.DeepCutAuto
import Derived.Deep.CutBlock
set_option linter.unusedVariables false
namespace Go.Proofs.Qxb6605207a
open Go.RowKit

def VPost (R : Option Nat) (Q : Nat → Option Nat) (i n : Nat) (w : World) (e : Ending) (w' : World) : Prop :=
  Below w.heap.size w w' ∧ ((∃ q : Nat, e = .returned (.tuple #[.int .i64 q, .bool true]) ∧ i < q ∧ q ≤ n ∧ R = Q q) ∨ (e = .returned (.tuple #[.int .i64 0, .bool false]) ∧ R = none))
theorem vYes {R : Option Nat} {Q : Nat → Option Nat} {i n q : Nat} {w w' : World} (hb : Below w.heap.size w w') (h1 : i < q) (h2 : q ≤ n) (h : R = Q q) : VPost R Q i n w (.returned (.tuple #[.int .i64 (q : Int), .bool true])) w' := ⟨hb, .inl ⟨q, rfl, h1, h2, h⟩⟩
theorem vNo {R : Option Nat} {Q : Nat → Option Nat} {i n : Nat} {w w' : World} (hb : Below w.heap.size w w') (h : R = none) : VPost R Q i n w (.returned (.tuple #[.int .i64 0, .bool false])) w' := ⟨hb, .inr ⟨rfl, h⟩⟩

/-- validValue at place i does what the machine does. -/
def VOK (T : Nat → Int) (b n : Nat) (d0 : Int) (i : Nat) : Prop := ∀ (S : List Bool) (d : Int) (w : World), S ≠ [] → d = d0 + S.length → d ≤ 10001 → i ≤ n → sp T n i = i → Txt w b T n →
  Calls Try.prog 34 #[.slice (some ⟨b, 0, none⟩) n n, .int .i64 i, .int .i64 d] w (VPost (run T n d0 S 3 i) (fun q => run T n d0 S 4 q) i n w)
/-- validItems at place i does what the machine does. -/
def IOK (T : Nat → Int) (b n : Nat) (d0 : Int) (i : Nat) : Prop := ∀ (S : List Bool) (d : Int) (w : World), d = d0 + S.length → i < n → T i = 123 ∨ T i = 91 → Txt w b T n →
  Calls Try.prog 28 #[.slice (some ⟨b, 0, none⟩) n n, .int .i64 i, .int .i64 d] w (VPost (if 10000 < d then none else run T n d0 (decide (T i = 123) :: S) 0 (i + 1)) (shut T n d0 S) i n w)

/-- The calls of one round's tail: white space, whatever the world. -/
def SPOK (T : Nat → Int) (b n : Nat) : Prop := ∀ (p : Nat) (w : World), Txt w b T n → p ≤ n → Calls Try.prog 33 #[.slice (some ⟨b, 0, none⟩) n n, .int .i64 p] w fun e w' => e = .returned (.int .i64 (sp T n p)) ∧ w' = w
def STOK (T : Nat → Int) (b n : Nat) : Prop := ∀ (p : Nat) (w : World), Txt w b T n → p < n → Calls Try.prog 25 #[.slice (some ⟨b, 0, none⟩) n n, .int .i64 p] w (StrPost (sm T n 0 (p + 1)) w)
def VLATER (T : Nat → Int) (b n : Nat) (d0 : Int) (i : Nat) : Prop := ∀ j, i < j → VOK T b n d0 j

/-- The reader's place in the machine. -/
def Spot (T : Nat → Int) (n : Nat) (d0 : Int) (R : Option Nat) (S : List Bool) (st p : Nat) : Prop := sp T n p = p ∧ R = run T n d0 S st p

theorem cast1 (p : Nat) : ((p + 1 : Nat) : Int) = (p : Int) + 1 := by omega

set_option maxRecDepth 100000 in
set_option maxHeartbeats 2000000 in
theorem arr_any (T : Nat → Int) (b n : Nat) (d0 d : Int) (i : Nat) (S : List Bool) (w : World) (hn : n ≤ 1048576) (hSP : SPOK T b n) (hST : STOK T b n) (hV : VLATER T b n d0 i) (hd : Hid (d = d0 + S.length)) (hd1 : d ≤ 10000) (hd2 : -9223372036854775808 ≤ d)
    (hi : i < n) (h91 : T i = 91) (h : Txt w b T n) :
    Calls Try.prog 28 #[.slice (some ⟨b, 0, none⟩) n n, .int .i64 i, .int .i64 d] w (VPost (run T n d0 (false :: S) 0 (i + 1)) (shut T n d0 S) i n w) := by
  have hci := h.2 i hi
  have b1 : (T i == 123) = false := by simp [h91]
  have HX : Hid (Txt w b T n) := h
  obtain ⟨R, hR⟩ : ∃ R, R = run T n d0 (false :: S) 0 (i + 1) := ⟨_, rfl⟩
  rw [← hR]
  have HR : Hid (R = run T n d0 (false :: S) 0 (i + 1)) := hR
  have c1 := hSP (i + 1) w h (by omega)
  rw [cast1] at c1
  have hq1 := sp_ge T n (i + 1)
  have hq2 := sp_le T n (i + 1) (by omega)
  obtain ⟨q, hq⟩ : ∃ q, q = sp T n (i + 1) := ⟨_, rfl⟩
  rw [← hq] at c1 hq1 hq2
  have hs : sp T n q = q := by rw [hq]; exact sp_idem T n _
  have HQ : Hid (q = sp T n (i + 1)) := hq
  have HB0 : Hid (Below w.heap.size w w) := Below.refl _ _
  clear h hR hq h91
  by_cases hc : q < n ∧ T q = 93
  · obtain ⟨hqn, hc⟩ := hc
    have H : Hid (R = shut T n d0 S (q + 1)) := by
      show _ = _
      rw [HR.out, HQ.out]
      exact run_close T n d0 false S 0 (i + 1) (.inl rfl) (by rw [← HQ.out]; exact hqn) (by rw [← HQ.out, hc]; rfl)
    have hcq := HX.out.2 q hqn
    have b2 : (T q == 93) = true := by simp [hc]
    clear hc hs hSP hST
    go_enter Try.func28, Try.ntmps28
    go_wp2_with (go_at_call 33; refine c1.mono ?_; rintro e w' ⟨rfl, rfl⟩)
    go_ret2
    rw [← cast1]
    exact vYes HB0.out (by omega) (by omega) H.out
  · have H : Hid (Spot T n d0 R (false :: S) 3 q) := by
      refine ⟨hs, ?_⟩
      rw [HR.out, open_sp T n d0 false S (i + 1) q HQ.out (fun h1 h2 => hc ⟨h1, h2⟩)]
      rfl
    have hw : ¬ q < n ∨ (q < n ∧ (T q == 93) = false ∧ w.cell? ⟨b, q, none⟩ = some (.int .u8 (T q))) := by
      rcases Nat.lt_or_ge q n with h1 | h1
      · exact .inr ⟨h1, by simpa using fun e => hc ⟨h1, e⟩, HX.out.2 q h1⟩
      · exact .inl (by omega)
    clear hc hs HR HQ
    have HSP : Hid (SPOK T b n) := hSP
    have HST : Hid (STOK T b n) := hST
    have HV : Hid (VLATER T b n d0 i) := hV
    clear hSP hST hV
    go_enter Try.func28, Try.ntmps28
    rcases hw with h1 | ⟨h1, h2, h3⟩
    all_goals
      go_wp2_with (go_at_call 33; refine c1.mono ?_; rintro e w' ⟨rfl, rfl⟩)
      go_loopw [1] (fun v wr => ∃ p : Nat, i < p ∧ p ≤ n ∧ v = .int .i64 p ∧ Hid (Spot T n d0 R (false :: S) 3 p) ∧ Hid (Below w'.heap.size w' wr)) (fun v _ => n - (intOf v).toNat)
      case atStart => exact ⟨q, by omega, by omega, rfl, H, HB0⟩
      case round =>
        clear H HB0 c1
        obtain ⟨p, hip, hp, rfl, H, HB⟩ := hrel
        have HXr : Hid (Txt wr b T n) := HX.out.below HB.out
        have H3 := H
        clear H
        have HVc := HV.out p (by omega) (false :: S) (d + 1) wr (by simp) (by rw [hd.out]; simp; omega) (by omega) (by omega) H3.out.1 HXr.out
        go_wp2_with fail
        refine HVc.mono ?_
        rintro e w2 ⟨hB2, hE⟩
        have HB2 : Hid (Below wr.heap.size wr w2) := hB2
        have HB3 : Hid (Below w'.heap.size w' w2) := HB.out.trans (HB2.out.mono HB.out.size)
        clear hB2
        rcases hE with ⟨en, rfl, he1, he2, he3⟩ | ⟨rfl, he⟩
        · have HXs : Hid (Txt w2 b T n) := HX.out.below HB3.out
          have c2 := HSP.out en w2 HXs.out he2
          have hr1 := sp_ge T n en
          have hr2 := sp_le T n en he2
          obtain ⟨r, hr⟩ : ∃ r, r = sp T n en := ⟨_, rfl⟩
          rw [← hr] at c2 hr1 hr2
          have HR4 : Hid (R = run T n d0 (false :: S) 4 en) := H3.out.2.trans he3
          have Hr : Hid (r = sp T n en) := hr
          clear hr he3 H3 HVc
          by_cases hrn : r < n
          · have hcr := HXs.out.2 r hrn
            by_cases hcl : T r = 93
            · have HF : Hid (R = shut T n d0 S (r + 1)) := by
                show _ = _
                rw [HR4.out, Hr.out]
                exact run_close T n d0 false S 4 en (.inr rfl) (by rw [← Hr.out]; exact hrn) (by rw [← Hr.out, hcl]; rfl)
              have b3 : (T r == 93) = true := by simp [hcl]
              clear hcl
              go_wp2_with (go_at_call 33; refine c2.mono ?_; rintro e w3 ⟨rfl, hw3⟩; obtain rfl := hw3.symm)
              go_ret2
              rw [← cast1]
              exact vYes HB3.out (by omega) (by omega) HF.out
            · have b3 : (T r == 93) = false := by simp [hcl]
              by_cases h44 : T r = 44
              · have b4 : (T r != 44) = false := by simp [h44]
                have c3 := HSP.out (r + 1) w2 HXs.out (by omega)
                rw [cast1] at c3
                have hs1 := sp_ge T n (r + 1)
                have hs2 := sp_le T n (r + 1) (by omega)
                obtain ⟨s, hs⟩ : ∃ s, s = sp T n (r + 1) := ⟨_, rfl⟩
                have HF : Hid (Spot T n d0 R (false :: S) 3 s) := by
                  refine ⟨by rw [hs]; exact sp_idem T n _, ?_⟩
                  rw [HR4.out, comma_ok T n d0 false S en r s Hr.out hs hrn h44]
                  rfl
                rw [← hs] at c3 hs1 hs2
                clear hs hcl h44 HR4 Hr
                go_wp2_with fail
                refine c2.mono ?_
                rintro e w3 ⟨rfl, hw3⟩
                obtain rfl := hw3.symm
                go_wp2_with fail
                refine c3.mono ?_
                rintro e w3 ⟨rfl, hw3⟩
                obtain rfl := hw3.symm
                go_wp2_with fail
                go_roundw
                case rel => exact ⟨s, by omega, by omega, rfl, HF, HB3⟩
                case measure => simp [intOf]; omega
              · have b4 : (T r != 44) = true := by simp [h44]
                have HF : Hid (R = none) := by
                  show _ = _
                  rw [HR4.out]
                  exact run_nocomma T n d0 false S en (by rw [← Hr.out]; exact hrn) (by rw [← Hr.out]; exact hcl) (by rw [← Hr.out]; exact h44)
                clear hcl h44 HR4 Hr
                go_wp2_with (go_at_call 33; refine c2.mono ?_; rintro e w3 ⟨rfl, hw3⟩; obtain rfl := hw3.symm)
                go_ret2
                exact vNo HB3.out HF.out
          · have HF : Hid (R = none) := by
              show _ = _
              rw [HR4.out]
              exact run_out T n d0 _ 4 en (by rw [← Hr.out]; omega)
            clear HR4 Hr
            go_wp2_with (go_at_call 33; refine c2.mono ?_; rintro e w3 ⟨rfl, hw3⟩; obtain rfl := hw3.symm)
            go_ret2
            exact vNo HB3.out HF.out
        · have HF : Hid (R = none) := H3.out.2.trans he
          clear he H3
          go_wp2_with fail
          go_ret2
          exact vNo HB3.out HF.out

set_option maxRecDepth 100000 in
set_option maxHeartbeats 2000000 in
theorem obj_any (T : Nat → Int) (b n : Nat) (d0 d : Int) (i : Nat) (S : List Bool) (w : World) (hn : n ≤ 1048576) (hSP : SPOK T b n) (hST : STOK T b n) (hV : VLATER T b n d0 i) (hd : Hid (d = d0 + S.length)) (hd1 : d ≤ 10000) (hd2 : -9223372036854775808 ≤ d)
    (hi : i < n) (h91 : T i = 123) (h : Txt w b T n) :
    Calls Try.prog 28 #[.slice (some ⟨b, 0, none⟩) n n, .int .i64 i, .int .i64 d] w (VPost (run T n d0 (true :: S) 0 (i + 1)) (shut T n d0 S) i n w) := by
  have hci := h.2 i hi
  have b1 : (T i == 123) = true := by simp [h91]
  have HX : Hid (Txt w b T n) := h
  obtain ⟨R, hR⟩ : ∃ R, R = run T n d0 (true :: S) 0 (i + 1) := ⟨_, rfl⟩
  rw [← hR]
  have HR : Hid (R = run T n d0 (true :: S) 0 (i + 1)) := hR
  have c1 := hSP (i + 1) w h (by omega)
  rw [cast1] at c1
  have hq1 := sp_ge T n (i + 1)
  have hq2 := sp_le T n (i + 1) (by omega)
  obtain ⟨q, hq⟩ : ∃ q, q = sp T n (i + 1) := ⟨_, rfl⟩
  rw [← hq] at c1 hq1 hq2
  have hs : sp T n q = q := by rw [hq]; exact sp_idem T n _
  have HQ : Hid (q = sp T n (i + 1)) := hq
  have HB0 : Hid (Below w.heap.size w w) := Below.refl _ _
  clear h hR hq h91
  by_cases hc : q < n ∧ T q = 125
  · obtain ⟨hqn, hc⟩ := hc
    have H : Hid (R = shut T n d0 S (q + 1)) := by
      show _ = _
      rw [HR.out, HQ.out]
      exact run_close T n d0 true S 0 (i + 1) (.inl rfl) (by rw [← HQ.out]; exact hqn) (by rw [← HQ.out, hc]; rfl)
    have hcq := HX.out.2 q hqn
    have b2 : (T q == 125) = true := by simp [hc]
    clear hc hs hSP hST
    go_enter Try.func28, Try.ntmps28
    go_wp2_with (go_at_call 33; refine c1.mono ?_; rintro e w' ⟨rfl, rfl⟩)
    go_ret2
    rw [← cast1]
    exact vYes HB0.out (by omega) (by omega) H.out
  · have H : Hid (Spot T n d0 R (true :: S) 1 q) := by
      refine ⟨hs, ?_⟩
      rw [HR.out, open_sp T n d0 true S (i + 1) q HQ.out (fun h1 h2 => hc ⟨h1, h2⟩)]
      rfl
    have hw : ¬ q < n ∨ (q < n ∧ (T q == 125) = false ∧ w.cell? ⟨b, q, none⟩ = some (.int .u8 (T q))) := by
      rcases Nat.lt_or_ge q n with h1 | h1
      · exact .inr ⟨h1, by simpa using fun e => hc ⟨h1, e⟩, HX.out.2 q h1⟩
      · exact .inl (by omega)
    clear hc hs HR HQ
    have HSP : Hid (SPOK T b n) := hSP
    have HST : Hid (STOK T b n) := hST
    have HV : Hid (VLATER T b n d0 i) := hV
    clear hSP hST hV
    go_enter Try.func28, Try.ntmps28
    rcases hw with h1 | ⟨h1, h2, h3⟩
    all_goals
      go_wp2_with (go_at_call 33; refine c1.mono ?_; rintro e w' ⟨rfl, rfl⟩)
      go_loopw [1] (fun v wr => ∃ p : Nat, i < p ∧ p ≤ n ∧ v = .int .i64 p ∧ Hid (Spot T n d0 R (true :: S) 1 p) ∧ Hid (Below w'.heap.size w' wr)) (fun v _ => n - (intOf v).toNat)
      case atStart => exact ⟨q, by omega, by omega, rfl, H, HB0⟩
      case round =>
        clear H HB0 c1
        obtain ⟨p, hip, hp, rfl, H, HB⟩ := hrel
        have HXr : Hid (Txt wr b T n) := HX.out.below HB.out
        by_cases hk : p < n ∧ T p = 34
        · obtain ⟨hpn, h34⟩ := hk
          have hcp := HXr.out.2 p hpn
          have b5 : (T p != 34) = false := by simp [h34]
          have cS := HST.out p wr HXr.out hpn
          have H34 : Hid (T p = 34) := h34
          clear h34
          go_wp2_with fail
          refine cS.mono ?_
          rintro e w3 ⟨hw3, hE⟩
          obtain rfl := hw3.symm
          clear cS
          rcases hE with ⟨e1, esc, hs1, rfl⟩ | ⟨hs1, rfl⟩
          · have hb1 := sm_bound T n _ 0 (p + 1) e1 rfl hs1
            have H2 : Hid (R = run T n d0 (true :: S) 2 e1) := by
              show _ = _
              rw [H.out.2]
              exact key_ok T n d0 (true :: S) p e1 H.out.1 hpn H34.out hs1
            have c4 := HSP.out e1 wr HXr.out hb1.2
            have hx1 := sp_ge T n e1
            have hx2 := sp_le T n e1 hb1.2
            obtain ⟨x, hx⟩ : ∃ x, x = sp T n e1 := ⟨_, rfl⟩
            rw [← hx] at c4 hx1 hx2
            have Hx : Hid (x = sp T n e1) := hx
            obtain ⟨hb2, hb3⟩ := hb1
            clear hx hs1 H H34
            by_cases hc : x < n ∧ T x = 58
            · obtain ⟨hxn, h58⟩ := hc
              have hcx := HXr.out.2 x hxn
              have b6 : (T x != 58) = false := by simp [h58]
              have c5 := HSP.out (x + 1) wr HXr.out (by omega)
              rw [cast1] at c5
              have hy1 := sp_ge T n (x + 1)
              have hy2 := sp_le T n (x + 1) (by omega)
              obtain ⟨y, hy⟩ : ∃ y, y = sp T n (x + 1) := ⟨_, rfl⟩
              rw [← hy] at c5 hy1 hy2
              have H3 : Hid (Spot T n d0 R (true :: S) 3 y) := by
                refine ⟨by rw [hy]; exact sp_idem T n _, ?_⟩
                rw [H2.out]
                exact colon_ok T n d0 (true :: S) e1 x y Hx.out hy hxn h58
              clear hy h58 H2 Hx
              have HVc := HV.out y (by omega) (true :: S) (d + 1) wr (by simp) (by rw [hd.out]; simp; omega) (by omega) (by omega) H3.out.1 HXr.out
              go_wp2_with fail
              refine c4.mono ?_
              rintro e w3 ⟨rfl, hw3⟩
              obtain rfl := hw3.symm
              go_wp2_with fail
              refine c5.mono ?_
              rintro e w3 ⟨rfl, hw3⟩
              obtain rfl := hw3.symm
              go_wp2_with fail
              refine HVc.mono ?_
              rintro e w2 ⟨hB2, hE⟩
              have HB2 : Hid (Below wr.heap.size wr w2) := hB2
              have HB3 : Hid (Below w'.heap.size w' w2) := HB.out.trans (HB2.out.mono HB.out.size)
              clear hB2
              rcases hE with ⟨en, rfl, he1, he2, he3⟩ | ⟨rfl, he⟩
              · have HXs : Hid (Txt w2 b T n) := HX.out.below HB3.out
                have c2 := HSP.out en w2 HXs.out he2
                have hr1 := sp_ge T n en
                have hr2 := sp_le T n en he2
                obtain ⟨r, hr⟩ : ∃ r, r = sp T n en := ⟨_, rfl⟩
                rw [← hr] at c2 hr1 hr2
                have HR4 : Hid (R = run T n d0 (true :: S) 4 en) := H3.out.2.trans he3
                have Hr : Hid (r = sp T n en) := hr
                clear hr he3 H3 HVc
                by_cases hrn : r < n
                · have hcr := HXs.out.2 r hrn
                  by_cases hcl : T r = 125
                  · have HF : Hid (R = shut T n d0 S (r + 1)) := by
                      show _ = _
                      rw [HR4.out, Hr.out]
                      exact run_close T n d0 true S 4 en (.inr rfl) (by rw [← Hr.out]; exact hrn) (by rw [← Hr.out, hcl]; rfl)
                    have b3 : (T r == 125) = true := by simp [hcl]
                    clear hcl
                    go_wp2_with (go_at_call 33; refine c2.mono ?_; rintro e w3 ⟨rfl, hw3⟩; obtain rfl := hw3.symm)
                    go_ret2
                    rw [← cast1]
                    exact vYes HB3.out (by omega) (by omega) HF.out
                  · have b3 : (T r == 125) = false := by simp [hcl]
                    by_cases h44 : T r = 44
                    · have b4 : (T r != 44) = false := by simp [h44]
                      have c3 := HSP.out (r + 1) w2 HXs.out (by omega)
                      rw [cast1] at c3
                      have hs1 := sp_ge T n (r + 1)
                      have hs2 := sp_le T n (r + 1) (by omega)
                      obtain ⟨s, hs⟩ : ∃ s, s = sp T n (r + 1) := ⟨_, rfl⟩
                      have HF : Hid (Spot T n d0 R (true :: S) 1 s) := by
                        refine ⟨by rw [hs]; exact sp_idem T n _, ?_⟩
                        rw [HR4.out, comma_ok T n d0 true S en r s Hr.out hs hrn h44]
                        rfl
                      rw [← hs] at c3 hs1 hs2
                      clear hs hcl h44 HR4 Hr
                      go_wp2_with fail
                      refine c2.mono ?_
                      rintro e w3 ⟨rfl, hw3⟩
                      obtain rfl := hw3.symm
                      go_wp2_with fail
                      refine c3.mono ?_
                      rintro e w3 ⟨rfl, hw3⟩
                      obtain rfl := hw3.symm
                      go_wp2_with fail
                      go_roundw
                      case rel => exact ⟨s, by omega, by omega, rfl, HF, HB3⟩
                      case measure => simp [intOf]; omega
                    · have b4 : (T r != 44) = true := by simp [h44]
                      have HF : Hid (R = none) := by
                        show _ = _
                        rw [HR4.out]
                        exact run_nocomma T n d0 true S en (by rw [← Hr.out]; exact hrn) (by rw [← Hr.out]; exact hcl) (by rw [← Hr.out]; exact h44)
                      clear hcl h44 HR4 Hr
                      go_wp2_with (go_at_call 33; refine c2.mono ?_; rintro e w3 ⟨rfl, hw3⟩; obtain rfl := hw3.symm)
                      go_ret2
                      exact vNo HB3.out HF.out
                · have HF : Hid (R = none) := by
                    show _ = _
                    rw [HR4.out]
                    exact run_out T n d0 _ 4 en (by rw [← Hr.out]; omega)
                  clear HR4 Hr
                  go_wp2_with (go_at_call 33; refine c2.mono ?_; rintro e w3 ⟨rfl, hw3⟩; obtain rfl := hw3.symm)
                  go_ret2
                  exact vNo HB3.out HF.out
              · have HF : Hid (R = none) := H3.out.2.trans he
                clear he H3
                go_wp2_with fail
                go_ret2
                exact vNo HB3.out HF.out
        
            · have HF : Hid (R = none) := by
                show _ = _
                rw [H2.out]
                exact colon_no T n d0 (true :: S) e1 x Hx.out hc
              have hw2 : ¬ x < n ∨ (x < n ∧ (T x != 58) = true ∧ wr.cell? ⟨b, x, none⟩ = some (.int .u8 (T x))) := by
                rcases Nat.lt_or_ge x n with h1 | h1
                · exact .inr ⟨h1, by simpa using fun e => hc ⟨h1, e⟩, HXr.out.2 x h1⟩
                · exact .inl (by omega)
              clear hc H2 Hx
              rcases hw2 with g1 | ⟨g1, g2, g3⟩
              all_goals
                go_wp2_with (go_at_call 33; refine c4.mono ?_; rintro e w3 ⟨rfl, hw3⟩; obtain rfl := hw3.symm)
                go_ret2
                exact vNo HB.out HF.out
          · have HF : Hid (R = none) := by
              show _ = _
              rw [H.out.2]
              exact key_bad T n d0 (true :: S) p H.out.1 hpn hs1
            clear hs1 H H34
            go_wp2_with fail
            go_ret2
            exact vNo HB.out HF.out
        · have HF : Hid (R = none) := by
            show _ = _
            rw [H.out.2]
            exact key_no T n d0 (true :: S) p H.out.1 hk
          have hw2 : ¬ p < n ∨ (p < n ∧ (T p != 34) = true ∧ wr.cell? ⟨b, p, none⟩ = some (.int .u8 (T p))) := by
            rcases Nat.lt_or_ge p n with h1 | h1
            · exact .inr ⟨h1, by simpa using fun e => hk ⟨h1, e⟩, HXr.out.2 p h1⟩
            · exact .inl (by omega)
          clear hk H
          rcases hw2 with g1 | ⟨g1, g2, g3⟩
          all_goals
            go_wp2_with fail
            go_ret2
            exact vNo HB.out HF.out
end Go.Proofs.Qxb6605207a
