/-
  Seat b6605207a. WALKS: validValue (34), given validItems at the same place.
-/
import Derived.Test.Qxb6605207aW7
import Derived.Test.Qxb6605207aW4
set_option linter.unusedVariables false
namespace Go.Proofs.Qxb6605207a
open Go.RowKit

def litS : Nat → ByteArray | 0 => ⟨#[116, 114, 117, 101]⟩ | 1 => ⟨#[102, 97, 108, 115, 101]⟩ | _ => ⟨#[110, 117, 108, 108]⟩
def litN : Nat → List Int | 0 => lTrue | 1 => lFalse | _ => lNull
def litT : Value := .agg #[.string ⟨#[116, 114, 117, 101]⟩, .string ⟨#[102, 97, 108, 115, 101]⟩, .string ⟨#[110, 117, 108, 108]⟩]

/-- None of the first k literals stands at i. -/
def NoLit (T : Nat → Int) (n i k : Nat) : Prop := ∀ j, j < k → hasAt T n i (litN j) = false

theorem litL_at (T : Nat → Int) (n i j : Nat) (hj : j < 3) (h : NoLit T n i j) (hh : hasAt T n i (litN j) = true) : litL T n i = (litN j).length := by
  unfold litL
  rcases (show j = 0 ∨ j = 1 ∨ j = 2 by omega) with rfl | rfl | rfl
  · simp only [litN] at hh
    rw [if_pos hh]; rfl
  · have h0 := h 0 (by omega)
    simp only [litN] at h0 hh
    rw [h0, if_neg (by decide), if_pos hh]; rfl
  · have h0 := h 0 (by omega)
    have h1 := h 1 (by omega)
    simp only [litN] at h0 h1 hh
    rw [h0, if_neg (by decide), h1, if_neg (by decide), if_pos hh]; rfl
theorem litL_none (T : Nat → Int) (n i : Nat) (h : NoLit T n i 3) : litL T n i = 0 := by
  have h0 := h 0 (by omega)
  have h1 := h 1 (by omega)
  have h2 := h 2 (by omega)
  simp only [litN] at h0 h1 h2
  unfold litL
  rw [h0, if_neg (by decide), h1, if_neg (by decide), h2, if_neg (by decide)]
theorem NoLit.more {T : Nat → Int} {n i k : Nat} (h : NoLit T n i k) (hk : hasAt T n i (litN k) = false) : NoLit T n i (k + 1) := fun j hj => by
  rcases Nat.lt_or_ge j k with h1 | h1
  · exact h j h1
  · obtain rfl : j = k := by omega
    exact hk

theorem lit_world (w : World) (s : ByteArray) (l : List Int) (c : Nat) (fr : Nat × Nat) (hl : s.size = l.length) (hL : ∀ k (hk : k < s.size), ((s[k]'hk).toNat : Int) = l.getD k 0) :
    Below w.heap.size w (w.alloc (.cells (bytesRow s c) 5 fr)).drew ∧ ∀ k, k < l.length → (w.alloc (.cells (bytesRow s c) 5 fr)).drew.cell? ⟨w.heap.size, k, none⟩ = some (.int .u8 (l.getD k 0)) := by
  refine ⟨((Below.refl _ w).alloc (Nat.le_refl _) _).drew, fun k hk => ?_⟩
  have hk' : k < s.size := by omega
  show (w.alloc (.cells (bytesRow s c) 5 fr)).cell? _ = _
  rw [World.cell?_alloc_mark, bytesRow_at s c k hk', ← hL k hk']
  rfl

theorem idx0 (w : World) : (Instr.index 46 litT (.int .i64 0)).run Try.prog w = .ok (.string ⟨#[116, 114, 117, 101]⟩) w := by kernel_rfl
theorem idx1 (w : World) : (Instr.index 46 litT (.int .i64 1)).run Try.prog w = .ok (.string ⟨#[102, 97, 108, 115, 101]⟩) w := by kernel_rfl
theorem idx2 (w : World) : (Instr.index 46 litT (.int .i64 2)).run Try.prog w = .ok (.string ⟨#[110, 117, 108, 108]⟩) w := by kernel_rfl

set_option maxRecDepth 100000 in
set_option maxHeartbeats 2000000 in
theorem lit_any (T : Nat → Int) (b n : Nat) (d : Int) (i : Nat) (w : World) (R : Option Nat) (Q : Nat → Option Nat) (hn : n ≤ 1048576) (hi : i < n) (h : Txt w b T n) (hT : ∀ k, k < n → 0 ≤ T k ∧ T k < 256)
    (h1 : ¬ (T i = 123 ∨ T i = 91)) (h2 : T i ≠ 34) (h3 : ¬ (T i = 45 ∨ isDg (T i) = true)) (hR : R = if litL T n i = 0 then none else Q (i + litL T n i)) :
    Calls Try.prog 34 #[.slice (some ⟨b, 0, none⟩) n n, .int .i64 i, .int .i64 d] w (VPost R Q i n w) := by
  have hci := h.2 i hi
  have hblt := h.1
  have b1 : (T i == 123) = false := by simpa using fun e => h1 (.inl e)
  have b2 : (T i == 91) = false := by simpa using fun e => h1 (.inr e)
  have b3 : (T i == 34) = false := by simpa using h2
  have b4 : (T i == 45) = false := by simpa using fun e => h3 (.inl e)
  have h48 : ¬ (48 ≤ T i ∧ T i ≤ 57) := by simpa [isDg] using fun e => h3 (.inr e)
  have HX : Hid (Txt w b T n) := h
  have HTT : Hid (∀ k, k < n → 0 ≤ T k ∧ T k < 256) := hT
  have HR : Hid (R = if litL T n i = 0 then none else Q (i + litL T n i)) := hR
  have HB0 : Hid (Below w.heap.size w w) := Below.refl _ _
  have hw : ¬ 48 ≤ T i ∨ (48 ≤ T i ∧ ¬ T i ≤ 57) := by omega
  clear h h1 h2 h3 hT hR h48
  go_enter Try.func34, Try.ntmps34
  rcases hw with g1 | ⟨g1, g2⟩
  all_goals
    go_wp2_with fail
    go_loopw [64] (fun v wr => ∃ k : Nat, k ≤ 3 ∧ v = .int .i64 k ∧ Hid (NoLit T n i k) ∧ Hid (Below w.heap.size w wr)) (fun v _ => 3 - (intOf v).toNat)
    case atStart => exact ⟨0, by omega, rfl, fun j h => absurd h (Nat.not_lt_zero _), HB0⟩
    case round =>
      obtain ⟨k, hk, rfl, HN, HB⟩ := hrel
      have HXr : Hid (Txt wr b T n) := HX.out.below HB.out
      rcases (show k = 0 ∨ k = 1 ∨ k = 2 ∨ k = 3 by omega) with rfl | rfl | rfl | rfl
      · have hx := idx0 wr
        unfold litT at hx
        have hcv := run_bytes_of_string (P := Try.prog) wr 9 22 5 ⟨#[116, 114, 117, 101]⟩ Try.underlying9 Try.underlying22 Try.underlying5
        have hne : ¬ n = i := by omega
        go_wp2_with fail
        have hW := lit_world wr ⟨#[116, 114, 117, 101]⟩ lTrue (grownCap wr 4 0 5) ((bytesRow ⟨#[116, 114, 117, 101]⟩ (grownCap wr 4 0 5)).size, (bytesRow ⟨#[116, 114, 117, 101]⟩ (grownCap wr 4 0 5)).size + 1) rfl lT
        have hP := prefix_any b n i wr.heap.size (grownCap wr 4 0 5) T lTrue _ (HXr.out.below hW.1) (by omega) HTT.out (by decide) hW.2
        refine hP.mono ?_
        rintro e w3 ⟨rfl, hw3⟩
        have HB3 : Hid (Below w.heap.size w w3) := by
          show Below ..
          rw [hw3]
          exact HB.out.trans (hW.1.mono HB.out.size)
        clear hw3 hP hW hcv hx HXr
        cases hh : hasAt T n i lTrue with
        | true =>
          have HF : Hid (R = Q (i + 4)) := by
            show _ = _
            have h0 := litL_at T n i 0 (by decide) HN.out hh
            rw [HR.out, h0, if_neg (by decide)]
            rfl
          have hfit : i + 4 ≤ n := by simp [hasAt, lTrue] at hh; omega
          clear hh HN HR
          go_wp2_with fail
          go_ret2
          rw [show ((i : Int) + 4) = ((i + 4 : Nat) : Int) by omega]
          exact vYes HB3.out (by omega) hfit HF.out
        | false =>
          have HN1 : Hid (NoLit T n i 1) := NoLit.more HN.out hh
          clear hh HN
          go_wp2_with fail
          go_roundw
          case rel => exact ⟨1, by omega, by go_num, HN1, HB3⟩
          case measure => simp [intOf]
      · have hx := idx1 wr
        unfold litT at hx
        have hcv := run_bytes_of_string (P := Try.prog) wr 9 22 5 ⟨#[102, 97, 108, 115, 101]⟩ Try.underlying9 Try.underlying22 Try.underlying5
        have hne : ¬ n = i := by omega
        go_wp2_with fail
        have hW := lit_world wr ⟨#[102, 97, 108, 115, 101]⟩ lFalse (grownCap wr 5 0 5) ((bytesRow ⟨#[102, 97, 108, 115, 101]⟩ (grownCap wr 5 0 5)).size, (bytesRow ⟨#[102, 97, 108, 115, 101]⟩ (grownCap wr 5 0 5)).size + 1) rfl lF
        have hP := prefix_any b n i wr.heap.size (grownCap wr 5 0 5) T lFalse _ (HXr.out.below hW.1) (by omega) HTT.out (by decide) hW.2
        refine hP.mono ?_
        rintro e w3 ⟨rfl, hw3⟩
        have HB3 : Hid (Below w.heap.size w w3) := by
          show Below ..
          rw [hw3]
          exact HB.out.trans (hW.1.mono HB.out.size)
        clear hw3 hP hW hcv hx HXr
        cases hh : hasAt T n i lFalse with
        | true =>
          have HF : Hid (R = Q (i + 5)) := by
            show _ = _
            have h0 := litL_at T n i 1 (by decide) HN.out hh
            rw [HR.out, h0, if_neg (by decide)]
            rfl
          have hfit : i + 5 ≤ n := by simp [hasAt, lFalse] at hh; omega
          clear hh HN HR
          go_wp2_with fail
          go_ret2
          rw [show ((i : Int) + 5) = ((i + 5 : Nat) : Int) by omega]
          exact vYes HB3.out (by omega) hfit HF.out
        | false =>
          have HN1 : Hid (NoLit T n i 2) := NoLit.more HN.out hh
          clear hh HN
          go_wp2_with fail
          go_roundw
          case rel => exact ⟨2, by omega, by go_num, HN1, HB3⟩
          case measure => simp [intOf]
      · have hx := idx2 wr
        unfold litT at hx
        have hcv := run_bytes_of_string (P := Try.prog) wr 9 22 5 ⟨#[110, 117, 108, 108]⟩ Try.underlying9 Try.underlying22 Try.underlying5
        have hne : ¬ n = i := by omega
        go_wp2_with fail
        have hW := lit_world wr ⟨#[110, 117, 108, 108]⟩ lNull (grownCap wr 4 0 5) ((bytesRow ⟨#[110, 117, 108, 108]⟩ (grownCap wr 4 0 5)).size, (bytesRow ⟨#[110, 117, 108, 108]⟩ (grownCap wr 4 0 5)).size + 1) rfl lN
        have hP := prefix_any b n i wr.heap.size (grownCap wr 4 0 5) T lNull _ (HXr.out.below hW.1) (by omega) HTT.out (by decide) hW.2
        refine hP.mono ?_
        rintro e w3 ⟨rfl, hw3⟩
        have HB3 : Hid (Below w.heap.size w w3) := by
          show Below ..
          rw [hw3]
          exact HB.out.trans (hW.1.mono HB.out.size)
        clear hw3 hP hW hcv hx HXr
        cases hh : hasAt T n i lNull with
        | true =>
          have HF : Hid (R = Q (i + 4)) := by
            show _ = _
            have h0 := litL_at T n i 2 (by decide) HN.out hh
            rw [HR.out, h0, if_neg (by decide)]
            rfl
          have hfit : i + 4 ≤ n := by simp [hasAt, lNull] at hh; omega
          clear hh HN HR
          go_wp2_with fail
          go_ret2
          rw [show ((i : Int) + 4) = ((i + 4 : Nat) : Int) by omega]
          exact vYes HB3.out (by omega) hfit HF.out
        | false =>
          have HN1 : Hid (NoLit T n i 3) := NoLit.more HN.out hh
          clear hh HN
          go_wp2_with fail
          go_roundw
          case rel => exact ⟨3, by omega, by go_num, HN1, HB3⟩
          case measure => simp [intOf]
      · have HF : Hid (R = none) := by
          show _ = _
          rw [HR.out, litL_none T n i HN.out]
          rfl
        clear HR HN
        go_wp2_with fail
        go_ret2
        exact vNo HB.out HF.out

set_option maxRecDepth 100000 in
set_option maxHeartbeats 2000000 in
theorem val_any (T : Nat → Int) (b n : Nat) (d0 d : Int) (i : Nat) (S : List Bool) (w : World) (hn : n ≤ 1048576) (hT : ∀ k, k < n → 0 ≤ T k ∧ T k < 256) (hI : IOK T b n d0 i) (hS : S ≠ []) (hd : d = d0 + S.length) (hi : i ≤ n) (hsp : sp T n i = i) (h : Txt w b T n) :
    Calls Try.prog 34 #[.slice (some ⟨b, 0, none⟩) n n, .int .i64 i, .int .i64 d] w (VPost (run T n d0 S 3 i) (fun q => run T n d0 S 4 q) i n w) := by
  have HB0 : Hid (Below w.heap.size w w) := Below.refl _ _
  rcases Nat.lt_or_ge i n with hin | hin
  · have hci := h.2 i hin
    by_cases h1 : T i = 123 ∨ T i = 91
    · have c1 := hI S d w hd hin h1 h
      obtain ⟨R, hR⟩ : ∃ R, R = run T n d0 S 3 i := ⟨_, rfl⟩
      rw [← hR]
      have hR2 := hR.trans (val_open T n d0 S i hsp hin h1)
      rw [← hd] at hR2
      rw [← hR2] at c1
      have b3 : (T i == 34) = false := by simpa using fun e => by omega
      have b4 : (T i == 45) = false := by simpa using fun e => by omega
      have hw : ((T i == 123) = true ∧ 48 ≤ T i ∧ ¬ T i ≤ 57) ∨ ((T i == 123) = false ∧ (T i == 91) = true ∧ 48 ≤ T i ∧ ¬ T i ≤ 57) := by
        rcases h1 with h1 | h1
        · exact .inl ⟨by simp [h1], by omega, by omega⟩
        · exact .inr ⟨by simp [h1], by simp [h1], by omega, by omega⟩
      have HS : Hid (S ≠ []) := hS
      clear hR hR2 h1 h hd hI hsp hT hS
      go_enter Try.func34, Try.ntmps34
      rcases hw with ⟨x1, x2, x3⟩ | ⟨x1, x2, x3, x4⟩
      all_goals
        go_wp2_with fail
        refine c1.mono ?_
        rintro e w2 ⟨hB2, hE⟩
        have HB2 : Hid (Below w.heap.size w w2) := hB2
        clear hB2 HB0
        rcases hE with ⟨q, rfl, h1, h2, h3⟩ | ⟨rfl, h3⟩
        · have HF : Hid (R = run T n d0 S 4 q) := by
            show _ = _
            rw [h3]
            unfold shut
            rw [if_neg HS.out]
          clear h3
          go_wp2_with fail
          go_ret2
          exact vYes HB2.out h1 h2 HF.out
        · have HF : Hid (R = none) := h3
          clear h3
          go_wp2_with fail
          go_ret2
          exact vNo HB2.out HF.out
    · by_cases h2 : T i = 34
      · have c1 := str_any b n i T w h hn hin
        have b3 : (T i == 34) = true := by simp [h2]
        obtain ⟨R, hR⟩ : ∃ R, R = run T n d0 S 3 i := ⟨_, rfl⟩
        rw [← hR]
        have HR : Hid (R = run T n d0 S 3 i) := hR
        have H2 : Hid (T i = 34) := h2
        have HSP : Hid (sp T n i = i) := hsp
        clear hR h h1 h2 hd hI hsp hT hS
        go_enter Try.func34, Try.ntmps34
        go_wp2_with fail
        refine c1.mono ?_
        rintro e w2 ⟨hw2, hE⟩
        obtain rfl := hw2.symm
        rcases hE with ⟨q, esc, h1, rfl⟩ | ⟨h1, rfl⟩
        · have hb := sm_bound T n _ 0 (i + 1) q rfl h1
          have HF : Hid (R = run T n d0 S 4 q) := HR.out.trans (val_sm T n d0 S i q HSP.out hin H2.out h1)
          clear h1
          go_wp2_with fail
          go_ret2
          exact vYes HB0.out (by omega) hb.2 HF.out
        · have HF : Hid (R = none) := HR.out.trans (val_smno T n d0 S i HSP.out hin H2.out h1)
          clear h1
          go_wp2_with fail
          go_ret2
          exact vNo HB0.out HF.out
      · by_cases h3 : T i = 45 ∨ isDg (T i) = true
        · have c1 := num_any b n i T w h hn hin
          have h48 : T i = 45 ∨ (48 ≤ T i ∧ T i ≤ 57) := by simpa [isDg] using h3
          have b3 : (T i == 34) = false := by simpa using h2
          obtain ⟨R, hR⟩ : ∃ R, R = run T n d0 S 3 i := ⟨_, rfl⟩
          rw [← hR]
          have HR : Hid (R = run T n d0 S 3 i) := hR
          have H3 : Hid (T i = 45 ∨ isDg (T i) = true) := h3
          have HSP : Hid (sp T n i = i) := hsp
          have hw : (T i == 45) = true ∨ ((T i == 45) = false ∧ 48 ≤ T i ∧ T i ≤ 57) := by
            rcases h48 with h | h
            · exact .inl (by simp [h])
            · exact .inr ⟨by simpa using (fun e => by omega), h.1, h.2⟩
          clear hR h h1 h2 h3 h48 hd hI hsp hT hS
          go_enter Try.func34, Try.ntmps34
          rcases hw with x1 | ⟨x1, x2, x3⟩
          all_goals
            go_wp2_with fail
            refine c1.mono ?_
            rintro e w2 ⟨hB2, hE⟩
            have HB2 : Hid (Below w.heap.size w w2) := hB2
            clear hB2 HB0
            rcases hE with ⟨q, h1, rfl⟩ | ⟨h1, rfl⟩
            · have hb := nm_bound T n _ 0 i q rfl (by omega) h1
              have HF : Hid (R = run T n d0 S 4 q) := HR.out.trans (val_nm T n d0 S i q HSP.out hin H3.out h1)
              clear h1
              go_wp2_with fail
              go_ret2
              exact vYes HB2.out (hb.2.2 rfl) hb.2.1 HF.out
            · have HF : Hid (R = none) := HR.out.trans (val_nmno T n d0 S i HSP.out hin H3.out h1)
              clear h1
              go_wp2_with fail
              go_ret2
              exact vNo HB2.out HF.out
        · exact lit_any T b n d i w _ (fun q => run T n d0 S 4 q) hn hin h hT h1 h2 h3 (val_lit T n d0 S i hsp hin h1 h2 h3)
  · have HF : Hid (run T n d0 S 3 i = none) := run_out T n d0 S 3 i (by rw [hsp]; exact hin)
    obtain ⟨R, hR⟩ : ∃ R, R = run T n d0 S 3 i := ⟨_, rfl⟩
    rw [← hR] at HF ⊢
    clear hR hsp hd hI hT hS h
    go_enter Try.func34, Try.ntmps34
    go_wp2_with fail
    go_ret2
    exact vNo HB0.out HF.out

/-- Both, at every place. -/
theorem both_any (T : Nat → Int) (b n : Nat) (d0 : Int) (hn : n ≤ 1048576) (hT : ∀ k, k < n → 0 ≤ T k ∧ T k < 256) (hd0 : -9223372036854775808 ≤ d0) : ∀ m i, n - i ≤ m → IOK T b n d0 i ∧ VOK T b n d0 i
  | m, i, hm => by
    have hSP : SPOK T b n := fun p w h hp => space_any b n p T w h hn hp
    have hST : STOK T b n := fun p w h hp => str_any b n p T w h hn hp
    have hI : IOK T b n d0 i := by
      intro S d w hd hi hb h
      have hL : VLATER T b n d0 i := fun j hj S' d' w' h1 h2 h3 h4 h5 h6 => by
        rcases Nat.lt_or_ge i n with hin | hin
        · cases m with
          | zero => omega
          | succ m => exact (both_any T b n d0 hn hT hd0 m j (by omega)).2 S' d' w' h1 h2 h3 h4 h5 h6
        · omega
      by_cases hdd : 10000 < d
      · rw [if_pos hdd]
        have HB0 : Hid (Below w.heap.size w w) := Below.refl _ _
        clear hL hSP hST hb h hd
        go_enter Try.func28, Try.ntmps28
        go_wp2_with fail
        go_ret2
        exact vNo HB0.out rfl
      · rw [if_neg hdd]
        by_cases h123 : T i = 123
        · rw [decide_eq_true h123]
          exact obj_any T b n d0 d i S w hn hSP hST hL hd (by omega) (by omega) hi h123 h
        · rw [decide_eq_false h123]
          exact arr_any T b n d0 d i S w hn hSP hST hL hd (by omega) (by omega) hi (by omega) h
    exact ⟨hI, fun S d w h1 h2 h3 h4 h5 h6 => val_any T b n d0 d i S w hn hT hI h1 h2 h4 h5 h6⟩

theorem items_any (T : Nat → Int) (b n i : Nat) (d : Int) (w : World) (hn : n ≤ 1048576) (hT : ∀ k, k < n → 0 ≤ T k ∧ T k < 256) (hd : -9223372036854775808 ≤ d) (hi : i < n) (hb : T i = 123 ∨ T i = 91) (h : Txt w b T n) :
    Calls Try.prog 28 #[.slice (some ⟨b, 0, none⟩) n n, .int .i64 i, .int .i64 d] w (VPost (if 10000 < d then none else run T n d [decide (T i = 123)] 0 (i + 1)) some i n w) :=
  (both_any T b n d hn hT hd _ i (Nat.le_refl _)).1 [] d w (by simp) hi hb h
end Go.Proofs.Qxb6605207a
