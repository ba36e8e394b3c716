/-
  Seat b6605223a. WALKS: order2 (48), median (46), medianAdjacent (45), choosePivot (34), reverseRange (35), all at uint64.
-/
import Derived.Test.Qxb6605223aS4
set_option linter.unusedVariables false
set_option linter.unusedSimpArgs false
namespace Go.Proofs.Qxb6605223a
open Go.RowKit

/-- A counter that lies alone in block r. -/
def Cnt (w : World) (r s : Nat) : Prop := w.cell? ⟨r, 0, none⟩ = some (.int .i64 s) ∧ w.frozen? ⟨r, 0, none⟩ = false

theorem Rw.fr {w w' : World} {g r n c : Nat} {D : Nat → Int} (h : Rw w g n c D) (hf : Fr r w w') (hne : g ≠ r) : Rw w' g n c D := by
  have hl := h.lt
  obtain ⟨cur, h1, h2, h3, h4⟩ := h
  exact ⟨cur, by rw [hf.block g hl hne]; exact h1, h2, h3, h4⟩

def OrdPost (a b r s : Nat) (w : World) (e : Ending) (w' : World) : Prop :=
  ∃ x y s' : Nat, e = .returned (.tuple #[.int .i64 x, .int .i64 y]) ∧ ((x = a ∧ y = b) ∨ (x = b ∧ y = a)) ∧ s' ≤ s + 1 ∧ Cnt w' r s' ∧ Fr r w w'

theorem order2_any (g n c cp a b r s : Nat) (D : Nat → Int) (w : World) (h : Rw w g n c D) (hn : n ≤ 1048576) (ha : a < n) (hb : b < n) (hs : s ≤ 1000) (hr : Cnt w r s) :
    Calls Try.prog 48 #[.slice (some ⟨g, 0, none⟩) n cp, .int .i64 a, .int .i64 b, .pointer (some ⟨r, 0, none⟩)] w (OrdPost a b r s w) := by
  have hca := h.cell a ha
  have hcb := h.cell b hb
  obtain ⟨hr1, hr2⟩ := hr
  clear h
  by_cases hl : D b < D a
  · have cl := less_t hl
    have cA : (w.setCell ⟨r, 0, none⟩ (.int .i64 ((s : Int) + 1))).cell? ⟨r, 0, none⟩ = some (.int .i64 ((s : Int) + 1)) := World.cell?_setCell_same _ _ _ hr1
    have fA : (w.setCell ⟨r, 0, none⟩ (.int .i64 ((s : Int) + 1))).frozen? ⟨r, 0, none⟩ = false := by simpa using hr2
    clear hl
    go_enter Try.func48, Try.ntmps48
    go_wp2_with fail
    go_big_quiet (first | (go_at_call 37; exact Calls.quiet_of_same (cl _)) | fail)
    go_wp2_with fail
    go_ret2
    exact ⟨b, a, s + 1, rfl, .inr ⟨rfl, rfl⟩, Nat.le_refl _, ⟨cA, fA⟩, ((Fr.refl _ _).drewN _).set _ _ _⟩
  · have cl := less_f hl
    clear hl
    go_enter Try.func48, Try.ntmps48
    go_wp2_with fail
    go_big_quiet (first | (go_at_call 37; exact Calls.quiet_of_same (cl _)) | fail)
    go_wp2_with fail
    go_ret2
    exact ⟨a, b, s, rfl, .inl ⟨rfl, rfl⟩, by omega, ⟨hr1, hr2⟩, (Fr.refl _ _).drewN _⟩

def MedPost (p : Nat → Prop) (k r s : Nat) (w : World) (e : Ending) (w' : World) : Prop :=
  ∃ x s' : Nat, e = .returned (.int .i64 x) ∧ p x ∧ s' ≤ s + k ∧ Cnt w' r s' ∧ Fr r w w'

set_option maxHeartbeats 400000 in
theorem median_any (g n c cp i j k r s : Nat) (D : Nat → Int) (w : World) (h : Rw w g n c D) (hn : n ≤ 1048576) (hi : i < n) (hj : j < n) (hk : k < n) (hs : s ≤ 900) (hr : Cnt w r s) (hne : g ≠ r) :
    Calls Try.prog 46 #[.slice (some ⟨g, 0, none⟩) n cp, .int .i64 i, .int .i64 j, .int .i64 k, .pointer (some ⟨r, 0, none⟩)] w (MedPost (fun x => x = i ∨ x = j ∨ x = k) 3 r s w) := by
  have c1 := order2_any g n c cp i j r s D w h hn hi hj (by omega) hr
  have H : Hid (Rw w g n c D) := h
  clear h hr
  go_enter Try.func46, Try.ntmps46
  go_wp2_with fail
  refine c1.mono ?_
  rintro e w1 ⟨x1, y1, s1, rfl, hxy1, hs1, hr1, hf1⟩
  have c2 := order2_any g n c cp y1 k r s1 D w1 (H.out.fr hf1 hne) hn (by omega) hk (by omega) hr1
  have HF1 : Hid (Fr r w w1) := hf1
  have HX1 : Hid ((x1 = i ∧ y1 = j) ∨ (x1 = j ∧ y1 = i)) := hxy1
  have hx1 : x1 < n := by omega
  clear hxy1 hf1 hr1 c1
  go_wp2_with fail
  refine c2.mono ?_
  rintro e w2 ⟨x2, y2, s2, rfl, hxy2, hs2, hr2, hf2⟩
  have HF2 : Hid (Fr r w w2) := HF1.out.trans hf2
  have c3 := order2_any g n c cp x1 x2 r s2 D w2 (H.out.fr HF2.out hne) hn (by omega) (by have := HX1.out; omega) (by omega) hr2
  have HX2 : Hid ((x2 = y1 ∧ y2 = k) ∨ (x2 = k ∧ y2 = y1)) := hxy2
  clear hxy2 hf2 hr2 c2
  go_wp2_with fail
  refine c3.mono ?_
  rintro e w3 ⟨x3, y3, s3, rfl, hxy3, hs3, hr3, hf3⟩
  have HF3 : Hid (Fr r w w3) := HF2.out.trans hf3
  have HX3 : Hid ((x3 = x1 ∧ y3 = x2) ∨ (x3 = x2 ∧ y3 = x1)) := hxy3
  have HC3 : Hid (Cnt w3 r s3) := hr3
  clear hxy3 hf3 hr3 c3
  go_wp2_with fail
  go_ret
  exact ⟨y3, s3, rfl, by have h1 := HX1.out; have h2 := HX2.out; have h3 := HX3.out; omega, by omega, HC3.out, HF3.out⟩

theorem medAdj_any (g n c cp i r s : Nat) (D : Nat → Int) (w : World) (h : Rw w g n c D) (hn : n ≤ 1048576) (h1 : 1 ≤ i) (hi : i + 1 < n) (hs : s ≤ 900) (hr : Cnt w r s) (hne : g ≠ r) :
    Calls Try.prog 45 #[.slice (some ⟨g, 0, none⟩) n cp, .int .i64 i, .pointer (some ⟨r, 0, none⟩)] w (MedPost (fun x => i ≤ x + 1 ∧ x ≤ i + 1) 3 r s w) := by
  obtain ⟨k, rfl⟩ : ∃ k, i = k + 1 := ⟨i - 1, by omega⟩
  have c1 := median_any g n c cp k (k + 1) (k + 1 + 1) r s D w h hn (by omega) (by omega) (by omega) hs hr hne
  rw [show ((k + 1 + 1 : Nat) : Int) = (k : Int) + 1 + 1 by omega, show ((k + 1 : Nat) : Int) = (k : Int) + 1 by omega] at c1
  rw [show ((k + 1 : Nat) : Int) = (k : Int) + 1 by omega]
  clear h hr
  go_enter Try.func45, Try.ntmps45
  go_wp2_with fail
  refine c1.mono ?_
  rintro e w1 ⟨x, s', rfl, hx, hs', hr', hf'⟩
  have HX : Hid (x = k ∨ x = k + 1 ∨ x = k + 1 + 1) := hx
  have HC : Hid (Cnt w1 r s') := hr'
  have HF : Hid (Fr r w w1) := hf'
  clear hx hr' hf' c1
  go_wp2_with fail
  go_ret
  exact ⟨x, s', rfl, by have := HX.out; omega, hs', HC.out, HF.out⟩
end Go.Proofs.Qxb6605223a
