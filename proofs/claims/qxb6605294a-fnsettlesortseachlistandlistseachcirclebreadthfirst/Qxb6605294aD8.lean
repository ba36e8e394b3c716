/-
  Seat b6605294a. WALK: ZZNewFamily (13).
-/
import Derived.Test.Qxb6605294aD7
set_option linter.unusedVariables false
set_option linter.unusedSimpArgs false
namespace Go.Proofs.Qxb6605294a
open Go.RowKit

/-- A family in memory: the struct F, the map gM of its kin, one block gk j a person. -/
structure Fam (w : World) (lo F gM n : Nat) (PE : Nat → Int) (f : Int → Option Value) (gk : Nat → Nat) (S : Nat → Nat → Value) : Prop where
  mp : Mi w gM f n
  ent : ∀ k v, f k = some v ↔ ∃ j, j < n ∧ PE j = k ∧ v = .pointer (some ⟨gk j, 0, none⟩)
  kin : ∀ j, j < n → Bk w (gk j) 88 4 (fun k => S k j) ∧ F < gk j
  apart : ∀ j j', j < n → j' < n → j ≠ j' → gk j ≠ gk j'
  gF : gM < F ∧ lo ≤ gM

theorem Fam.step {w w3 : World} {lo F gM i : Nat} {PE : Nat → Int} {f : Int → Option Value} {gk : Nat → Nat} {S : Nat → Nat → Value} (h : Fam w lo F gM i PE f gk S) (hp : ∀ j, j < i → PE j ≠ PE i) (hF : F < w.heap.size)
    (hB : Bk w3 w.heap.size 88 4 (fun k => S k i)) (hM : Mi w3 gM (fun j => if j = PE i then some (.pointer (some ⟨w.heap.size, 0, none⟩)) else f j) (if (f (PE i)).isSome then i else i + 1)) (hb : ∀ b, b < w.heap.size → b ≠ gM → w3.heap[b]? = w.heap[b]?) :
    ∃ f', Fam w3 lo F gM (i + 1) PE f' (fun j => if j = i then w.heap.size else gk j) S := by
  have hnone : f (PE i) = none := by
    cases e : f (PE i) with
    | none => rfl
    | some v =>
      obtain ⟨j, hj, hj2, _⟩ := (h.ent _ _).1 e
      exact absurd hj2 (hp j hj)
  rw [hnone] at hM
  refine ⟨_, hM, fun k v => ?_, fun j hj => ?_, fun j j' hj hj' hne => ?_, h.gF⟩
  · show (if k = PE i then some (Value.pointer (some ⟨w.heap.size, 0, none⟩)) else f k) = some v ↔ _
    by_cases e : k = PE i
    · rw [if_pos e]
      constructor
      · intro e2
        cases e2
        exact ⟨i, by omega, e.symm, by simp⟩
      · rintro ⟨j, hj, hj2, hj3⟩
        have : j = i := by
          rcases Nat.lt_or_ge j i with hl | hl
          · exact absurd (hj2.trans e) (hp j hl)
          · omega
        subst this
        rw [hj3]
        simp
    · rw [if_neg e, h.ent]
      constructor
      · rintro ⟨j, hj, hj2, hj3⟩
        refine ⟨j, by omega, hj2, ?_⟩
        have : j ≠ i := by omega
        simp only [if_neg this]
        exact hj3
      · rintro ⟨j, hj, hj2, hj3⟩
        have : j ≠ i := fun e2 => e (by rw [← hj2, e2])
        simp only [if_neg this] at hj3
        exact ⟨j, by omega, hj2, hj3⟩
  · by_cases e : j = i
    · subst e
      simp only [if_true]
      exact ⟨hB, hF⟩
    · simp only [if_neg e]
      have hk := h.kin j (by omega)
      refine ⟨hk.1.sameBlock (hb _ hk.1.lt (by have := h.gF; have := hk.2; omega)), hk.2⟩
  · by_cases e : j = i
    · subst e
      have e' : ¬ j' = j := fun e => hne e.symm
      simp only [if_true, if_neg e']
      have := (h.kin j' (by omega)).1.lt
      omega
    · simp only [if_neg e]
      by_cases e' : j' = i
      · simp only [if_pos e']
        have := (h.kin j (by omega)).1.lt
        omega
      · simp only [if_neg e']
        exact h.apart j j' (by omega) (by omega) hne

def FamPost (w : World) (n : Nat) (PE : Nat → Int) (S : Nat → Nat → Value) (e : Ending) (w' : World) : Prop :=
  ∃ F gM f gk, e = .returned (.pointer (some ⟨F, 0, none⟩)) ∧ Bk w' F 85 3 (fun k => (#[.map (some gM), .slice none 0 0, .map none] : Array Value).getD k (.bool false)) ∧ Fam w' w.heap.size F gM n PE f gk S ∧ Below w.heap.size w w'

set_option maxRecDepth 100000 in
set_option maxHeartbeats 4000000 in
theorem newFamily_any (a b1 b2 b3 b4 : Option Addr) (n c c1 c2 c3 c4 : Nat) (PE : Nat → Int) (A1 A2 A3 A4 : Nat → Option Addr) (L1 L2 L3 L4 C1 C2 C3 C4 : Nat → Nat) (Z1 Z2 Z3 Z4 : Nat → Nat → Int) (w : World) (hn : n ≤ 1048576)
    (h0 : RdI .i64 w a n PE) (h1 : RdL w b1 n A1 L1 C1 Z1) (h2 : RdL w b2 n A2 L2 C2 Z2) (h3 : RdL w b3 n A3 L3 C3 Z3) (h4 : RdL w b4 n A4 L4 C4 Z4) (hinj : ∀ i j, i < n → j < n → PE i = PE j → i = j) :
    Calls Try.prog 13 #[.slice a n c, .slice b1 n c1, .slice b2 n c2, .slice b3 n c3, .slice b4 n c4] w
      (FamPost w n PE (pick4 (fun j => .slice (A1 j) (L1 j) (C1 j)) (fun j => .slice (A2 j) (L2 j) (C2 j)) (fun j => .slice (A3 j) (L3 j) (C3 j)) (fun j => .slice (A4 j) (L4 j) (C4 j)))) := by
  have H0 : Hid (RdI .i64 w a n PE) := h0
  have H1 : Hid (RdL w b1 n A1 L1 C1 Z1) := h1
  have H2 : Hid (RdL w b2 n A2 L2 C2 Z2) := h2
  have H3 : Hid (RdL w b3 n A3 L3 C3 Z3) := h3
  have H4 : Hid (RdL w b4 n A4 L4 C4 Z4) := h4
  have HINJ : Hid (∀ i j, i < n → j < n → PE i = PE j → i = j) := hinj
  clear h0 h1 h2 h3 h4 hinj
  have hmk := fun w => run_mkMap (P := Try.prog) Try.underlying83 (n : Int) w
  obtain ⟨S, HS⟩ : ∃ x, Hid (x = pick4 (fun j => Value.slice (A1 j) (L1 j) (C1 j)) (fun j => .slice (A2 j) (L2 j) (C2 j)) (fun j => .slice (A3 j) (L3 j) (C3 j)) (fun j => .slice (A4 j) (L4 j) (C4 j))) := ⟨_, rfl⟩
  rw [← HS.out]
  go_enter Try.func13, Try.ntmps13
  go_wp2_with fail
  obtain ⟨w2, hw2⟩ : ∃ x, x = (w.alloc (.map #[] 0)).alloc (.cells #[.map (some w.heap.size), .slice none 0 0, .map none] 85) := ⟨_, rfl⟩
  rw [← hw2]
  obtain ⟨gM, HGM⟩ : ∃ x, Hid (x = w.heap.size) := ⟨_, rfl⟩
  have hs1 : (w.alloc (.map #[] 0)).heap.size = w.heap.size + 1 := by simp
  obtain ⟨F, HGF⟩ : ∃ x, Hid (x = w.heap.size + 1) := ⟨_, rfl⟩
  rw [← HGF.out, ← HGM.out]
  have HB0 : Hid (Below w.heap.size w w2) := by rw [hw2]; exact ((Below.refl _ w).alloc (Nat.le_refl _) _).alloc (by rw [hs1]; omega) _
  have HF0 : Hid (Bk w2 F 85 3 (fun k => (#[.map (some gM), .slice none 0 0, .map none] : Array Value).getD k (.bool false))) := by
    rw [hw2, HGF.out, HGM.out]
    have := Bk.new (w.alloc (.map #[] 0)) #[.map (some w.heap.size), .slice none 0 0, .map none] 85
    rw [hs1] at this
    exact this
  have HM0 : Hid (Fam w2 w.heap.size F gM 0 PE (fun _ => none) (fun _ => 0) S) := by
    refine Fam.mk ?_ (fun k v => ⟨fun h => (by cases h), fun ⟨j, hj, _⟩ => absurd hj (Nat.not_lt_zero _)⟩) (fun j hj => absurd hj (Nat.not_lt_zero _)) (fun j j' hj => absurd hj (Nat.not_lt_zero _)) (by rw [HGF.out, HGM.out]; omega)
    rw [HGM.out]
    exact (Mi.made w).alloc (by rw [hw2, Below.heap_alloc _ _ _ (by rw [hs1]; omega)])
  clear hw2 hmk hs1
  go_loopw [12] (fun v wr => ∃ (i : Nat) (f : Int → Option Value) (gk : Nat → Nat), v = .int .i64 i ∧ i ≤ n ∧ Hid (Fam wr w.heap.size F gM i PE f gk S) ∧ Hid (Bk wr F 85 3 (fun k => (#[.map (some gM), .slice none 0 0, .map none] : Array Value).getD k (.bool false))) ∧ Hid (Below w.heap.size w wr)) (fun v _ => n - (intOf v).toNat)
  case atStart => exact ⟨0, _, _, rfl, Nat.zero_le _, HM0, HF0, HB0⟩
  case round =>
    clear HM0 HF0 HB0
    obtain ⟨i, f, gk, rfl, hi, HM, HF, HB⟩ := hrel
    by_cases hlt : i < n
    · have e0 : decide ((i : Int) < (n : Int)) = true := decide_eq_true (by omega)
      have e0' : decide (i < n) = true := decide_eq_true hlt
      obtain ⟨x0, hx0, k0⟩ := (H0.out.below HB.out).cell i hlt
      obtain ⟨x1, hx1⟩ := (H1.out.below HB.out).at' (by omega)
      have k1 := (((H1.out.below HB.out).2 x1 hx1).2 i hlt).1
      obtain ⟨x2, hx2⟩ := (H2.out.below HB.out).at' (by omega)
      have k2 := (((H2.out.below HB.out).2 x2 hx2).2 i hlt).1
      obtain ⟨x3, hx3⟩ := (H3.out.below HB.out).at' (by omega)
      have k3 := (((H3.out.below HB.out).2 x3 hx3).2 i hlt).1
      obtain ⟨x4, hx4⟩ := (H4.out.below HB.out).at' (by omega)
      have k4 := (((H4.out.below HB.out).2 x4 hx4).2 i hlt).1
      have kF : wr.cell? ⟨F, 0, none⟩ = some (.map (some gM)) := HF.out.cell 0 (by omega)
      obtain ⟨p, HP⟩ : ∃ p, Hid (p = PE i) := ⟨_, rfl⟩
      rw [← HP.out] at k0
      have hFs := HF.out.lt
      have hMs := HM.out.mp.lt
      have hgF := HM.out.gF
      obtain ⟨w5, hw5⟩ : ∃ x, x = (wr.alloc (.cells #[.slice (A1 i) (L1 i) (C1 i), .slice (A2 i) (L2 i) (C2 i), .slice (A3 i) (L3 i) (C3 i), .slice (A4 i) (L4 i) (C4 i)] 88)) := ⟨_, rfl⟩
      have hM5 : Mi w5.drew gM f i := HM.out.mp.alloc (by rw [hw5]; exact Below.heap_alloc _ _ _ hMs)
      obtain ⟨w6, hrun, hM6, hT6⟩ := hM5.store' (P := Try.prog) Try.underlying83 Try.underlying3 p (.pointer (some ⟨wr.heap.size, 0, none⟩))
      have hs5 : w5.drew.heap.size = wr.heap.size + 1 := by rw [hw5]; simp
      have HB6 : Hid (Below w.heap.size w w6) := by
        refine hT6.below ?_ hgF.2
        rw [hw5]
        exact (HB.out.alloc HB.out.size _).drew
      have HK6 : Hid (∀ b, b < wr.heap.size → b ≠ gM → w6.heap[b]? = wr.heap[b]?) := fun b hb hne => by
        rw [hT6.block b hne, hw5]
        exact Below.heap_alloc _ _ _ hb
      have HF6 : Hid (∃ f', Fam w6 w.heap.size F gM (i + 1) PE f' (fun j => if j = i then wr.heap.size else gk j) S) := by
        refine HM.out.step (fun j hj e => ?_) hFs ?_ ?_ HK6.out
        · exact absurd (HINJ.out j i (by omega) hlt e) (by omega)
        · refine Bk.sameBlock (w := w5) ?_ (hT6.block _ (by omega))
          rw [hw5, HS.out]
          refine (Bk.new wr _ 88).congr (fun k hk => ?_)
          have hk : k < 4 := hk
          have : k = 0 ∨ k = 1 ∨ k = 2 ∨ k = 3 := by omega
          rcases this with rfl | rfl | rfl | rfl <;> rfl
        · rw [← HP.out]; exact hM6
      have HG6 : Hid (Bk w6 F 85 3 (fun k => (#[.map (some gM), .slice none 0 0, .map none] : Array Value).getD k (.bool false))) := HF.out.sameBlock (HK6.out _ hFs (by omega))
      have HKK : Hid (∀ w' : World, Below w.heap.size w w' → w'.heap[F]? = wr.heap[F]? → w'.cell? ⟨F, 0, none⟩ = some (.map (some gM)) ∧ w'.cell? (x0.add i) = some (.int .i64 p) ∧ w'.cell? (x1.add i) = some (.slice (A1 i) (L1 i) (C1 i)) ∧ w'.cell? (x2.add i) = some (.slice (A2 i) (L2 i) (C2 i)) ∧ w'.cell? (x3.add i) = some (.slice (A3 i) (L3 i) (C3 i)) ∧ w'.cell? (x4.add i) = some (.slice (A4 i) (L4 i) (C4 i))) := fun w' hb h' =>
        ⟨by rw [World.cell?_of_block (w := wr) h']; exact kF, by rw [HP.out]; exact ((H0.out.below hb).2 x0 hx0).2 i hlt, (((H1.out.below hb).2 x1 hx1).2 i hlt).1, (((H2.out.below hb).2 x2 hx2).2 i hlt).1, (((H3.out.below hb).2 x3 hx3).2 i hlt).1, (((H4.out.below hb).2 x4 hx4).2 i hlt).1⟩
      have HA5 : Hid (((wr.alloc (.cells #[.slice (A1 i) (L1 i) (C1 i), .slice (A2 i) (L2 i) (C2 i), .slice (A3 i) (L3 i) (C3 i), .slice (A4 i) (L4 i) (C4 i)] 88)).drew).heap[F]? = wr.heap[F]?) := Below.heap_alloc _ _ _ hFs
      have HA6 : Hid (w6.heap[F]? = wr.heap[F]?) := HK6.out _ hFs (by omega)
      rw [hw5] at hrun
      clear hM5 hM6 hT6 hs5
      subst hx0 hx1 hx2 hx3 hx4
      go_wp2_with fail
      go_region_held3 (fun (w' : World) => w'.cell? ⟨F, 0, none⟩ = some (.map (some gM)) ∧ w'.cell? (x0.add i) = some (.int .i64 p) ∧ w'.cell? (x1.add i) = some (.slice (A1 i) (L1 i) (C1 i)) ∧ w'.cell? (x2.add i) = some (.slice (A2 i) (L2 i) (C2 i)) ∧ w'.cell? (x3.add i) = some (.slice (A3 i) (L3 i) (C3 i)) ∧ w'.cell? (x4.add i) = some (.slice (A4 i) (L4 i) (C4 i)))
        (first | exact HKK.out _ HB6.out HA6.out | exact HKK.out _ HB.out.drew rfl | exact HKK.out _ (HB.out.alloc HB.out.size _).drew HA5.out)
        (fail)
      go_wp2_with fail
      go_roundw
      case rel =>
        obtain ⟨f', hf'⟩ := HF6.out
        exact ⟨i + 1, f', _, by go_num, by omega, hf', HG6, HB6⟩
      case measure => simp [intOf]; omega
    · have e0 : decide ((i : Int) < (n : Int)) = false := decide_eq_false (by omega)
      have e0' : decide (i < n) = false := decide_eq_false hlt
      obtain rfl : i = n := by omega
      go_wp2_with fail
      go_ret
      exact ⟨F, gM, f, gk, rfl, HF.out, HM.out, HB.out⟩
end Go.Proofs.Qxb6605294a
