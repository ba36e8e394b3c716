/-
  Seat b6605294a. WALK: familyWellFormed (9).
-/
import Derived.Test.Qxb6605294aD6
set_option linter.unusedVariables false
set_option linter.unusedSimpArgs false
namespace Go.Proofs.Qxb6605294a
open Go.RowKit

theorem RdL.at' {w : World} {a : Option Addr} {P : Nat} {A : Nat → Option Addr} {L C : Nat → Nat} {Z : Nat → Nat → Int} (h : RdL w a P A L C Z) (h0 : 0 < P) : ∃ x, a = some x := by
  cases a with
  | none => have := h.1 rfl; omega
  | some x => exact ⟨x, rfl⟩
/-- The four lists of a person, by number. -/
def pick4 {α : Type} (a b c d : α) : Nat → α
  | 0 => a | 1 => b | 2 => c | _ => d
/-- Well formed: no person twice, every relative a person. -/
structure Wf (n : Nat) (PE : Nat → Int) (L : Nat → Nat → Nat) (Z : Nat → Nat → Nat → Int) : Prop where
  inj : ∀ i j, i < n → j < n → PE i = PE j → i = j
  rel : ∀ i, i < n → ∀ k, k < 4 → ∀ t, t < L k i → ∃ j, j < n ∧ Z k i t = PE j
def WfPost (n P1 P2 P3 P4 : Nat) (PE : Nat → Int) (L : Nat → Nat → Nat) (Z : Nat → Nat → Nat → Int) (w : World) (r : Ending) (w' : World) : Prop :=
  ∃ f : Bool, r = .returned (.bool f) ∧ (f = true → (P1 = n ∧ P2 = n ∧ P3 = n ∧ P4 = n) ∧ Wf n PE L Z) ∧ Below w.heap.size w w'
theorem wfNo {n P1 P2 P3 P4 : Nat} {PE : Nat → Int} {L : Nat → Nat → Nat} {Z : Nat → Nat → Nat → Int} {w w' : World} (h : Below w.heap.size w w') : WfPost n P1 P2 P3 P4 PE L Z w (.returned (.bool false)) w' := ⟨false, rfl, fun h => (by cases h), h⟩
theorem neq_f {a b : Nat} (h : a = b) : ((a : Int) != (b : Int)) = false := by simp [h]
theorem neq_t {a b : Nat} (h : a ≠ b) : ((a : Int) != (b : Int)) = true := by simpa using (fun e : (a : Int) = b => h (by omega))

set_option maxRecDepth 100000 in
set_option maxHeartbeats 1000000 in
theorem wf_lens (a b1 b2 b3 b4 : Option Addr) (n P1 P2 P3 P4 c c1 c2 c3 c4 : Nat) (PE : Nat → Int) (L : Nat → Nat → Nat) (Z : Nat → Nat → Nat → Int) (w : World) (h : ¬ (P1 = n ∧ P2 = n ∧ P3 = n ∧ P4 = n)) :
    Calls Try.prog 9 #[.slice a n c, .slice b1 P1 c1, .slice b2 P2 c2, .slice b3 P3 c3, .slice b4 P4 c4] w (WfPost n P1 P2 P3 P4 PE L Z w) := by
  have hw : ((P1 : Int) != (n : Int)) = true ∨ (((P1 : Int) != (n : Int)) = false ∧ ((P2 : Int) != (n : Int)) = true) ∨ (((P1 : Int) != (n : Int)) = false ∧ ((P2 : Int) != (n : Int)) = false ∧ ((P3 : Int) != (n : Int)) = true) ∨
      (((P1 : Int) != (n : Int)) = false ∧ ((P2 : Int) != (n : Int)) = false ∧ ((P3 : Int) != (n : Int)) = false ∧ ((P4 : Int) != (n : Int)) = true) := by
    by_cases h1 : P1 = n
    · by_cases h2 : P2 = n
      · by_cases h3 : P3 = n
        · exact .inr (.inr (.inr ⟨neq_f h1, neq_f h2, neq_f h3, neq_t (fun h4 => h ⟨h1, h2, h3, h4⟩)⟩))
        · exact .inr (.inr (.inl ⟨neq_f h1, neq_f h2, neq_t h3⟩))
      · exact .inr (.inl ⟨neq_f h1, neq_t h2⟩)
    · exact .inl (neq_t h1)
  clear h
  go_enter Try.func9, Try.ntmps9
  rcases hw with h | ⟨h, h'⟩ | ⟨h, h', h''⟩ | ⟨h, h', h'', h3⟩
  all_goals
    go_wp2_with fail
    go_ret
    exact wfNo (Below.refl _ _)

set_option maxRecDepth 100000 in
set_option maxHeartbeats 4000000 in
theorem wf_main (a b1 b2 b3 b4 : Option Addr) (n c c1 c2 c3 c4 : Nat) (PE : Nat → Int) (A1 A2 A3 A4 : Nat → Option Addr) (L1 L2 L3 L4 C1 C2 C3 C4 : Nat → Nat) (Z1 Z2 Z3 Z4 : Nat → Nat → Int) (w : World) (hn : n ≤ 1048576)
    (l1 : ∀ q, q < n → L1 q ≤ 1048576) (l2 : ∀ q, q < n → L2 q ≤ 1048576) (l3 : ∀ q, q < n → L3 q ≤ 1048576) (l4 : ∀ q, q < n → L4 q ≤ 1048576)
    (h0 : RdI .i64 w a n PE) (h1 : RdL w b1 n A1 L1 C1 Z1) (h2 : RdL w b2 n A2 L2 C2 Z2) (h3 : RdL w b3 n A3 L3 C3 Z3) (h4 : RdL w b4 n A4 L4 C4 Z4) :
    Calls Try.prog 9 #[.slice a n c, .slice b1 n c1, .slice b2 n c2, .slice b3 n c3, .slice b4 n c4] w (WfPost n n n n n PE (pick4 L1 L2 L3 L4) (pick4 Z1 Z2 Z3 Z4) w) := by
  have H0 : Hid (RdI .i64 w a n PE) := h0
  have H1 : Hid (RdL w b1 n A1 L1 C1 Z1) := h1
  have H2 : Hid (RdL w b2 n A2 L2 C2 Z2) := h2
  have H3 : Hid (RdL w b3 n A3 L3 C3 Z3) := h3
  have H4 : Hid (RdL w b4 n A4 L4 C4 Z4) := h4
  have HL : Hid ((∀ q, q < n → L1 q ≤ 1048576) ∧ (∀ q, q < n → L2 q ≤ 1048576) ∧ (∀ q, q < n → L3 q ≤ 1048576) ∧ (∀ q, q < n → L4 q ≤ 1048576)) := ⟨l1, l2, l3, l4⟩
  clear h0 h1 h2 h3 h4 l1 l2 l3 l4
  have hmk := fun w => run_mkMap (P := Try.prog) Try.underlying34 (n : Int) w
  go_enter Try.func9, Try.ntmps9
  go_wp2_with fail
  obtain ⟨w1, hw1⟩ : ∃ x, x = w.alloc (.map #[] 0) := ⟨_, rfl⟩
  rw [← hw1]
  obtain ⟨gM, HGM⟩ : ∃ x, Hid (x = w.heap.size) := ⟨_, rfl⟩
  rw [← HGM.out]
  have HM0 : Hid (Mi w1 gM (fun _ => none) 0) := by rw [hw1, HGM.out]; exact Mi.made w
  have HT0 : Hid (Below w.heap.size w w1) := by rw [hw1]; exact (Below.refl _ _).alloc (Nat.le_refl _) _
  clear hw1 hmk
  go_loopw [13] (fun v wr => ∃ (i q : Nat) (f : Int → Option Value), v = .int .i64 i ∧ i ≤ n ∧ Hid (Mi wr gM f q) ∧ Hid (∀ k, (f k).isSome = true ↔ ∃ j, j < i ∧ PE j = k) ∧ Hid (∀ j j', j < i → j' < i → PE j = PE j' → j = j') ∧ Hid (Below w.heap.size w wr)) (fun v _ => n - (intOf v).toNat)
  case atStart => exact ⟨0, 0, _, rfl, Nat.zero_le _, HM0, fun k => ⟨(fun h => by cases h), fun ⟨j, hj, _⟩ => absurd hj (Nat.not_lt_zero _)⟩, fun j j' hj => absurd hj (Nat.not_lt_zero _), HT0⟩
  case round =>
    clear HM0 HT0
    obtain ⟨i, q, f, rfl, hi, HM, HF, HI, HB⟩ := hrel
    by_cases hlt : i < n
    · have e0 : decide ((i : Int) < (n : Int)) = true := decide_eq_true (by omega)
      have e0' : decide (i < n) = true := decide_eq_true hlt
      obtain ⟨x, hx, kx⟩ := (H0.out.below HB.out).cell i hlt
      obtain ⟨u, HUU⟩ : ∃ u, Hid (u = PE i) := ⟨_, rfl⟩
      rw [← HUU.out] at kx
      have hl := HM.out.look (P := Try.prog) Try.underlying34 Try.underlying3 Try.zeroValue3 u true
      simp only [if_true] at hl
      cases hf : f u with
      | some v =>
        rw [hf] at hl
        simp only [Option.getD_some, Option.isSome_some] at hl
        clear hf
        subst hx
        go_wp2_with fail
        go_ret
        exact wfNo HB.out
      | none =>
        rw [hf] at hl
        simp only [Option.getD_none, Option.isSome_none] at hl
        obtain ⟨w3, hrun, hM3, hT3⟩ := HM.out.store' (P := Try.prog) Try.underlying34 Try.underlying3 u (.int .i64 i)
        have HM3 : Hid (∃ q', Mi w3 gM (fun j => if j = u then some (.int .i64 i) else f j) q') := ⟨_, hM3⟩
        have HB3 : Hid (Below w.heap.size w w3) := hT3.below HB.out (by rw [HGM.out]; exact Nat.le_refl _)
        have HF3 : Hid (∀ k, ((if k = u then some (Value.int .i64 i) else f k)).isSome = true ↔ ∃ j, j < i + 1 ∧ PE j = k) := fun k => by
          by_cases e : k = u
          · rw [if_pos e]; exact ⟨fun _ => ⟨i, by omega, by rw [e, HUU.out]⟩, fun _ => rfl⟩
          · rw [if_neg e, HF.out k]
            constructor
            · rintro ⟨j, j1, j2⟩; exact ⟨j, by omega, j2⟩
            · rintro ⟨j, j1, j2⟩
              rcases Nat.lt_or_ge j i with hj | hj
              · exact ⟨j, hj, j2⟩
              · obtain rfl : j = i := by omega
                exact absurd (by rw [← j2, HUU.out]) e
        have HI3 : Hid (∀ j j', j < i + 1 → j' < i + 1 → PE j = PE j' → j = j') := fun j j' hj hj' e => by
          have hnot : ∀ j, j < i → PE j ≠ u := fun j hj e => by
            have := (HF.out u).2 ⟨j, hj, e⟩
            rw [hf] at this; cases this
          rcases Nat.lt_or_ge j i with h | h
          · rcases Nat.lt_or_ge j' i with h' | h'
            · exact HI.out j j' h h' e
            · obtain rfl : j' = i := by omega
              exact absurd (by rw [e, HUU.out]) (hnot j h)
          · obtain rfl : j = i := by omega
            rcases Nat.lt_or_ge j' j with h' | h'
            · exact absurd (by rw [← e, HUU.out]) (hnot j' h')
            · omega
        clear hM3 hT3 hf
        subst hx
        go_wp2_with fail
        go_roundw
        case rel => exact ⟨i + 1, _, _, by go_num, by omega, HM3.out.choose_spec, HF3, HI3, HB3⟩
        case measure => simp [intOf]; omega
    · have e0 : decide ((i : Int) < (n : Int)) = false := decide_eq_false (by omega)
      have e0' : decide (i < n) = false := decide_eq_false hlt
      obtain rfl : n = i := by omega
      have HGL : Hid (gM < wr.heap.size) := HM.out.lt
      obtain ⟨wM, rfl⟩ : ∃ x, x = wr := ⟨wr, rfl⟩
      go_wp2_with fail
      go_loopw [16] (fun v wr => ∃ (i : Nat), v = .int .i64 i ∧ i ≤ n ∧ Hid (∀ i', i' < i → ∀ k, k < 4 → ∀ t, t < pick4 L1 L2 L3 L4 k i' → ∃ j, j < n ∧ pick4 Z1 Z2 Z3 Z4 k i' t = PE j) ∧ Hid (Below wM.heap.size wM wr)) (fun v _ => n - (intOf v).toNat)
      case atStart => exact ⟨0, rfl, Nat.zero_le _, fun i' hi' => absurd hi' (Nat.not_lt_zero _), Below.refl _ _⟩
      case round =>
        obtain ⟨i, rfl, hi, HR, HT⟩ := hrel
        have HBW : Hid (Below w.heap.size w wr) := HB.out.trans (HT.out.mono HB.out.size)
        by_cases hlt2 : i < n
        · have e1 : decide ((i : Int) < (n : Int)) = true := decide_eq_true (by omega)
          have e1' : decide (i < n) = true := decide_eq_true hlt2
          obtain ⟨x1, hx1⟩ := H1.out.at' (by omega)
          obtain ⟨x2, hx2⟩ := H2.out.at' (by omega)
          obtain ⟨x3, hx3⟩ := H3.out.at' (by omega)
          obtain ⟨x4, hx4⟩ := H4.out.at' (by omega)
          obtain ⟨k1, r1⟩ := ((H1.out.below HBW.out).2 x1 hx1).2 i hlt2
          obtain ⟨k2, r2⟩ := ((H2.out.below HBW.out).2 x2 hx2).2 i hlt2
          obtain ⟨k3, r3⟩ := ((H3.out.below HBW.out).2 x3 hx3).2 i hlt2
          obtain ⟨k4, r4⟩ := ((H4.out.below HBW.out).2 x4 hx4).2 i hlt2
          have HRW : Hid (∀ k, k < 4 → RdI .i64 wr (pick4 A1 A2 A3 A4 k i) (pick4 L1 L2 L3 L4 k i) (pick4 Z1 Z2 Z3 Z4 k i) ∧ pick4 L1 L2 L3 L4 k i ≤ 1048576) := fun k hk => by
            have : k = 0 ∨ k = 1 ∨ k = 2 ∨ k = 3 := by omega
            rcases this with rfl | rfl | rfl | rfl
            · exact ⟨r1, HL.out.1 i hlt2⟩
            · exact ⟨r2, HL.out.2.1 i hlt2⟩
            · exact ⟨r3, HL.out.2.2.1 i hlt2⟩
            · exact ⟨r4, HL.out.2.2.2 i hlt2⟩
          have HKK : Hid (∀ w' : World, Below wr.heap.size wr w' → w'.cell? (x1.add i) = some (.slice (A1 i) (L1 i) (C1 i)) ∧ w'.cell? (x2.add i) = some (.slice (A2 i) (L2 i) (C2 i)) ∧ w'.cell? (x3.add i) = some (.slice (A3 i) (L3 i) (C3 i)) ∧ w'.cell? (x4.add i) = some (.slice (A4 i) (L4 i) (C4 i))) := fun w' hb =>
            ⟨by rw [hb.cell (World.block_lt_of_cell? wr _ k1)]; exact k1, by rw [hb.cell (World.block_lt_of_cell? wr _ k2)]; exact k2, by rw [hb.cell (World.block_lt_of_cell? wr _ k3)]; exact k3, by rw [hb.cell (World.block_lt_of_cell? wr _ k4)]; exact k4⟩
          clear r1 r2 r3 r4
          subst hx1 hx2 hx3 hx4
          go_wp2_with fail
          go_region_held3 (fun (w' : World) => w'.cell? (x1.add i) = some (.slice (A1 i) (L1 i) (C1 i)) ∧ w'.cell? (x2.add i) = some (.slice (A2 i) (L2 i) (C2 i)) ∧ w'.cell? (x3.add i) = some (.slice (A3 i) (L3 i) (C3 i)) ∧ w'.cell? (x4.add i) = some (.slice (A4 i) (L4 i) (C4 i)))
            (first | exact HKK.out _ (Below.refl _ _).drew | exact HKK.out _ (((Below.refl _ _).alloc (Nat.le_refl _) _).drew))
            (fail)
          obtain ⟨w5, hw5⟩ : ∃ x, x = (wr.alloc (.cells #[.slice (A1 i) (L1 i) (C1 i), .slice (A2 i) (L2 i) (C2 i), .slice (A3 i) (L3 i) (C3 i), .slice (A4 i) (L4 i) (C4 i)] 35)).drew := ⟨_, rfl⟩
          rw [← hw5]
          obtain ⟨hA, HHA⟩ : ∃ x, Hid (x = wr.heap.size) := ⟨_, rfl⟩
          rw [← HHA.out]
          have HB5 : Hid (Below wr.heap.size wr w5) := by rw [hw5]; exact ((Below.refl _ _).alloc (Nat.le_refl _) _).drew
          have HAR : Hid (∀ k, k < 4 → w5.cell? ⟨hA, k, none⟩ = some (.slice (pick4 A1 A2 A3 A4 k i) (pick4 L1 L2 L3 L4 k i) (pick4 C1 C2 C3 C4 k i))) := fun k hk => by
            have hb : Bk (wr.alloc (.cells #[.slice (A1 i) (L1 i) (C1 i), .slice (A2 i) (L2 i) (C2 i), .slice (A3 i) (L3 i) (C3 i), .slice (A4 i) (L4 i) (C4 i)] 35)) wr.heap.size 35 4 (fun s => (#[.slice (A1 i) (L1 i) (C1 i), .slice (A2 i) (L2 i) (C2 i), .slice (A3 i) (L3 i) (C3 i), .slice (A4 i) (L4 i) (C4 i)] : Array Value).getD s (.bool false)) := Bk.new wr #[.slice (A1 i) (L1 i) (C1 i), .slice (A2 i) (L2 i) (C2 i), .slice (A3 i) (L3 i) (C3 i), .slice (A4 i) (L4 i) (C4 i)] 35
            have := hb.cell k hk
            rw [hw5, HHA.out]
            have hk' : k = 0 ∨ k = 1 ∨ k = 2 ∨ k = 3 := by omega
            rcases hk' with rfl | rfl | rfl | rfl <;> exact this
          have HAL : Hid (hA < w5.heap.size) := World.block_lt_of_cell? w5 _ (HAR.out 0 (by omega))
          have HM5 : Hid (Below wM.heap.size wM w5) := HT.out.trans (HB5.out.mono HT.out.size)
          have HRW5 : Hid (∀ k, k < 4 → RdI .i64 w5 (pick4 A1 A2 A3 A4 k i) (pick4 L1 L2 L3 L4 k i) (pick4 Z1 Z2 Z3 Z4 k i) ∧ pick4 L1 L2 L3 L4 k i ≤ 1048576) := fun k hk => ⟨(HRW.out k hk).1.below HB5.out, (HRW.out k hk).2⟩
          clear hw5 HKK HRW HT HBW HB5 k1 k2 k3 k4
          go_wp2_with fail
          go_loopw [18] (fun v wr => ∃ (k : Nat), v = .int .i64 k ∧ k ≤ 4 ∧ Hid (∀ k', k' < k → ∀ t, t < pick4 L1 L2 L3 L4 k' i → ∃ j, j < n ∧ pick4 Z1 Z2 Z3 Z4 k' i t = PE j) ∧ Hid (Below w5.heap.size w5 wr)) (fun v _ => 4 - (intOf v).toNat)
          case atStart => exact ⟨0, rfl, by omega, fun k' hk' => absurd hk' (Nat.not_lt_zero _), Below.refl _ _⟩
          case round =>
            obtain ⟨k, rfl, hk, HR2, HT2⟩ := hrel
            by_cases hlt3 : k < 4
            · have e2 : decide ((k : Int) < 4) = true := decide_eq_true (by omega)
              have e2' : decide (k < 4) = true := decide_eq_true hlt3
              have hki : (k : Int) < 4 := by omega
              have ka : wr.cell? ⟨hA, k, none⟩ = some (.slice (pick4 A1 A2 A3 A4 k i) (pick4 L1 L2 L3 L4 k i) (pick4 C1 C2 C3 C4 k i)) := by rw [HT2.out.cell (p := ⟨hA, k, none⟩) HAL.out]; exact HAR.out k hlt3
              obtain ⟨rk, lk⟩ := HRW5.out k hlt3
              obtain ⟨ak, HAK⟩ : ∃ x, Hid (x = pick4 A1 A2 A3 A4 k i) := ⟨_, rfl⟩
              obtain ⟨lk', HLK⟩ : ∃ x, Hid (x = pick4 L1 L2 L3 L4 k i) := ⟨_, rfl⟩
              rw [← HAK.out, ← HLK.out] at ka rk
              rw [← HLK.out] at lk
              have HRK : Hid (RdI .i64 w5 ak lk' (pick4 Z1 Z2 Z3 Z4 k i)) := rk
              clear rk
              go_wp2_with fail
              go_loopw [100] (fun v wr => ∃ (t : Nat), v = .int .i64 t ∧ t ≤ lk' ∧ Hid (∀ t', t' < t → ∃ j, j < n ∧ pick4 Z1 Z2 Z3 Z4 k i t' = PE j) ∧ Hid (Below w5.heap.size w5 wr)) (fun v _ => lk' - (intOf v).toNat)
              case atStart => exact ⟨0, rfl, Nat.zero_le _, fun t' ht' => absurd ht' (Nat.not_lt_zero _), HT2⟩
              case round =>
                clear HT2 ka
                obtain ⟨t, rfl, ht, HR3, HT3⟩ := hrel
                have HBW : Hid (Below w.heap.size w wr) := (HB.out.trans (HM5.out.mono HB.out.size)).trans (HT3.out.mono (Nat.le_trans HB.out.size HM5.out.size))
                by_cases hlt4 : t < lk'
                · have e3 : decide ((t : Int) < (lk' : Int)) = true := decide_eq_true (by omega)
                  have e3' : decide (t < lk') = true := decide_eq_true hlt4
                  obtain ⟨x, hx, kx⟩ := (HRK.out.below HT3.out).cell t hlt4
                  obtain ⟨u, HUU⟩ : ∃ u, Hid (u = pick4 Z1 Z2 Z3 Z4 k i t) := ⟨_, rfl⟩
                  rw [← HUU.out] at kx
                  have hMr : Mi wr gM f q := HM.out.alloc ((HT3.out.block gM (Nat.lt_of_lt_of_le HGL.out HM5.out.size)).trans (HM5.out.block gM HGL.out))
                  have hl := hMr.look (P := Try.prog) Try.underlying34 Try.underlying3 Try.zeroValue3 u true
                  simp only [if_true] at hl
                  cases hf : f u with
                  | none =>
                    rw [hf] at hl
                    simp only [Option.getD_none, Option.isSome_none] at hl
                    clear hf hMr
                    subst hx
                    go_wp2_with fail
                    go_ret
                    exact wfNo HBW.out
                  | some v =>
                    rw [hf] at hl
                    simp only [Option.getD_some, Option.isSome_some] at hl
                    have HR3' : Hid (∀ t', t' < t + 1 → ∃ j, j < n ∧ pick4 Z1 Z2 Z3 Z4 k i t' = PE j) := fun t' ht' => by
                      rcases Nat.lt_or_ge t' t with h | h
                      · exact HR3.out t' h
                      · obtain rfl : t' = t := by omega
                        obtain ⟨j, j1, j2⟩ := (HF.out u).1 (by rw [hf]; rfl)
                        exact ⟨j, j1, by rw [j2, HUU.out]⟩
                    clear hf hMr HR3
                    subst hx
                    go_wp2_with fail
                    go_roundw
                    case rel => exact ⟨t + 1, by go_num, by omega, HR3', HT3⟩
                    case measure => simp [intOf]; omega
                · have e3 : decide ((t : Int) < (lk' : Int)) = false := decide_eq_false (by omega)
                  have e3' : decide (t < lk') = false := decide_eq_false hlt4
                  have HR2' : Hid (∀ k', k' < k + 1 → ∀ t, t < pick4 L1 L2 L3 L4 k' i → ∃ j, j < n ∧ pick4 Z1 Z2 Z3 Z4 k' i t = PE j) := fun k' hk' t' ht' => by
                    rcases Nat.lt_or_ge k' k with h | h
                    · exact HR2.out k' h t' ht'
                    · obtain rfl : k' = k := by omega
                      rw [← HLK.out] at ht'
                      exact HR3.out t' (by omega)
                  clear HR2 HR3 HBW
                  go_wp2_with fail
                  go_roundw
                  case rel => exact ⟨k + 1, by go_num, by omega, HR2', HT3⟩
                  case measure => simp [intOf]; omega
            · have e2 : decide ((k : Int) < 4) = false := decide_eq_false (by omega)
              have e2' : decide (k < 4) = false := decide_eq_false hlt3
              have HR' : Hid (∀ i', i' < i + 1 → ∀ k, k < 4 → ∀ t, t < pick4 L1 L2 L3 L4 k i' → ∃ j, j < n ∧ pick4 Z1 Z2 Z3 Z4 k i' t = PE j) := fun i' hi' k' hk' t' ht' => by
                rcases Nat.lt_or_ge i' i with h | h
                · exact HR.out i' h k' hk' t' ht'
                · obtain rfl : i' = i := by omega
                  exact HR2.out k' (by omega) t' ht'
              have HT' : Hid (Below wM.heap.size wM wr) := HM5.out.trans (HT2.out.mono HM5.out.size)
              clear HR HR2
              go_wp2_with fail
              go_roundw
              case rel => exact ⟨i + 1, by go_num, by omega, HR', HT'⟩
              case measure => simp [intOf]; omega
        · have e1 : decide ((i : Int) < (n : Int)) = false := decide_eq_false (by omega)
          have e1' : decide (i < n) = false := decide_eq_false hlt2
          obtain rfl : n = i := by omega
          go_wp2_with fail
          go_ret
          exact ⟨true, rfl, fun _ => ⟨⟨rfl, rfl, rfl, rfl⟩, ⟨HI.out, HR.out⟩⟩, HBW.out⟩
end Go.Proofs.Qxb6605294a
