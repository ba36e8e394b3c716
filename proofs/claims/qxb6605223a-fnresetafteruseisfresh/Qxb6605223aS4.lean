/-
  Seat b6605223a. WALK: slices.breakPatternsOrdered[uint64] (33); bits.Len (30), nextPowerOfTwo (43), xorshift.Next (44) off the shelf.
-/
import Derived.Test.Qxb6605223aS3
import Derived.Test.Qxb6605223aShelf
import Derived.Sort.LotD1
import Derived.Sort.LotD5
import Derived.Laws.Bits64b
set_option linter.unusedVariables false
set_option linter.unusedSimpArgs false
namespace Go.Proofs.Qxb6605223a
open Go.RowKit

theorem len_any (n : Nat) (hn : n < 4611686018427387904) (w : World) : Calls Try.prog 30 #[.int .u64 n] w fun e w' => (∃ l : Nat, l ≤ 64 ∧ e = .returned (.int .i64 l)) ∧ w' = w := by
  refine (Any.bits_Len Try.lays125 (n : Int) w (by omega) (by omega)).mono ?_
  rintro e w' ⟨rfl, rfl⟩
  exact ⟨⟨_, Lib.bitLen_le _ 64 (Nat.le_refl _) (by simp; omega), rfl⟩, rfl⟩

theorem pow_any (n : Nat) (h0 : 0 < n) (hn : n < 4611686018427387904) : ∃ M : Nat, 1 ≤ M ∧ M ≤ 2 * n ∧ ∀ w, Calls Try.prog 43 #[.int .i64 n] w fun e w' => e = .returned (.int .u64 (M : Int)) ∧ w' = w :=
  ⟨1 <<< Go.Sort.bitsLen n, by rw [Nat.one_shiftLeft]; exact Nat.two_pow_pos _, by rw [Nat.one_shiftLeft]; exact Go.Sort.two_pow_bitsLen_le h0, fun w => AnyF.nextPowerOfTwo Try.laysP n hn w⟩

theorem next_any (r X : Nat) (hX : X < 18446744073709551616) (w : World) (hc : w.cell? ⟨r, 0, none⟩ = some (.int .u64 X)) (hf : w.frozen? ⟨r, 0, none⟩ = false) :
    ∃ Y : Nat, Y < 18446744073709551616 ∧ Calls Try.prog 44 #[.pointer (some ⟨r, 0, none⟩)] w fun e w' => e = .returned (.int .u64 (Y : Int)) ∧ w' = (w.setCell ⟨r, 0, none⟩ (.int .u64 (Y : Int))).drewN 3 :=
  ⟨_, Go.Sort.xorNextN_lt X hX, AnyF.xorshift_Next Try.laysX r 0 X hX w hc hf⟩

set_option maxRecDepth 100000 in
set_option maxHeartbeats 1000000 in
theorem break_any (g n c cp a b : Nat) (D : Nat → Int) (w : World) (h : Rw w g n c D) (hn : n ≤ 1048576) (hb : b ≤ n) (hab : a + 8 ≤ b) :
    Calls Try.prog 33 #[.slice (some ⟨g, 0, none⟩) n cp, .int .i64 a, .int .i64 b] w (SPost g n c D a b (fun _ => True) (.tuple #[]) w) := by
  have hgl := h.lt
  have HD : Hid (Rw w g n c D) := h
  clear h
  obtain ⟨L, hL⟩ : ∃ L, b = a + L := ⟨b - a, by omega⟩
  obtain ⟨q, hq⟩ : ∃ q, q = L / 4 := ⟨_, rfl⟩
  have e0 : (b : Int) - (a : Int) = (L : Int) := by omega
  have e1 : (L : Int) / 4 = (q : Int) := by omega
  have hL8 : (8 : Int) ≤ (L : Int) := by omega
  have hq2 : 2 ≤ q := by omega
  have hq3 : q * 4 ≤ L := by omega
  obtain ⟨M, hM1, hM2, cP⟩ := pow_any L (by omega) (by omega)
  have HP : Hid (∀ w, Calls Try.prog 43 #[.int .i64 L] w fun e w' => e = .returned (.int .u64 (M : Int)) ∧ w' = w) := cP
  have hb2 : a + L ≤ b := by omega
  have hb3 : b ≤ a + L := by omega
  clear hL hq cP
  go_enter Try.func33, Try.ntmps33
  go_wp2_with (go_at_call 43; refine (HP.out _).mono ?_; rintro e w' ⟨rfl, rfl⟩)
  go_loopw [9, 10] (fun v v2 wr => ∃ (t p X : Nat) (x : Int) (D' : Nat → Int), v = .int .i64 x ∧ x = (p : Int) ∧ p + 1 = a + q * 2 + t ∧ t ≤ 3 ∧ X < 18446744073709551616 ∧ wr.cell? ⟨w.heap.size, 0, none⟩ = some (.int .u64 (X : Int)) ∧ wr.frozen? ⟨w.heap.size, 0, none⟩ = false ∧ Hid (Rw wr g n c D') ∧ Hid (Same D D' a b) ∧ Hid (Fr g w wr)) (fun v _ _ => (a + q * 2 + 3 : Nat) - (intOf v).toNat)
  case atStart => exact ⟨0, a + q * 2 - 1, L, _, D, rfl, by omega, by omega, by omega, by omega, by simp, by simp, HD.out.alloc _, Same.refl _ _ _, (Fr.refl _ _).alloc _⟩
  case round =>
    clear HD
    obtain ⟨t, p, X, x, D1, rfl, hx, hp, ht, hX, hcx, hfx, HR, HS, HF⟩ := hrel
    subst hx
    by_cases ht3 : t < 3
    · have hle : (p : Int) ≤ (a : Int) + (q : Int) * 2 + 1 := by omega
      have hle2 : decide ((p : Int) ≤ (a : Int) + (q : Int) * 2 + 1) = true := decide_eq_true hle
      obtain ⟨Y, hY, cN⟩ := next_any w.heap.size X hX wr hcx hfx
      obtain ⟨O, hO⟩ : ∃ O : Nat, O = Y &&& (M - 1) := ⟨_, rfl⟩
      have lO : O ≤ M - 1 := by rw [hO]; exact Nat.and_le_right
      have eAnd : bits .and .u64 (Y : Int) ((M : Int) - 1) = (O : Int) := by
        rw [show ((M : Int) - 1) = ((M - 1 : Nat) : Int) by omega, bits_and_u64_nat _ _ hY (by omega), hO]
      clear hO
      have hne : g ≠ w.heap.size := by omega
      have hsz := HF.out.size
      obtain ⟨w2, hw2⟩ : ∃ w2, w2 = (wr.setCell ⟨w.heap.size, 0, none⟩ (.int .u64 (Y : Int))).drewN 3 := ⟨_, rfl⟩
      rw [← hw2] at cN
      have cY : w2.cell? ⟨w.heap.size, 0, none⟩ = some (.int .u64 (Y : Int)) := by rw [hw2, World.cell?_drewN]; exact World.cell?_setCell_same _ _ _ hcx
      have fY : w2.frozen? ⟨w.heap.size, 0, none⟩ = false := by rw [hw2, World.frozen?_drewN]; simpa using hfx
      have HR2 : Hid (Rw w2 g n c D1) := by show Rw ..; rw [hw2]; exact (HR.out.other ⟨w.heap.size, 0, none⟩ hne _).drewN 3
      have HF2 : Hid (Fr g w w2) := by show Fr ..; rw [hw2]; exact (HF.out.setNew ⟨w.heap.size, 0, none⟩ (Nat.le_refl _) _).drewN 3
      clear hw2 HR HF hcx hfx
      obtain ⟨o, ho, how⟩ : ∃ o : Nat, o < L ∧ ((L ≤ O ∧ (O : Int) - (L : Int) = (o : Int)) ∨ (O < L ∧ O = o)) := by
        by_cases h : L ≤ O
        · exact ⟨O - L, by omega, .inl ⟨h, by omega⟩⟩
        · exact ⟨O, by omega, .inr ⟨by omega, rfl⟩⟩
      have hc1 := HR2.out.cell p (by omega)
      have hf1 := HR2.out.frozen p
      have hc2 := HR2.out.cell (a + o) (by omega)
      have hf2 := HR2.out.frozen (a + o)
      have hs1 : (w2.setCell ⟨g, p, none⟩ (.int .u64 (D1 (a + o)))).drew.cell? ⟨g, a + o, none⟩ = _ := (HR2.out.set p (by omega) (D1 (a + o))).cell (a + o) (by omega)
      have hs2 : (w2.setCell ⟨g, p, none⟩ (.int .u64 (D1 (a + o)))).drew.frozen? ⟨g, a + o, none⟩ = false := (HR2.out.set p (by omega) (D1 (a + o))).frozen (a + o)
      have hs3 : (w2.setCell ⟨g, a + o, none⟩ (.int .u64 (D1 p))).drew.cell? ⟨g, p, none⟩ = _ := (HR2.out.set (a + o) (by omega) (D1 p)).cell p (by omega)
      have hs4 : (w2.setCell ⟨g, a + o, none⟩ (.int .u64 (D1 p))).drew.frozen? ⟨g, p, none⟩ = false := (HR2.out.set (a + o) (by omega) (D1 p)).frozen p
      have HS' : Hid (Same D (swp D1 p (a + o)) a b) := HS.out.trans (Same.swap D1 p (a + o) (by omega) (by omega) (by omega) (by omega))
      have HR3 : Hid (Rw (((w2.setCell ⟨g, p, none⟩ (.int .u64 (D1 (a + o)))).setCell ⟨g, a + o, none⟩ (.int .u64 (D1 p))).drew) g n c (swp D1 p (a + o))) := HR2.out.swap p (a + o) (by omega) (by omega)
      have HF3 : Hid (Fr g w (((w2.setCell ⟨g, p, none⟩ (.int .u64 (D1 (a + o)))).setCell ⟨g, a + o, none⟩ (.int .u64 (D1 p))).drew)) := ((HF2.out.set _ _ _).set _ _ _).drew
      have cY3 : ((w2.setCell ⟨g, p, none⟩ (.int .u64 (D1 (a + o)))).setCell ⟨g, a + o, none⟩ (.int .u64 (D1 p))).drew.cell? ⟨w.heap.size, 0, none⟩ = some (.int .u64 (Y : Int)) := by
        rw [← cY]
        exact World.cell?_of_block (by show ((w2.setCell _ _).setCell _ _).heap[w.heap.size]? = _; rw [Below.heap_setCell _ _ _ _ (by simp; omega), Below.heap_setCell _ _ _ _ (by simp; omega)])
      have fY3 : ((w2.setCell ⟨g, p, none⟩ (.int .u64 (D1 (a + o)))).setCell ⟨g, a + o, none⟩ (.int .u64 (D1 p))).drew.frozen? ⟨w.heap.size, 0, none⟩ = false := by
        rw [← fY]
        exact World.frozen?_of_block (by show ((w2.setCell _ _).setCell _ _).heap[w.heap.size]? = _; rw [Below.heap_setCell _ _ _ _ (by simp; omega), Below.heap_setCell _ _ _ _ (by simp; omega)])
      rcases how with ⟨hLO, hoo⟩ | ⟨hLO, rfl⟩
      all_goals
        go_wp2_with (go_at_call 44; refine cN.mono ?_; rintro e w' ⟨rfl, hw'⟩; obtain rfl : w2 = w' := hw'.symm)
        go_big_region
        all_goals
          go_wp2_with fail
          go_roundw
          case rel => exact ⟨t + 1, p + 1, Y, (p : Int) + 1, _, rfl, by omega, by omega, by omega, hY, cY3, fY3, HR3, HS', HF3⟩
          case measure => simp [intOf]; omega
    · have hle : ¬ ((p : Int) ≤ (a : Int) + (q : Int) * 2 + 1) := by omega
      go_wp2_with fail
      go_end0
      exact ⟨rfl, HF.out, D1, HR.out, HS.out, trivial⟩
end Go.Proofs.Qxb6605223a
