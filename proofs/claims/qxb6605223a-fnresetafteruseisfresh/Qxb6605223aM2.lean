/-
  Seat b6605223a. WALKS: zzReturnedBy (13), zzWellFormed (8).
-/
import Derived.Test.Qxb6605223aM1
set_option linter.unusedVariables false
set_option linter.unusedSimpArgs false
namespace Go.Proofs.Qxb6605223a
open Go.RowKit

/-- Marked so far: just the writes that the first k reads return. -/
def Mk (F : Nat → Int) (rd : Nat → Nat) (n k : Nat) (b : Nat → Bool) : Prop := ∀ j, j < n → (b j = true ↔ ∃ i, i < k ∧ F (rd i) = (j : Int))

def RetPost (F : Nat → Int) (rd : Nat → Nat) (n R : Nat) (w : World) (r : Ending) (w' : World) : Prop :=
  ∃ g b, r = .returned (.slice (some ⟨g, 0, none⟩) n n) ∧ w.heap.size ≤ g ∧ Bk w' g 4 n (fun j => .bool (b j)) ∧ Mk F rd n R b ∧ Below w.heap.size w w'

theorem made_bool (n i : Nat) (h : i < n) : (madeCells (Value.cells (.bool false)) n).getD i (.bool false) = .bool false := by
  simp [madeCells, Value.cells, Array.getD, Nat.mod_one]

theorem RdI.at' {k : IntKind} {w : World} {a : Option Addr} {n : Nat} {V : Nat → Int} (h : RdI k w a n V) (h0 : 0 < n) : ∃ x, a = some x := by
  cases a with
  | none => have := h.1 rfl; omega
  | some x => exact ⟨x, rfl⟩

set_option maxRecDepth 100000 in
set_option maxHeartbeats 1000000 in
theorem retBy_any (af ar : Option Addr) (n R cf cr : Nat) (F : Nat → Int) (rd : Nat → Nat) (w : World) (hn : n ≤ 1048576) (hR : R ≤ 1048576) (hf : RdI .i64 w af n F) (hr : RdI .i64 w ar R (fun i => (rd i : Int)))
    (hF : ∀ i, i < n → -1 ≤ F i ∧ F i < n) (hrd : ∀ i, i < R → rd i < n) :
    Calls Try.prog 13 #[.int .i64 n, .slice af n cf, .slice ar R cr] w (RetPost F rd n R w) := by
  have H1 : Hid (RdI .i64 w af n F) := hf
  have H2 : Hid (RdI .i64 w ar R (fun i => (rd i : Int))) := hr
  have H3 : Hid (∀ i, i < n → -1 ≤ F i ∧ F i < n) := hF
  have H4 : Hid (∀ i, i < R → rd i < n) := hrd
  obtain ⟨X, hX, hmk⟩ := run_mk1 (P := Try.prog) 32 4 _ _ Try.underlying32 Try.info4 n (by omega) (by omega)
  have hmk0 := hmk w
  have HXs : Hid (X.size = n) := by show _ = _; rw [hX]; exact size_made1 _ _
  have HXv : Hid (∀ i, i < n → X.getD i (.bool false) = .bool false) := by rw [hX]; exact fun i hi => made_bool n i hi
  clear hf hr hF hrd hX hmk
  go_enter Try.func13, Try.ntmps13
  go_wp2_with fail
  go_loopw [8] (fun v wr => ∃ (k : Nat) (b : Nat → Bool), v = .int .i64 k ∧ k ≤ R ∧ Hid (Below w.heap.size w wr) ∧ Hid (Bk wr w.heap.size 4 n (fun j => .bool (b j))) ∧ Hid (Mk F rd n k b)) (fun v _ => R - (intOf v).toNat)
  case atStart =>
    have hb := Bk.new w X 4
    rw [HXs.out] at hb
    exact ⟨0, fun _ => false, rfl, Nat.zero_le _, (Below.refl _ w).alloc (Nat.le_refl _) _, hb.congr (fun i hi => (HXv.out i hi).symm), fun j hj => ⟨fun h => (by cases h), fun ⟨i, hi, _⟩ => absurd hi (Nat.not_lt_zero _)⟩⟩
  case round =>
    clear hmk0
    obtain ⟨k, b, rfl, hk, HB, HK, HM⟩ := hrel
    by_cases hlt : k < R
    · have e0 : decide ((k : Int) < (R : Int)) = true := decide_eq_true (by omega)
      have e0' : decide (k < R) = true := decide_eq_true hlt
      obtain ⟨xr, hxr⟩ := H2.out.at' (by omega)
      subst hxr
      have hrk := H4.out k hlt
      obtain ⟨xf, hxf⟩ := H1.out.at' (by omega)
      subst hxf
      have c1 : wr.cell? (xr.add k) = some (.int .i64 (rd k : Int)) := ((H2.out.below HB.out).2 xr rfl).2 k hlt
      have c2 : wr.cell? (xf.add (rd k)) = some (.int .i64 (F (rd k))) := ((H1.out.below HB.out).2 xf rfl).2 (rd k) hrk
      have hF1 := H3.out (rd k) hrk
      by_cases hw : 0 ≤ F (rd k)
      · obtain ⟨j, hj⟩ : ∃ j : Nat, F (rd k) = (j : Int) := ⟨(F (rd k)).toNat, by omega⟩
        have hjn : j < n := by omega
        have HM' : Hid (Mk F rd n (k + 1) (fun i => if i = j then true else b i)) := fun i hi => by
          by_cases e' : i = j
          · subst e'
            simp only [if_true]
            exact ⟨fun _ => ⟨k, by omega, hj⟩, fun _ => trivial⟩
          · simp only [if_neg e']
            rw [HM.out i hi]
            constructor
            · rintro ⟨t, ht, e⟩
              exact ⟨t, by omega, e⟩
            · rintro ⟨t, ht, e⟩
              refine ⟨t, ?_, e⟩
              rcases Nat.lt_or_ge t k with h | h
              · exact h
              · obtain rfl : t = k := by omega
                rw [hj] at e
                omega
        have hd := HK.out.cell j hjn
        have hfz := HK.out.frozen j
        have HK' : Hid (Bk (wr.setCell ⟨w.heap.size, j, none⟩ (.bool true)) w.heap.size 4 n (fun i => .bool (if i = j then true else b i))) := (HK.out.set j hjn _).congr (fun i hi => by by_cases e' : i = j <;> simp [e'])
        have HB' : Hid (Below w.heap.size w (wr.setCell ⟨w.heap.size, j, none⟩ (.bool true))) := HB.out.setCell (Nat.le_refl _) _
        rw [hj] at c2
        clear hF1 hw hj HM HK HB
        go_wp2_with fail
        go_roundw
        case rel => exact ⟨k + 1, _, by go_num, by omega, HB', HK', HM'⟩
        case measure => simp [intOf]; omega
      · have HM' : Hid (Mk F rd n (k + 1) b) := fun i hi => by
          rw [HM.out i hi]
          constructor
          · rintro ⟨t, ht, e⟩
            exact ⟨t, by omega, e⟩
          · rintro ⟨t, ht, e⟩
            refine ⟨t, ?_, e⟩
            rcases Nat.lt_or_ge t k with h | h
            · exact h
            · obtain rfl : t = k := by omega
              omega
        clear HM
        go_wp2_with fail
        go_roundw
        case rel => exact ⟨k + 1, b, by go_num, by omega, HB, HK, HM'⟩
        case measure => simp [intOf]; omega
    · have e0 : decide ((k : Int) < (R : Int)) = false := decide_eq_false (by omega)
      have e0' : decide (k < R) = false := decide_eq_false hlt
      have hkR : k = R := by omega
      have HM' : Hid (Mk F rd n R b) := by rw [hkR] at HM; exact HM
      clear hkR HM
      go_wp2_with fail
      go_ret
      exact ⟨_, b, rfl, Nat.le_refl _, HK.out, HM'.out, HB.out⟩
end Go.Proofs.Qxb6605223a
