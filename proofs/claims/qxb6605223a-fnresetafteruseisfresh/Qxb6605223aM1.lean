/-
  Seat b6605223a. WALKS: zzCloneInt2 (12), zzReturnedBy (13).
-/
import Derived.Test.Qxb6605223aM0
set_option linter.unusedVariables false
set_option linter.unusedSimpArgs false
namespace Go.Proofs.Qxb6605223a
open Go.RowKit

theorem Bk.rdI {k : IntKind} {w : World} {g n : Nat} {e : TypeId} {V : Nat → Int} (h : Bk w g e n (fun i => .int k (V i))) : RdI k w (some ⟨g, 0, none⟩) n V := by
  refine ⟨fun h0 => (by cases h0), fun x hx => ?_⟩
  cases hx
  refine ⟨fun _ => h.lt, fun i hi => ?_⟩
  have : (⟨g, 0, none⟩ : Addr).add i = ⟨g, i, none⟩ := by unfold Addr.add; split <;> simp_all
  rw [this]
  exact h.cell i hi
theorem RdI.nil (k : IntKind) (w : World) (V : Nat → Int) : RdI k w none 0 V := ⟨fun _ => rfl, fun x hx => by cases hx⟩
theorem RdI.keep {k : IntKind} {w w' : World} {a : Option Addr} {n : Nat} {V : Nat → Int} (h : RdI k w a n V) (hs : w.heap.size ≤ w'.heap.size) (hb : ∀ x, a = some x → 0 < n → w'.heap[x.block]? = w.heap[x.block]?) : RdI k w' a n V :=
  ⟨h.1, fun x hx => ⟨fun h0 => Nat.lt_of_lt_of_le ((h.2 x hx).1 h0) hs, fun i hi => by
    rw [World.cell?_of_block (w := w) (by rw [add_block]; exact hb x hx (by omega))]
    exact (h.2 x hx).2 i hi⟩⟩

/-- A slice of slices of integers that is read. -/
def RdL (w : World) (a : Option Addr) (P : Nat) (A : Nat → Option Addr) (L C : Nat → Nat) (Z : Nat → Nat → Int) : Prop :=
  (a = none → P = 0) ∧ ∀ x, a = some x → (0 < P → x.block < w.heap.size) ∧ ∀ q, q < P → w.cell? (x.add q) = some (.slice (A q) (L q) (C q)) ∧ RdI .i64 w (A q) (L q) (Z q)
theorem RdL.below {w w' : World} {a : Option Addr} {P : Nat} {A : Nat → Option Addr} {L C : Nat → Nat} {Z : Nat → Nat → Int} (h : RdL w a P A L C Z) (hb : Below w.heap.size w w') : RdL w' a P A L C Z :=
  ⟨h.1, fun x hx => ⟨fun h0 => Nat.lt_of_lt_of_le ((h.2 x hx).1 h0) hb.size, fun q hq => ⟨by rw [hb.cell (by rw [add_block]; exact (h.2 x hx).1 (by omega))]; exact ((h.2 x hx).2 q hq).1, ((h.2 x hx).2 q hq).2.below hb⟩⟩⟩

theorem Try.info22 : (Try.prog.info? 22).map (fun i => (i.zero, i.size, i.bytes)) = some (some (.slice none 0 0), 1, 24) := by kernel_rfl
theorem Try.info4 : (Try.prog.info? 4).map (fun i => (i.zero, i.size, i.bytes)) = some (some (.bool false), 1, 1) := by kernel_rfl

/-- Rows cloned so far. -/
def Rows2 (w0 w : World) (g i : Nat) (W : Nat → Value) (A : Nat → Option Addr) (L : Nat → Nat) (Z : Nat → Nat → Int) : Prop :=
  ∀ q, q < i → W q = .slice (A q) (L q) (L q) ∧ RdI .i64 w (A q) (L q) (Z q) ∧ ∀ x, A q = some x → g < x.block ∧ x.block < w.heap.size

def Cl2Post (P : Nat) (L : Nat → Nat) (Z : Nat → Nat → Int) (w : World) (r : Ending) (w' : World) : Prop :=
  Below w.heap.size w w' ∧ ((P = 0 ∧ r = .returned (.slice none 0 0)) ∨ ∃ g A, r = .returned (.slice (some ⟨g, 0, none⟩) P P) ∧ w.heap.size ≤ g ∧ g < w'.heap.size ∧ RdL w' (some ⟨g, 0, none⟩) P A L L Z ∧ ∀ q, q < P → ∀ x, A q = some x → g < x.block ∧ x.block < w'.heap.size)

set_option maxRecDepth 100000 in
set_option maxHeartbeats 1000000 in
theorem clone2_any (a : Option Addr) (P c : Nat) (A : Nat → Option Addr) (L C : Nat → Nat) (Z : Nat → Nat → Int) (w : World) (hn : P ≤ 1048576) (hL : ∀ q, q < P → L q ≤ 1048576) (h : RdL w a P A L C Z) :
    Calls Try.prog 12 #[.slice a P c] w (Cl2Post P L Z w) := by
  cases a with
  | none =>
    have h0 := h.1 rfl
    subst h0
    have hnil := fun w => Lib.run_eql_slice_nil (P := Try.prog) w 24 22 none 0 c 0 0 Try.underlying24
    clear h hL
    go_enter Try.func12, Try.ntmps12
    go_wp2_with fail
    go_ret
    exact ⟨Below.refl _ _, .inl ⟨rfl, rfl⟩⟩
  | some x =>
    obtain ⟨hx1, hx2⟩ := h.2 x rfl
    have HX1 : Hid (0 < P → x.block < w.heap.size) := hx1
    have HC : Hid (∀ q, q < P → w.cell? (x.add q) = some (.slice (A q) (L q) (C q)) ∧ RdI .i64 w (A q) (L q) (Z q)) := hx2
    have HL : Hid (∀ q, q < P → L q ≤ 1048576) := hL
    obtain ⟨X, hX, hmk⟩ := run_mk1 (P := Try.prog) 24 22 _ _ Try.underlying24 Try.info22 P (by omega) (by omega)
    have HXs : Hid (X.size = P) := by show _ = _; rw [hX]; exact size_made1 _ _
    have hmk0 := hmk w
    have hnil := fun w => Lib.run_eql_slice_nil (P := Try.prog) w 24 22 (some x) P c 0 0 Try.underlying24
    clear h hx1 hx2 hX hmk hL
    go_enter Try.func12, Try.ntmps12
    go_wp2_with fail
    go_loopw [4] (fun v wr => ∃ (i : Nat) (W : Nat → Value) (A' : Nat → Option Addr), v = .int .i64 i ∧ i ≤ P ∧ Hid (Below w.heap.size w wr) ∧ Hid (Bk wr w.heap.size 22 P W) ∧ Hid (Rows2 w wr w.heap.size i W A' L Z)) (fun v _ => P - (intOf v).toNat)
    case atStart =>
      have hb := Bk.new w X 22
      rw [HXs.out] at hb
      exact ⟨0, _, fun _ => none, rfl, Nat.zero_le _, (Below.refl _ w).alloc (Nat.le_refl _) _, hb, fun j hj => absurd hj (Nat.not_lt_zero _)⟩
    case round =>
      clear hmk0
      obtain ⟨i, W, A', rfl, hi, HB, HK, HA⟩ := hrel
      have hgl := HK.out.lt
      by_cases hlt : i < P
      · have e0 : decide ((i : Int) < (P : Int)) = true := decide_eq_true (by omega)
        have e0' : decide (i < P) = true := decide_eq_true hlt
        have hsrc : wr.cell? (x.add i) = some (.slice (A i) (L i) (C i)) := by rw [HB.out.cell (by rw [add_block]; exact HX1.out (by omega))]; exact (HC.out i hlt).1
        have cC := clone64_any (A i) (L i) (C i) (Z i) wr (HL.out i hlt) ((HC.out i hlt).2.below HB.out)
        go_wp2_with fail
        refine cC.mono ?_
        rintro r w2 ⟨hB2, hE⟩
        obtain ⟨o, hv, hE2, ho⟩ : ∃ (o : Option Addr), r = .returned (.slice o (L i) (L i)) ∧ RdI .i64 w2 o (L i) (Z i) ∧ ∀ y, o = some y → wr.heap.size ≤ y.block ∧ y.block < w2.heap.size := by
          rcases hE with ⟨h0, rfl⟩ | ⟨g', rfl, hg1, hg2⟩
          · exact ⟨none, by rw [h0], by rw [h0]; exact RdI.nil _ _ _, fun y hy => by cases hy⟩
          · exact ⟨some ⟨g', 0, none⟩, rfl, hg2.rdI, fun y hy => by cases hy; exact ⟨hg1, hg2.lt⟩⟩
        subst hv
        have HK2 : Hid (Bk w2 w.heap.size 22 P W) := HK.out.below hB2 hgl
        have hdst := HK2.out.cell i hlt
        have hfr := HK2.out.frozen i
        have HB2 : Hid (Below w.heap.size w w2) := HB.out.trans (hB2.mono HB.out.size)
        have HK3 : Hid (Bk (w2.setCell ⟨w.heap.size, i, none⟩ (.slice o (L i) (L i))) w.heap.size 22 P (fun j => if j = i then .slice o (L i) (L i) else W j)) := HK2.out.set i hlt _
        have HB3 : Hid (Below w.heap.size w (w2.setCell ⟨w.heap.size, i, none⟩ (.slice o (L i) (L i)))) := HB2.out.setCell (Nat.le_refl _) _
        have HA3 : Hid (Rows2 w (w2.setCell ⟨w.heap.size, i, none⟩ (.slice o (L i) (L i))) w.heap.size (i + 1) (fun j => if j = i then .slice o (L i) (L i) else W j) (fun j => if j = i then o else A' j) L Z) := by
          intro q hq
          have hsz : (w2.setCell ⟨w.heap.size, i, none⟩ (.slice o (L i) (L i))).heap.size = w2.heap.size := by simp [World.setCell]
          by_cases eq : q = i
          · subst eq
            simp only [if_true]
            refine ⟨by first | rfl | trivial, hE2.keep (by rw [hsz]; exact Nat.le_refl _) (fun y hy _ => Below.heap_setCell _ _ _ _ (by have := (ho y hy).1; show y.block ≠ w.heap.size; omega)), fun y hy => ⟨by have := (ho y hy).1; omega, by rw [hsz]; exact (ho y hy).2⟩⟩
          · simp only [if_neg eq]
            obtain ⟨r1, r2, r3⟩ := HA.out q (by omega)
            refine ⟨r1, (r2.below hB2).keep (by rw [hsz]; exact Nat.le_refl _) (fun y hy _ => Below.heap_setCell _ _ _ _ (by have := (r3 y hy).1; show y.block ≠ w.heap.size; omega)), fun y hy => ⟨(r3 y hy).1, by rw [hsz]; exact Nat.lt_of_lt_of_le (r3 y hy).2 hB2.size⟩⟩
        clear hB2 hE hE2 ho HA HK HB HK2 HB2 HC HL HX1 cC hsrc
        go_wp2_with fail
        go_roundw
        case rel => exact ⟨i + 1, _, _, by go_num, by omega, HB3, HK3, HA3⟩
        case measure => simp [intOf]; omega
      · have e0 : decide ((i : Int) < (P : Int)) = false := decide_eq_false (by omega)
        have e0' : decide (i < P) = false := decide_eq_false hlt
        go_wp2_with fail
        go_ret
        refine ⟨HB.out, .inr ⟨_, A', rfl, Nat.le_refl _, hgl, ⟨fun h0 => (by cases h0), fun y hy => ?_⟩, fun q hq => (HA.out q (by omega)).2.2⟩⟩
        cases hy
        refine ⟨fun _ => hgl, fun q hq => ?_⟩
        have : (⟨w.heap.size, 0, none⟩ : Addr).add q = ⟨w.heap.size, q, none⟩ := by unfold Addr.add; split <;> simp_all
        rw [this, HK.out.cell q hq, (HA.out q (by omega)).1]
        exact ⟨rfl, (HA.out q (by omega)).2.1⟩
end Go.Proofs.Qxb6605223a
