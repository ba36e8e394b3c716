/-
  Seat b6605294a. MEMORY: a block known whole, by a function; WALKS: copyInts (11), copyLists (12).
-/
import Derived.Test.Qxb6605294aD0
import Derived.WalkLawsBesides
import Derived.Deep.QuietTactic
import Derived.BigQuiet
import Derived.RegionTactic
import Derived.BigRegion
import Derived.Lib.SliceRun
import Derived.Deep.Draws
set_option linter.unusedVariables false
set_option linter.unusedSimpArgs false
namespace Go.Proofs.Qxb6605294a
open Go.RowKit

/-- Block g: N cells of element type e, cell i holds V i. -/
def Bk (w : World) (g : Nat) (e : TypeId) (N : Nat) (V : Nat → Value) : Prop := ∃ cur : Array Value, w.heap[g]? = some (.cells cur e (0, 0)) ∧ cur.size = N ∧ ∀ i, i < N → cur[i]? = some (V i)

theorem Bk.lt {w : World} {g N : Nat} {e : TypeId} {V : Nat → Value} (h : Bk w g e N V) : g < w.heap.size := by
  obtain ⟨cur, h1, _⟩ := h
  exact (Array.getElem?_eq_some_iff.1 h1).1
theorem Bk.cell {w : World} {g N : Nat} {e : TypeId} {V : Nat → Value} (h : Bk w g e N V) (i : Nat) (hi : i < N) : w.cell? ⟨g, i, none⟩ = some (V i) := by
  obtain ⟨cur, h1, h2, h3⟩ := h
  simp [World.cell?, h1, h3 i hi]
theorem Bk.frozen {w : World} {g N : Nat} {e : TypeId} {V : Nat → Value} (h : Bk w g e N V) (i : Nat) : w.frozen? ⟨g, i, none⟩ = false := by
  obtain ⟨cur, h1, _⟩ := h
  simp [World.frozen?, h1]
theorem Bk.set {w : World} {g N : Nat} {e : TypeId} {V : Nat → Value} (h : Bk w g e N V) (i : Nat) (hi : i < N) (u : Value) : Bk (w.setCell ⟨g, i, none⟩ u) g e N (fun k => if k = i then u else V k) := by
  obtain ⟨cur, h1, h2, h3⟩ := h
  refine ⟨cur.setIfInBounds i u, ?_, by simp [h2], fun k hk => ?_⟩
  · simp [World.setCell, Array.getElem?_modify, h1]
  · simp only [Array.getElem?_setIfInBounds]
    by_cases e' : i = k
    · subst e'
      simp; omega
    · rw [if_neg e', if_neg (fun h => e' h.symm)]
      exact h3 k hk
theorem Bk.congr {w : World} {g N : Nat} {e : TypeId} {V V' : Nat → Value} (h : Bk w g e N V) (hv : ∀ i, i < N → V' i = V i) : Bk w g e N V' := by
  obtain ⟨cur, h1, h2, h3⟩ := h
  exact ⟨cur, h1, h2, fun i hi => by rw [hv i hi]; exact h3 i hi⟩
theorem Bk.drewN {w : World} {g N : Nat} {e : TypeId} {V : Nat → Value} (h : Bk w g e N V) (q : Nat) : Bk (w.drewN q) g e N V := h
theorem Bk.alloc {w : World} {g N : Nat} {e : TypeId} {V : Nat → Value} (h : Bk w g e N V) (o : Obj) : Bk (w.alloc o) g e N V := by
  have hl := h.lt
  obtain ⟨cur, h1, h2⟩ := h
  exact ⟨cur, by rw [Below.heap_alloc _ _ _ hl]; exact h1, h2⟩
theorem Bk.other {w : World} {g N : Nat} {e : TypeId} {V : Nat → Value} (h : Bk w g e N V) (p : Addr) (hp : g ≠ p.block) (u : Value) : Bk (w.setCell p u) g e N V := by
  obtain ⟨cur, h1, h2⟩ := h
  exact ⟨cur, by rw [Below.heap_setCell _ _ _ _ hp]; exact h1, h2⟩
theorem Bk.new (w : World) (cur : Array Value) (e : TypeId) : Bk (w.alloc (.cells cur e)) w.heap.size e cur.size (fun i => cur.getD i (.bool false)) :=
  ⟨cur, heap_alloc_new w _, rfl, fun i hi => by simp [Array.getD, hi]⟩
theorem Bk.sameBlock {w w' : World} {g N : Nat} {e : TypeId} {V : Nat → Value} (h : Bk w g e N V) (hb : w'.heap[g]? = w.heap[g]?) : Bk w' g e N V := by
  obtain ⟨cur, h1, h2⟩ := h
  exact ⟨cur, by rw [hb]; exact h1, h2⟩
theorem Bk.below {B : Nat} {w w' : World} {g N : Nat} {e : TypeId} {V : Nat → Value} (h : Bk w g e N V) (hb : Below B w w') (hg : g < B) : Bk w' g e N V := h.sameBlock (hb.block g hg)

theorem run_mk1 {P : Program} (t e : TypeId) (z : Value) (bytes : Nat) (ht : P.underlying t = some (.slice e)) (hinfo : (P.info? e).map (fun i => (i.zero, i.size, i.bytes)) = some (some z, 1, bytes))
    (n : Nat) (hb : bytes * n ≤ 281474976710656) (hn : n ≤ 9223372036854775807) :
    ∃ X : Array Value, X = madeCells z.cells n ∧ ∀ w, (Instr.makeSlice t (.int .i64 (n : Int)) (.int .i64 (n : Int))).run P w = .ok (.slice (some ⟨w.heap.size, 0, none⟩) n n) (w.alloc (.cells X e)) := by
  obtain ⟨i0, hi, hz0, hz1, hz2⟩ := info_parts hinfo
  refine ⟨_, rfl, fun w => ?_⟩
  have hb' : (i0.bytes : Int) * (n : Int) ≤ 281474976710656 := by rw [hz2, ← Int.natCast_mul]; omega
  have := run_make (P := P) w t e i0 z ht hi hz0 .i64 .i64 (n : Int) (n : Int) (by omega) (by omega) hb' (by omega)
  simpa [hz1] using this
theorem size_made1 (z : Value) (n : Nat) : (madeCells z.cells n).size = n := by simp [madeCells]

theorem Try.info3 : (Try.prog.info? 3).map (fun i => (i.zero, i.size, i.bytes)) = some (some (.int .i64 0), 1, 8) := by kernel_rfl
theorem Try.info21 : (Try.prog.info? 21).map (fun i => (i.zero, i.size, i.bytes)) = some (some (.int .i32 0), 1, 4) := by kernel_rfl

/-- A slice of integers that is read: at x, the numbers V. -/
def RdI (k : IntKind) (w : World) (a : Option Addr) (n : Nat) (V : Nat → Int) : Prop := (a = none → n = 0) ∧ ∀ x, a = some x → (0 < n → x.block < w.heap.size) ∧ ∀ i, i < n → w.cell? (x.add i) = some (.int k (V i))
theorem add_block (x : Addr) (n : Nat) : (x.add n).block = x.block := by unfold Addr.add; split <;> rfl
theorem RdI.below {k : IntKind} {w w' : World} {a : Option Addr} {n : Nat} {V : Nat → Int} (h : RdI k w a n V) (hb : Below w.heap.size w w') : RdI k w' a n V :=
  ⟨h.1, fun x hx => ⟨fun h0 => Nat.lt_of_lt_of_le ((h.2 x hx).1 h0) hb.size, fun i hi => by rw [hb.cell (by rw [add_block]; exact (h.2 x hx).1 (by omega))]; exact (h.2 x hx).2 i hi⟩⟩

/-- What a clone hands back: nil, or a new block of its own. -/
def ClPost (k : IntKind) (e : TypeId) (n : Nat) (V : Nat → Int) (w : World) (r : Ending) (w' : World) : Prop :=
  Below w.heap.size w w' ∧ ((n = 0 ∧ r = .returned (.slice none 0 0)) ∨ ∃ g, r = .returned (.slice (some ⟨g, 0, none⟩) n n) ∧ w.heap.size ≤ g ∧ Bk w' g e n (fun i => .int k (V i)))

set_option maxRecDepth 100000 in
set_option maxHeartbeats 1000000 in
theorem copyInts_any (a : Option Addr) (n c : Nat) (V : Nat → Int) (w : World) (hn : n ≤ 1048576) (h : RdI .i64 w a n V) :
    Calls Try.prog 11 #[.slice a n c] w (ClPost .i64 3 n V w) := by
  cases a with
  | none =>
    have h0 := h.1 rfl
    subst h0
    have hnil := fun w => Lib.run_eql_slice_nil (P := Try.prog) w 22 3 none 0 c 0 0 Try.underlying22
    clear h
    go_enter Try.func11, Try.ntmps11
    go_wp2_with fail
    go_ret
    exact ⟨Below.refl _ _, .inl ⟨rfl, rfl⟩⟩
  | some x =>
    obtain ⟨hx1, hx2⟩ := h.2 x rfl
    have HX1 : Hid (0 < n → x.block < w.heap.size) := hx1
    have HC : Hid (∀ i, i < n → w.cell? (x.add i) = some (.int .i64 (V i))) := hx2
    obtain ⟨X, hX, hmk⟩ := run_mk1 (P := Try.prog) 22 3 _ _ Try.underlying22 Try.info3 n (by omega) (by omega)
    have HXs : Hid (X.size = n) := by show _ = _; rw [hX]; exact size_made1 _ _
    have hmk0 := hmk w
    have hnil := fun w => Lib.run_eql_slice_nil (P := Try.prog) w 22 3 (some x) n c 0 0 Try.underlying22
    clear h hx1 hx2 hX hmk
    go_enter Try.func11, Try.ntmps11
    go_wp2_with fail
    go_loopw [4] (fun v wr => ∃ (i : Nat) (W : Nat → Value), v = .int .i64 i ∧ i ≤ n ∧ Hid (Below w.heap.size w wr) ∧ Hid (Bk wr w.heap.size 3 n W) ∧ Hid (∀ j, j < i → W j = .int .i64 (V j))) (fun v _ => n - (intOf v).toNat)
    case atStart =>
      have hb := Bk.new w X 3
      rw [HXs.out] at hb
      exact ⟨0, _, rfl, Nat.zero_le _, (Below.refl _ w).alloc (Nat.le_refl _) _, hb, fun j hj => absurd hj (Nat.not_lt_zero _)⟩
    case round =>
      clear hmk0
      obtain ⟨i, W, rfl, hi, HB, HK, HA⟩ := hrel
      by_cases hlt : i < n
      · have e0 : decide ((i : Int) < (n : Int)) = true := decide_eq_true (by omega)
        have e0' : decide (i < n) = true := decide_eq_true hlt
        have hsrc : wr.cell? (x.add i) = some (.int .i64 (V i)) := by rw [HB.out.cell (by rw [add_block]; exact HX1.out (by omega))]; exact HC.out i hlt
        have hdst := HK.out.cell i hlt
        have hfr := HK.out.frozen i
        have HK' : Hid (Bk (wr.setCell ⟨w.heap.size, i, none⟩ (.int .i64 (V i))) w.heap.size 3 n (fun j => if j = i then .int .i64 (V i) else W j)) := HK.out.set i hlt _
        have HA' : Hid (∀ j, j < i + 1 → (if j = i then Value.int .i64 (V i) else W j) = .int .i64 (V j)) := fun j hj => by
          by_cases e' : j = i
          · subst e'; rw [if_pos rfl]
          · rw [if_neg e']; exact HA.out j (by omega)
        have HB' : Hid (Below w.heap.size w (wr.setCell ⟨w.heap.size, i, none⟩ (.int .i64 (V i)))) := HB.out.setCell (Nat.le_refl _) _
        clear HA HK HB HC HX1
        go_wp2_with fail
        go_roundw
        case rel => exact ⟨i + 1, _, by go_num, by omega, HB', HK', HA'⟩
        case measure => simp [intOf]; omega
      · have e0 : decide ((i : Int) < (n : Int)) = false := decide_eq_false (by omega)
        have e0' : decide (i < n) = false := decide_eq_false hlt
        go_wp2_with fail
        go_ret
        exact ⟨HB.out, .inr ⟨_, rfl, Nat.le_refl _, HK.out.congr (fun j hj => (HA.out j (by omega)).symm)⟩⟩


theorem Bk.rdI {k : IntKind} {w : World} {g n : Nat} {e : TypeId} {V : Nat → Int} (h : Bk w g e n (fun i => .int k (V i))) : RdI k w (some ⟨g, 0, none⟩) n V := by
  refine ⟨fun h0 => (by cases h0), fun x hx => ?_⟩
  cases hx
  refine ⟨fun _ => h.lt, fun i hi => ?_⟩
  have : (⟨g, 0, none⟩ : Addr).add i = ⟨g, i, none⟩ := by unfold Addr.add; split <;> simp_all
  rw [this]
  exact h.cell i hi
theorem RdI.nil (k : IntKind) (w : World) (V : Nat → Int) : RdI k w none 0 V := ⟨fun _ => rfl, fun x hx => by cases hx⟩
theorem RdI.keep {k : IntKind} {w w' : World} {a : Option Addr} {n : Nat} {V : Nat → Int} (h : RdI k w a n V) (hs : w.heap.size ≤ w'.heap.size) (hb : ∀ x, a = some x → 0 < n → w'.heap[x.block]? = w.heap[x.block]?) : RdI k w' a n V :=
  ⟨h.1, fun x hx => ⟨fun h0 => Nat.lt_of_lt_of_le ((h.2 x hx).1 h0) hs, fun i hi => by
    rw [World.cell?_of_block (w := w) (by rw [add_block]; exact hb x hx (by omega))]
    exact (h.2 x hx).2 i hi⟩⟩

/-- A slice of slices of integers that is read. -/
def RdL (w : World) (a : Option Addr) (P : Nat) (A : Nat → Option Addr) (L C : Nat → Nat) (Z : Nat → Nat → Int) : Prop :=
  (a = none → P = 0) ∧ ∀ x, a = some x → (0 < P → x.block < w.heap.size) ∧ ∀ q, q < P → w.cell? (x.add q) = some (.slice (A q) (L q) (C q)) ∧ RdI .i64 w (A q) (L q) (Z q)
theorem RdL.below {w w' : World} {a : Option Addr} {P : Nat} {A : Nat → Option Addr} {L C : Nat → Nat} {Z : Nat → Nat → Int} (h : RdL w a P A L C Z) (hb : Below w.heap.size w w') : RdL w' a P A L C Z :=
  ⟨h.1, fun x hx => ⟨fun h0 => Nat.lt_of_lt_of_le ((h.2 x hx).1 h0) hb.size, fun q hq => ⟨by rw [hb.cell (by rw [add_block]; exact (h.2 x hx).1 (by omega))]; exact ((h.2 x hx).2 q hq).1, ((h.2 x hx).2 q hq).2.below hb⟩⟩⟩

theorem Try.info22 : (Try.prog.info? 22).map (fun i => (i.zero, i.size, i.bytes)) = some (some (.slice none 0 0), 1, 24) := by kernel_rfl
theorem Try.info4 : (Try.prog.info? 4).map (fun i => (i.zero, i.size, i.bytes)) = some (some (.bool false), 1, 1) := by kernel_rfl

/-- Rows cloned so far. -/
def Rows2 (w0 w : World) (g i : Nat) (W : Nat → Value) (A : Nat → Option Addr) (L : Nat → Nat) (Z : Nat → Nat → Int) : Prop :=
  ∀ q, q < i → W q = .slice (A q) (L q) (L q) ∧ RdI .i64 w (A q) (L q) (Z q) ∧ ∀ x, A q = some x → g < x.block ∧ x.block < w.heap.size

def Cl2Post (P : Nat) (L : Nat → Nat) (Z : Nat → Nat → Int) (w : World) (r : Ending) (w' : World) : Prop :=
  Below w.heap.size w w' ∧ ((P = 0 ∧ r = .returned (.slice none 0 0)) ∨ ∃ g A, r = .returned (.slice (some ⟨g, 0, none⟩) P P) ∧ w.heap.size ≤ g ∧ g < w'.heap.size ∧ RdL w' (some ⟨g, 0, none⟩) P A L L Z ∧ ∀ q, q < P → ∀ x, A q = some x → g < x.block ∧ x.block < w'.heap.size)

set_option maxRecDepth 100000 in
set_option maxHeartbeats 1000000 in
theorem copyLists_any (a : Option Addr) (P c : Nat) (A : Nat → Option Addr) (L C : Nat → Nat) (Z : Nat → Nat → Int) (w : World) (hn : P ≤ 1048576) (hL : ∀ q, q < P → L q ≤ 1048576) (h : RdL w a P A L C Z) :
    Calls Try.prog 12 #[.slice a P c] w (Cl2Post P L Z w) := by
  cases a with
  | none =>
    have h0 := h.1 rfl
    subst h0
    have hnil := fun w => Lib.run_eql_slice_nil (P := Try.prog) w 23 22 none 0 c 0 0 Try.underlying23
    clear h hL
    go_enter Try.func12, Try.ntmps12
    go_wp2_with fail
    go_ret
    exact ⟨Below.refl _ _, .inl ⟨rfl, rfl⟩⟩
  | some x =>
    obtain ⟨hx1, hx2⟩ := h.2 x rfl
    have HX1 : Hid (0 < P → x.block < w.heap.size) := hx1
    have HC : Hid (∀ q, q < P → w.cell? (x.add q) = some (.slice (A q) (L q) (C q)) ∧ RdI .i64 w (A q) (L q) (Z q)) := hx2
    have HL : Hid (∀ q, q < P → L q ≤ 1048576) := hL
    obtain ⟨X, hX, hmk⟩ := run_mk1 (P := Try.prog) 23 22 _ _ Try.underlying23 Try.info22 P (by omega) (by omega)
    have HXs : Hid (X.size = P) := by show _ = _; rw [hX]; exact size_made1 _ _
    have hmk0 := hmk w
    have hnil := fun w => Lib.run_eql_slice_nil (P := Try.prog) w 23 22 (some x) P c 0 0 Try.underlying23
    clear h hx1 hx2 hX hmk hL
    go_enter Try.func12, Try.ntmps12
    go_wp2_with fail
    go_loopw [4] (fun v wr => ∃ (i : Nat) (W : Nat → Value) (A' : Nat → Option Addr), v = .int .i64 i ∧ i ≤ P ∧ Hid (Below w.heap.size w wr) ∧ Hid (Bk wr w.heap.size 22 P W) ∧ Hid (Rows2 w wr w.heap.size i W A' L Z)) (fun v _ => P - (intOf v).toNat)
    case atStart =>
      have hb := Bk.new w X 22
      rw [HXs.out] at hb
      exact ⟨0, _, fun _ => none, rfl, Nat.zero_le _, (Below.refl _ w).alloc (Nat.le_refl _) _, hb, fun j hj => absurd hj (Nat.not_lt_zero _)⟩
    case round =>
      clear hmk0
      obtain ⟨i, W, A', rfl, hi, HB, HK, HA⟩ := hrel
      have hgl := HK.out.lt
      by_cases hlt : i < P
      · have e0 : decide ((i : Int) < (P : Int)) = true := decide_eq_true (by omega)
        have e0' : decide (i < P) = true := decide_eq_true hlt
        have hsrc : wr.cell? (x.add i) = some (.slice (A i) (L i) (C i)) := by rw [HB.out.cell (by rw [add_block]; exact HX1.out (by omega))]; exact (HC.out i hlt).1
        have cC := copyInts_any (A i) (L i) (C i) (Z i) wr (HL.out i hlt) ((HC.out i hlt).2.below HB.out)
        go_wp2_with fail
        refine cC.mono ?_
        rintro r w2 ⟨hB2, hE⟩
        obtain ⟨o, hv, hE2, ho⟩ : ∃ (o : Option Addr), r = .returned (.slice o (L i) (L i)) ∧ RdI .i64 w2 o (L i) (Z i) ∧ ∀ y, o = some y → wr.heap.size ≤ y.block ∧ y.block < w2.heap.size := by
          rcases hE with ⟨h0, rfl⟩ | ⟨g', rfl, hg1, hg2⟩
          · exact ⟨none, by rw [h0], by rw [h0]; exact RdI.nil _ _ _, fun y hy => by cases hy⟩
          · exact ⟨some ⟨g', 0, none⟩, rfl, hg2.rdI, fun y hy => by cases hy; exact ⟨hg1, hg2.lt⟩⟩
        subst hv
        have HK2 : Hid (Bk w2 w.heap.size 22 P W) := HK.out.below hB2 hgl
        have hdst := HK2.out.cell i hlt
        have hfr := HK2.out.frozen i
        have HB2 : Hid (Below w.heap.size w w2) := HB.out.trans (hB2.mono HB.out.size)
        have HK3 : Hid (Bk (w2.setCell ⟨w.heap.size, i, none⟩ (.slice o (L i) (L i))) w.heap.size 22 P (fun j => if j = i then .slice o (L i) (L i) else W j)) := HK2.out.set i hlt _
        have HB3 : Hid (Below w.heap.size w (w2.setCell ⟨w.heap.size, i, none⟩ (.slice o (L i) (L i)))) := HB2.out.setCell (Nat.le_refl _) _
        have HA3 : Hid (Rows2 w (w2.setCell ⟨w.heap.size, i, none⟩ (.slice o (L i) (L i))) w.heap.size (i + 1) (fun j => if j = i then .slice o (L i) (L i) else W j) (fun j => if j = i then o else A' j) L Z) := by
          intro q hq
          have hsz : (w2.setCell ⟨w.heap.size, i, none⟩ (.slice o (L i) (L i))).heap.size = w2.heap.size := by simp [World.setCell]
          by_cases eq : q = i
          · subst eq
            simp only [if_true]
            refine ⟨by first | rfl | trivial, hE2.keep (by rw [hsz]; exact Nat.le_refl _) (fun y hy _ => Below.heap_setCell _ _ _ _ (by have := (ho y hy).1; show y.block ≠ w.heap.size; omega)), fun y hy => ⟨by have := (ho y hy).1; omega, by rw [hsz]; exact (ho y hy).2⟩⟩
          · simp only [if_neg eq]
            obtain ⟨r1, r2, r3⟩ := HA.out q (by omega)
            refine ⟨r1, (r2.below hB2).keep (by rw [hsz]; exact Nat.le_refl _) (fun y hy _ => Below.heap_setCell _ _ _ _ (by have := (r3 y hy).1; show y.block ≠ w.heap.size; omega)), fun y hy => ⟨(r3 y hy).1, by rw [hsz]; exact Nat.lt_of_lt_of_le (r3 y hy).2 hB2.size⟩⟩
        clear hB2 hE hE2 ho HA HK HB HK2 HB2 HC HL HX1 cC hsrc
        go_wp2_with fail
        go_roundw
        case rel => exact ⟨i + 1, _, _, by go_num, by omega, HB3, HK3, HA3⟩
        case measure => simp [intOf]; omega
      · have e0 : decide ((i : Int) < (P : Int)) = false := decide_eq_false (by omega)
        have e0' : decide (i < P) = false := decide_eq_false hlt
        go_wp2_with fail
        go_ret
        refine ⟨HB.out, .inr ⟨_, A', rfl, Nat.le_refl _, hgl, ⟨fun h0 => (by cases h0), fun y hy => ?_⟩, fun q hq => (HA.out q (by omega)).2.2⟩⟩
        cases hy
        refine ⟨fun _ => hgl, fun q hq => ?_⟩
        have : (⟨w.heap.size, 0, none⟩ : Addr).add q = ⟨w.heap.size, q, none⟩ := by unfold Addr.add; split <;> simp_all
        rw [this, HK.out.cell q hq, (HA.out q (by omega)).1]
        exact ⟨rfl, (HA.out q (by omega)).2.1⟩
end Go.Proofs.Qxb6605294a
