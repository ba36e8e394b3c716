/-
  Seat b6605294a. COPIES THAT ARE ONE's OWN: copyInts (11), copyLists (12), reversedInts (23), reversedLists (24).
-/
import Derived.Test.Qxb6605294aD1
set_option linter.unusedVariables false
set_option linter.unusedSimpArgs false
namespace Go.Proofs.Qxb6605294a
open Go.RowKit

/-- A slice of int of one's own: nil, or a whole block from lo on. -/
def Cn (w : World) (lo : Nat) (A : Option Addr) (n : Nat) (V : Nat → Int) : Prop :=
  (A = none ∧ n = 0) ∨ ∃ g, A = some ⟨g, 0, none⟩ ∧ lo ≤ g ∧ g < w.heap.size ∧ Bk w g 3 n (fun i => .int .i64 (V i))
def OwnPost (n : Nat) (V : Nat → Int) (w : World) (r : Ending) (w' : World) : Prop :=
  Below w.heap.size w w' ∧ ∃ A, r = .returned (.slice A n n) ∧ Cn w' w.heap.size A n V
theorem Cn.keep {w w' : World} {lo lo' : Nat} {A : Option Addr} {n : Nat} {V : Nat → Int} (h : Cn w lo A n V) (hl : lo' ≤ lo) (hs : w.heap.size ≤ w'.heap.size) (hb : ∀ x, A = some x → w'.heap[x.block]? = w.heap[x.block]?) : Cn w' lo' A n V := by
  rcases h with h | ⟨g, h1, h2, h3, h4⟩
  · exact .inl h
  · exact .inr ⟨g, h1, by omega, by omega, h4.sameBlock (hb _ h1)⟩
theorem Cn.blk {w : World} {lo : Nat} {A : Option Addr} {n : Nat} {V : Nat → Int} (h : Cn w lo A n V) (x : Addr) (hx : A = some x) : lo ≤ x.block ∧ x.block < w.heap.size := by
  rcases h with ⟨rfl, _⟩ | ⟨g, rfl, h2, h3, _⟩
  · cases hx
  · cases hx; exact ⟨h2, h3⟩
/-- Rows of one's own, no two in one block: those that D names are laid. -/
def Rows3 (w : World) (g : Nat) (D : Nat → Prop) (W : Nat → Value) (A : Nat → Option Addr) (L : Nat → Nat) (Z : Nat → Nat → Int) : Prop :=
  (∀ q, D q → W q = .slice (A q) (L q) (L q) ∧ Cn w (g + 1) (A q) (L q) (Z q)) ∧ ∀ q q', D q → D q' → q ≠ q' → ∀ x y, A q = some x → A q' = some y → x.block ≠ y.block
def OwnsPost (P : Nat) (L : Nat → Nat) (Z : Nat → Nat → Int) (w : World) (r : Ending) (w' : World) : Prop :=
  Below w.heap.size w w' ∧ ∃ (A : Option Addr) (AA : Nat → Option Addr), r = .returned (.slice A P P) ∧ ((A = none ∧ P = 0) ∨ ∃ g, A = some ⟨g, 0, none⟩ ∧ w.heap.size ≤ g ∧ g < w'.heap.size ∧ Bk w' g 22 P (fun q => .slice (AA q) (L q) (L q)) ∧
    (∀ q, q < P → Cn w' (g + 1) (AA q) (L q) (Z q)) ∧ ∀ q q', q < P → q' < P → q ≠ q' → ∀ x y, AA q = some x → AA q' = some y → x.block ≠ y.block)
theorem Rows3.step {wr w2 : World} {g : Nat} {D D' : Nat → Prop} {W : Nat → Value} {A : Nat → Option Addr} {L : Nat → Nat} {Z : Nat → Nat → Int} (h : Rows3 wr g D W A L Z) (hb : Below wr.heap.size wr w2) (hg : g < wr.heap.size) (s : Nat) {o : Option Addr} {n : Nat} (ho : Cn w2 wr.heap.size o (L s) (Z s)) (hn : L s = n) (hd : ∀ j, D' j → j = s ∨ D j) (hne : ∀ j, D j → j ≠ s) :
    Rows3 (w2.setCell ⟨g, s, none⟩ (.slice o n n)) g D' (fun j => if j = s then .slice o n n else W j) (fun j => if j = s then o else A j) L Z := by
  subst hn
  have hsz : (w2.setCell ⟨g, s, none⟩ (.slice o (L s) (L s))).heap.size = w2.heap.size := by simp [World.setCell]
  have far : ∀ b, b ≠ g → (w2.setCell ⟨g, s, none⟩ (.slice o (L s) (L s))).heap[b]? = w2.heap[b]? := fun b hb => Below.heap_setCell _ _ _ _ hb
  refine ⟨fun q hq => ?_, fun q q' hq hq' hqq x y hx hy => ?_⟩
  · by_cases e : q = s
    · subst e
      simp only [if_true]
      exact ⟨trivial, ho.keep (by omega) (by rw [hsz]; exact Nat.le_refl _) (fun x hx => far _ (by have := (ho.blk x hx).1; omega))⟩
    · simp only [if_neg e]
      have hD : D q := (hd q hq).resolve_left e
      obtain ⟨h1, h2⟩ := h.1 q hD
      exact ⟨h1, h2.keep (Nat.le_refl _) (by rw [hsz]; exact hb.size) (fun x hx => by
        have := h2.blk x hx
        rw [far _ (by omega)]
        exact hb.block _ this.2)⟩
  · by_cases e : q = s
    · subst e
      simp only [if_true] at hx
      have e' : ¬ q' = q := fun e => hqq e.symm
      simp only [if_neg e'] at hy
      have b1 := ho.blk x hx
      have b2 := ((h.1 q' ((hd q' hq').resolve_left e')).2).blk y hy
      omega
    · simp only [if_neg e] at hx
      have hD : D q := (hd q hq).resolve_left e
      by_cases e' : q' = s
      · simp only [if_pos e'] at hy
        have b1 := ho.blk y hy
        have b2 := ((h.1 q hD).2).blk x hx
        omega
      · simp only [if_neg e'] at hy
        exact h.2 q q' hD ((hd q' hq').resolve_left e') hqq x y hx hy

set_option maxRecDepth 100000 in
set_option maxHeartbeats 1000000 in
theorem copyInts_own (a : Option Addr) (n c : Nat) (V : Nat → Int) (w : World) (hn : n ≤ 1048576) (h : RdI .i64 w a n V) :
    Calls Try.prog 11 #[.slice a n c] w (OwnPost n (fun j => V (j)) w) := by
  cases a with
  | none =>
    have h0 := h.1 rfl
    subst h0
    have hnil := fun w => Lib.run_eql_slice_nil (P := Try.prog) w 22 3 none 0 c 0 0 Try.underlying22
    clear h
    go_enter Try.func11, Try.ntmps11
    go_wp2_with fail
    go_ret
    exact ⟨Below.refl _ _, none, rfl, .inl ⟨rfl, rfl⟩⟩
  | some x =>
    obtain ⟨hx1, hx2⟩ := h.2 x rfl
    have HX1 : Hid (0 < n → x.block < w.heap.size) := hx1
    have HC : Hid (∀ i, i < n → w.cell? (x.add i) = some (.int .i64 (V i))) := hx2
    obtain ⟨X, hX, hmk⟩ := run_mk1 (P := Try.prog) 22 3 _ _ Try.underlying22 Try.info3 n (by omega) (by omega)
    have HXs : Hid (X.size = n) := by show _ = _; rw [hX]; exact size_made1 _ _
    have hmk0 := hmk w
    have hnil := fun w => Lib.run_eql_slice_nil (P := Try.prog) w 22 3 (some x) n c 0 0 Try.underlying22
    clear h hx1 hx2 hX hmk
    go_enter Try.func11, Try.ntmps11
    go_wp2_with fail
    go_loopw [4] (fun v wr => ∃ (i : Nat) (W : Nat → Value), v = .int .i64 i ∧ i ≤ n ∧ Hid (Below w.heap.size w wr) ∧ Hid (Bk wr w.heap.size 3 n W) ∧ Hid (∀ j, j < i → W j = .int .i64 (V (j)))) (fun v _ => n - (intOf v).toNat)
    case atStart =>
      have hb := Bk.new w X 3
      rw [HXs.out] at hb
      exact ⟨0, _, rfl, Nat.zero_le _, (Below.refl _ w).alloc (Nat.le_refl _) _, hb, fun j hj => by omega⟩
    case round =>
      clear hmk0
      obtain ⟨i, W, rfl, hi, HB, HK, HA⟩ := hrel
      by_cases hlt : i < n
      · have e0 : decide ((i : Int) < (n : Int)) = true := decide_eq_true (by omega)
        have e0' : decide (i < n) = true := decide_eq_true hlt
        have hsrc : wr.cell? (x.add i) = some (.int .i64 (V i)) := by rw [HB.out.cell (by rw [add_block]; exact HX1.out (by omega))]; exact HC.out i hlt
        have hsn : i < n := by omega
        have hdst := HK.out.cell i hsn
        have hfr := HK.out.frozen i
        have HK' : Hid (Bk (wr.setCell ⟨w.heap.size, i, none⟩ (.int .i64 (V i))) w.heap.size 3 n (fun j => if j = i then .int .i64 (V i) else W j)) := HK.out.set i hsn _
        have HA' : Hid (∀ j, j < i + 1 → (if j = i then Value.int .i64 (V i) else W j) = .int .i64 (V (j))) := fun j hj => by
          by_cases e' : j = i
          · rw [if_pos e', show j = i by omega]
          · rw [if_neg e']; exact HA.out j (by omega)
        have HB' : Hid (Below w.heap.size w (wr.setCell ⟨w.heap.size, i, none⟩ (.int .i64 (V i)))) := HB.out.setCell (Nat.le_refl _) _
        clear HA HK HB HC HX1
        go_wp2_with fail
        go_roundw
        case rel => exact ⟨i + 1, _, by go_num, by omega, HB', HK', HA'⟩
        case measure => simp [intOf]; omega
      · have e0 : decide ((i : Int) < (n : Int)) = false := decide_eq_false (by omega)
        have e0' : decide (i < n) = false := decide_eq_false hlt
        go_wp2_with fail
        go_ret
        exact ⟨HB.out, _, rfl, .inr ⟨_, rfl, Nat.le_refl _, HK.out.lt, HK.out.congr (fun j hj => (HA.out j (by omega)).symm)⟩⟩

set_option maxRecDepth 100000 in
set_option maxHeartbeats 1000000 in
theorem revInts_own (a : Option Addr) (n c : Nat) (V : Nat → Int) (w : World) (hn : n ≤ 1048576) (h : RdI .i64 w a n V) :
    Calls Try.prog 23 #[.slice a n c] w (OwnPost n (fun j => V (n - 1 - j)) w) := by
  cases a with
  | none =>
    have h0 := h.1 rfl
    subst h0
    have hnil := fun w => Lib.run_eql_slice_nil (P := Try.prog) w 22 3 none 0 c 0 0 Try.underlying22
    clear h
    go_enter Try.func23, Try.ntmps23
    go_wp2_with fail
    go_ret
    exact ⟨Below.refl _ _, none, rfl, .inl ⟨rfl, rfl⟩⟩
  | some x =>
    obtain ⟨hx1, hx2⟩ := h.2 x rfl
    have HX1 : Hid (0 < n → x.block < w.heap.size) := hx1
    have HC : Hid (∀ i, i < n → w.cell? (x.add i) = some (.int .i64 (V i))) := hx2
    obtain ⟨X, hX, hmk⟩ := run_mk1 (P := Try.prog) 22 3 _ _ Try.underlying22 Try.info3 n (by omega) (by omega)
    have HXs : Hid (X.size = n) := by show _ = _; rw [hX]; exact size_made1 _ _
    have hmk0 := hmk w
    have hnil := fun w => Lib.run_eql_slice_nil (P := Try.prog) w 22 3 (some x) n c 0 0 Try.underlying22
    clear h hx1 hx2 hX hmk
    go_enter Try.func23, Try.ntmps23
    go_wp2_with fail
    go_loopw [4] (fun v wr => ∃ (i : Nat) (W : Nat → Value), v = .int .i64 i ∧ i ≤ n ∧ Hid (Below w.heap.size w wr) ∧ Hid (Bk wr w.heap.size 3 n W) ∧ Hid (∀ j, n - i ≤ j ∧ j < n → W j = .int .i64 (V (n - 1 - j)))) (fun v _ => n - (intOf v).toNat)
    case atStart =>
      have hb := Bk.new w X 3
      rw [HXs.out] at hb
      exact ⟨0, _, rfl, Nat.zero_le _, (Below.refl _ w).alloc (Nat.le_refl _) _, hb, fun j hj => by omega⟩
    case round =>
      clear hmk0
      obtain ⟨i, W, rfl, hi, HB, HK, HA⟩ := hrel
      by_cases hlt : i < n
      · have e0 : decide ((i : Int) < (n : Int)) = true := decide_eq_true (by omega)
        have e0' : decide (i < n) = true := decide_eq_true hlt
        have hsrc : wr.cell? (x.add i) = some (.int .i64 (V i)) := by rw [HB.out.cell (by rw [add_block]; exact HX1.out (by omega))]; exact HC.out i hlt
        obtain ⟨s, hs⟩ : ∃ s, s = n - 1 - i := ⟨_, rfl⟩
        have hsn : s < n := by omega
        have es1 : (n : Int) - 1 - (i : Int) = (s : Int) := by omega
        have hdst := HK.out.cell s hsn
        have hfr := HK.out.frozen s
        have HK' : Hid (Bk (wr.setCell ⟨w.heap.size, s, none⟩ (.int .i64 (V i))) w.heap.size 3 n (fun j => if j = s then .int .i64 (V i) else W j)) := HK.out.set s hsn _
        have HA' : Hid (∀ j, n - (i + 1) ≤ j ∧ j < n → (if j = s then Value.int .i64 (V i) else W j) = .int .i64 (V (n - 1 - j))) := fun j hj => by
          by_cases e' : j = s
          · rw [if_pos e', show n - 1 - j = i by omega]
          · rw [if_neg e']; exact HA.out j (by omega)
        have HB' : Hid (Below w.heap.size w (wr.setCell ⟨w.heap.size, s, none⟩ (.int .i64 (V i)))) := HB.out.setCell (Nat.le_refl _) _
        clear HA HK HB HC HX1 hs
        go_wp2_with fail
        go_roundw
        case rel => exact ⟨i + 1, _, by go_num, by omega, HB', HK', HA'⟩
        case measure => simp [intOf]; omega
      · have e0 : decide ((i : Int) < (n : Int)) = false := decide_eq_false (by omega)
        have e0' : decide (i < n) = false := decide_eq_false hlt
        go_wp2_with fail
        go_ret
        exact ⟨HB.out, _, rfl, .inr ⟨_, rfl, Nat.le_refl _, HK.out.lt, HK.out.congr (fun j hj => (HA.out j (by omega)).symm)⟩⟩

set_option maxRecDepth 100000 in
set_option maxHeartbeats 2000000 in
theorem copyLists_own (a : Option Addr) (P c : Nat) (A : Nat → Option Addr) (L C : Nat → Nat) (Z : Nat → Nat → Int) (w : World) (hn : P ≤ 1048576) (hL : ∀ q, q < P → L q ≤ 1048576) (h : RdL w a P A L C Z) :
    Calls Try.prog 12 #[.slice a P c] w (OwnsPost P (fun j => L (j)) (fun j i => Z j i) w) := by
  cases a with
  | none =>
    have h0 := h.1 rfl
    subst h0
    have hnil := fun w => Lib.run_eql_slice_nil (P := Try.prog) w 23 22 none 0 c 0 0 Try.underlying23
    clear h hL
    go_enter Try.func12, Try.ntmps12
    go_wp2_with fail
    go_ret
    exact ⟨Below.refl _ _, none, fun _ => none, rfl, .inl ⟨rfl, rfl⟩⟩
  | some x =>
    obtain ⟨hx1, hx2⟩ := h.2 x rfl
    have HX1 : Hid (0 < P → x.block < w.heap.size) := hx1
    have HC : Hid (∀ q, q < P → w.cell? (x.add q) = some (.slice (A q) (L q) (C q)) ∧ RdI .i64 w (A q) (L q) (Z q)) := hx2
    have HL : Hid (∀ q, q < P → L q ≤ 1048576) := hL
    obtain ⟨X, hX, hmk⟩ := run_mk1 (P := Try.prog) 23 22 _ _ Try.underlying23 Try.info22 P (by omega) (by omega)
    have HXs : Hid (X.size = P) := by show _ = _; rw [hX]; exact size_made1 _ _
    have hmk0 := hmk w
    have hnil := fun w => Lib.run_eql_slice_nil (P := Try.prog) w 23 22 (some x) P c 0 0 Try.underlying23
    clear h hx1 hx2 hX hmk hL
    go_enter Try.func12, Try.ntmps12
    go_wp2_with fail
    go_loopw [4] (fun v wr => ∃ (i : Nat) (W : Nat → Value) (A' : Nat → Option Addr), v = .int .i64 i ∧ i ≤ P ∧ Hid (Below w.heap.size w wr) ∧ Hid (Bk wr w.heap.size 22 P W) ∧ Hid (Rows3 wr w.heap.size (fun j => j < i) W A' (fun j => L (j)) (fun j i => Z j i))) (fun v _ => P - (intOf v).toNat)
    case atStart =>
      have hb := Bk.new w X 22
      rw [HXs.out] at hb
      exact ⟨0, _, fun _ => none, rfl, Nat.zero_le _, (Below.refl _ w).alloc (Nat.le_refl _) _, hb, ⟨(fun j hj => by have hj' : j < 0 := hj; omega), fun j q hj _ _ _ _ _ _ => by have hj' : j < 0 := hj; omega⟩⟩
    case round =>
      clear hmk0
      obtain ⟨i, W, A', rfl, hi, HB, HK, HA⟩ := hrel
      have hgl := HK.out.lt
      by_cases hlt : i < P
      · have e0 : decide ((i : Int) < (P : Int)) = true := decide_eq_true (by omega)
        have e0' : decide (i < P) = true := decide_eq_true hlt
        have hsrc : wr.cell? (x.add i) = some (.slice (A i) (L i) (C i)) := by rw [HB.out.cell (by rw [add_block]; exact HX1.out (by omega))]; exact (HC.out i hlt).1
        have cC := copyInts_own (A i) (L i) (C i) (Z i) wr (HL.out i hlt) ((HC.out i hlt).2.below HB.out)
        have hsn : i < P := by omega
        have hsi : i = i := by omega
        have HSI : Hid (i = i) := hsi
        have HSD : Hid (∀ j, j < i + 1 → j = i ∨ j < i) := fun j hj => by omega
        have HSN : Hid (∀ j, j < i → j ≠ i) := fun j hj => by omega
        clear hsi
        go_wp2_with fail
        refine cC.mono ?_
        rintro r w2 ⟨hB2, o, rfl, hO⟩
        have HK2 : Hid (Bk w2 w.heap.size 22 P W) := HK.out.below hB2 hgl
        have hdst := HK2.out.cell i hsn
        have hfr := HK2.out.frozen i
        have HB2 : Hid (Below w.heap.size w w2) := HB.out.trans (hB2.mono HB.out.size)
        have HK3 : Hid (Bk (w2.setCell ⟨w.heap.size, i, none⟩ (.slice o (L i) (L i))) w.heap.size 22 P (fun j => if j = i then .slice o (L i) (L i) else W j)) := HK2.out.set i hsn _
        have HB3 : Hid (Below w.heap.size w (w2.setCell ⟨w.heap.size, i, none⟩ (.slice o (L i) (L i)))) := HB2.out.setCell (Nat.le_refl _) _
        have HA3 : Hid (Rows3 (w2.setCell ⟨w.heap.size, i, none⟩ (.slice o (L i) (L i))) w.heap.size (fun j => j < i + 1) (fun j => if j = i then .slice o (L i) (L i) else W j) (fun j => if j = i then o else A' j) (fun j => L (j)) (fun j i => Z j i)) :=
          HA.out.step hB2 hgl i hO rfl HSD.out HSN.out
        clear hB2 hO HA HK HB HK2 HB2 HC HL HX1 cC hsrc HSI HSD HSN
        go_wp2_with fail
        go_roundw
        case rel => exact ⟨i + 1, _, _, by go_num, by omega, HB3, HK3, HA3⟩
        case measure => simp [intOf]; omega
      · have e0 : decide ((i : Int) < (P : Int)) = false := decide_eq_false (by omega)
        have e0' : decide (i < P) = false := decide_eq_false hlt
        go_wp2_with fail
        go_ret
        refine ⟨HB.out, _, A', rfl, .inr ⟨_, rfl, Nat.le_refl _, HK.out.lt, HK.out.congr (fun j hj => ((HA.out.1 j (by show j < i; omega)).1).symm), fun j hj => (HA.out.1 j (by show j < i; omega)).2, fun j q hj hq => HA.out.2 j q (by show j < i; omega) (by show q < i; omega)⟩⟩

set_option maxRecDepth 100000 in
set_option maxHeartbeats 2000000 in
theorem revLists_own (a : Option Addr) (P c : Nat) (A : Nat → Option Addr) (L C : Nat → Nat) (Z : Nat → Nat → Int) (w : World) (hn : P ≤ 1048576) (hL : ∀ q, q < P → L q ≤ 1048576) (h : RdL w a P A L C Z) :
    Calls Try.prog 24 #[.slice a P c] w (OwnsPost P (fun j => L (P - 1 - j)) (fun j i => Z (P - 1 - j) (L (P - 1 - j) - 1 - i)) w) := by
  cases a with
  | none =>
    have h0 := h.1 rfl
    subst h0
    have hnil := fun w => Lib.run_eql_slice_nil (P := Try.prog) w 23 22 none 0 c 0 0 Try.underlying23
    clear h hL
    go_enter Try.func24, Try.ntmps24
    go_wp2_with fail
    go_ret
    exact ⟨Below.refl _ _, none, fun _ => none, rfl, .inl ⟨rfl, rfl⟩⟩
  | some x =>
    obtain ⟨hx1, hx2⟩ := h.2 x rfl
    have HX1 : Hid (0 < P → x.block < w.heap.size) := hx1
    have HC : Hid (∀ q, q < P → w.cell? (x.add q) = some (.slice (A q) (L q) (C q)) ∧ RdI .i64 w (A q) (L q) (Z q)) := hx2
    have HL : Hid (∀ q, q < P → L q ≤ 1048576) := hL
    obtain ⟨X, hX, hmk⟩ := run_mk1 (P := Try.prog) 23 22 _ _ Try.underlying23 Try.info22 P (by omega) (by omega)
    have HXs : Hid (X.size = P) := by show _ = _; rw [hX]; exact size_made1 _ _
    have hmk0 := hmk w
    have hnil := fun w => Lib.run_eql_slice_nil (P := Try.prog) w 23 22 (some x) P c 0 0 Try.underlying23
    clear h hx1 hx2 hX hmk hL
    go_enter Try.func24, Try.ntmps24
    go_wp2_with fail
    go_loopw [4] (fun v wr => ∃ (i : Nat) (W : Nat → Value) (A' : Nat → Option Addr), v = .int .i64 i ∧ i ≤ P ∧ Hid (Below w.heap.size w wr) ∧ Hid (Bk wr w.heap.size 22 P W) ∧ Hid (Rows3 wr w.heap.size (fun j => P - i ≤ j ∧ j < P) W A' (fun j => L (P - 1 - j)) (fun j i => Z (P - 1 - j) (L (P - 1 - j) - 1 - i)))) (fun v _ => P - (intOf v).toNat)
    case atStart =>
      have hb := Bk.new w X 22
      rw [HXs.out] at hb
      exact ⟨0, _, fun _ => none, rfl, Nat.zero_le _, (Below.refl _ w).alloc (Nat.le_refl _) _, hb, ⟨(fun j hj => by have hj' : P - 0 ≤ j ∧ j < P := hj; omega), fun j q hj _ _ _ _ _ _ => by have hj' : P - 0 ≤ j ∧ j < P := hj; omega⟩⟩
    case round =>
      clear hmk0
      obtain ⟨i, W, A', rfl, hi, HB, HK, HA⟩ := hrel
      have hgl := HK.out.lt
      by_cases hlt : i < P
      · have e0 : decide ((i : Int) < (P : Int)) = true := decide_eq_true (by omega)
        have e0' : decide (i < P) = true := decide_eq_true hlt
        have hsrc : wr.cell? (x.add i) = some (.slice (A i) (L i) (C i)) := by rw [HB.out.cell (by rw [add_block]; exact HX1.out (by omega))]; exact (HC.out i hlt).1
        have cC := revInts_own (A i) (L i) (C i) (Z i) wr (HL.out i hlt) ((HC.out i hlt).2.below HB.out)
        obtain ⟨s, hs⟩ : ∃ s, s = P - 1 - i := ⟨_, rfl⟩
        have hsn : s < P := by omega
        have hsi : P - 1 - s = i := by omega
        have HSI : Hid (P - 1 - s = i) := hsi
        have HSD : Hid (∀ j, P - (i + 1) ≤ j ∧ j < P → j = s ∨ P - i ≤ j ∧ j < P) := fun j hj => by omega
        have HSN : Hid (∀ j, P - i ≤ j ∧ j < P → j ≠ s) := fun j hj => by omega
        have es1 : (P : Int) - 1 - (i : Int) = (s : Int) := by omega
        clear hsi hs
        go_wp2_with fail
        refine cC.mono ?_
        rintro r w2 ⟨hB2, o, rfl, hO⟩
        have HK2 : Hid (Bk w2 w.heap.size 22 P W) := HK.out.below hB2 hgl
        have hdst := HK2.out.cell s hsn
        have hfr := HK2.out.frozen s
        have HB2 : Hid (Below w.heap.size w w2) := HB.out.trans (hB2.mono HB.out.size)
        have HK3 : Hid (Bk (w2.setCell ⟨w.heap.size, s, none⟩ (.slice o (L i) (L i))) w.heap.size 22 P (fun j => if j = s then .slice o (L i) (L i) else W j)) := HK2.out.set s hsn _
        have HB3 : Hid (Below w.heap.size w (w2.setCell ⟨w.heap.size, s, none⟩ (.slice o (L i) (L i)))) := HB2.out.setCell (Nat.le_refl _) _
        have HA3 : Hid (Rows3 (w2.setCell ⟨w.heap.size, s, none⟩ (.slice o (L i) (L i))) w.heap.size (fun j => P - (i + 1) ≤ j ∧ j < P) (fun j => if j = s then .slice o (L i) (L i) else W j) (fun j => if j = s then o else A' j) (fun j => L (P - 1 - j)) (fun j i => Z (P - 1 - j) (L (P - 1 - j) - 1 - i))) :=
          HA.out.step hB2 hgl s (by rw [HSI.out]; exact hO) (by rw [HSI.out]) HSD.out HSN.out
        clear hB2 hO HA HK HB HK2 HB2 HC HL HX1 cC hsrc HSI HSD HSN
        go_wp2_with fail
        go_roundw
        case rel => exact ⟨i + 1, _, _, by go_num, by omega, HB3, HK3, HA3⟩
        case measure => simp [intOf]; omega
      · have e0 : decide ((i : Int) < (P : Int)) = false := decide_eq_false (by omega)
        have e0' : decide (i < P) = false := decide_eq_false hlt
        go_wp2_with fail
        go_ret
        refine ⟨HB.out, _, A', rfl, .inr ⟨_, rfl, Nat.le_refl _, HK.out.lt, HK.out.congr (fun j hj => ((HA.out.1 j (by show P - i ≤ j ∧ j < P; omega)).1).symm), fun j hj => (HA.out.1 j (by show P - i ≤ j ∧ j < P; omega)).2, fun j q hj hq => HA.out.2 j q (by show P - i ≤ j ∧ j < P; omega) (by show P - i ≤ q ∧ q < P; omega)⟩⟩

end Go.Proofs.Qxb6605294a
