/-
  Seat b6605223a. MEMORY: a block known whole, by a function; WALKS: zzCloneInt (10), zzClone32 (11), zzReadsIn (9).
-/
import Derived.Test.Qxb6605223aS0
import Derived.Lib.SliceRun
import Derived.Deep.Draws
set_option linter.unusedVariables false
set_option linter.unusedSimpArgs false
namespace Go.Proofs.Qxb6605223a
open Go.RowKit

/-- Block g: N cells of element type e, cell i holds V i. -/
def Bk (w : World) (g : Nat) (e : TypeId) (N : Nat) (V : Nat → Value) : Prop := ∃ cur : Array Value, w.heap[g]? = some (.cells cur e (0, 0)) ∧ cur.size = N ∧ ∀ i, i < N → cur[i]? = some (V i)

theorem Bk.lt {w : World} {g N : Nat} {e : TypeId} {V : Nat → Value} (h : Bk w g e N V) : g < w.heap.size := by
  obtain ⟨cur, h1, _⟩ := h
  exact (Array.getElem?_eq_some_iff.1 h1).1
theorem Bk.cell {w : World} {g N : Nat} {e : TypeId} {V : Nat → Value} (h : Bk w g e N V) (i : Nat) (hi : i < N) : w.cell? ⟨g, i, none⟩ = some (V i) := by
  obtain ⟨cur, h1, h2, h3⟩ := h
  simp [World.cell?, h1, h3 i hi]
theorem Bk.frozen {w : World} {g N : Nat} {e : TypeId} {V : Nat → Value} (h : Bk w g e N V) (i : Nat) : w.frozen? ⟨g, i, none⟩ = false := by
  obtain ⟨cur, h1, _⟩ := h
  simp [World.frozen?, h1]
theorem Bk.set {w : World} {g N : Nat} {e : TypeId} {V : Nat → Value} (h : Bk w g e N V) (i : Nat) (hi : i < N) (u : Value) : Bk (w.setCell ⟨g, i, none⟩ u) g e N (fun k => if k = i then u else V k) := by
  obtain ⟨cur, h1, h2, h3⟩ := h
  refine ⟨cur.setIfInBounds i u, ?_, by simp [h2], fun k hk => ?_⟩
  · simp [World.setCell, Array.getElem?_modify, h1]
  · simp only [Array.getElem?_setIfInBounds]
    by_cases e' : i = k
    · subst e'
      simp; omega
    · rw [if_neg e', if_neg (fun h => e' h.symm)]
      exact h3 k hk
theorem Bk.congr {w : World} {g N : Nat} {e : TypeId} {V V' : Nat → Value} (h : Bk w g e N V) (hv : ∀ i, i < N → V' i = V i) : Bk w g e N V' := by
  obtain ⟨cur, h1, h2, h3⟩ := h
  exact ⟨cur, h1, h2, fun i hi => by rw [hv i hi]; exact h3 i hi⟩
theorem Bk.drewN {w : World} {g N : Nat} {e : TypeId} {V : Nat → Value} (h : Bk w g e N V) (q : Nat) : Bk (w.drewN q) g e N V := h
theorem Bk.alloc {w : World} {g N : Nat} {e : TypeId} {V : Nat → Value} (h : Bk w g e N V) (o : Obj) : Bk (w.alloc o) g e N V := by
  have hl := h.lt
  obtain ⟨cur, h1, h2⟩ := h
  exact ⟨cur, by rw [Below.heap_alloc _ _ _ hl]; exact h1, h2⟩
theorem Bk.other {w : World} {g N : Nat} {e : TypeId} {V : Nat → Value} (h : Bk w g e N V) (p : Addr) (hp : g ≠ p.block) (u : Value) : Bk (w.setCell p u) g e N V := by
  obtain ⟨cur, h1, h2⟩ := h
  exact ⟨cur, by rw [Below.heap_setCell _ _ _ _ hp]; exact h1, h2⟩
theorem Bk.new (w : World) (cur : Array Value) (e : TypeId) : Bk (w.alloc (.cells cur e)) w.heap.size e cur.size (fun i => cur.getD i (.bool false)) :=
  ⟨cur, heap_alloc_new w _, rfl, fun i hi => by simp [Array.getD, hi]⟩
theorem Bk.sameBlock {w w' : World} {g N : Nat} {e : TypeId} {V : Nat → Value} (h : Bk w g e N V) (hb : w'.heap[g]? = w.heap[g]?) : Bk w' g e N V := by
  obtain ⟨cur, h1, h2⟩ := h
  exact ⟨cur, by rw [hb]; exact h1, h2⟩
theorem Bk.below {B : Nat} {w w' : World} {g N : Nat} {e : TypeId} {V : Nat → Value} (h : Bk w g e N V) (hb : Below B w w') (hg : g < B) : Bk w' g e N V := h.sameBlock (hb.block g hg)

theorem run_mk1 {P : Program} (t e : TypeId) (z : Value) (bytes : Nat) (ht : P.underlying t = some (.slice e)) (hinfo : (P.info? e).map (fun i => (i.zero, i.size, i.bytes)) = some (some z, 1, bytes))
    (n : Nat) (hb : bytes * n ≤ 281474976710656) (hn : n ≤ 9223372036854775807) :
    ∃ X : Array Value, X = madeCells z.cells n ∧ ∀ w, (Instr.makeSlice t (.int .i64 (n : Int)) (.int .i64 (n : Int))).run P w = .ok (.slice (some ⟨w.heap.size, 0, none⟩) n n) (w.alloc (.cells X e)) := by
  obtain ⟨i0, hi, hz0, hz1, hz2⟩ := info_parts hinfo
  refine ⟨_, rfl, fun w => ?_⟩
  have hb' : (i0.bytes : Int) * (n : Int) ≤ 281474976710656 := by rw [hz2, ← Int.natCast_mul]; omega
  have := run_make (P := P) w t e i0 z ht hi hz0 .i64 .i64 (n : Int) (n : Int) (by omega) (by omega) hb' (by omega)
  simpa [hz1] using this
theorem size_made1 (z : Value) (n : Nat) : (madeCells z.cells n).size = n := by simp [madeCells]

theorem Try.info3 : (Try.prog.info? 3).map (fun i => (i.zero, i.size, i.bytes)) = some (some (.int .i64 0), 1, 8) := by kernel_rfl
theorem Try.info21 : (Try.prog.info? 21).map (fun i => (i.zero, i.size, i.bytes)) = some (some (.int .i32 0), 1, 4) := by kernel_rfl

/-- A slice of integers that is read: at x, the numbers V. -/
def RdI (k : IntKind) (w : World) (a : Option Addr) (n : Nat) (V : Nat → Int) : Prop := (a = none → n = 0) ∧ ∀ x, a = some x → (0 < n → x.block < w.heap.size) ∧ ∀ i, i < n → w.cell? (x.add i) = some (.int k (V i))
theorem add_block (x : Addr) (n : Nat) : (x.add n).block = x.block := by unfold Addr.add; split <;> rfl
theorem RdI.below {k : IntKind} {w w' : World} {a : Option Addr} {n : Nat} {V : Nat → Int} (h : RdI k w a n V) (hb : Below w.heap.size w w') : RdI k w' a n V :=
  ⟨h.1, fun x hx => ⟨fun h0 => Nat.lt_of_lt_of_le ((h.2 x hx).1 h0) hb.size, fun i hi => by rw [hb.cell (by rw [add_block]; exact (h.2 x hx).1 (by omega))]; exact (h.2 x hx).2 i hi⟩⟩

/-- What a clone hands back: nil, or a new block of its own. -/
def ClPost (k : IntKind) (e : TypeId) (n : Nat) (V : Nat → Int) (w : World) (r : Ending) (w' : World) : Prop :=
  Below w.heap.size w w' ∧ ((n = 0 ∧ r = .returned (.slice none 0 0)) ∨ ∃ g, r = .returned (.slice (some ⟨g, 0, none⟩) n n) ∧ w.heap.size ≤ g ∧ Bk w' g e n (fun i => .int k (V i)))

set_option maxRecDepth 100000 in
set_option maxHeartbeats 1000000 in
theorem clone64_any (a : Option Addr) (n c : Nat) (V : Nat → Int) (w : World) (hn : n ≤ 1048576) (h : RdI .i64 w a n V) :
    Calls Try.prog 10 #[.slice a n c] w (ClPost .i64 3 n V w) := by
  cases a with
  | none =>
    have h0 := h.1 rfl
    subst h0
    have hnil := fun w => Lib.run_eql_slice_nil (P := Try.prog) w 22 3 none 0 c 0 0 Try.underlying22
    clear h
    go_enter Try.func10, Try.ntmps10
    go_wp2_with fail
    go_ret
    exact ⟨Below.refl _ _, .inl ⟨rfl, rfl⟩⟩
  | some x =>
    obtain ⟨hx1, hx2⟩ := h.2 x rfl
    have HX1 : Hid (0 < n → x.block < w.heap.size) := hx1
    have HC : Hid (∀ i, i < n → w.cell? (x.add i) = some (.int .i64 (V i))) := hx2
    obtain ⟨X, hX, hmk⟩ := run_mk1 (P := Try.prog) 22 3 _ _ Try.underlying22 Try.info3 n (by omega) (by omega)
    have HXs : Hid (X.size = n) := by show _ = _; rw [hX]; exact size_made1 _ _
    have hmk0 := hmk w
    have hnil := fun w => Lib.run_eql_slice_nil (P := Try.prog) w 22 3 (some x) n c 0 0 Try.underlying22
    clear h hx1 hx2 hX hmk
    go_enter Try.func10, Try.ntmps10
    go_wp2_with fail
    go_loopw [4] (fun v wr => ∃ (i : Nat) (W : Nat → Value), v = .int .i64 i ∧ i ≤ n ∧ Hid (Below w.heap.size w wr) ∧ Hid (Bk wr w.heap.size 3 n W) ∧ Hid (∀ j, j < i → W j = .int .i64 (V j))) (fun v _ => n - (intOf v).toNat)
    case atStart =>
      have hb := Bk.new w X 3
      rw [HXs.out] at hb
      exact ⟨0, _, rfl, Nat.zero_le _, (Below.refl _ w).alloc (Nat.le_refl _) _, hb, fun j hj => absurd hj (Nat.not_lt_zero _)⟩
    case round =>
      clear hmk0
      obtain ⟨i, W, rfl, hi, HB, HK, HA⟩ := hrel
      by_cases hlt : i < n
      · have e0 : decide ((i : Int) < (n : Int)) = true := decide_eq_true (by omega)
        have e0' : decide (i < n) = true := decide_eq_true hlt
        have hsrc : wr.cell? (x.add i) = some (.int .i64 (V i)) := by rw [HB.out.cell (by rw [add_block]; exact HX1.out (by omega))]; exact HC.out i hlt
        have hdst := HK.out.cell i hlt
        have hfr := HK.out.frozen i
        have HK' : Hid (Bk (wr.setCell ⟨w.heap.size, i, none⟩ (.int .i64 (V i))) w.heap.size 3 n (fun j => if j = i then .int .i64 (V i) else W j)) := HK.out.set i hlt _
        have HA' : Hid (∀ j, j < i + 1 → (if j = i then Value.int .i64 (V i) else W j) = .int .i64 (V j)) := fun j hj => by
          by_cases e' : j = i
          · subst e'; rw [if_pos rfl]
          · rw [if_neg e']; exact HA.out j (by omega)
        have HB' : Hid (Below w.heap.size w (wr.setCell ⟨w.heap.size, i, none⟩ (.int .i64 (V i)))) := HB.out.setCell (Nat.le_refl _) _
        clear HA HK HB HC HX1
        go_wp2_with fail
        go_roundw
        case rel => exact ⟨i + 1, _, by go_num, by omega, HB', HK', HA'⟩
        case measure => simp [intOf]; omega
      · have e0 : decide ((i : Int) < (n : Int)) = false := decide_eq_false (by omega)
        have e0' : decide (i < n) = false := decide_eq_false hlt
        go_wp2_with fail
        go_ret
        exact ⟨HB.out, .inr ⟨_, rfl, Nat.le_refl _, HK.out.congr (fun j hj => (HA.out j (by omega)).symm)⟩⟩

set_option maxRecDepth 100000 in
set_option maxHeartbeats 1000000 in
theorem clone32_any (a : Option Addr) (n c : Nat) (V : Nat → Int) (w : World) (hn : n ≤ 1048576) (h : RdI .i32 w a n V) :
    Calls Try.prog 11 #[.slice a n c] w (ClPost .i32 21 n V w) := by
  cases a with
  | none =>
    have h0 := h.1 rfl
    subst h0
    have hnil := fun w => Lib.run_eql_slice_nil (P := Try.prog) w 23 21 none 0 c 0 0 Try.underlying23
    clear h
    go_enter Try.func11, Try.ntmps11
    go_wp2_with fail
    go_ret
    exact ⟨Below.refl _ _, .inl ⟨rfl, rfl⟩⟩
  | some x =>
    obtain ⟨hx1, hx2⟩ := h.2 x rfl
    have HX1 : Hid (0 < n → x.block < w.heap.size) := hx1
    have HC : Hid (∀ i, i < n → w.cell? (x.add i) = some (.int .i32 (V i))) := hx2
    obtain ⟨X, hX, hmk⟩ := run_mk1 (P := Try.prog) 23 21 _ _ Try.underlying23 Try.info21 n (by omega) (by omega)
    have HXs : Hid (X.size = n) := by show _ = _; rw [hX]; exact size_made1 _ _
    have hmk0 := hmk w
    have hnil := fun w => Lib.run_eql_slice_nil (P := Try.prog) w 23 21 (some x) n c 0 0 Try.underlying23
    clear h hx1 hx2 hX hmk
    go_enter Try.func11, Try.ntmps11
    go_wp2_with fail
    go_loopw [4] (fun v wr => ∃ (i : Nat) (W : Nat → Value), v = .int .i64 i ∧ i ≤ n ∧ Hid (Below w.heap.size w wr) ∧ Hid (Bk wr w.heap.size 21 n W) ∧ Hid (∀ j, j < i → W j = .int .i32 (V j))) (fun v _ => n - (intOf v).toNat)
    case atStart =>
      have hb := Bk.new w X 21
      rw [HXs.out] at hb
      exact ⟨0, _, rfl, Nat.zero_le _, (Below.refl _ w).alloc (Nat.le_refl _) _, hb, fun j hj => absurd hj (Nat.not_lt_zero _)⟩
    case round =>
      clear hmk0
      obtain ⟨i, W, rfl, hi, HB, HK, HA⟩ := hrel
      by_cases hlt : i < n
      · have e0 : decide ((i : Int) < (n : Int)) = true := decide_eq_true (by omega)
        have e0' : decide (i < n) = true := decide_eq_true hlt
        have hsrc : wr.cell? (x.add i) = some (.int .i32 (V i)) := by rw [HB.out.cell (by rw [add_block]; exact HX1.out (by omega))]; exact HC.out i hlt
        have hdst := HK.out.cell i hlt
        have hfr := HK.out.frozen i
        have HK' : Hid (Bk (wr.setCell ⟨w.heap.size, i, none⟩ (.int .i32 (V i))) w.heap.size 21 n (fun j => if j = i then .int .i32 (V i) else W j)) := HK.out.set i hlt _
        have HA' : Hid (∀ j, j < i + 1 → (if j = i then Value.int .i32 (V i) else W j) = .int .i32 (V j)) := fun j hj => by
          by_cases e' : j = i
          · subst e'; rw [if_pos rfl]
          · rw [if_neg e']; exact HA.out j (by omega)
        have HB' : Hid (Below w.heap.size w (wr.setCell ⟨w.heap.size, i, none⟩ (.int .i32 (V i)))) := HB.out.setCell (Nat.le_refl _) _
        clear HA HK HB HC HX1
        go_wp2_with fail
        go_roundw
        case rel => exact ⟨i + 1, _, by go_num, by omega, HB', HK', HA'⟩
        case measure => simp [intOf]; omega
      · have e0 : decide ((i : Int) < (n : Int)) = false := decide_eq_false (by omega)
        have e0' : decide (i < n) = false := decide_eq_false hlt
        go_wp2_with fail
        go_ret
        exact ⟨HB.out, .inr ⟨_, rfl, Nat.le_refl _, HK.out.congr (fun j hj => (HA.out j (by omega)).symm)⟩⟩

set_option maxRecDepth 100000 in
set_option maxHeartbeats 1000000 in
theorem readsIn_any (a : Option Addr) (n c N : Nat) (V : Nat → Int) (w : World) (hn : n ≤ 1048576) (hN : N ≤ 1048576) (h : RdI .i64 w a n V) :
    Calls Try.prog 9 #[.int .i64 N, .slice a n c] w fun r w' => ∃ f : Bool, r = .returned (.bool f) ∧ (f = true → ∀ i, i < n → 0 ≤ V i ∧ V i < N) ∧ Below w.heap.size w w' := by
  have H : Hid (RdI .i64 w a n V) := h
  clear h
  go_enter Try.func9, Try.ntmps9
  go_wp2_with fail
  go_loopw [5] (fun v wr => ∃ i : Nat, v = .int .i64 i ∧ i ≤ n ∧ Hid (Below w.heap.size w wr) ∧ Hid (∀ j, j < i → 0 ≤ V j ∧ V j < N)) (fun v _ => n - (intOf v).toNat)
  case atStart => exact ⟨0, rfl, Nat.zero_le _, Below.refl _ _, fun j hj => absurd hj (Nat.not_lt_zero _)⟩
  case round =>
    obtain ⟨i, rfl, hi, HB, HA⟩ := hrel
    by_cases hlt : i < n
    · have e0 : decide ((i : Int) < (n : Int)) = true := decide_eq_true (by omega)
      have e0' : decide (i < n) = true := decide_eq_true hlt
      obtain ⟨x, hx⟩ : ∃ x, a = some x := by
        cases a with
        | none => have := H.out.1 rfl; omega
        | some x => exact ⟨x, rfl⟩
      subst hx
      have hsrc : wr.cell? (x.add i) = some (.int .i64 (V i)) := by rw [HB.out.cell (by rw [add_block]; exact (H.out.2 x rfl).1 (by omega))]; exact (H.out.2 x rfl).2 i hlt
      by_cases hv : 0 ≤ V i ∧ V i < N
      · obtain ⟨h1, h2⟩ := hv
        have d1 : decide (V i < 0) = false := decide_eq_false (by omega)
        have d2 : decide ((N : Int) ≤ V i) = false := decide_eq_false (by omega)
        have HA' : Hid (∀ j, j < i + 1 → 0 ≤ V j ∧ V j < N) := fun j hj => by
          by_cases e' : j = i
          · subst e'; exact ⟨h1, h2⟩
          · exact HA.out j (by omega)
        clear HA
        go_wp2_with fail
        first | (go_big_quiet (fail); go_wp2_with fail) | skip
        go_roundw
        case rel => exact ⟨i + 1, by go_num, by omega, by first | exact HB | exact below_drewN HB.out _, HA'⟩
        case measure => simp [intOf]; omega
      · have hw : decide (V i < 0) = true ∨ (decide (V i < 0) = false ∧ decide ((N : Int) ≤ V i) = true) := by
          by_cases h0 : V i < 0
          · exact .inl (decide_eq_true h0)
          · exact .inr ⟨decide_eq_false h0, decide_eq_true (by omega)⟩
        clear hv
        rcases hw with d1 | ⟨d1, d2⟩
        all_goals
          go_wp2_with fail
          first | (go_big_quiet (fail); go_wp2_with fail) | skip
          go_ret
          exact ⟨false, rfl, fun h => absurd h (by decide), by first | exact HB.out | exact below_drewN HB.out _⟩
    · have e0 : decide ((i : Int) < (n : Int)) = false := decide_eq_false (by omega)
      have e0' : decide (i < n) = false := decide_eq_false hlt
      go_wp2_with fail
      go_ret
      exact ⟨true, rfl, fun _ j hj => HA.out j (by omega), HB.out⟩
end Go.Proofs.Qxb6605223a
