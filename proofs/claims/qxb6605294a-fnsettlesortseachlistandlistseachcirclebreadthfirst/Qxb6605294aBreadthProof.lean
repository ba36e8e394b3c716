/-
  Seat b6605294a. 'Rows.FnSettleSortsEachListAndListsEachCircleBreadthFirstSaid' PROVED, out of the law's walk (Qxb6605294aE8).
-/
import Derived.Test.Qxb6605294aRows
import Derived.Test.Qxb6605294aE8
import Derived.WalkKit
import Derived.ProofKit
import Derived.OpenShut
import Derived.ChangeOld
import Derived.Below
import Derived.Deep.Matrix
namespace Go.Proofs.Qxb6605294a.fnSettleSortsEachListAndListsEachCircleBreadthFirst
open Go.ChangeShapes Go.WideShapes Go.ChangeAt Go.RowKit Go.Deep
set_option linter.unusedVariables false

theorem own : ownKnob Try.prog.godebug = none := by kernel_rfl
theorem laidOut : laidOutB Try.prog = true := by kernel_rfl

theorem rd_ints {H : Type} {enc : TypeId × Value → H} {W : World} {t e : TypeId} {k : IntKind} {fuel : Nat} {a : Option Addr} {len cap : Nat} {x : DataW H × List MemPlace} (ht : Try.prog.underlying t = some (.slice e)) (he : Try.prog.underlying e = some (.int k)) (hc : Try.prog.cellsOf e = 1)
    (h : DataW.trod enc Try.prog W 0 (fun _ => true) true fuel t (Value.cells (.slice a len cap)).toList = some x) : ∃ V : Nat → Int, RdI k W a len V ∧ len ≤ maxLen ∧ ∀ i, i < len → (Lit.int k (V i)).wf = true := by
  rcases open_ints ht he hc h with ⟨hcs, _⟩ | ⟨a', l, c, zs, hcs, _, hl, hm, hz, _, hcell, hwz⟩
  · simp [Value.cells] at hcs
    obtain ⟨rfl, rfl, rfl⟩ := hcs
    exact ⟨fun _ => 0, ⟨fun _ => rfl, fun x hx => by cases hx⟩, by unfold maxLen; omega, fun i hi => absurd hi (Nat.not_lt_zero _)⟩
  · simp [Value.cells] at hcs
    obtain ⟨rfl, rfl, rfl⟩ := hcs
    simp only [if_true] at hz
    refine ⟨fun i => zs.getD i 0, ⟨(fun hx => by cases hx), fun x hx => ?_⟩, by omega, fun i hi => ?_⟩
    · cases hx
      refine ⟨fun h0 => ?_, fun i hi => hcell i (by omega)⟩
      have := World.block_lt_of_cell? W _ (hcell 0 (by omega))
      rw [add_block] at this
      exact this
    · have hlt : i < zs.length := by omega
      have hmem : zs.getD i 0 ∈ zs := by
        rw [List.getD_eq_getElem?_getD, List.getElem?_eq_getElem hlt]
        exact List.getElem_mem hlt
      exact hwz _ hmem
theorem rd_rows {H : Type} {enc : TypeId × Value → H} {W : World} {t e q : TypeId} {fuel : Nat} {a : Option Addr} {len cap : Nat} {x : DataW H × List MemPlace} (ht : Try.prog.underlying t = some (.slice e)) (he : Try.prog.underlying e = some (.slice q)) (hq : Try.prog.underlying q = some (.int .i64)) (hc : Try.prog.cellsOf e = 1) (hc2 : Try.prog.cellsOf q = 1)
    (h : DataW.trod enc Try.prog W 0 (fun _ => true) true fuel t (Value.cells (.slice a len cap)).toList = some x) : ∃ (A : Nat → Option Addr) (L C : Nat → Nat) (Z : Nat → Nat → Int), RdL W a len A L C Z ∧ len ≤ maxLen ∧ ∀ r, r < len → L r ≤ maxLen := by
  rcases open_int_rows ht he hq hc hc2 h with ⟨hcs, _⟩ | ⟨a', l, c, A, L, C, Z, hcs, _, hl, hm, _, hr⟩
  · simp [Value.cells] at hcs
    obtain ⟨rfl, rfl, rfl⟩ := hcs
    exact ⟨fun _ => none, fun _ => 0, fun _ => 0, fun _ _ => 0, ⟨fun _ => rfl, fun x hx => by cases hx⟩, by unfold maxLen; omega, fun i hi => absurd hi (Nat.not_lt_zero _)⟩
  · simp [Value.cells] at hcs
    obtain ⟨rfl, rfl, rfl⟩ := hcs
    refine ⟨A, L, C, fun r i => (Z r).getD i 0, ⟨(fun hx => by cases hx), fun x hx => ?_⟩, by omega, fun r hr' => ?_⟩
    · cases hx
      refine ⟨fun h0 => ?_, fun r hr' => ?_⟩
      · have := World.block_lt_of_cell? W _ (hr 0 (by omega)).1
        rw [add_block] at this
        exact this
      · obtain ⟨k1, k2, k3, k4, k5, k6, k7⟩ := hr r (by omega)
        refine ⟨k1, ⟨fun hx => by have := k6 hx; omega, fun y hy => ⟨fun h0 => ?_, fun i hi => (k7 y hy).2 i (by omega)⟩⟩⟩
        have := World.block_lt_of_cell? W _ ((k7 y hy).2 0 (by omega))
        rw [add_block] at this
        exact this
    · obtain ⟨k1, k2, k3, _⟩ := hr r (by omega)
      omega
set_option maxRecDepth 100000 in
theorem lifted (os : Os) (started : os.Started) (H : Type) (enc : TypeId × Value → H) :
    ReturnsInHanded {} Try.checked os 3 .any (Rows.fnSettleSortsEachListAndListsEachCircleBreadthFirstSpec.pre6 enc Try.prog Try.f3 Rows.fnSettleSortsEachListAndListsEachCircleBreadthFirstRow.domain false) (Rows.fnSettleSortsEachListAndListsEachCircleBreadthFirstSpec.post enc Try.prog Try.f3 false true false false) := by
  refine returnsInHanded_of_change (C := Try.checked) own started (by kernel_rfl) Try.func3
    (ChangeSpec.witness6 (enc := enc) (C := Try.checked) false ⟨#[], #[.slice none 0 0, .slice none 0 0, .slice none 0 0, .slice none 0 0, .slice none 0 0], []⟩ 8 (by kernel_rfl) (by kernel_rfl) (by kernel_rfl) (by kernel_rfl)) ?_
  intro W base args ds gs before hval0 hW hcnd _
  have hval : ∀ (j : Nat) t v, Try.f3.params[j]? = some t → args[j]? = some v → Value.okWide Try.prog W .any base t v := hval0
  have hW' := hW
  obtain ⟨p, q, hA0, hV, rfl, hfz, hnd⟩ := hW
  have hA : DataW.TrodAll enc Try.prog W 0 (fun _ => true) true Try.f3.params.toList args.toList ds p := hA0
  rw [Try.params3] at hA hval
  obtain ⟨v0, vs0, d0, ds0, p0, q0, hargs, rfl, rfl, h0, r0⟩ := trodAll_cons hA
  obtain ⟨v1, vs1, d1, ds1, p1, q1, rfl, rfl, rfl, h1, r1⟩ := trodAll_cons r0
  obtain ⟨v2, vs2, d2, ds2, p2, q2, rfl, rfl, rfl, h2, r2⟩ := trodAll_cons r1
  obtain ⟨v3, vs3, d3, ds3, p3, q3, rfl, rfl, rfl, h3, r3⟩ := trodAll_cons r2
  obtain ⟨v4, vs4, d4, ds4, p4, q4, rfl, rfl, rfl, h4, r4⟩ := trodAll_cons r3
  obtain ⟨rfl, rfl, rfl⟩ := trodAll_nil r4
  obtain rfl : args = #[v0, v1, v2, v3, v4] := by cases args; simp_all
  obtain ⟨rfl, rfl⟩ := trodVars_none hV
  obtain ⟨a0, l0, c0, rfl⟩ := okWide_slice Try.underlying22 (hval 0 22 v0 rfl rfl)
  obtain ⟨a1, l1, c1, rfl⟩ := okWide_slice Try.underlying23 (hval 1 23 v1 rfl rfl)
  obtain ⟨a2, l2, c2, rfl⟩ := okWide_slice Try.underlying23 (hval 2 23 v2 rfl rfl)
  obtain ⟨a3, l3, c3, rfl⟩ := okWide_slice Try.underlying23 (hval 3 23 v3 rfl rfl)
  obtain ⟨a4, l4, c4, rfl⟩ := okWide_slice Try.underlying23 (hval 4 23 v4 rfl rfl)
  have k0 := h0
  have k1 := h1
  have k2 := h2
  have k3 := h3
  have k4 := h4
  have lt0 : ∀ x ∈ p0, x.block < W.heap.size := by obtain ⟨m, hm⟩ := k0; exact DataW.trod_lt m _ _ _ hm
  have lt1 : ∀ x ∈ p1, x.block < W.heap.size := by obtain ⟨m, hm⟩ := k1; exact DataW.trod_lt m _ _ _ hm
  have lt2 : ∀ x ∈ p2, x.block < W.heap.size := by obtain ⟨m, hm⟩ := k2; exact DataW.trod_lt m _ _ _ hm
  have lt3 : ∀ x ∈ p3, x.block < W.heap.size := by obtain ⟨m, hm⟩ := k3; exact DataW.trod_lt m _ _ _ hm
  have lt4 : ∀ x ∈ p4, x.block < W.heap.size := by obtain ⟨m, hm⟩ := k4; exact DataW.trod_lt m _ _ _ hm
  obtain ⟨V0, w0, e0, f0⟩ : ∃ V : Nat → Int, RdI .i64 W a0 l0 V ∧ l0 ≤ maxLen ∧ ∀ i, i < l0 → (Lit.int .i64 (V i)).wf = true := by obtain ⟨fuel, hf⟩ := h0; exact rd_ints Try.underlying22 Try.underlying3 (by kernel_rfl) hf
  obtain ⟨A1, L1, C1, Z1, w1, e1, f1⟩ : ∃ (A : Nat → Option Addr) (L C : Nat → Nat) (Z : Nat → Nat → Int), RdL W a1 l1 A L C Z ∧ l1 ≤ maxLen ∧ ∀ r, r < l1 → L r ≤ maxLen := by obtain ⟨fuel, hf⟩ := h1; exact rd_rows Try.underlying23 Try.underlying22 Try.underlying3 (by kernel_rfl) (by kernel_rfl) hf
  obtain ⟨A2, L2, C2, Z2, w2, e2, f2⟩ : ∃ (A : Nat → Option Addr) (L C : Nat → Nat) (Z : Nat → Nat → Int), RdL W a2 l2 A L C Z ∧ l2 ≤ maxLen ∧ ∀ r, r < l2 → L r ≤ maxLen := by obtain ⟨fuel, hf⟩ := h2; exact rd_rows Try.underlying23 Try.underlying22 Try.underlying3 (by kernel_rfl) (by kernel_rfl) hf
  obtain ⟨A3, L3, C3, Z3, w3, e3, f3⟩ : ∃ (A : Nat → Option Addr) (L C : Nat → Nat) (Z : Nat → Nat → Int), RdL W a3 l3 A L C Z ∧ l3 ≤ maxLen ∧ ∀ r, r < l3 → L r ≤ maxLen := by obtain ⟨fuel, hf⟩ := h3; exact rd_rows Try.underlying23 Try.underlying22 Try.underlying3 (by kernel_rfl) (by kernel_rfl) hf
  obtain ⟨A4, L4, C4, Z4, w4, e4, f4⟩ : ∃ (A : Nat → Option Addr) (L C : Nat → Nat) (Z : Nat → Nat → Int), RdL W a4 l4 A L C Z ∧ l4 ≤ maxLen ∧ ∀ r, r < l4 → L r ≤ maxLen := by obtain ⟨fuel, hf⟩ := h4; exact rd_rows Try.underlying23 Try.underlying22 Try.underlying3 (by kernel_rfl) (by kernel_rfl) hf
  unfold maxLen at e0 e1 e2 e3 e4 f1 f2 f3 f4
  clear hA0 hval0
  refine (law3 a0 a1 a2 a3 a4 l0 l1 l2 l3 l4 c0 c1 c2 c3 c4 V0 A1 A2 A3 A4 L1 L2 L3 L4 C1 C2 C3 C4 Z1 Z2 Z3 Z4 W (by omega) (by omega) (by omega) (by omega) (by omega) (fun q hq => by have := f1 q hq; omega) (fun q hq => by have := f2 q hq; omega) (fun q hq => by have := f3 q hq; omega) (fun q hq => by have := f4 q hq; omega) w0 w1 w2 w3 w4 f0).mono fun e W' ⟨he, bel⟩ => ?_
  subst he
  exact ⟨_, rfl, _, _, _, [], _, [], hW', trodAll_mk1 (shut_bool Try.underlying4 _), (trodAll_cons_mk (Below.trod laidOut (by kernel_rfl) (of_decide_eq_true (by kernel_rfl)) k0 bel lt0) (trodAll_cons_mk (Below.trod laidOut (by kernel_rfl) (of_decide_eq_true (by kernel_rfl)) k1 bel lt1) (trodAll_cons_mk (Below.trod laidOut (by kernel_rfl) (of_decide_eq_true (by kernel_rfl)) k2 bel lt2) (trodAll_cons_mk (Below.trod laidOut (by kernel_rfl) (of_decide_eq_true (by kernel_rfl)) k3 bel lt3) (trodAll_cons_mk (Below.trod laidOut (by kernel_rfl) (of_decide_eq_true (by kernel_rfl)) k4 bel lt4) trodAll_mk0))))), rfl, bel.frame _, fun h => by cases h⟩

theorem over : Rows.fnSettleSortsEachListAndListsEachCircleBreadthFirstRow.holds Try.pinned (OpenSpec.ofChange Rows.fnSettleSortsEachListAndListsEachCircleBreadthFirstSpec) :=
  OpenClaim.holds_of_wide 3 Try.f3 rfl rfl rfl rfl rfl rfl rfl ⟨rfl, rfl, rfl, rfl, rfl⟩ rfl rfl rfl rfl rfl (by kernel_rfl) Try.func3 (by kernel_rfl)
    (of_decide_eq_true (by kernel_rfl)) (by unfold Func.isWrapper; first | (rw [if_pos (by decide +kernel)]; kernel_rfl) | (rw [if_neg (by decide +kernel)]; exact ⟨rfl, rfl⟩))
    (fun os started H enc _ => lifted os started H enc)

/-- THE STATEMENT -/
theorem proved : Rows.FnSettleSortsEachListAndListsEachCircleBreadthFirstSaid := over
end Go.Proofs.Qxb6605294a.fnSettleSortsEachListAndListsEachCircleBreadthFirst
