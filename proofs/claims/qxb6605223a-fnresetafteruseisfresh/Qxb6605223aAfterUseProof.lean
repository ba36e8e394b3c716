/-
  Seat b6605223a. 'Rows.FnResetAfterUseIsFreshSaid' PROVED, out of the law's walk (Qxb6605223aZ1).
-/
import Derived.Test.Qxb6605223aRows
import Derived.Test.Qxb6605223aZ1
import Derived.WalkKit
import Derived.ProofKit
import Derived.OpenShut
import Derived.ChangeOld
import Derived.Below
import Derived.Deep.Matrix
namespace Go.Proofs.Qxb6605223a.fnResetAfterUseIsFresh
open Go.ChangeShapes Go.WideShapes Go.ChangeAt Go.RowKit Go.Deep
set_option linter.unusedVariables false

theorem own : ownKnob Try.prog.godebug = none := by kernel_rfl
theorem laidOut : laidOutB Try.prog = true := by kernel_rfl

theorem rd_ints {H : Type} {enc : TypeId × Value → H} {W : World} {t e : TypeId} {k : IntKind} {fuel : Nat} {a : Option Addr} {len cap : Nat} {x : DataW H × List MemPlace} (ht : Try.prog.underlying t = some (.slice e)) (he : Try.prog.underlying e = some (.int k)) (hc : Try.prog.cellsOf e = 1)
    (h : DataW.trod enc Try.prog W 0 (fun _ => true) true fuel t (Value.cells (.slice a len cap)).toList = some x) : ∃ V : Nat → Int, RdI k W a len V ∧ len ≤ maxLen ∧ ∀ i, i < len → (Lit.int k (V i)).wf = true := by
  rcases open_ints ht he hc h with ⟨hcs, _⟩ | ⟨a', l, c, zs, hcs, _, hl, hm, hz, _, hcell, hwz⟩
  · simp [Value.cells] at hcs
    obtain ⟨rfl, rfl, rfl⟩ := hcs
    exact ⟨fun _ => 0, ⟨fun _ => rfl, fun x hx => by cases hx⟩, by unfold maxLen; omega, fun i hi => absurd hi (Nat.not_lt_zero _)⟩
  · simp [Value.cells] at hcs
    obtain ⟨rfl, rfl, rfl⟩ := hcs
    simp only [if_true] at hz
    refine ⟨fun i => zs.getD i 0, ⟨(fun hx => by cases hx), fun x hx => ?_⟩, by omega, fun i hi => ?_⟩
    · cases hx
      refine ⟨fun h0 => ?_, fun i hi => hcell i (by omega)⟩
      have := World.block_lt_of_cell? W _ (hcell 0 (by omega))
      rw [add_block] at this
      exact this
    · have hlt : i < zs.length := by omega
      have hmem : zs.getD i 0 ∈ zs := by
        rw [List.getD_eq_getElem?_getD, List.getElem?_eq_getElem hlt]
        exact List.getElem_mem hlt
      exact hwz _ hmem
theorem rd_rows {H : Type} {enc : TypeId × Value → H} {W : World} {t e q : TypeId} {fuel : Nat} {a : Option Addr} {len cap : Nat} {x : DataW H × List MemPlace} (ht : Try.prog.underlying t = some (.slice e)) (he : Try.prog.underlying e = some (.slice q)) (hq : Try.prog.underlying q = some (.int .i64)) (hc : Try.prog.cellsOf e = 1) (hc2 : Try.prog.cellsOf q = 1)
    (h : DataW.trod enc Try.prog W 0 (fun _ => true) true fuel t (Value.cells (.slice a len cap)).toList = some x) : ∃ (A : Nat → Option Addr) (L C : Nat → Nat) (Z : Nat → Nat → Int), RdL W a len A L C Z ∧ len ≤ maxLen ∧ ∀ r, r < len → L r ≤ maxLen := by
  rcases open_int_rows ht he hq hc hc2 h with ⟨hcs, _⟩ | ⟨a', l, c, A, L, C, Z, hcs, _, hl, hm, _, hr⟩
  · simp [Value.cells] at hcs
    obtain ⟨rfl, rfl, rfl⟩ := hcs
    exact ⟨fun _ => none, fun _ => 0, fun _ => 0, fun _ _ => 0, ⟨fun _ => rfl, fun x hx => by cases hx⟩, by unfold maxLen; omega, fun i hi => absurd hi (Nat.not_lt_zero _)⟩
  · simp [Value.cells] at hcs
    obtain ⟨rfl, rfl, rfl⟩ := hcs
    refine ⟨A, L, C, fun r i => (Z r).getD i 0, ⟨(fun hx => by cases hx), fun x hx => ?_⟩, by omega, fun r hr' => ?_⟩
    · cases hx
      refine ⟨fun h0 => ?_, fun r hr' => ?_⟩
      · have := World.block_lt_of_cell? W _ (hr 0 (by omega)).1
        rw [add_block] at this
        exact this
      · obtain ⟨k1, k2, k3, k4, k5, k6, k7⟩ := hr r (by omega)
        refine ⟨k1, ⟨fun hx => by have := k6 hx; omega, fun y hy => ⟨fun h0 => ?_, fun i hi => (k7 y hy).2 i (by omega)⟩⟩⟩
        have := World.block_lt_of_cell? W _ ((k7 y hy).2 0 (by omega))
        rw [add_block] at this
        exact this
    · obtain ⟨k1, k2, k3, _⟩ := hr r (by omega)
      omega
theorem i32_of {n : Int} (h : (Lit.int .i32 n).wf = true) : -2147483648 ≤ n ∧ n ≤ 2147483647 := by
  simp [Lit.wf, IntKind.min, IntKind.max, IntKind.signed, IntKind.bits] at h
  omega

set_option maxRecDepth 100000 in
theorem lifted (os : Os) (started : os.Started) (H : Type) (enc : TypeId × Value → H) :
    ReturnsInHanded {} Try.checked os 4 .any (Rows.fnResetAfterUseIsFreshSpec.pre6 enc Try.prog Try.f4 Rows.fnResetAfterUseIsFreshRow.domain false) (Rows.fnResetAfterUseIsFreshSpec.post enc Try.prog Try.f4 false true false false) := by
  refine returnsInHanded_of_change (C := Try.checked) own started (by kernel_rfl) Try.func4
    (ChangeSpec.witness6 (enc := enc) (C := Try.checked) false ⟨#[], #[.slice none 0 0, .slice none 0 0, .slice none 0 0, .slice none 0 0, .slice none 0 0, .slice none 0 0, .slice none 0 0, .slice none 0 0], []⟩ 8 (by kernel_rfl) (by kernel_rfl) (by kernel_rfl) (by kernel_rfl)) ?_
  intro W base args ds gs before hval0 hW hcnd _
  have hval : ∀ (j : Nat) t v, Try.f4.params[j]? = some t → args[j]? = some v → Value.okWide Try.prog W .any base t v := hval0
  have hW' := hW
  obtain ⟨p, q, hA0, hV, rfl, hfz, hnd⟩ := hW
  have hA : DataW.TrodAll enc Try.prog W 0 (fun _ => true) true Try.f4.params.toList args.toList ds p := hA0
  rw [Try.params4] at hA hval
  obtain ⟨v0, vs0, d0, ds0, p0, q0, hargs, rfl, rfl, h0, r0⟩ := trodAll_cons hA
  obtain ⟨v1, vs1, d1, ds1, p1, q1, rfl, rfl, rfl, h1, r1⟩ := trodAll_cons r0
  obtain ⟨v2, vs2, d2, ds2, p2, q2, rfl, rfl, rfl, h2, r2⟩ := trodAll_cons r1
  obtain ⟨v3, vs3, d3, ds3, p3, q3, rfl, rfl, rfl, h3, r3⟩ := trodAll_cons r2
  obtain ⟨v4, vs4, d4, ds4, p4, q4, rfl, rfl, rfl, h4, r4⟩ := trodAll_cons r3
  obtain ⟨v5, vs5, d5, ds5, p5, q5, rfl, rfl, rfl, h5, r5⟩ := trodAll_cons r4
  obtain ⟨v6, vs6, d6, ds6, p6, q6, rfl, rfl, rfl, h6, r6⟩ := trodAll_cons r5
  obtain ⟨v7, vs7, d7, ds7, p7, q7, rfl, rfl, rfl, h7, r7⟩ := trodAll_cons r6
  obtain ⟨rfl, rfl, rfl⟩ := trodAll_nil r7
  obtain rfl : args = #[v0, v1, v2, v3, v4, v5, v6, v7] := by cases args; simp_all
  obtain ⟨rfl, rfl⟩ := trodVars_none hV
  obtain ⟨a0, l0, c0, rfl⟩ := okWide_slice Try.underlying22 (hval 0 22 v0 rfl rfl)
  obtain ⟨a1, l1, c1, rfl⟩ := okWide_slice Try.underlying23 (hval 1 23 v1 rfl rfl)
  obtain ⟨a2, l2, c2, rfl⟩ := okWide_slice Try.underlying24 (hval 2 24 v2 rfl rfl)
  obtain ⟨a3, l3, c3, rfl⟩ := okWide_slice Try.underlying22 (hval 3 22 v3 rfl rfl)
  obtain ⟨a4, l4, c4, rfl⟩ := okWide_slice Try.underlying23 (hval 4 23 v4 rfl rfl)
  obtain ⟨a5, l5, c5, rfl⟩ := okWide_slice Try.underlying23 (hval 5 23 v5 rfl rfl)
  obtain ⟨a6, l6, c6, rfl⟩ := okWide_slice Try.underlying22 (hval 6 22 v6 rfl rfl)
  obtain ⟨a7, l7, c7, rfl⟩ := okWide_slice Try.underlying22 (hval 7 22 v7 rfl rfl)
  have k0 := h0
  have k1 := h1
  have k2 := h2
  have k3 := h3
  have k4 := h4
  have k5 := h5
  have k6 := h6
  have k7 := h7
  have lt0 : ∀ x ∈ p0, x.block < W.heap.size := by obtain ⟨m, hm⟩ := k0; exact DataW.trod_lt m _ _ _ hm
  have lt1 : ∀ x ∈ p1, x.block < W.heap.size := by obtain ⟨m, hm⟩ := k1; exact DataW.trod_lt m _ _ _ hm
  have lt2 : ∀ x ∈ p2, x.block < W.heap.size := by obtain ⟨m, hm⟩ := k2; exact DataW.trod_lt m _ _ _ hm
  have lt3 : ∀ x ∈ p3, x.block < W.heap.size := by obtain ⟨m, hm⟩ := k3; exact DataW.trod_lt m _ _ _ hm
  have lt4 : ∀ x ∈ p4, x.block < W.heap.size := by obtain ⟨m, hm⟩ := k4; exact DataW.trod_lt m _ _ _ hm
  have lt5 : ∀ x ∈ p5, x.block < W.heap.size := by obtain ⟨m, hm⟩ := k5; exact DataW.trod_lt m _ _ _ hm
  have lt6 : ∀ x ∈ p6, x.block < W.heap.size := by obtain ⟨m, hm⟩ := k6; exact DataW.trod_lt m _ _ _ hm
  have lt7 : ∀ x ∈ p7, x.block < W.heap.size := by obtain ⟨m, hm⟩ := k7; exact DataW.trod_lt m _ _ _ hm
  obtain ⟨V0, w0, e0, _⟩ : ∃ V : Nat → Int, RdI .i64 W a0 l0 V ∧ l0 ≤ maxLen ∧ ∀ i, i < l0 → (Lit.int .i64 (V i)).wf = true := by obtain ⟨fuel, hf⟩ := h0; exact rd_ints Try.underlying22 Try.underlying3 (by kernel_rfl) hf
  obtain ⟨V1, w1, e1, f1⟩ : ∃ V : Nat → Int, RdI .i32 W a1 l1 V ∧ l1 ≤ maxLen ∧ ∀ i, i < l1 → (Lit.int .i32 (V i)).wf = true := by obtain ⟨fuel, hf⟩ := h1; exact rd_ints Try.underlying23 Try.underlying21 (by kernel_rfl) hf
  obtain ⟨A, L, C, Z, w2, e2, f2⟩ : ∃ (A : Nat → Option Addr) (L C : Nat → Nat) (Z : Nat → Nat → Int), RdL W a2 l2 A L C Z ∧ l2 ≤ maxLen ∧ ∀ r, r < l2 → L r ≤ maxLen := by obtain ⟨fuel, hf⟩ := h2; exact rd_rows Try.underlying24 Try.underlying22 Try.underlying3 (by kernel_rfl) (by kernel_rfl) hf
  obtain ⟨V3, w3, e3, _⟩ : ∃ V : Nat → Int, RdI .i64 W a3 l3 V ∧ l3 ≤ maxLen ∧ ∀ i, i < l3 → (Lit.int .i64 (V i)).wf = true := by obtain ⟨fuel, hf⟩ := h3; exact rd_ints Try.underlying22 Try.underlying3 (by kernel_rfl) hf
  obtain ⟨V4, w4, e4, _⟩ : ∃ V : Nat → Int, RdI .i32 W a4 l4 V ∧ l4 ≤ maxLen ∧ ∀ i, i < l4 → (Lit.int .i32 (V i)).wf = true := by obtain ⟨fuel, hf⟩ := h4; exact rd_ints Try.underlying23 Try.underlying21 (by kernel_rfl) hf
  obtain ⟨V5, w5, e5, _⟩ : ∃ V : Nat → Int, RdI .i32 W a5 l5 V ∧ l5 ≤ maxLen ∧ ∀ i, i < l5 → (Lit.int .i32 (V i)).wf = true := by obtain ⟨fuel, hf⟩ := h5; exact rd_ints Try.underlying23 Try.underlying21 (by kernel_rfl) hf
  obtain ⟨V6, w6, e6, _⟩ : ∃ V : Nat → Int, RdI .i64 W a6 l6 V ∧ l6 ≤ maxLen ∧ ∀ i, i < l6 → (Lit.int .i64 (V i)).wf = true := by obtain ⟨fuel, hf⟩ := h6; exact rd_ints Try.underlying22 Try.underlying3 (by kernel_rfl) hf
  obtain ⟨V7, w7, e7, _⟩ : ∃ V : Nat → Int, RdI .i64 W a7 l7 V ∧ l7 ≤ maxLen ∧ ∀ i, i < l7 → (Lit.int .i64 (V i)).wf = true := by obtain ⟨fuel, hf⟩ := h7; exact rd_ints Try.underlying22 Try.underlying3 (by kernel_rfl) hf
  unfold maxLen at e0 e1 e2 e3 e4 e5 e6 e7 f2
  clear hA0 hval0
  refine (law4 a0 a1 a2 a3 a4 a5 a6 a7 l0 l1 l2 l3 l4 l5 l6 l7 c0 c1 c2 c3 c4 c5 c6 c7 V0 V1 V3 V4 V5 V6 V7 A L C Z W (by omega) (by omega) (by omega) (by omega) (by omega) (by omega) (by omega) (by omega) (fun q hq => by have := f2 q hq; omega) w0 w1 (fun i hi => i32_of (f1 i hi)) w2 w3 w4 w5 w6 w7).mono fun e W' ⟨he, bel⟩ => ?_
  subst he
  exact ⟨_, rfl, _, _, _, [], _, [], hW', trodAll_mk1 (shut_bool Try.underlying4 _), (trodAll_cons_mk (Below.trod laidOut (by kernel_rfl) (of_decide_eq_true (by kernel_rfl)) k0 bel lt0) (trodAll_cons_mk (Below.trod laidOut (by kernel_rfl) (of_decide_eq_true (by kernel_rfl)) k1 bel lt1) (trodAll_cons_mk (Below.trod laidOut (by kernel_rfl) (of_decide_eq_true (by kernel_rfl)) k2 bel lt2) (trodAll_cons_mk (Below.trod laidOut (by kernel_rfl) (of_decide_eq_true (by kernel_rfl)) k3 bel lt3) (trodAll_cons_mk (Below.trod laidOut (by kernel_rfl) (of_decide_eq_true (by kernel_rfl)) k4 bel lt4) (trodAll_cons_mk (Below.trod laidOut (by kernel_rfl) (of_decide_eq_true (by kernel_rfl)) k5 bel lt5) (trodAll_cons_mk (Below.trod laidOut (by kernel_rfl) (of_decide_eq_true (by kernel_rfl)) k6 bel lt6) (trodAll_cons_mk (Below.trod laidOut (by kernel_rfl) (of_decide_eq_true (by kernel_rfl)) k7 bel lt7) trodAll_mk0)))))))), rfl, bel.frame _, fun h => by cases h⟩

theorem over : Rows.fnResetAfterUseIsFreshRow.holds Try.pinned (OpenSpec.ofChange Rows.fnResetAfterUseIsFreshSpec) :=
  OpenClaim.holds_of_wide 4 Try.f4 rfl rfl rfl rfl rfl rfl rfl ⟨rfl, rfl, rfl, rfl, rfl⟩ rfl rfl rfl rfl rfl (by kernel_rfl) Try.func4 (by kernel_rfl)
    (of_decide_eq_true (by kernel_rfl)) (by unfold Func.isWrapper; first | (rw [if_pos (by decide +kernel)]; kernel_rfl) | (rw [if_neg (by decide +kernel)]; exact ⟨rfl, rfl⟩))
    (fun os started H enc _ => lifted os started H enc)

/-- THE STATEMENT -/
theorem proved : Rows.FnResetAfterUseIsFreshSaid := over
end Go.Proofs.Qxb6605223a.fnResetAfterUseIsFresh
