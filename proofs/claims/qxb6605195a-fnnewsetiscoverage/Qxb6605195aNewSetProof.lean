/-
  Seat b6605195a. 'Rows.FnNewSetIsCoverageSaid' PROVED, out of the law's walk (Qxb6605195aW8).
-/
import Derived.Test.Qxb6605195aRows
import Derived.Test.Qxb6605195aW8
import Derived.Test.Qxb6605195aW9
import Derived.ProofKit
import Derived.OpenShut
import Derived.ShutString
import Derived.ChangeOld
import Derived.Deep.SlicePairs
namespace Go.Proofs.Qxb6605195a.fnNewSetIsCoverage
open Go.ChangeShapes Go.WideShapes Go.ChangeAt Go.RowKit Go.Deep
set_option linter.unusedVariables false

theorem own : ownKnob Try.prog.godebug = none := by kernel_rfl
theorem laidOut : laidOutB Try.prog = true := by kernel_rfl

theorem addr_add (b off : Nat) (sp : Option Nat) (n : Nat) : (Addr.add ⟨b, off, sp⟩ n) = ⟨b, off + n, if n = 0 then sp else none⟩ := by
  unfold Addr.add
  split <;> simp_all

/-- The pairs that lie there, as a list. -/
theorem pairs_there {W : World} {a : Addr} : ∀ n, (∀ i, i < n → ∃ lo hi : Int, W.cell? (a.add (i * 2)) = some (.int .i32 lo) ∧ W.cell? (a.add (i * 2 + 1)) = some (.int .i32 hi)) →
    ∃ xs : List (Int × Int), xs.length = n ∧ ∀ i, i < n → W.cell? (a.add (i * 2)) = some (.int .i32 (xs.getD i (0, 0)).1) ∧ W.cell? (a.add (i * 2 + 1)) = some (.int .i32 (xs.getD i (0, 0)).2)
  | 0, _ => ⟨[], rfl, fun i hi => absurd hi (Nat.not_lt_zero _)⟩
  | n + 1, h => by
    obtain ⟨xs, hl, hx⟩ := pairs_there n fun i hi => h i (by omega)
    obtain ⟨lo, hi, h0, h1⟩ := h n (by omega)
    refine ⟨xs ++ [(lo, hi)], by simp [hl], fun i hi' => ?_⟩
    rcases Nat.lt_or_ge i n with hlt | hge
    · have e : (xs ++ [(lo, hi)]).getD i (0, 0) = xs.getD i (0, 0) := by
        simp [List.getD, List.getElem?_append_left (show i < xs.length by omega)]
      rw [e]; exact hx i hlt
    · obtain rfl : i = n := by omega
      have e : (xs ++ [(lo, hi)]).getD i (0, 0) = (lo, hi) := by
        rw [← hl]; simp [List.getD]
      rw [e]; exact ⟨h0, h1⟩

/-- The law's walk, at whatever argument. -/
theorem walk {v : Value} {xs : List (Int × Int)} (w : World) (h : Sl2 .i32 w v xs) : Calls Try.prog 3 #[v] w fun e w' => e = .returned (.bool true) ∧ Below w.heap.size w w' := by
  by_cases hm : xs.length ≤ 131072
  · exact law_short sort_c v xs w h hm
  · obtain ⟨a, b, off, c, rfl, hcc, hcm, _⟩ := h
    unfold maxLen at hcm
    exact law_long a xs.length c w (by omega) (by omega)

set_option maxRecDepth 100000 in
theorem lifted (os : Os) (started : os.Started) (H : Type) (enc : TypeId × Value → H) :
    ReturnsInHanded {} Try.checked os 3 .any (Rows.fnNewSetIsCoverageSpec.pre6 enc Try.prog Try.f3 Rows.fnNewSetIsCoverageRow.domain false) (Rows.fnNewSetIsCoverageSpec.post enc Try.prog Try.f3 false true false false) := by
  refine returnsInHanded_of_change (C := Try.checked) own started (by kernel_rfl) Try.func3
    (ChangeSpec.witness6 (enc := enc) (C := Try.checked) false ⟨#[], #[.slice none 0 0], []⟩ 8 (by kernel_rfl) (by kernel_rfl) (by kernel_rfl) (by kernel_rfl)) ?_
  intro W base args ds gs before hval0 hW hcnd _
  have hval : ∀ (j : Nat) t v, Try.f3.params[j]? = some t → args[j]? = some v → Value.okWide Try.prog W .any base t v := hval0
  have hW' := hW
  obtain ⟨p, q, hA0, hV, rfl, hfz, hnd⟩ := hW
  have hA : DataW.TrodAll enc Try.prog W 0 (fun _ => true) true Try.f3.params.toList args.toList ds p := hA0
  rw [Try.params3] at hA hval
  obtain ⟨v0, vs0, d0, ds0, p0, q0, hargs, rfl, rfl, h0, r0⟩ := trodAll_cons hA
  obtain ⟨rfl, rfl, rfl⟩ := trodAll_nil r0
  obtain rfl : args = #[v0] := by cases args; simp_all
  obtain ⟨rfl, rfl⟩ := trodVars_none hV
  obtain ⟨a0, len0, cap0, rfl⟩ := okWide_slice Try.underlying22 (hval 0 22 v0 rfl rfl)
  have k0 := h0
  have lt0 : ∀ x ∈ p0, x.block < W.heap.size := by obtain ⟨m, hm⟩ := k0; exact DataW.trod_lt m _ _ _ hm
  obtain ⟨xs, w0⟩ : ∃ xs, Sl2 .i32 W (.slice a0 len0 cap0) xs := by
    obtain ⟨fuel, hf⟩ := h0
    rcases open_slice_pairs Try.underlying22 Try.underlying58 (by kernel_rfl) (by rfl) (by rfl) (by kernel_rfl) (by kernel_rfl) hf with ⟨hcs, _⟩ | ⟨a, len, cap, m, n, V0, V1, D0, D1, P0, P1, hcs, _, hl, hm, hmm, _, hc⟩
    · simp [Value.cells] at hcs
      obtain ⟨rfl, rfl, rfl⟩ := hcs
      exact ⟨[], none, 0, 0, 0, rfl, Nat.le_refl _, by unfold maxLen; omega, fun h => absurd h (Nat.lt_irrefl _), fun i hi => absurd hi (Nat.not_lt_zero _)⟩
    · simp [Value.cells] at hcs
      obtain ⟨rfl, rfl, rfl⟩ := hcs
      have hlm : len0 ≤ m := by rw [hmm]; split <;> omega
      have each : ∀ i, i < len0 → ∃ lo hi : Int, W.cell? (a.add (i * 2)) = some (.int .i32 lo) ∧ W.cell? (a.add (i * 2 + 1)) = some (.int .i32 hi) := by
        intro i hi
        obtain ⟨c0, c1, t0, t1⟩ := hc i (by omega)
        obtain ⟨x0, e0, _⟩ := DataW.trod_int Try.underlying21 t0
        obtain ⟨x1, e1, _⟩ := DataW.trod_int Try.underlying21 t1
        simp at e0 e1
        exact ⟨x0, x1, by rw [c0, e0], by rw [c1, e1]⟩
      obtain ⟨xs, hxl, hxc⟩ := pairs_there len0 each
      obtain ⟨b, off, sp⟩ := a
      have hnone : 0 < len0 → sp = none := fun h => by
        have := World.cell?_spot (hxc 0 h).1
        simpa [addr_add] using this
      refine ⟨xs, some ⟨b, off, sp⟩, b, off, cap0, by rw [hxl], by rw [hxl]; exact hl, hm, fun h => ?_, fun i hi => ?_⟩
      · rw [hxl] at h
        have e := hnone h
        subst e
        exact ⟨rfl, World.block_lt_of_cell? W _ (hxc 0 h).1⟩
      · rw [hxl] at hi
        have e := hnone (by omega)
        subst e
        have := hxc i hi
        rw [addr_add, addr_add] at this
        simpa [Nat.add_assoc] using this
  clear hA0 hval0
  refine (walk W w0).mono fun e W' ⟨he, bel⟩ => ?_
  subst he
  exact ⟨_, rfl, _, _, _, [], _, [], hW', trodAll_mk1 (shut_bool Try.underlying4 _), (trodAll_cons_mk (Below.trod laidOut (by kernel_rfl) (of_decide_eq_true (by kernel_rfl)) k0 bel lt0) trodAll_mk0), rfl, bel.frame _, fun h => by cases h⟩

theorem over : Rows.fnNewSetIsCoverageRow.holds Try.pinned (OpenSpec.ofChange Rows.fnNewSetIsCoverageSpec) :=
  OpenClaim.holds_of_wide 3 Try.f3 rfl rfl rfl rfl rfl rfl rfl ⟨rfl, rfl, rfl, rfl, rfl⟩ rfl rfl rfl rfl rfl (by kernel_rfl) Try.func3 (by kernel_rfl)
    (of_decide_eq_true (by kernel_rfl)) (by unfold Func.isWrapper; first | (rw [if_pos (by decide +kernel)]; kernel_rfl) | (rw [if_neg (by decide +kernel)]; exact ⟨rfl, rfl⟩))
    (fun os started H enc _ => lifted os started H enc)

/-- THE STATEMENT -/
theorem proved : Rows.FnNewSetIsCoverageSaid := over
#print axioms proved
end Go.Proofs.Qxb6605195a.fnNewSetIsCoverage
