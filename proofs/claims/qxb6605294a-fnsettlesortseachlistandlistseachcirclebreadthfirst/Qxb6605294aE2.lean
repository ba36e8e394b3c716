/-
  Seat b6605294a. UNION-FIND: plain; WALK: findRoot (17).
-/
import Derived.Test.Qxb6605294aD18
set_option linter.unusedVariables false
set_option linter.unusedSimpArgs false
namespace Go.Proofs.Qxb6605294a
open Go.RowKit

/-- A forest: 'up' leads to the root, which rho names. -/
structure Uf (n : Nat) (d up rho : Nat → Nat) : Prop where
  lt : ∀ j, j < n → up j < n
  dn : ∀ j, j < n → up j ≠ j → d (up j) < d j
  step : ∀ j, j < n → rho (up j) = rho j
  fix : ∀ j, j < n → up j = j → rho j = j

theorem Uf.root {n : Nat} {d up rho : Nat → Nat} (h : Uf n d up rho) : ∀ (k j : Nat), d j ≤ k → j < n → rho j < n ∧ up (rho j) = rho j
  | 0, j, hk, hj => by
    have e : up j = j := by
      by_cases e : up j = j
      · exact e
      · have := h.dn j hj e; omega
    rw [h.fix j hj e]
    exact ⟨hj, e⟩
  | k + 1, j, hk, hj => by
    by_cases e : up j = j
    · rw [h.fix j hj e]
      exact ⟨hj, e⟩
    · have := h.dn j hj e
      rw [← h.step j hj]
      exact Uf.root h k (up j) (by omega) (h.lt j hj)
theorem Uf.root' {n : Nat} {d up rho : Nat → Nat} (h : Uf n d up rho) {j : Nat} (hj : j < n) : rho j < n ∧ up (rho j) = rho j := h.root (d j) j (Nat.le_refl _) hj
theorem Uf.idem {n : Nat} {d up rho : Nat → Nat} (h : Uf n d up rho) {j : Nat} (hj : j < n) : rho (rho j) = rho j := h.fix _ (h.root' hj).1 (h.root' hj).2

/-- Path halving. -/
theorem Uf.halve {n : Nat} {d up rho : Nat → Nat} (h : Uf n d up rho) {i : Nat} (hi : i < n) (hne : up i ≠ i) : Uf n d (fun j => if j = i then up (up i) else up j) rho ∧ d (up (up i)) < d i := by
  have h1 := h.dn i hi hne
  have hd : d (up (up i)) < d i := by
    by_cases e : up (up i) = up i
    · rw [e]; exact h1
    · have := h.dn (up i) (h.lt i hi) e; omega
  refine ⟨⟨fun j hj => ?_, fun j hj hne' => ?_, fun j hj => ?_, fun j hj e => ?_⟩, hd⟩
  · show (if j = i then up (up i) else up j) < n
    split
    · exact h.lt _ (h.lt i hi)
    · exact h.lt j hj
  · show d (if j = i then up (up i) else up j) < d j
    by_cases e : j = i
    · rw [if_pos e, e]; exact hd
    · rw [if_neg e]
      refine h.dn j hj ?_
      have h2 : (if j = i then up (up i) else up j) ≠ j := hne'
      rw [if_neg e] at h2
      exact h2
  · show rho (if j = i then up (up i) else up j) = rho j
    by_cases e : j = i
    · rw [if_pos e, h.step _ (h.lt i hi), h.step i hi, e]
    · rw [if_neg e]; exact h.step j hj
  · have e2 : (if j = i then up (up i) else up j) = j := e
    by_cases e3 : j = i
    · rw [if_pos e3] at e2
      rw [e2, e3] at hd
      omega
    · rw [if_neg e3] at e2
      exact h.fix j hj e2
/-- Two trees joined. -/
theorem Uf.join {n : Nat} {d up rho : Nat → Nat} (h : Uf n d up rho) {a b : Nat} (ha : a < n) (hb : b < n) (ra : up a = a) (rb : up b = b) (hne : a ≠ b) :
    ∃ d', Uf n d' (fun j => if j = a then b else up j) (fun j => if rho j = a then b else rho j) := by
  have fa := h.fix a ha ra
  have fb := h.fix b hb rb
  refine ⟨fun j => if rho j = a then d j + d b + 1 else d j, fun j hj => ?_, fun j hj hne' => ?_, fun j hj => ?_, fun j hj e => ?_⟩
  · show (if j = a then b else up j) < n
    split
    · exact hb
    · exact h.lt j hj
  · have h2 : (if j = a then b else up j) ≠ j := hne'
    show (if rho (if j = a then b else up j) = a then d (if j = a then b else up j) + d b + 1 else d (if j = a then b else up j)) < (if rho j = a then d j + d b + 1 else d j)
    by_cases e : j = a
    · rw [if_pos e, fb, if_neg (fun e => hne e.symm), e, fa, if_pos rfl]
      omega
    · rw [if_neg e] at h2
      rw [if_neg e, h.step j hj]
      have := h.dn j hj h2
      split <;> omega
  · show (if rho (if j = a then b else up j) = a then b else rho (if j = a then b else up j)) = (if rho j = a then b else rho j)
    by_cases e : j = a
    · rw [if_pos e, fb, if_neg (fun e => hne e.symm), e, fa, if_pos rfl]
    · rw [if_neg e, h.step j hj]
  · have e2 : (if j = a then b else up j) = j := e
    show (if rho j = a then b else rho j) = j
    by_cases e3 : j = a
    · rw [if_pos e3, e3] at e2
      exact absurd e2.symm hne
    · rw [if_neg e3] at e2
      rw [h.fix j hj e2, if_neg e3]
theorem Uf.start (n : Nat) : Uf n (fun _ => 0) (fun j => j) (fun j => j) := ⟨fun j hj => hj, fun j hj h => absurd rfl h, fun j hj => rfl, fun j hj h => rfl⟩

def UfPost (n g i : Nat) (d rho : Nat → Nat) (w : World) (e : Ending) (w' : World) : Prop :=
  e = .returned (.int .i64 (rho i : Int)) ∧ ∃ up, Uf n d up rho ∧ Bk w' g 3 n (fun j => .int .i64 (up j : Int)) ∧ Tn g w w'

theorem Tn.set {g : Nat} {w0 w : World} (h : Tn g w0 w) (i : Nat) (u : Value) : Tn g w0 (w.setCell ⟨g, i, none⟩ u) :=
  ⟨h.os, h.tape, h.output, by rw [← h.size]; simp [World.setCell], fun b hb => by rw [Below.heap_setCell _ _ _ _ hb, h.block b hb]⟩
theorem Tn.refl (g : Nat) (w : World) : Tn g w w := ⟨rfl, rfl, rfl, rfl, fun _ _ => rfl⟩

set_option maxRecDepth 100000 in
set_option maxHeartbeats 4000000 in
theorem findRoot_any (n g i : Nat) (d up rho : Nat → Nat) (w : World) (hn : n ≤ 1048576) (hi : i < n) (hU : Uf n d up rho) (hB : Bk w g 3 n (fun j => .int .i64 (up j : Int))) :
    Calls Try.prog 17 #[.slice (some ⟨g, 0, none⟩) n n, .int .i64 (i : Int)] w (UfPost n g i d rho w) := by
  have HU0 := hide hU
  have HB0 := hide hB
  clear hU hB
  go_enter Try.func17, Try.ntmps17
  go_wp2_with fail
  go_loopw [1] (fun v wr => ∃ (j : Nat) (up : Nat → Nat), v = .int .i64 (j : Int) ∧ j < n ∧ Hid (rho j = rho i) ∧ Hid (Uf n d up rho) ∧ Hid (Bk wr g 3 n (fun j => .int .i64 (up j : Int))) ∧ Hid (Tn g w wr)) (fun v _ => d (intOf v).toNat)
  case atStart => exact ⟨i, up, rfl, hi, rfl, HU0, HB0, Tn.refl _ _⟩
  case round =>
    clear HU0 HB0
    obtain ⟨j, up', rfl, hj, HJ, HU, HB, HT⟩ := hrel
    obtain ⟨x, HX⟩ : ∃ x, Hid (x = up' j) := ⟨_, rfl⟩
    have hxn : x < n := by rw [HX.out]; exact HU.out.lt j hj
    have k1 : wr.cell? ⟨g, j, none⟩ = some (.int .i64 (x : Int)) := by rw [HX.out]; exact HB.out.cell j hj
    by_cases hx : x = j
    · have HF : Hid (rho i = j) := by
        show rho i = j
        rw [← HJ.out]
        exact HU.out.fix j hj (by rw [← HX.out]; exact hx)
      subst hx
      have e1 : ((x : Int) != (x : Int)) = false := neq_f rfl
      go_wp2_with fail
      go_ret
      exact ⟨by rw [HF.out]; rfl, up', HU.out, HB.out, HT.out⟩
    · have e1 : ((x : Int) != (j : Int)) = true := neq_t hx
      obtain ⟨y, HY⟩ : ∃ x, Hid (x = up' (up' j)) := ⟨_, rfl⟩
      have hyn : y < n := by rw [HY.out]; exact HU.out.lt _ (HU.out.lt j hj)
      have k2 : wr.cell? ⟨g, x, none⟩ = some (.int .i64 (y : Int)) := by rw [HY.out, HX.out]; exact HB.out.cell _ (HU.out.lt j hj)
      have f1 : wr.frozen? ⟨g, j, none⟩ = false := HB.out.frozen j
      have hh := HU.out.halve hj (by rw [← HX.out]; exact hx)
      rw [← HY.out] at hh
      have HU' := hide hh.1
      have hdd := hh.2
      have HB' : Hid (Bk (wr.setCell ⟨g, j, none⟩ (.int .i64 (y : Int))) g 3 n (fun k => .int .i64 ((if k = j then y else up' k : Nat) : Int))) := (HB.out.set j hj _).congr (fun k hk => by
        by_cases e : k = j
        · simp [e]
        · simp [e])
      have HT' := hide (HT.out.set j (.int .i64 (y : Int)))
      have k3 : (wr.setCell ⟨g, j, none⟩ (.int .i64 (y : Int))).cell? ⟨g, j, none⟩ = some (.int .i64 (y : Int)) := by
        have := HB'.out.cell j hj
        simpa using this
      have HJ' : Hid (rho y = rho i) := by
        show rho y = rho i
        rw [HY.out, HU.out.step _ (HU.out.lt j hj), HU.out.step j hj]
        exact HJ.out
      clear hh
      go_wp2_with fail
      go_roundw
      case rel => exact ⟨y, _, rfl, hyn, HJ', HU', HB', HT'⟩
      case measure => simpa [intOf] using hdd
end Go.Proofs.Qxb6605294a
