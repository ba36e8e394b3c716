/-
  Seat b6605223a. WALK: ZZStateOf (21).
-/
import Derived.Test.Qxb6605223aU1
import Derived.Deep.RegionHeld3
import Derived.Laws.Rows
set_option linter.unusedVariables false
set_option linter.unusedSimpArgs false
namespace Go.Proofs.Qxb6605223a
open Go.RowKit

theorem heap_drew (w : World) (F : Nat) : w.drew.heap[F]? = w.heap[F]? := rfl
theorem Bk.arr {w : World} {g N : Nat} {e : TypeId} {V : Nat → Value} {A : Array Value} (h : Bk w g e N V) (hA : A.size = N) (hv : ∀ i, i < N → V i = A.getD i (.bool false)) : w.heap[g]? = some (.cells A e (0, 0)) := by
  obtain ⟨cur, h1, h2, h3⟩ := h
  have : cur = A := by
    apply Array.ext
    · rw [h2, hA]
    · intro i hi1 hi2
      have := h3 i (by omega)
      rw [Array.getElem?_eq_getElem hi1] at this
      rw [hv i (by omega)] at this
      simp [Array.getD, hi2] at this
      exact this
  rw [h1, this]
/-- Both blocks, and the frame, while the result is laid. -/
def StA (w : World) (gs gl P : Nat) (V : Nat → Value) (x : World) (U : Nat → Value) : Prop := Bk x gs 46 16 U ∧ Bk x gl 3 P V ∧ Below w.heap.size w x
theorem StA.st1 {w : World} {gs gl P : Nat} {V : Nat → Value} {x : World} {U : Nat → Value} (h : StA w gs gl P V x U) (hg : gl ≠ gs) (hs : w.heap.size ≤ gs) (i : Nat) (hi : i < 16) (v : Value) : StA w gs gl P V (x.setCell ⟨gs, i, none⟩ v) (fun k => if k = i then v else U k) :=
  ⟨h.1.set i hi v, h.2.1.other ⟨gs, i, none⟩ hg v, h.2.2.setCell (p := ⟨gs, i, none⟩) hs v⟩
theorem StA.drew {w : World} {gs gl P : Nat} {V : Nat → Value} {x : World} {U : Nat → Value} (h : StA w gs gl P V x U) : StA w gs gl P V x.drew U := ⟨h.1, h.2.1, h.2.2.drew⟩
/-- The struct that ZZStateOf hands back. -/
def stV (ar a2 a8 a9 a10 a6 a7 a4 : Option Addr) (nr cr n2 c2 n8 c8 n9 c9 n10 c10 n6 c6 n7 c7 n4 c4 g P : Nat) : Array Value :=
  #[.slice ar nr cr, .slice none 0 0, .slice a2 n2 c2, .slice a8 n8 c8, .bool false, .slice a9 n9 c9, .slice a10 n10 c10, .slice (some ⟨g, 0, none⟩) P P, .int .i64 0, .slice a6 n6 c6, .slice a7 n7 c7, .slice none 0 0, .int .i64 0, .int .i64 0, .int .i64 0, .slice a4 n4 c4]
def StPost (ar a2 a8 a9 a10 a6 a7 a4 : Option Addr) (nr cr n2 c2 n8 c8 n9 c9 n10 c10 n6 c6 n7 c7 n4 c4 P : Nat) (w : World) (e : Ending) (w' : World) : Prop :=
  ∃ g V, e = .returned (.agg (stV ar a2 a8 a9 a10 a6 a7 a4 nr cr n2 c2 n8 c8 n9 c9 n10 c10 n6 c6 n7 c7 n4 c4 g P)) ∧ w.heap.size ≤ g ∧ Bk w' g 3 P V ∧ (∀ j, j < P → V j = .int .i64 0) ∧ Below w.heap.size w w'

set_option maxRecDepth 100000 in
set_option maxHeartbeats 4000000 in
theorem state_any (tg : Nat → Nat) (w : World) (F : Nat) (gp : Value) (ar a2 a8 a9 a10 a6 a7 a4 : Option Addr) (nr cr n2 c2 n8 c8 n9 c9 n10 c10 n6 c6 n7 c7 n4 c4 P : Nat) (R : Nat → Res) (hS : St tg w F gp (.slice ar nr cr) false R) (hz : Zs R) (hn : (R 11).n = P) (hm : P ≤ 4096) (hv : ∀ j, j < P → (R 11).V j = .slice none 0 0)
    (x2 : (R 2).v = .slice a2 n2 c2) (x8 : (R 8).v = .slice a8 n8 c8) (x9 : (R 9).v = .slice a9 n9 c9) (x10 : (R 10).v = .slice a10 n10 c10) (x6 : (R 6).v = .slice a6 n6 c6) (x7 : (R 7).v = .slice a7 n7 c7) (x4 : (R 4).v = .slice a4 n4 c4) :
    Calls Try.prog 21 #[.pointer (some ⟨F, 0, none⟩)] w (StPost ar a2 a8 a9 a10 a6 a7 a4 nr cr n2 c2 n8 c8 n9 c9 n10 c10 n6 c6 n7 c7 n4 c4 P w) := by
  have HS : Hid (St tg w F gp (.slice ar nr cr) false R) := hS
  have HN : Hid ((R 11).n = P) := hn
  have HV : Hid (∀ j, j < P → (R 11).V j = .slice none 0 0) := hv
  have HZ : Hid ((R 11).sz = 1) := (hz 11).2
  have HXX : Hid ((R 2).v = .slice a2 n2 c2 ∧ (R 8).v = .slice a8 n8 c8 ∧ (R 9).v = .slice a9 n9 c9 ∧ (R 10).v = .slice a10 n10 c10 ∧ (R 6).v = .slice a6 n6 c6 ∧ (R 7).v = .slice a7 n7 c7 ∧ (R 4).v = .slice a4 n4 c4) := ⟨x2, x8, x9, x10, x6, x7, x4⟩
  obtain ⟨a3, c3, h3, _, _, _⟩ := (hS.2.2 11 (by omega) (by omega)).form
  rw [hn] at h3
  have H3 : Hid ((R 11).v = .slice a3 P c3) := h3
  have hFl := hS.2.1.lt
  have f10 : w.cell? ⟨F, 10, none⟩ = some (R 11).v := hS.2.1.cell 10 (by omega)
  rw [h3] at f10
  have hnF : ¬ w.heap.size = F := by omega
  obtain ⟨X, hX, hmk⟩ := run_mk (P := Try.prog) 22 3 (.int .i64 0) 1 8 Try.underlying22 (by kernel_rfl) P (by omega) (by omega)
  have hXs : X.size = P := by rw [hX]; rw [size_made1]; omega
  have HX : Hid (X.size = P) := hXs
  clear hX hXs h3 hS hn hz hv x2 x8 x9 x10 x6 x7 x4
  go_enter Try.func21, Try.ntmps21
  go_wp2_with fail
  obtain ⟨w0, hw0⟩ : ∃ x, x = w.alloc (.cells #[.slice none 0 0, .slice none 0 0, .slice none 0 0, .slice none 0 0, .bool false, .slice none 0 0, .slice none 0 0, .slice none 0 0, .int .i64 0, .slice none 0 0, .slice none 0 0, .slice none 0 0, .int .i64 0, .int .i64 0, .int .i64 0, .slice none 0 0] 46) := ⟨_, rfl⟩
  rw [← hw0]
  obtain ⟨gs, HGS⟩ : ∃ x, Hid (x = w.heap.size) := ⟨_, rfl⟩
  rw [← HGS.out]
  obtain ⟨w1, hw1⟩ : ∃ x, x = w0.alloc (.cells X 3) := ⟨_, rfl⟩
  rw [← hw1]
  have hs0 : w0.heap.size = gs + 1 := by rw [hw0, HGS.out]; simp
  have HB0 : Hid (Bk w1 (gs + 1) 3 P (fun i => X.getD i (.bool false))) := by
    have := Bk.new w0 X 3
    rw [hs0, HX.out, ← hw1] at this
    exact this
  have HS0 : Hid (Bk w1 gs 46 16 (fun i => (#[.slice none 0 0, .slice none 0 0, .slice none 0 0, .slice none 0 0, .bool false, .slice none 0 0, .slice none 0 0, .slice none 0 0, .int .i64 0, .slice none 0 0, .slice none 0 0, .slice none 0 0, .int .i64 0, .int .i64 0, .int .i64 0, .slice none 0 0] : Array Value).getD i (.bool false))) := by
    rw [hw1, hw0, HGS.out]
    exact (Bk.new w _ 46).alloc _
  have HT0 : Hid (Below w.heap.size w w1) := by
    rw [hw1, hw0]
    exact ((Below.refl _ _).alloc (Nat.le_refl _) _).alloc (by simp) _
  clear hw1 hw0 hs0 f10
  obtain ⟨gl, HGL⟩ : ∃ x, Hid (x = gs + 1) := ⟨_, rfl⟩
  rw [← HGL.out]
  rw [← HGL.out] at HB0
  go_loopw [4] (fun v wr => ∃ (p : Nat) (V U : Nat → Value), v = .int .i64 p ∧ p ≤ P ∧ Hid (Bk wr gl 3 P V) ∧ Hid (∀ j, j < p → V j = .int .i64 0) ∧ Hid (Bk wr gs 46 16 U) ∧ Hid (Below w.heap.size w wr)) (fun v _ => P - (intOf v).toNat)
  case atStart => exact ⟨0, _, _, rfl, Nat.zero_le _, HB0, fun j hj => absurd hj (Nat.not_lt_zero _), HS0, HT0⟩
  case round =>
    clear HB0 HT0 HS0
    obtain ⟨p, V, U, rfl, hp, HB, HC, HU, HT⟩ := hrel
    have hS := HS.out.below HT.out
    have f10 : wr.cell? ⟨F, 10, none⟩ = some (R 11).v := hS.2.1.cell 10 (by omega)
    rw [H3.out] at f10
    by_cases hlt : p < P
    · have e0 : decide ((p : Int) < (P : Int)) = true := decide_eq_true (by omega)
      have e0' : decide (p < P) = true := decide_eq_true hlt
      obtain ⟨g3, k3, x3, y3, t3, l3, q3, z3⟩ := (hS.2.2 11 (by omega) (by omega)).at (by rw [HN.out]; omega)
      rw [HN.out] at x3
      have ha3 : a3 = some ⟨g3, 0, none⟩ := by have := H3.out.symm.trans x3; simp only [Value.slice.injEq] at this; exact this.1
      have kc := q3 p (by rw [HN.out, HZ.out]; omega)
      rw [HV.out p hlt] at kc
      have d1 := HB.out.cell p hlt
      have d2 := HB.out.frozen p
      have HB' : Hid _ := HB.out.set p hlt (.int .i64 0)
      have HU' : Hid _ := HU.out.other ⟨gl, p, none⟩ (by show gs ≠ gl; rw [HGL.out]; omega) (.int .i64 0)
      have HT' : Hid _ := HT.out.setCell (p := ⟨gl, p, none⟩) (by show w.heap.size ≤ gl; rw [HGL.out, HGS.out]; omega) (.int .i64 0)
      clear hS q3 z3 x3 y3 l3 t3
      subst ha3
      go_wp2_with fail
      go_roundw
      case rel => exact ⟨p + 1, _, _, by go_num, by omega, HB', fun j hj => by
          show (if j = p then Value.int .i64 0 else V j) = _
          by_cases e : j = p
          · rw [if_pos e]
          · rw [if_neg e]; exact HC.out j (by omega), HU', HT'⟩
      case measure => simp [intOf]; omega
    · have e0 : decide ((p : Int) < (P : Int)) = false := decide_eq_false (by omega)
      have e0' : decide (p < P) = false := decide_eq_false hlt
      obtain rfl : P = p := by omega
      obtain ⟨x2, x8, x9, x10, x6, x7, x4⟩ := HXX.out
      have HKP : Hid (∀ w' : World, w'.heap[F]? = wr.heap[F]? → w'.cell? ⟨F, 1, none⟩ = some (.slice ar nr cr) ∧ w'.cell? ⟨F, 2, none⟩ = some (.slice none 0 0) ∧ w'.cell? ⟨F, 5, none⟩ = some (.slice a2 n2 c2) ∧ w'.cell? ⟨F, 6, none⟩ = some (.slice a8 n8 c8) ∧ w'.cell? ⟨F, 7, none⟩ = some (.bool false) ∧ w'.cell? ⟨F, 9, none⟩ = some (.slice a9 n9 c9) ∧ w'.cell? ⟨F, 12, none⟩ = some (.slice a10 n10 c10) ∧ w'.cell? ⟨F, 11, none⟩ = some (.slice none 0 0) ∧ w'.cell? ⟨F, 13, none⟩ = some (.slice a6 n6 c6) ∧ w'.cell? ⟨F, 14, none⟩ = some (.slice a7 n7 c7) ∧ w'.cell? ⟨F, 15, none⟩ = some (.slice none 0 0) ∧ w'.cell? ⟨F, 16, none⟩ = some (.int .i64 0) ∧ w'.cell? ⟨F, 17, none⟩ = some (.int .i64 0) ∧ w'.cell? ⟨F, 18, none⟩ = some (.int .i64 0) ∧ w'.cell? ⟨F, 19, none⟩ = some (.slice a4 n4 c4)) := fun w' hw' => by
        have hb : Bk w' F 60 20 (fld gp (.slice ar nr cr) false R) := hS.2.1.sameBlock hw'
        refine ⟨hb.cell 1 (by omega), hb.cell 2 (by omega), ?_, ?_, hb.cell 7 (by omega), ?_, ?_, hb.cell 11 (by omega), ?_, ?_, hb.cell 15 (by omega), hb.cell 16 (by omega), hb.cell 17 (by omega), hb.cell 18 (by omega), ?_⟩
        · rw [← x2]; exact hb.cell 5 (by omega)
        · rw [← x8]; exact hb.cell 6 (by omega)
        · rw [← x9]; exact hb.cell 9 (by omega)
        · rw [← x10]; exact hb.cell 12 (by omega)
        · rw [← x6]; exact hb.cell 13 (by omega)
        · rw [← x7]; exact hb.cell 14 (by omega)
        · rw [← x4]; exact hb.cell 19 (by omega)
      have HSF : Hid (∀ (x : World) (i : Nat) (v : Value), (x.setCell ⟨gs, i, none⟩ v).heap[F]? = x.heap[F]?) := fun x i v => Below.heap_setCell _ _ _ _ (by show F ≠ gs; rw [HGS.out]; have := HS.out.2.1.lt; omega)
      have hFg : F ≠ gs := by rw [HGS.out]; have := HS.out.2.1.lt; omega
      have u0 : wr.cell? ⟨gs, 0, none⟩ = some (U 0) := HU.out.cell 0 (by omega)
      have uz0 : wr.frozen? ⟨gs, 0, none⟩ = false := HU.out.frozen 0
      have u1 : wr.cell? ⟨gs, 1, none⟩ = some (U 1) := HU.out.cell 1 (by omega)
      have uz1 : wr.frozen? ⟨gs, 1, none⟩ = false := HU.out.frozen 1
      have u2 : wr.cell? ⟨gs, 2, none⟩ = some (U 2) := HU.out.cell 2 (by omega)
      have uz2 : wr.frozen? ⟨gs, 2, none⟩ = false := HU.out.frozen 2
      have u3 : wr.cell? ⟨gs, 3, none⟩ = some (U 3) := HU.out.cell 3 (by omega)
      have uz3 : wr.frozen? ⟨gs, 3, none⟩ = false := HU.out.frozen 3
      have u4 : wr.cell? ⟨gs, 4, none⟩ = some (U 4) := HU.out.cell 4 (by omega)
      have uz4 : wr.frozen? ⟨gs, 4, none⟩ = false := HU.out.frozen 4
      have u5 : wr.cell? ⟨gs, 5, none⟩ = some (U 5) := HU.out.cell 5 (by omega)
      have uz5 : wr.frozen? ⟨gs, 5, none⟩ = false := HU.out.frozen 5
      have u6 : wr.cell? ⟨gs, 6, none⟩ = some (U 6) := HU.out.cell 6 (by omega)
      have uz6 : wr.frozen? ⟨gs, 6, none⟩ = false := HU.out.frozen 6
      have u7 : wr.cell? ⟨gs, 7, none⟩ = some (U 7) := HU.out.cell 7 (by omega)
      have uz7 : wr.frozen? ⟨gs, 7, none⟩ = false := HU.out.frozen 7
      have u8 : wr.cell? ⟨gs, 8, none⟩ = some (U 8) := HU.out.cell 8 (by omega)
      have uz8 : wr.frozen? ⟨gs, 8, none⟩ = false := HU.out.frozen 8
      have u9 : wr.cell? ⟨gs, 9, none⟩ = some (U 9) := HU.out.cell 9 (by omega)
      have uz9 : wr.frozen? ⟨gs, 9, none⟩ = false := HU.out.frozen 9
      have u10 : wr.cell? ⟨gs, 10, none⟩ = some (U 10) := HU.out.cell 10 (by omega)
      have uz10 : wr.frozen? ⟨gs, 10, none⟩ = false := HU.out.frozen 10
      have u11 : wr.cell? ⟨gs, 11, none⟩ = some (U 11) := HU.out.cell 11 (by omega)
      have uz11 : wr.frozen? ⟨gs, 11, none⟩ = false := HU.out.frozen 11
      have u12 : wr.cell? ⟨gs, 12, none⟩ = some (U 12) := HU.out.cell 12 (by omega)
      have uz12 : wr.frozen? ⟨gs, 12, none⟩ = false := HU.out.frozen 12
      have u13 : wr.cell? ⟨gs, 13, none⟩ = some (U 13) := HU.out.cell 13 (by omega)
      have uz13 : wr.frozen? ⟨gs, 13, none⟩ = false := HU.out.frozen 13
      have u14 : wr.cell? ⟨gs, 14, none⟩ = some (U 14) := HU.out.cell 14 (by omega)
      have uz14 : wr.frozen? ⟨gs, 14, none⟩ = false := HU.out.frozen 14
      have u15 : wr.cell? ⟨gs, 15, none⟩ = some (U 15) := HU.out.cell 15 (by omega)
      have uz15 : wr.frozen? ⟨gs, 15, none⟩ = false := HU.out.frozen 15
      have hgg : gl ≠ gs := by rw [HGL.out]; omega
      have hgs : w.heap.size ≤ gs := by rw [HGS.out]; exact Nat.le_refl _
      have h0 : StA w gs gl P V wr U := ⟨HU.out, HB.out, HT.out⟩
      have HALL : Hid (∃ U', StA w gs gl P V ((((((((((((((((wr.setCell ⟨gs, 0, none⟩ (.slice ar nr cr)).setCell ⟨gs, 1, none⟩ (.slice none 0 0)).setCell ⟨gs, 2, none⟩ (.slice a2 n2 c2)).setCell ⟨gs, 3, none⟩ (.slice a8 n8 c8)).setCell ⟨gs, 4, none⟩ (.bool false)).setCell ⟨gs, 5, none⟩ (.slice a9 n9 c9)).setCell ⟨gs, 6, none⟩ (.slice a10 n10 c10)).setCell ⟨gs, 7, none⟩ (.slice (some ⟨gl, 0, none⟩) P P)).setCell ⟨gs, 8, none⟩ (.int .i64 0)).setCell ⟨gs, 9, none⟩ (.slice a6 n6 c6)).setCell ⟨gs, 10, none⟩ (.slice a7 n7 c7)).setCell ⟨gs, 11, none⟩ (.slice none 0 0)).setCell ⟨gs, 12, none⟩ (.int .i64 0)).setCell ⟨gs, 13, none⟩ (.int .i64 0)).setCell ⟨gs, 14, none⟩ (.int .i64 0)).setCell ⟨gs, 15, none⟩ (.slice a4 n4 c4)).drew U' ∧ ∀ i, i < 16 → U' i = (stV ar a2 a8 a9 a10 a6 a7 a4 nr cr n2 c2 n8 c8 n9 c9 n10 c10 n6 c6 n7 c7 n4 c4 gl P).getD i (.bool false)) := ⟨_, StA.drew ((((((((((((((((h0.st1 hgg hgs 0 (by omega) (.slice ar nr cr)).st1 hgg hgs 1 (by omega) (.slice none 0 0)).st1 hgg hgs 2 (by omega) (.slice a2 n2 c2)).st1 hgg hgs 3 (by omega) (.slice a8 n8 c8)).st1 hgg hgs 4 (by omega) (.bool false)).st1 hgg hgs 5 (by omega) (.slice a9 n9 c9)).st1 hgg hgs 6 (by omega) (.slice a10 n10 c10)).st1 hgg hgs 7 (by omega) (.slice (some ⟨gl, 0, none⟩) P P)).st1 hgg hgs 8 (by omega) (.int .i64 0)).st1 hgg hgs 9 (by omega) (.slice a6 n6 c6)).st1 hgg hgs 10 (by omega) (.slice a7 n7 c7)).st1 hgg hgs 11 (by omega) (.slice none 0 0)).st1 hgg hgs 12 (by omega) (.int .i64 0)).st1 hgg hgs 13 (by omega) (.int .i64 0)).st1 hgg hgs 14 (by omega) (.int .i64 0)).st1 hgg hgs 15 (by omega) (.slice a4 n4 c4)), fun i hi => by
        have : i = 0 ∨ i = 1 ∨ i = 2 ∨ i = 3 ∨ i = 4 ∨ i = 5 ∨ i = 6 ∨ i = 7 ∨ i = 8 ∨ i = 9 ∨ i = 10 ∨ i = 11 ∨ i = 12 ∨ i = 13 ∨ i = 14 ∨ i = 15 := by omega
        rcases this with rfl | rfl | rfl | rfl | rfl | rfl | rfl | rfl | rfl | rfl | rfl | rfl | rfl | rfl | rfl | rfl <;> rfl⟩
      clear h0
      clear hgg hgs
      clear hS x2 x8 x9 x10 x6 x7 x4
      go_wp2_with fail

      go_region_held3 (fun (w' : World) => w'.cell? ⟨F, 1, none⟩ = some (.slice ar nr cr) ∧ w'.cell? ⟨F, 2, none⟩ = some (.slice none 0 0) ∧ w'.cell? ⟨F, 5, none⟩ = some (.slice a2 n2 c2) ∧ w'.cell? ⟨F, 6, none⟩ = some (.slice a8 n8 c8) ∧ w'.cell? ⟨F, 7, none⟩ = some (.bool false) ∧ w'.cell? ⟨F, 9, none⟩ = some (.slice a9 n9 c9) ∧ w'.cell? ⟨F, 12, none⟩ = some (.slice a10 n10 c10) ∧ w'.cell? ⟨F, 11, none⟩ = some (.slice none 0 0) ∧ w'.cell? ⟨F, 13, none⟩ = some (.slice a6 n6 c6) ∧ w'.cell? ⟨F, 14, none⟩ = some (.slice a7 n7 c7) ∧ w'.cell? ⟨F, 15, none⟩ = some (.slice none 0 0) ∧ w'.cell? ⟨F, 16, none⟩ = some (.int .i64 0) ∧ w'.cell? ⟨F, 17, none⟩ = some (.int .i64 0) ∧ w'.cell? ⟨F, 18, none⟩ = some (.int .i64 0) ∧ w'.cell? ⟨F, 19, none⟩ = some (.slice a4 n4 c4))
        (first | (with_reducible exact HKP.out _ (heap_drew wr F)) | (with_reducible refine HKP.out _ ?_; simp only [HSF.out, heap_drew]))
        (fail)

      go_wp2_with fail
      obtain ⟨U', ⟨hA1, hA2, hA3⟩, hA4⟩ := HALL.out
      have hArr := hA1.arr (A := stV ar a2 a8 a9 a10 a6 a7 a4 nr cr n2 c2 n8 c8 n9 c9 n10 c10 n6 c6 n7 c7 n4 c4 gl P) rfl hA4
      refine bodyPost_ret (v := .agg (stV ar a2 a8 a9 a10 a6 a7 a4 nr cr n2 c2 n8 c8 n9 c9 n10 c10 n6 c6 n7 c7 n4 c4 gl P)) (results_cell_row rfl _ _ gs 46 _ (0, 0) _ rfl hArr Try.underlying46 rfl (by kernel_rfl)) rfl ?_
      exact ⟨gl, V, rfl, by rw [HGL.out, HGS.out]; omega, hA2, HC.out, hA3⟩
end Go.Proofs.Qxb6605223a
