/-
  Seat b6605223a. WALKS: ZZReturned (20), ZZRuns (23).
-/
import Derived.Test.Qxb6605223aT10
set_option linter.unusedVariables false
set_option linter.unusedSimpArgs false
namespace Go.Proofs.Qxb6605223a
open Go.RowKit

theorem St.below {tg : Nat → Nat} {w w' : World} {F : Nat} {gp rv : Value} {ix : Bool} {R : Nat → Res} (h : St tg w F gp rv ix R) (hb : Below w.heap.size w w') : St tg w' F gp rv ix R :=
  ⟨h.1, h.2.1.sameBlock (hb.block F h.2.1.lt), fun t h2 h11 => (h.2.2 t h2 h11).ch (t' := 99) (Ch.ofBelow hb) (by omega)⟩
theorem run_mk {P : Program} (t e : TypeId) (z : Value) (s bytes : Nat) (ht : P.underlying t = some (.slice e)) (hinfo : (P.info? e).map (fun i => (i.zero, i.size, i.bytes)) = some (some z, s, bytes))
    (n : Nat) (hb : bytes * n ≤ 281474976710656) (hn : n ≤ 9223372036854775807) :
    ∃ X : Array Value, X = madeCells z.cells (n * s) ∧ ∀ w, (Instr.makeSlice t (.int .i64 (n : Int)) (.int .i64 (n : Int))).run P w = .ok (.slice (some ⟨w.heap.size, 0, none⟩) n n) (w.alloc (.cells X e)) := by
  obtain ⟨i0, hi, hz0, hz1, hz2⟩ := info_parts hinfo
  refine ⟨_, rfl, fun w => ?_⟩
  have hb' : (i0.bytes : Int) * (n : Int) ≤ 281474976710656 := by rw [hz2, ← Int.natCast_mul]; omega
  have := run_make (P := P) w t e i0 z ht hi hz0 .i64 .i64 (n : Int) (n : Int) (by omega) (by omega) hb' (by omega)
  simpa [hz1] using this
def FlatPost (E sz m : Nat) (f : Nat → Nat → Value) (w : World) (e : Ending) (w' : World) : Prop :=
  ∃ g V, e = .returned (.slice (some ⟨g, 0, none⟩) m m) ∧ w.heap.size ≤ g ∧ Bk w' g E (m * sz) V ∧ (∀ j, j < m → ∀ c, c < sz → V (j * sz + c) = f j c) ∧ Below w.heap.size w w'

def rwL (hh ll : Nat) : Nat → Value
  | 0 => .int .i32 (hh : Int) | 1 => .int .i32 (ll : Int) | 2 => .bool false | 3 => .bool false | 9 => .int .i32 (-1) | _ => .int .i32 0
def rnL (hh ll : Nat) : Nat → Value
  | 0 => .int .i32 (hh : Int) | 1 => .int .i32 (ll : Int) | 2 => .int .i32 (ll : Int) | _ => .int .i32 0
set_option maxRecDepth 100000 in
set_option maxHeartbeats 4000000 in
theorem returned_any (tg : Nat → Nat) (w : World) (F : Nat) (gp rv : Value) (ix : Bool) (R : Nat → Res) (m : Nat) (f : Nat → Nat → Value) (K : Nat → Nat) (hS : St tg w F gp rv ix R) (hz : Zs R) (hn : (R 3).n = m) (hm : m ≤ 4096) (hv : ∀ j, j < m → ∀ c, c < 10 → (R 3).V (j * 10 + c) = f j c) (hf : ∀ j c, f j c = rwV (K j) c) :
    Calls Try.prog 20 #[.pointer (some ⟨F, 0, none⟩)] w (FlatPost 43 10 m f w) := by
  have HS : Hid (St tg w F gp rv ix R) := hS
  have HN : Hid ((R 3).n = m) := hn
  have HV : Hid (∀ j, j < m → ∀ c, c < 10 → (R 3).V (j * 10 + c) = f j c) := hv
  have HF : Hid _ := hf
  have HZ : Hid ((R 3).sz = 10) := (hz 3).2
  obtain ⟨a3, c3, h3, _, _, _⟩ := (hS.2.2 3 (by omega) (by omega)).form
  rw [hn] at h3
  have H3 : Hid ((R 3).v = .slice a3 m c3) := h3
  have f4 : w.cell? ⟨F, 4, none⟩ = some (R 3).v := hS.2.1.cell 4 (by omega)
  rw [h3] at f4
  obtain ⟨X, hX, hmk⟩ := run_mk (P := Try.prog) 40 43 (.agg #[.int .i32 0, .int .i32 0, .bool false, .bool false, .int .i32 0, .int .i32 0, .int .i32 0, .int .i32 0, .int .i32 0, .int .i32 0]) 10 36 Try.underlying40 (by kernel_rfl) m (by omega) (by omega)
  have hXs : X.size = m * 10 := by rw [hX]; exact size_made1 _ _
  have HX : Hid (X.size = m * 10) := hXs
  clear hX hXs h3 hS hn hz hv hf
  go_enter Try.func20, Try.ntmps20
  go_wp2_with fail
  obtain ⟨w1, hw1⟩ : ∃ x, x = w.alloc (.cells X 43) := ⟨_, rfl⟩
  rw [← hw1]
  obtain ⟨g, HG⟩ : ∃ x, Hid (x = w.heap.size) := ⟨_, rfl⟩
  rw [← HG.out]
  have HB0 : Hid (Bk w1 g 43 (m * 10) (fun i => X.getD i (.bool false))) := by rw [hw1, HG.out, ← HX.out]; exact Bk.new w X 43
  have HT0 : Hid (Below w.heap.size w w1) := by rw [hw1]; exact (Below.refl _ _).alloc (Nat.le_refl _) _
  clear hw1 f4
  go_loopw [4] (fun v wr => ∃ (p : Nat) (V : Nat → Value), v = .int .i64 p ∧ p ≤ m ∧ Hid (Bk wr g 43 (m * 10) V) ∧ Hid (∀ j, j < p → ∀ c, c < 10 → V (j * 10 + c) = f j c) ∧ Hid (Below w.heap.size w wr)) (fun v _ => m - (intOf v).toNat)
  case atStart => exact ⟨0, _, rfl, Nat.zero_le _, HB0, fun j hj => absurd hj (Nat.not_lt_zero _), HT0⟩
  case round =>
    clear HB0 HT0
    obtain ⟨p, V, rfl, hp, HB, HC, HT⟩ := hrel
    have hS := HS.out.below HT.out
    have f4 : wr.cell? ⟨F, 4, none⟩ = some (R 3).v := hS.2.1.cell 4 (by omega)
    rw [H3.out] at f4
    by_cases hlt : p < m
    · have e0 : decide ((p : Int) < (m : Int)) = true := decide_eq_true (by omega)
      have e0' : decide (p < m) = true := decide_eq_true hlt
      obtain ⟨g3, k3, x3, y3, t3, l3, q3, z3⟩ := (hS.2.2 3 (by omega) (by omega)).at (by rw [HN.out]; omega)
      rw [HN.out] at x3
      have ha3 : a3 = some ⟨g3, 0, none⟩ := by have := H3.out.symm.trans x3; simp only [Value.slice.injEq] at this; exact this.1
      obtain ⟨hh, HHH⟩ : ∃ hh : Nat, Hid (hh = K p / 4294967296) := ⟨_, rfl⟩
      obtain ⟨ll, HLL⟩ : ∃ ll : Nat, Hid (ll = K p % 4294967296) := ⟨_, rfl⟩
      have kc : ∀ c, c < 10 → wr.cell? ⟨g3, p * 10 + c, none⟩ = some (f p c) := fun c hc => by
        rw [q3 (p * 10 + c) (by rw [HN.out, HZ.out]; omega), HV.out p hlt c hc]
      have kf : ∀ c, f p c = rwL hh ll c := fun c => by rw [HF.out p c, HHH.out, HLL.out]; rfl
      simp only [kf] at kc
      have k0 : wr.cell? ⟨g3, p * 10, none⟩ = some (.int .i32 (hh : Int)) := kc 0 (by omega)
      have k1 : wr.cell? ⟨g3, p * 10 + 1, none⟩ = some (.int .i32 (ll : Int)) := kc 1 (by omega)
      have k2 : wr.cell? ⟨g3, p * 10 + 2, none⟩ = some (.bool false) := kc 2 (by omega)
      have k3 : wr.cell? ⟨g3, p * 10 + 3, none⟩ = some (.bool false) := kc 3 (by omega)
      have k4 : wr.cell? ⟨g3, p * 10 + 4, none⟩ = some (.int .i32 0) := kc 4 (by omega)
      have k5 : wr.cell? ⟨g3, p * 10 + 5, none⟩ = some (.int .i32 0) := kc 5 (by omega)
      have k6 : wr.cell? ⟨g3, p * 10 + 6, none⟩ = some (.int .i32 0) := kc 6 (by omega)
      have k7 : wr.cell? ⟨g3, p * 10 + 7, none⟩ = some (.int .i32 0) := kc 7 (by omega)
      have k8 : wr.cell? ⟨g3, p * 10 + 8, none⟩ = some (.int .i32 0) := kc 8 (by omega)
      have k9 : wr.cell? ⟨g3, p * 10 + 9, none⟩ = some (.int .i32 (-1)) := kc 9 (by omega)
      have d0 : wr.cell? ⟨g, p * 10, none⟩ = some (V (p * 10 + 0)) := HB.out.cell (p * 10 + 0) (by omega)
      have z0 : wr.frozen? ⟨g, p * 10, none⟩ = false := HB.out.frozen (p * 10 + 0)
      have d1 : wr.cell? ⟨g, p * 10 + 1, none⟩ = some (V (p * 10 + 1)) := HB.out.cell (p * 10 + 1) (by omega)
      have z1 : wr.frozen? ⟨g, p * 10 + 1, none⟩ = false := HB.out.frozen (p * 10 + 1)
      have d2 : wr.cell? ⟨g, p * 10 + 2, none⟩ = some (V (p * 10 + 2)) := HB.out.cell (p * 10 + 2) (by omega)
      have z2 : wr.frozen? ⟨g, p * 10 + 2, none⟩ = false := HB.out.frozen (p * 10 + 2)
      have d3 : wr.cell? ⟨g, p * 10 + 3, none⟩ = some (V (p * 10 + 3)) := HB.out.cell (p * 10 + 3) (by omega)
      have z3 : wr.frozen? ⟨g, p * 10 + 3, none⟩ = false := HB.out.frozen (p * 10 + 3)
      have d4 : wr.cell? ⟨g, p * 10 + 4, none⟩ = some (V (p * 10 + 4)) := HB.out.cell (p * 10 + 4) (by omega)
      have z4 : wr.frozen? ⟨g, p * 10 + 4, none⟩ = false := HB.out.frozen (p * 10 + 4)
      have d5 : wr.cell? ⟨g, p * 10 + 5, none⟩ = some (V (p * 10 + 5)) := HB.out.cell (p * 10 + 5) (by omega)
      have z5 : wr.frozen? ⟨g, p * 10 + 5, none⟩ = false := HB.out.frozen (p * 10 + 5)
      have d6 : wr.cell? ⟨g, p * 10 + 6, none⟩ = some (V (p * 10 + 6)) := HB.out.cell (p * 10 + 6) (by omega)
      have z6 : wr.frozen? ⟨g, p * 10 + 6, none⟩ = false := HB.out.frozen (p * 10 + 6)
      have d7 : wr.cell? ⟨g, p * 10 + 7, none⟩ = some (V (p * 10 + 7)) := HB.out.cell (p * 10 + 7) (by omega)
      have z7 : wr.frozen? ⟨g, p * 10 + 7, none⟩ = false := HB.out.frozen (p * 10 + 7)
      have d8 : wr.cell? ⟨g, p * 10 + 8, none⟩ = some (V (p * 10 + 8)) := HB.out.cell (p * 10 + 8) (by omega)
      have z8 : wr.frozen? ⟨g, p * 10 + 8, none⟩ = false := HB.out.frozen (p * 10 + 8)
      have d9 : wr.cell? ⟨g, p * 10 + 9, none⟩ = some (V (p * 10 + 9)) := HB.out.cell (p * 10 + 9) (by omega)
      have z9 : wr.frozen? ⟨g, p * 10 + 9, none⟩ = false := HB.out.frozen (p * 10 + 9)
      have r0 : (wr.alloc (.cells #[.int .i32 (hh : Int), .int .i32 (ll : Int), .bool false, .bool false, .int .i32 0, .int .i32 0, .int .i32 0, .int .i32 0, .int .i32 0, .int .i32 (-1)] 73)).cell? ⟨wr.heap.size, 0, none⟩ = some (.int .i32 (hh : Int)) := (Bk.new wr #[.int .i32 (hh : Int), .int .i32 (ll : Int), .bool false, .bool false, .int .i32 0, .int .i32 0, .int .i32 0, .int .i32 0, .int .i32 0, .int .i32 (-1)] 73).cell 0 (by simp)
      have da0 : (wr.alloc (.cells #[.int .i32 (hh : Int), .int .i32 (ll : Int), .bool false, .bool false, .int .i32 0, .int .i32 0, .int .i32 0, .int .i32 0, .int .i32 0, .int .i32 (-1)] 73)).cell? ⟨g, p * 10, none⟩ = some (V (p * 10 + 0)) := (HB.out.alloc _).cell (p * 10 + 0) (by omega)
      have za0 : (wr.alloc (.cells #[.int .i32 (hh : Int), .int .i32 (ll : Int), .bool false, .bool false, .int .i32 0, .int .i32 0, .int .i32 0, .int .i32 0, .int .i32 0, .int .i32 (-1)] 73)).frozen? ⟨g, p * 10, none⟩ = false := (HB.out.alloc _).frozen (p * 10 + 0)
      have r1 : (wr.alloc (.cells #[.int .i32 (hh : Int), .int .i32 (ll : Int), .bool false, .bool false, .int .i32 0, .int .i32 0, .int .i32 0, .int .i32 0, .int .i32 0, .int .i32 (-1)] 73)).cell? ⟨wr.heap.size, 1, none⟩ = some (.int .i32 (ll : Int)) := (Bk.new wr #[.int .i32 (hh : Int), .int .i32 (ll : Int), .bool false, .bool false, .int .i32 0, .int .i32 0, .int .i32 0, .int .i32 0, .int .i32 0, .int .i32 (-1)] 73).cell 1 (by simp)
      have da1 : (wr.alloc (.cells #[.int .i32 (hh : Int), .int .i32 (ll : Int), .bool false, .bool false, .int .i32 0, .int .i32 0, .int .i32 0, .int .i32 0, .int .i32 0, .int .i32 (-1)] 73)).cell? ⟨g, p * 10 + 1, none⟩ = some (V (p * 10 + 1)) := (HB.out.alloc _).cell (p * 10 + 1) (by omega)
      have za1 : (wr.alloc (.cells #[.int .i32 (hh : Int), .int .i32 (ll : Int), .bool false, .bool false, .int .i32 0, .int .i32 0, .int .i32 0, .int .i32 0, .int .i32 0, .int .i32 (-1)] 73)).frozen? ⟨g, p * 10 + 1, none⟩ = false := (HB.out.alloc _).frozen (p * 10 + 1)
      have r2 : (wr.alloc (.cells #[.int .i32 (hh : Int), .int .i32 (ll : Int), .bool false, .bool false, .int .i32 0, .int .i32 0, .int .i32 0, .int .i32 0, .int .i32 0, .int .i32 (-1)] 73)).cell? ⟨wr.heap.size, 2, none⟩ = some (.bool false) := (Bk.new wr #[.int .i32 (hh : Int), .int .i32 (ll : Int), .bool false, .bool false, .int .i32 0, .int .i32 0, .int .i32 0, .int .i32 0, .int .i32 0, .int .i32 (-1)] 73).cell 2 (by simp)
      have da2 : (wr.alloc (.cells #[.int .i32 (hh : Int), .int .i32 (ll : Int), .bool false, .bool false, .int .i32 0, .int .i32 0, .int .i32 0, .int .i32 0, .int .i32 0, .int .i32 (-1)] 73)).cell? ⟨g, p * 10 + 2, none⟩ = some (V (p * 10 + 2)) := (HB.out.alloc _).cell (p * 10 + 2) (by omega)
      have za2 : (wr.alloc (.cells #[.int .i32 (hh : Int), .int .i32 (ll : Int), .bool false, .bool false, .int .i32 0, .int .i32 0, .int .i32 0, .int .i32 0, .int .i32 0, .int .i32 (-1)] 73)).frozen? ⟨g, p * 10 + 2, none⟩ = false := (HB.out.alloc _).frozen (p * 10 + 2)
      have r3 : (wr.alloc (.cells #[.int .i32 (hh : Int), .int .i32 (ll : Int), .bool false, .bool false, .int .i32 0, .int .i32 0, .int .i32 0, .int .i32 0, .int .i32 0, .int .i32 (-1)] 73)).cell? ⟨wr.heap.size, 3, none⟩ = some (.bool false) := (Bk.new wr #[.int .i32 (hh : Int), .int .i32 (ll : Int), .bool false, .bool false, .int .i32 0, .int .i32 0, .int .i32 0, .int .i32 0, .int .i32 0, .int .i32 (-1)] 73).cell 3 (by simp)
      have da3 : (wr.alloc (.cells #[.int .i32 (hh : Int), .int .i32 (ll : Int), .bool false, .bool false, .int .i32 0, .int .i32 0, .int .i32 0, .int .i32 0, .int .i32 0, .int .i32 (-1)] 73)).cell? ⟨g, p * 10 + 3, none⟩ = some (V (p * 10 + 3)) := (HB.out.alloc _).cell (p * 10 + 3) (by omega)
      have za3 : (wr.alloc (.cells #[.int .i32 (hh : Int), .int .i32 (ll : Int), .bool false, .bool false, .int .i32 0, .int .i32 0, .int .i32 0, .int .i32 0, .int .i32 0, .int .i32 (-1)] 73)).frozen? ⟨g, p * 10 + 3, none⟩ = false := (HB.out.alloc _).frozen (p * 10 + 3)
      have r4 : (wr.alloc (.cells #[.int .i32 (hh : Int), .int .i32 (ll : Int), .bool false, .bool false, .int .i32 0, .int .i32 0, .int .i32 0, .int .i32 0, .int .i32 0, .int .i32 (-1)] 73)).cell? ⟨wr.heap.size, 4, none⟩ = some (.int .i32 0) := (Bk.new wr #[.int .i32 (hh : Int), .int .i32 (ll : Int), .bool false, .bool false, .int .i32 0, .int .i32 0, .int .i32 0, .int .i32 0, .int .i32 0, .int .i32 (-1)] 73).cell 4 (by simp)
      have da4 : (wr.alloc (.cells #[.int .i32 (hh : Int), .int .i32 (ll : Int), .bool false, .bool false, .int .i32 0, .int .i32 0, .int .i32 0, .int .i32 0, .int .i32 0, .int .i32 (-1)] 73)).cell? ⟨g, p * 10 + 4, none⟩ = some (V (p * 10 + 4)) := (HB.out.alloc _).cell (p * 10 + 4) (by omega)
      have za4 : (wr.alloc (.cells #[.int .i32 (hh : Int), .int .i32 (ll : Int), .bool false, .bool false, .int .i32 0, .int .i32 0, .int .i32 0, .int .i32 0, .int .i32 0, .int .i32 (-1)] 73)).frozen? ⟨g, p * 10 + 4, none⟩ = false := (HB.out.alloc _).frozen (p * 10 + 4)
      have r5 : (wr.alloc (.cells #[.int .i32 (hh : Int), .int .i32 (ll : Int), .bool false, .bool false, .int .i32 0, .int .i32 0, .int .i32 0, .int .i32 0, .int .i32 0, .int .i32 (-1)] 73)).cell? ⟨wr.heap.size, 5, none⟩ = some (.int .i32 0) := (Bk.new wr #[.int .i32 (hh : Int), .int .i32 (ll : Int), .bool false, .bool false, .int .i32 0, .int .i32 0, .int .i32 0, .int .i32 0, .int .i32 0, .int .i32 (-1)] 73).cell 5 (by simp)
      have da5 : (wr.alloc (.cells #[.int .i32 (hh : Int), .int .i32 (ll : Int), .bool false, .bool false, .int .i32 0, .int .i32 0, .int .i32 0, .int .i32 0, .int .i32 0, .int .i32 (-1)] 73)).cell? ⟨g, p * 10 + 5, none⟩ = some (V (p * 10 + 5)) := (HB.out.alloc _).cell (p * 10 + 5) (by omega)
      have za5 : (wr.alloc (.cells #[.int .i32 (hh : Int), .int .i32 (ll : Int), .bool false, .bool false, .int .i32 0, .int .i32 0, .int .i32 0, .int .i32 0, .int .i32 0, .int .i32 (-1)] 73)).frozen? ⟨g, p * 10 + 5, none⟩ = false := (HB.out.alloc _).frozen (p * 10 + 5)
      have r6 : (wr.alloc (.cells #[.int .i32 (hh : Int), .int .i32 (ll : Int), .bool false, .bool false, .int .i32 0, .int .i32 0, .int .i32 0, .int .i32 0, .int .i32 0, .int .i32 (-1)] 73)).cell? ⟨wr.heap.size, 6, none⟩ = some (.int .i32 0) := (Bk.new wr #[.int .i32 (hh : Int), .int .i32 (ll : Int), .bool false, .bool false, .int .i32 0, .int .i32 0, .int .i32 0, .int .i32 0, .int .i32 0, .int .i32 (-1)] 73).cell 6 (by simp)
      have da6 : (wr.alloc (.cells #[.int .i32 (hh : Int), .int .i32 (ll : Int), .bool false, .bool false, .int .i32 0, .int .i32 0, .int .i32 0, .int .i32 0, .int .i32 0, .int .i32 (-1)] 73)).cell? ⟨g, p * 10 + 6, none⟩ = some (V (p * 10 + 6)) := (HB.out.alloc _).cell (p * 10 + 6) (by omega)
      have za6 : (wr.alloc (.cells #[.int .i32 (hh : Int), .int .i32 (ll : Int), .bool false, .bool false, .int .i32 0, .int .i32 0, .int .i32 0, .int .i32 0, .int .i32 0, .int .i32 (-1)] 73)).frozen? ⟨g, p * 10 + 6, none⟩ = false := (HB.out.alloc _).frozen (p * 10 + 6)
      have r7 : (wr.alloc (.cells #[.int .i32 (hh : Int), .int .i32 (ll : Int), .bool false, .bool false, .int .i32 0, .int .i32 0, .int .i32 0, .int .i32 0, .int .i32 0, .int .i32 (-1)] 73)).cell? ⟨wr.heap.size, 7, none⟩ = some (.int .i32 0) := (Bk.new wr #[.int .i32 (hh : Int), .int .i32 (ll : Int), .bool false, .bool false, .int .i32 0, .int .i32 0, .int .i32 0, .int .i32 0, .int .i32 0, .int .i32 (-1)] 73).cell 7 (by simp)
      have da7 : (wr.alloc (.cells #[.int .i32 (hh : Int), .int .i32 (ll : Int), .bool false, .bool false, .int .i32 0, .int .i32 0, .int .i32 0, .int .i32 0, .int .i32 0, .int .i32 (-1)] 73)).cell? ⟨g, p * 10 + 7, none⟩ = some (V (p * 10 + 7)) := (HB.out.alloc _).cell (p * 10 + 7) (by omega)
      have za7 : (wr.alloc (.cells #[.int .i32 (hh : Int), .int .i32 (ll : Int), .bool false, .bool false, .int .i32 0, .int .i32 0, .int .i32 0, .int .i32 0, .int .i32 0, .int .i32 (-1)] 73)).frozen? ⟨g, p * 10 + 7, none⟩ = false := (HB.out.alloc _).frozen (p * 10 + 7)
      have r8 : (wr.alloc (.cells #[.int .i32 (hh : Int), .int .i32 (ll : Int), .bool false, .bool false, .int .i32 0, .int .i32 0, .int .i32 0, .int .i32 0, .int .i32 0, .int .i32 (-1)] 73)).cell? ⟨wr.heap.size, 8, none⟩ = some (.int .i32 0) := (Bk.new wr #[.int .i32 (hh : Int), .int .i32 (ll : Int), .bool false, .bool false, .int .i32 0, .int .i32 0, .int .i32 0, .int .i32 0, .int .i32 0, .int .i32 (-1)] 73).cell 8 (by simp)
      have da8 : (wr.alloc (.cells #[.int .i32 (hh : Int), .int .i32 (ll : Int), .bool false, .bool false, .int .i32 0, .int .i32 0, .int .i32 0, .int .i32 0, .int .i32 0, .int .i32 (-1)] 73)).cell? ⟨g, p * 10 + 8, none⟩ = some (V (p * 10 + 8)) := (HB.out.alloc _).cell (p * 10 + 8) (by omega)
      have za8 : (wr.alloc (.cells #[.int .i32 (hh : Int), .int .i32 (ll : Int), .bool false, .bool false, .int .i32 0, .int .i32 0, .int .i32 0, .int .i32 0, .int .i32 0, .int .i32 (-1)] 73)).frozen? ⟨g, p * 10 + 8, none⟩ = false := (HB.out.alloc _).frozen (p * 10 + 8)
      have r9 : (wr.alloc (.cells #[.int .i32 (hh : Int), .int .i32 (ll : Int), .bool false, .bool false, .int .i32 0, .int .i32 0, .int .i32 0, .int .i32 0, .int .i32 0, .int .i32 (-1)] 73)).cell? ⟨wr.heap.size, 9, none⟩ = some (.int .i32 (-1)) := (Bk.new wr #[.int .i32 (hh : Int), .int .i32 (ll : Int), .bool false, .bool false, .int .i32 0, .int .i32 0, .int .i32 0, .int .i32 0, .int .i32 0, .int .i32 (-1)] 73).cell 9 (by simp)
      have da9 : (wr.alloc (.cells #[.int .i32 (hh : Int), .int .i32 (ll : Int), .bool false, .bool false, .int .i32 0, .int .i32 0, .int .i32 0, .int .i32 0, .int .i32 0, .int .i32 (-1)] 73)).cell? ⟨g, p * 10 + 9, none⟩ = some (V (p * 10 + 9)) := (HB.out.alloc _).cell (p * 10 + 9) (by omega)
      have za9 : (wr.alloc (.cells #[.int .i32 (hh : Int), .int .i32 (ll : Int), .bool false, .bool false, .int .i32 0, .int .i32 0, .int .i32 0, .int .i32 0, .int .i32 0, .int .i32 (-1)] 73)).frozen? ⟨g, p * 10 + 9, none⟩ = false := (HB.out.alloc _).frozen (p * 10 + 9)
      have n1 : ¬ wr.heap.size = g3 := by omega
      have n2 : ¬ wr.heap.size = g := by have := HB.out.lt; omega
      have HB' : Hid _ := (((((((((((HB.out.alloc (.cells #[.int .i32 (hh : Int), .int .i32 (ll : Int), .bool false, .bool false, .int .i32 0, .int .i32 0, .int .i32 0, .int .i32 0, .int .i32 0, .int .i32 (-1)] 73)).set (p * 10) (by omega) (.int .i32 (hh : Int))).set (p * 10 + 1) (by omega) (.int .i32 (ll : Int))).set (p * 10 + 2) (by omega) (.bool false)).set (p * 10 + 3) (by omega) (.bool false)).set (p * 10 + 4) (by omega) (.int .i32 0)).set (p * 10 + 5) (by omega) (.int .i32 0)).set (p * 10 + 6) (by omega) (.int .i32 0)).set (p * 10 + 7) (by omega) (.int .i32 0)).set (p * 10 + 8) (by omega) (.int .i32 0)).set (p * 10 + 9) (by omega) (.int .i32 (-1)))
      have HT' : Hid _ := (((((((((((HT.out.alloc (by have := HT.out.size; omega) (.cells #[.int .i32 (hh : Int), .int .i32 (ll : Int), .bool false, .bool false, .int .i32 0, .int .i32 0, .int .i32 0, .int .i32 0, .int .i32 0, .int .i32 (-1)] 73)).setCell (p := ⟨g, p * 10, none⟩) (by show w.heap.size ≤ g; rw [HG.out]; exact Nat.le_refl _) (.int .i32 (hh : Int))).setCell (p := ⟨g, p * 10 + 1, none⟩) (by show w.heap.size ≤ g; rw [HG.out]; exact Nat.le_refl _) (.int .i32 (ll : Int))).setCell (p := ⟨g, p * 10 + 2, none⟩) (by show w.heap.size ≤ g; rw [HG.out]; exact Nat.le_refl _) (.bool false)).setCell (p := ⟨g, p * 10 + 3, none⟩) (by show w.heap.size ≤ g; rw [HG.out]; exact Nat.le_refl _) (.bool false)).setCell (p := ⟨g, p * 10 + 4, none⟩) (by show w.heap.size ≤ g; rw [HG.out]; exact Nat.le_refl _) (.int .i32 0)).setCell (p := ⟨g, p * 10 + 5, none⟩) (by show w.heap.size ≤ g; rw [HG.out]; exact Nat.le_refl _) (.int .i32 0)).setCell (p := ⟨g, p * 10 + 6, none⟩) (by show w.heap.size ≤ g; rw [HG.out]; exact Nat.le_refl _) (.int .i32 0)).setCell (p := ⟨g, p * 10 + 7, none⟩) (by show w.heap.size ≤ g; rw [HG.out]; exact Nat.le_refl _) (.int .i32 0)).setCell (p := ⟨g, p * 10 + 8, none⟩) (by show w.heap.size ≤ g; rw [HG.out]; exact Nat.le_refl _) (.int .i32 0)).setCell (p := ⟨g, p * 10 + 9, none⟩) (by show w.heap.size ≤ g; rw [HG.out]; exact Nat.le_refl _) (.int .i32 (-1)))
      have HKF : Hid _ := kf
      clear hS q3 z3 x3 kc y3 l3 t3 kf
      subst ha3
      go_wp2_with fail
      go_roundw
      case rel => exact ⟨p + 1, _, by go_num, by omega, HB', fun j hj c hc => by
          rcases Nat.lt_or_ge j p with h1 | h1
          · have e := HC.out j h1 c hc
            show (if j * 10 + c = p * 10 + 9 then _ else (if j * 10 + c = p * 10 + 8 then _ else (if j * 10 + c = p * 10 + 7 then _ else (if j * 10 + c = p * 10 + 6 then _ else (if j * 10 + c = p * 10 + 5 then _ else (if j * 10 + c = p * 10 + 4 then _ else (if j * 10 + c = p * 10 + 3 then _ else (if j * 10 + c = p * 10 + 2 then _ else (if j * 10 + c = p * 10 + 1 then _ else (if j * 10 + c = p * 10 then _ else (V (j * 10 + c)))))))))))) = _
            rw [if_neg (by omega), if_neg (by omega), if_neg (by omega), if_neg (by omega), if_neg (by omega), if_neg (by omega), if_neg (by omega), if_neg (by omega), if_neg (by omega), if_neg (by omega)]
            exact e
          · obtain rfl : j = p := by omega
            have : c = 0 ∨ c = 1 ∨ c = 2 ∨ c = 3 ∨ c = 4 ∨ c = 5 ∨ c = 6 ∨ c = 7 ∨ c = 8 ∨ c = 9 := by omega
            rcases this with rfl | rfl | rfl | rfl | rfl | rfl | rfl | rfl | rfl | rfl <;> (rw [HKF.out]; simp [rwL]), HT'⟩
      case measure => simp [intOf]; omega
    · have e0 : decide ((p : Int) < (m : Int)) = false := decide_eq_false (by omega)
      have e0' : decide (p < m) = false := decide_eq_false hlt
      obtain rfl : m = p := by omega
      clear hS
      go_wp2_with fail
      go_ret
      exact ⟨g, V, rfl, by rw [HG.out]; exact Nat.le_refl _, HB.out, HC.out, HT.out⟩
set_option maxRecDepth 100000 in
set_option maxHeartbeats 4000000 in
theorem runs_any (tg : Nat → Nat) (w : World) (F : Nat) (gp rv : Value) (ix : Bool) (R : Nat → Res) (m : Nat) (f : Nat → Nat → Value) (B : Nat → Nat) (hS : St tg w F gp rv ix R) (hz : Zs R) (hn : (R 5).n = m) (hm : m ≤ 4096) (hv : ∀ j, j < m → ∀ c, c < 5 → (R 5).V (j * 5 + c) = f j c) (hf : ∀ j c, f j c = rnV (B j) (B (j + 1) - B j) c) :
    Calls Try.prog 23 #[.pointer (some ⟨F, 0, none⟩)] w (FlatPost 68 5 m f w) := by
  have HS : Hid (St tg w F gp rv ix R) := hS
  have HN : Hid ((R 5).n = m) := hn
  have HV : Hid (∀ j, j < m → ∀ c, c < 5 → (R 5).V (j * 5 + c) = f j c) := hv
  have HF : Hid _ := hf
  have HZ : Hid ((R 5).sz = 5) := (hz 5).2
  obtain ⟨a3, c3, h3, _, _, _⟩ := (hS.2.2 5 (by omega) (by omega)).form
  rw [hn] at h3
  have H3 : Hid ((R 5).v = .slice a3 m c3) := h3
  have f4 : w.cell? ⟨F, 8, none⟩ = some (R 5).v := hS.2.1.cell 8 (by omega)
  rw [h3] at f4
  obtain ⟨X, hX, hmk⟩ := run_mk (P := Try.prog) 62 68 (.agg #[.int .i32 0, .int .i32 0, .int .i32 0, .int .i32 0, .int .i32 0]) 5 20 Try.underlying62 (by kernel_rfl) m (by omega) (by omega)
  have hXs : X.size = m * 5 := by rw [hX]; exact size_made1 _ _
  have HX : Hid (X.size = m * 5) := hXs
  clear hX hXs h3 hS hn hz hv hf
  go_enter Try.func23, Try.ntmps23
  go_wp2_with fail
  obtain ⟨w1, hw1⟩ : ∃ x, x = w.alloc (.cells X 68) := ⟨_, rfl⟩
  rw [← hw1]
  obtain ⟨g, HG⟩ : ∃ x, Hid (x = w.heap.size) := ⟨_, rfl⟩
  rw [← HG.out]
  have HB0 : Hid (Bk w1 g 68 (m * 5) (fun i => X.getD i (.bool false))) := by rw [hw1, HG.out, ← HX.out]; exact Bk.new w X 68
  have HT0 : Hid (Below w.heap.size w w1) := by rw [hw1]; exact (Below.refl _ _).alloc (Nat.le_refl _) _
  clear hw1 f4
  go_loopw [4] (fun v wr => ∃ (p : Nat) (V : Nat → Value), v = .int .i64 p ∧ p ≤ m ∧ Hid (Bk wr g 68 (m * 5) V) ∧ Hid (∀ j, j < p → ∀ c, c < 5 → V (j * 5 + c) = f j c) ∧ Hid (Below w.heap.size w wr)) (fun v _ => m - (intOf v).toNat)
  case atStart => exact ⟨0, _, rfl, Nat.zero_le _, HB0, fun j hj => absurd hj (Nat.not_lt_zero _), HT0⟩
  case round =>
    clear HB0 HT0
    obtain ⟨p, V, rfl, hp, HB, HC, HT⟩ := hrel
    have hS := HS.out.below HT.out
    have f4 : wr.cell? ⟨F, 8, none⟩ = some (R 5).v := hS.2.1.cell 8 (by omega)
    rw [H3.out] at f4
    by_cases hlt : p < m
    · have e0 : decide ((p : Int) < (m : Int)) = true := decide_eq_true (by omega)
      have e0' : decide (p < m) = true := decide_eq_true hlt
      obtain ⟨g3, k3, x3, y3, t3, l3, q3, z3⟩ := (hS.2.2 5 (by omega) (by omega)).at (by rw [HN.out]; omega)
      rw [HN.out] at x3
      have ha3 : a3 = some ⟨g3, 0, none⟩ := by have := H3.out.symm.trans x3; simp only [Value.slice.injEq] at this; exact this.1
      obtain ⟨hh, HHH⟩ : ∃ hh : Nat, Hid (hh = B p) := ⟨_, rfl⟩
      obtain ⟨ll, HLL⟩ : ∃ ll : Nat, Hid (ll = B (p + 1) - B p) := ⟨_, rfl⟩
      have kc : ∀ c, c < 5 → wr.cell? ⟨g3, p * 5 + c, none⟩ = some (f p c) := fun c hc => by
        rw [q3 (p * 5 + c) (by rw [HN.out, HZ.out]; omega), HV.out p hlt c hc]
      have kf : ∀ c, f p c = rnL hh ll c := fun c => by rw [HF.out p c, HHH.out, HLL.out]; rfl
      simp only [kf] at kc
      have k0 : wr.cell? ⟨g3, p * 5, none⟩ = some (.int .i32 (hh : Int)) := kc 0 (by omega)
      have k1 : wr.cell? ⟨g3, p * 5 + 1, none⟩ = some (.int .i32 (ll : Int)) := kc 1 (by omega)
      have k2 : wr.cell? ⟨g3, p * 5 + 2, none⟩ = some (.int .i32 (ll : Int)) := kc 2 (by omega)
      have k3 : wr.cell? ⟨g3, p * 5 + 3, none⟩ = some (.int .i32 0) := kc 3 (by omega)
      have k4 : wr.cell? ⟨g3, p * 5 + 4, none⟩ = some (.int .i32 0) := kc 4 (by omega)
      have d0 : wr.cell? ⟨g, p * 5, none⟩ = some (V (p * 5 + 0)) := HB.out.cell (p * 5 + 0) (by omega)
      have z0 : wr.frozen? ⟨g, p * 5, none⟩ = false := HB.out.frozen (p * 5 + 0)
      have d1 : wr.cell? ⟨g, p * 5 + 1, none⟩ = some (V (p * 5 + 1)) := HB.out.cell (p * 5 + 1) (by omega)
      have z1 : wr.frozen? ⟨g, p * 5 + 1, none⟩ = false := HB.out.frozen (p * 5 + 1)
      have d2 : wr.cell? ⟨g, p * 5 + 2, none⟩ = some (V (p * 5 + 2)) := HB.out.cell (p * 5 + 2) (by omega)
      have z2 : wr.frozen? ⟨g, p * 5 + 2, none⟩ = false := HB.out.frozen (p * 5 + 2)
      have d3 : wr.cell? ⟨g, p * 5 + 3, none⟩ = some (V (p * 5 + 3)) := HB.out.cell (p * 5 + 3) (by omega)
      have z3 : wr.frozen? ⟨g, p * 5 + 3, none⟩ = false := HB.out.frozen (p * 5 + 3)
      have d4 : wr.cell? ⟨g, p * 5 + 4, none⟩ = some (V (p * 5 + 4)) := HB.out.cell (p * 5 + 4) (by omega)
      have z4 : wr.frozen? ⟨g, p * 5 + 4, none⟩ = false := HB.out.frozen (p * 5 + 4)
      have r0 : (wr.alloc (.cells #[.int .i32 (hh : Int), .int .i32 (ll : Int), .int .i32 (ll : Int), .int .i32 0, .int .i32 0] 79)).cell? ⟨wr.heap.size, 0, none⟩ = some (.int .i32 (hh : Int)) := (Bk.new wr #[.int .i32 (hh : Int), .int .i32 (ll : Int), .int .i32 (ll : Int), .int .i32 0, .int .i32 0] 79).cell 0 (by simp)
      have da0 : (wr.alloc (.cells #[.int .i32 (hh : Int), .int .i32 (ll : Int), .int .i32 (ll : Int), .int .i32 0, .int .i32 0] 79)).cell? ⟨g, p * 5, none⟩ = some (V (p * 5 + 0)) := (HB.out.alloc _).cell (p * 5 + 0) (by omega)
      have za0 : (wr.alloc (.cells #[.int .i32 (hh : Int), .int .i32 (ll : Int), .int .i32 (ll : Int), .int .i32 0, .int .i32 0] 79)).frozen? ⟨g, p * 5, none⟩ = false := (HB.out.alloc _).frozen (p * 5 + 0)
      have r1 : (wr.alloc (.cells #[.int .i32 (hh : Int), .int .i32 (ll : Int), .int .i32 (ll : Int), .int .i32 0, .int .i32 0] 79)).cell? ⟨wr.heap.size, 1, none⟩ = some (.int .i32 (ll : Int)) := (Bk.new wr #[.int .i32 (hh : Int), .int .i32 (ll : Int), .int .i32 (ll : Int), .int .i32 0, .int .i32 0] 79).cell 1 (by simp)
      have da1 : (wr.alloc (.cells #[.int .i32 (hh : Int), .int .i32 (ll : Int), .int .i32 (ll : Int), .int .i32 0, .int .i32 0] 79)).cell? ⟨g, p * 5 + 1, none⟩ = some (V (p * 5 + 1)) := (HB.out.alloc _).cell (p * 5 + 1) (by omega)
      have za1 : (wr.alloc (.cells #[.int .i32 (hh : Int), .int .i32 (ll : Int), .int .i32 (ll : Int), .int .i32 0, .int .i32 0] 79)).frozen? ⟨g, p * 5 + 1, none⟩ = false := (HB.out.alloc _).frozen (p * 5 + 1)
      have r2 : (wr.alloc (.cells #[.int .i32 (hh : Int), .int .i32 (ll : Int), .int .i32 (ll : Int), .int .i32 0, .int .i32 0] 79)).cell? ⟨wr.heap.size, 2, none⟩ = some (.int .i32 (ll : Int)) := (Bk.new wr #[.int .i32 (hh : Int), .int .i32 (ll : Int), .int .i32 (ll : Int), .int .i32 0, .int .i32 0] 79).cell 2 (by simp)
      have da2 : (wr.alloc (.cells #[.int .i32 (hh : Int), .int .i32 (ll : Int), .int .i32 (ll : Int), .int .i32 0, .int .i32 0] 79)).cell? ⟨g, p * 5 + 2, none⟩ = some (V (p * 5 + 2)) := (HB.out.alloc _).cell (p * 5 + 2) (by omega)
      have za2 : (wr.alloc (.cells #[.int .i32 (hh : Int), .int .i32 (ll : Int), .int .i32 (ll : Int), .int .i32 0, .int .i32 0] 79)).frozen? ⟨g, p * 5 + 2, none⟩ = false := (HB.out.alloc _).frozen (p * 5 + 2)
      have r3 : (wr.alloc (.cells #[.int .i32 (hh : Int), .int .i32 (ll : Int), .int .i32 (ll : Int), .int .i32 0, .int .i32 0] 79)).cell? ⟨wr.heap.size, 3, none⟩ = some (.int .i32 0) := (Bk.new wr #[.int .i32 (hh : Int), .int .i32 (ll : Int), .int .i32 (ll : Int), .int .i32 0, .int .i32 0] 79).cell 3 (by simp)
      have da3 : (wr.alloc (.cells #[.int .i32 (hh : Int), .int .i32 (ll : Int), .int .i32 (ll : Int), .int .i32 0, .int .i32 0] 79)).cell? ⟨g, p * 5 + 3, none⟩ = some (V (p * 5 + 3)) := (HB.out.alloc _).cell (p * 5 + 3) (by omega)
      have za3 : (wr.alloc (.cells #[.int .i32 (hh : Int), .int .i32 (ll : Int), .int .i32 (ll : Int), .int .i32 0, .int .i32 0] 79)).frozen? ⟨g, p * 5 + 3, none⟩ = false := (HB.out.alloc _).frozen (p * 5 + 3)
      have r4 : (wr.alloc (.cells #[.int .i32 (hh : Int), .int .i32 (ll : Int), .int .i32 (ll : Int), .int .i32 0, .int .i32 0] 79)).cell? ⟨wr.heap.size, 4, none⟩ = some (.int .i32 0) := (Bk.new wr #[.int .i32 (hh : Int), .int .i32 (ll : Int), .int .i32 (ll : Int), .int .i32 0, .int .i32 0] 79).cell 4 (by simp)
      have da4 : (wr.alloc (.cells #[.int .i32 (hh : Int), .int .i32 (ll : Int), .int .i32 (ll : Int), .int .i32 0, .int .i32 0] 79)).cell? ⟨g, p * 5 + 4, none⟩ = some (V (p * 5 + 4)) := (HB.out.alloc _).cell (p * 5 + 4) (by omega)
      have za4 : (wr.alloc (.cells #[.int .i32 (hh : Int), .int .i32 (ll : Int), .int .i32 (ll : Int), .int .i32 0, .int .i32 0] 79)).frozen? ⟨g, p * 5 + 4, none⟩ = false := (HB.out.alloc _).frozen (p * 5 + 4)
      have n1 : ¬ wr.heap.size = g3 := by omega
      have n2 : ¬ wr.heap.size = g := by have := HB.out.lt; omega
      have HB' : Hid _ := ((((((HB.out.alloc (.cells #[.int .i32 (hh : Int), .int .i32 (ll : Int), .int .i32 (ll : Int), .int .i32 0, .int .i32 0] 79)).set (p * 5) (by omega) (.int .i32 (hh : Int))).set (p * 5 + 1) (by omega) (.int .i32 (ll : Int))).set (p * 5 + 2) (by omega) (.int .i32 (ll : Int))).set (p * 5 + 3) (by omega) (.int .i32 0)).set (p * 5 + 4) (by omega) (.int .i32 0))
      have HT' : Hid _ := ((((((HT.out.alloc (by have := HT.out.size; omega) (.cells #[.int .i32 (hh : Int), .int .i32 (ll : Int), .int .i32 (ll : Int), .int .i32 0, .int .i32 0] 79)).setCell (p := ⟨g, p * 5, none⟩) (by show w.heap.size ≤ g; rw [HG.out]; exact Nat.le_refl _) (.int .i32 (hh : Int))).setCell (p := ⟨g, p * 5 + 1, none⟩) (by show w.heap.size ≤ g; rw [HG.out]; exact Nat.le_refl _) (.int .i32 (ll : Int))).setCell (p := ⟨g, p * 5 + 2, none⟩) (by show w.heap.size ≤ g; rw [HG.out]; exact Nat.le_refl _) (.int .i32 (ll : Int))).setCell (p := ⟨g, p * 5 + 3, none⟩) (by show w.heap.size ≤ g; rw [HG.out]; exact Nat.le_refl _) (.int .i32 0)).setCell (p := ⟨g, p * 5 + 4, none⟩) (by show w.heap.size ≤ g; rw [HG.out]; exact Nat.le_refl _) (.int .i32 0))
      have HKF : Hid _ := kf
      clear hS q3 z3 x3 kc y3 l3 t3 kf
      subst ha3
      go_wp2_with fail
      go_roundw
      case rel => exact ⟨p + 1, _, by go_num, by omega, HB', fun j hj c hc => by
          rcases Nat.lt_or_ge j p with h1 | h1
          · have e := HC.out j h1 c hc
            show (if j * 5 + c = p * 5 + 4 then _ else (if j * 5 + c = p * 5 + 3 then _ else (if j * 5 + c = p * 5 + 2 then _ else (if j * 5 + c = p * 5 + 1 then _ else (if j * 5 + c = p * 5 then _ else (V (j * 5 + c))))))) = _
            rw [if_neg (by omega), if_neg (by omega), if_neg (by omega), if_neg (by omega), if_neg (by omega)]
            exact e
          · obtain rfl : j = p := by omega
            have : c = 0 ∨ c = 1 ∨ c = 2 ∨ c = 3 ∨ c = 4 := by omega
            rcases this with rfl | rfl | rfl | rfl | rfl <;> (rw [HKF.out]; simp [rnL]), HT'⟩
      case measure => simp [intOf]; omega
    · have e0 : decide ((p : Int) < (m : Int)) = false := decide_eq_false (by omega)
      have e0' : decide (p < m) = false := decide_eq_false hlt
      obtain rfl : m = p := by omega
      clear hS
      go_wp2_with fail
      go_ret
      exact ⟨g, V, rfl, by rw [HG.out]; exact Nat.le_refl _, HB.out, HC.out, HT.out⟩
end Go.Proofs.Qxb6605223a
