/-
  Seat b6605195a. WORDS THAT ALL WALKS SHARE: a slice of pairs of integers (a Range, a runeRange, an event: two cells an element), read ('Sl2') or owned ('Own2'). No Go text is walked here.
-/
import Derived.Test.Qxb6605195aProg
import Derived.WalkKit
import Derived.WalkSpells
import Derived.WalkLawsBesides
import Derived.Below
import Derived.Maps.AppendAt
import Derived.Deep.Draws
namespace Go.Proofs.Qxb6605195a
open Go.RowKit

/-- The cells of a list of pairs, flat. -/
def flat (k : IntKind) : List (Int × Int) → List Value
  | [] => []
  | x :: r => .int k x.1 :: .int k x.2 :: flat k r

theorem flat_length (k : IntKind) (xs : List (Int × Int)) : (flat k xs).length = xs.length * 2 := by
  induction xs with
  | nil => rfl
  | cons x r ih => simp only [flat, List.length_cons, ih]; omega

theorem flat_append (k : IntKind) (xs ys : List (Int × Int)) : flat k (xs ++ ys) = flat k xs ++ flat k ys := by
  induction xs with
  | nil => rfl
  | cons x r ih => simp only [flat, List.cons_append, ih]

theorem flat_get0 (k : IntKind) (xs : List (Int × Int)) (i : Nat) (h : i < xs.length) : (flat k xs)[i * 2]? = some (.int k (xs.getD i (0, 0)).1) := by
  induction xs generalizing i with
  | nil => simp at h
  | cons x r ih =>
    cases i with
    | zero => simp [flat]
    | succ j =>
      have := ih j (by simp at h; omega)
      rw [show (j + 1) * 2 = j * 2 + 1 + 1 by omega]
      simp only [flat, List.getElem?_cons_succ, List.getD_cons_succ]
      exact this

theorem flat_get1 (k : IntKind) (xs : List (Int × Int)) (i : Nat) (h : i < xs.length) : (flat k xs)[i * 2 + 1]? = some (.int k (xs.getD i (0, 0)).2) := by
  induction xs generalizing i with
  | nil => simp at h
  | cons x r ih =>
    cases i with
    | zero => simp [flat]
    | succ j =>
      have := ih j (by simp at h; omega)
      rw [show (j + 1) * 2 + 1 = j * 2 + 1 + 1 + 1 by omega]
      simp only [flat, List.getElem?_cons_succ, List.getD_cons_succ]
      exact this

theorem flat_oneCell (k : IntKind) (xs : List (Int × Int)) : ∀ u ∈ flat k xs, u.oneCell' = true := by
  induction xs with
  | nil => intro u hu; simp [flat] at hu
  | cons x r ih =>
    intro u hu
    simp only [flat, List.mem_cons] at hu
    rcases hu with rfl | rfl | hu
    · rfl
    · rfl
    · exact ih u hu

/-- A slice of pairs that is READ: v is a slice of xs.length elements; where there is an element, its cells lie in a block of w. -/
def Sl2 (k : IntKind) (w : World) (v : Value) (xs : List (Int × Int)) : Prop :=
  ∃ a b off c, v = .slice a xs.length c ∧ xs.length ≤ c ∧ c ≤ maxLen ∧ (0 < xs.length → a = some ⟨b, off, none⟩ ∧ b < w.heap.size) ∧
    ∀ i, i < xs.length → w.cell? ⟨b, off + i * 2, none⟩ = some (.int k (xs.getD i (0, 0)).1) ∧ w.cell? ⟨b, off + i * 2 + 1, none⟩ = some (.int k (xs.getD i (0, 0)).2)

theorem Sl2.below {k : IntKind} {w w' : World} {v : Value} {xs : List (Int × Int)} (h : Sl2 k w v xs) (hb : Below w.heap.size w w') : Sl2 k w' v xs := by
  obtain ⟨a, b, off, c, rfl, hcc, hcm, ha, hc⟩ := h
  refine ⟨a, b, off, c, rfl, hcc, hcm, fun h0 => ⟨(ha h0).1, Nat.lt_of_lt_of_le (ha h0).2 hb.size⟩, fun i hi => ?_⟩
  have hlt := (ha (by omega)).2
  rw [hb.cell hlt, hb.cell hlt]
  exact hc i hi

/-- A slice of pairs of the call's own. -/
def Own2 (k : IntKind) (w : World) (base : Nat) (e : TypeId) (v : Value) (xs : List (Int × Int)) : Prop := w.ownsRow base e 2 v xs.length (flat k xs)

theorem Own2.sl2 {k : IntKind} {w : World} {base : Nat} {e : TypeId} {v : Value} {xs : List (Int × Int)} (h : Own2 k w base e v xs) : Sl2 k w v xs := by
  have h' := h
  obtain ⟨_, h2⟩ := h
  rcases h2 with ⟨rfl, hn⟩ | ⟨g, cap, cur, rfl, hg, hh, hnc, hcm, _⟩
  · exact ⟨none, 0, 0, 0, by rw [hn], by omega, by unfold maxLen; omega, fun h0 => by omega, fun i hi => by omega⟩
  · have hlt : g < w.heap.size := (Array.getElem?_eq_some_iff.1 hh).1
    refine ⟨some ⟨g, 0, none⟩, g, 0, cap, rfl, hnc, hcm, fun _ => ⟨rfl, hlt⟩, fun i hi => ?_⟩
    rw [Nat.zero_add, World.ownsRow.cellAt h' _ (by omega), World.ownsRow.cellAt h' _ (by omega)]
    exact ⟨flat_get0 k xs i hi, flat_get1 k xs i hi⟩

theorem Own2.nil (k : IntKind) (w : World) (base : Nat) (e : TypeId) : Own2 k w base e (.slice none 0 0) [] := World.ownsRow_nil _ _ _ _

theorem bcell {W w1 : World} (hb : Below W.heap.size W w1) : (∀ b o, b < W.heap.size → w1.cell? ⟨b, o, none⟩ = W.cell? ⟨b, o, none⟩) ∧ (∀ b o, b < W.heap.size → w1.frozen? ⟨b, o, none⟩ = W.frozen? ⟨b, o, none⟩) :=
  ⟨fun b o h => hb.cell (p := ⟨b, o, none⟩) h, fun b o h => hb.frozen (p := ⟨b, o, none⟩) h⟩

theorem ret_int {k : IntKind} {a b : Int} (h : a = b) : Ending.returned (.int k a) = .returned (.int k b) := by rw [h]


/-! ### A block of cells, known whole -/
def Blk (w : World) (g : Nat) (cur : Array Value) (t : TypeId) : Prop := w.heap[g]? = some (.cells cur t (0, 0))

theorem Blk.lt {w : World} {g : Nat} {cur : Array Value} {t : TypeId} (h : Blk w g cur t) : g < w.heap.size := (Array.getElem?_eq_some_iff.1 h).1
theorem Blk.cell {w : World} {g : Nat} {cur : Array Value} {t : TypeId} (h : Blk w g cur t) (o : Nat) : w.cell? ⟨g, o, none⟩ = cur[o]? := by
  unfold Blk at h; simp [World.cell?, h]
theorem Blk.frozen {w : World} {g : Nat} {cur : Array Value} {t : TypeId} (h : Blk w g cur t) (o : Nat) : w.frozen? ⟨g, o, none⟩ = false := by
  unfold Blk at h; simp [World.frozen?, h]
theorem Blk.set {w : World} {g : Nat} {cur : Array Value} {t : TypeId} (h : Blk w g cur t) (o : Nat) (v : Value) : Blk (w.setCell ⟨g, o, none⟩ v) g (cur.setIfInBounds o v) t := by
  unfold Blk at *
  simp [World.setCell, Array.getElem?_modify, h]
theorem Blk.setOther {w : World} {g : Nat} {cur : Array Value} {t : TypeId} (h : Blk w g cur t) (a : Addr) (v : Value) (hne : g ≠ a.block) : Blk (w.setCell a v) g cur t := by
  unfold Blk at *
  rw [Below.heap_setCell _ _ _ _ hne]; exact h
theorem Blk.alloc {w : World} {g : Nat} {cur : Array Value} {t : TypeId} (h : Blk w g cur t) (o : Obj) : Blk (w.alloc o) g cur t := by
  have := h.lt
  unfold Blk at *
  rw [Below.heap_alloc _ _ _ this]; exact h
theorem Blk.new (w : World) (cur : Array Value) (t : TypeId) : Blk (w.alloc (.cells cur t)) w.heap.size cur t := heap_alloc_new w _
theorem Blk.below {B : Nat} {w w' : World} {g : Nat} {cur : Array Value} {t : TypeId} (h : Blk w g cur t) (hb : Below B w w') (hg : g < B) : Blk w' g cur t := by
  unfold Blk at *; rw [hb.block g hg]; exact h
theorem Blk.drew {w : World} {g : Nat} {cur : Array Value} {t : TypeId} (h : Blk w g cur t) : Blk w.drew g cur t := h

theorem run_make2 {P : Program} (t e : TypeId) (z : Value) (size bytes : Nat) (ht : P.underlying t = some (.slice e)) (hinfo : (P.info? e).map (fun i => (i.zero, i.size, i.bytes)) = some (some z, size, bytes))
    (n : Nat) (hb : bytes * n ≤ 281474976710656) (hn : n ≤ 9223372036854775807) :
    ∃ X : Array Value, (X = madeCells z.cells (n * size)) ∧ ∀ w, (Instr.makeSlice t (.int .i64 (n : Int)) (.int .i64 (n : Int))).run P w = .ok (.slice (some ⟨w.heap.size, 0, none⟩) n n) (w.alloc (.cells X e)) := by
  obtain ⟨i0, hi, hz0, hz1, hz2⟩ := info_parts hinfo
  refine ⟨_, rfl, fun w => ?_⟩
  have hb' : (i0.bytes : Int) * (n : Int) ≤ 281474976710656 := by rw [hz2, ← Int.natCast_mul]; omega
  have := run_make (P := P) w t e i0 z ht hi hz0 .i64 .i64 (n : Int) (n : Int) (by omega) (by omega) hb' (by omega)
  simpa [hz1] using this

/-- Cells of the pairs L, H below m. -/
def Filled (k : IntKind) (cur : Array Value) (m : Nat) (L H : Nat → Int) : Prop :=
  ∀ i, i < m → cur[i * 2]? = some (.int k (L i)) ∧ cur[i * 2 + 1]? = some (.int k (H i))

theorem Filled.step {k : IntKind} {cur : Array Value} {m : Nat} {L H : Nat → Int} (h : Filled k cur m L H) (hs : m * 2 + 1 < cur.size) :
    Filled k ((cur.setIfInBounds (m * 2) (.int k (L m))).setIfInBounds (m * 2 + 1) (.int k (H m))) (m + 1) L H := by
  intro i hi
  by_cases e : i = m
  · subst e
    simp [Array.getElem?_setIfInBounds]
    omega
  · have := h i (by omega)
    simp only [Array.getElem?_setIfInBounds, Array.size_setIfInBounds]
    rw [if_neg (by omega), if_neg (by omega), if_neg (by omega), if_neg (by omega)]
    exact this

theorem Try.info58 : (Try.prog.info? 58).map (fun i => (i.zero, i.size, i.bytes)) = some (some (.agg #[.int .i32 0, .int .i32 0]), 2, 8) := by kernel_rfl
theorem Try.info60 : (Try.prog.info? 60).map (fun i => (i.zero, i.size, i.bytes)) = some (some (.agg #[.int .i32 0, .int .i32 0]), 2, 8) := by kernel_rfl
theorem Try.info66 : (Try.prog.info? 66).map (fun i => (i.zero, i.size, i.bytes)) = some (some (.agg #[.int .i64 0, .int .i64 0]), 2, 16) := by kernel_rfl
theorem Try.info21 : (Try.prog.info? 21).map (fun i => (i.zero, i.size, i.bytes)) = some (some (.int .i32 0), 1, 4) := by kernel_rfl

theorem Own2.alloc {k : IntKind} {w : World} {base : Nat} {e : TypeId} {v : Value} {xs : List (Int × Int)} (h : Own2 k w base e v xs) (o : Obj) : Own2 k (w.alloc o) base e v xs := World.ownsRow.alloc h o

/-- 'out = append(out, y)', out a slice of pairs of the call's own, y a pair that lies at 'ad'. -/
theorem wpList_app2 {P : Program} (w : World) {ops : Array Oper} {rest : List Oper} {o : Oper} {a : Act} {Q : Exit → Act → World → Prop} (hgd : o.guard = none) (s x : Operand) (t : TypeId)
    (ho : o.op = .call { callee := .builtin .append, args := #[s, x], argTypes := #[t, t] })
    (base : Nat) (e : TypeId) (k : IntKind) (z0 z1 : Value) (bytes : Nat) (ht : P.underlying t = some (.slice e)) (hinfo : (P.info? e).map (fun i => (i.zero, i.size, i.bytes)) = some (some (.agg #[z0, z1]), 2, bytes))
    (v : Value) (xs : List (Int × Int)) (hs : a.eval s = v) (hown : Own2 k w base e v xs)
    (ad : Addr) (c : Nat) (y : Int × Int) (hx : a.eval x = .slice (some ad) 1 c) (hc0 : w.cell? ad = some (.int k y.1)) (hc1 : w.cell? (ad.add 1) = some (.int k y.2))
    (hlen : xs.length ≤ 1048576) (hbytes : bytes ≤ 64) (hbase : base ≤ w.heap.size)
    (h : ∀ v' w', Own2 k w' base e v' (xs ++ [y]) → w.grownBy w' v.ownBlock → wpList P ops Q rest (a.put o.dst v') w') : wpList P ops Q (o :: rest) a w := by
  obtain ⟨i0, hi, hz0, hz1, hz2⟩ := info_parts hinfo
  refine wpList_append_own w hgd s x t ho base e i0 _ 2 bytes ht hi hz0 hz1 hz2 rfl (by omega) v xs.length (flat k xs) hs hown ad 1 c (flat k [y]) hx rfl ?_ (flat_oneCell k [y]) (by unfold maxLen; omega) ?_ hbase ?_
  · intro j u hj
    match j, hj with
    | 0, hj => simp [flat] at hj; subst hj; simpa [Addr.add] using hc0
    | 1, hj => simp [flat] at hj; subst hj; exact hc1
    | n + 2, hj => simp [flat] at hj
  · have := Nat.mul_le_mul (show xs.length + 1 ≤ 1048577 by omega) hbytes; omega
  · intro v' w' h1 h2 _
    refine h v' w' ?_ h2
    unfold Own2
    rw [flat_append, List.length_append]
    exact h1

theorem Own2.belowGrown {k : IntKind} {w W w' : World} {B base : Nat} {e : TypeId} {v : Value} {xs : List (Int × Int)} (h : Own2 k w base e v xs) (hb : Below B W w) (hg : w.grownBy w' v.ownBlock) (hB : B ≤ w.heap.size) (hBb : B ≤ base) : Below B W w' :=
  hb.grown hg hB (fun j hj => Nat.le_trans hBb (World.ownsRow.lt h j hj).1)

/-- What a call that hands back a new slice of pairs leaves. -/
def NewSl2 (k : IntKind) (xs : List (Int × Int)) (w : World) (e : Ending) (w' : World) : Prop :=
  ∃ v, e = .returned v ∧ Sl2 k w' v xs ∧ Below w.heap.size w w'

def pairs (L H : Nat → Int) (k : Nat) : List (Int × Int) := (List.range k).map fun i => (L i, H i)
theorem pairs_length (L H : Nat → Int) (k : Nat) : (pairs L H k).length = k := by simp [pairs]
theorem pairs_succ (L H : Nat → Int) (k : Nat) : pairs L H (k + 1) = pairs L H k ++ [(L k, H k)] := by simp [pairs, List.range_succ]

theorem pairs_of (xs : List (Int × Int)) : pairs (fun i => (xs.getD i (0, 0)).1) (fun i => (xs.getD i (0, 0)).2) xs.length = xs := by
  refine List.ext_getElem (by simp [pairs]) fun i h1 h2 => ?_
  simp [pairs, h2]

theorem Own2.drewN {k : IntKind} {w : World} {base : Nat} {e : TypeId} {v : Value} {xs : List (Int × Int)} (h : Own2 k w base e v xs) (n : Nat) : Own2 k (w.drewN n) base e v xs := h
theorem newcell0 (W : World) (x y : Value) (t : TypeId) : (W.alloc (.cells #[x, y] t)).cell? ⟨W.heap.size, 0, none⟩ = some x := by simp
theorem newcell1 (W : World) (x y : Value) (t : TypeId) : (W.alloc (.cells #[x, y] t)).cell? (Addr.add ⟨W.heap.size, 0, none⟩ 1) = some y := by simp [Addr.add]
theorem Own2.belowStep {k : IntKind} {w W w' : World} {base n : Nat} {o : Obj} {e : TypeId} {v : Value} {xs : List (Int × Int)} (h : Own2 k w base e v xs) (hb : Below W.heap.size W w) (hBb : W.heap.size ≤ base) (hg : ((w.drewN n).alloc o).grownBy w' v.ownBlock) : Below W.heap.size W w' :=
  have hz := hb.size
  Own2.belowGrown ((h.drewN n).alloc o) ((below_drewN hb n).alloc hz o) hg (by simp; omega) hBb

/-! ### Slices of integers, one cell an element -/
def Sl1 (k : IntKind) (w : World) (v : Value) (xs : List Int) : Prop :=
  ∃ a b off c, v = .slice a xs.length c ∧ (0 < xs.length → a = some ⟨b, off, none⟩ ∧ b < w.heap.size) ∧ ∀ i, i < xs.length → w.cell? ⟨b, off + i, none⟩ = some (.int k (xs.getD i 0))

theorem Sl1.below {k : IntKind} {w w' : World} {v : Value} {xs : List Int} (h : Sl1 k w v xs) (hb : Below w.heap.size w w') : Sl1 k w' v xs := by
  obtain ⟨a, b, off, c, rfl, ha, hc⟩ := h
  refine ⟨a, b, off, c, rfl, fun h0 => ⟨(ha h0).1, Nat.lt_of_lt_of_le (ha h0).2 hb.size⟩, fun i hi => ?_⟩
  have hlt := (ha (by omega)).2
  rw [hb.cell hlt]
  exact hc i hi

def Own1 (k : IntKind) (w : World) (base : Nat) (e : TypeId) (v : Value) (xs : List Int) : Prop := w.ownsRow base e 1 v xs.length (xs.map (Value.int k))

theorem Own1.sl1 {k : IntKind} {w : World} {base : Nat} {e : TypeId} {v : Value} {xs : List Int} (h : Own1 k w base e v xs) : Sl1 k w v xs := by
  have h' := h
  obtain ⟨_, h2⟩ := h
  rcases h2 with ⟨rfl, hn⟩ | ⟨g, cap, cur, rfl, hg, hh, _⟩
  · exact ⟨none, 0, 0, 0, by rw [hn], fun h0 => by omega, fun i hi => by omega⟩
  · have hlt : g < w.heap.size := (Array.getElem?_eq_some_iff.1 hh).1
    refine ⟨some ⟨g, 0, none⟩, g, 0, cap, rfl, fun _ => ⟨rfl, hlt⟩, fun i hi => ?_⟩
    rw [Nat.zero_add, World.ownsRow.cellAt h' _ (by omega)]
    simp [hi]

theorem Own1.nil (k : IntKind) (w : World) (base : Nat) (e : TypeId) : Own1 k w base e (.slice none 0 0) [] := World.ownsRow_nil _ _ _ _
theorem Own1.alloc {k : IntKind} {w : World} {base : Nat} {e : TypeId} {v : Value} {xs : List Int} (h : Own1 k w base e v xs) (o : Obj) : Own1 k (w.alloc o) base e v xs := World.ownsRow.alloc h o

/-- 'out = append(out, y)', out a slice of integers of the call's own. -/
theorem wpList_app1 {P : Program} (w : World) {ops : Array Oper} {rest : List Oper} {o : Oper} {a : Act} {Q : Exit → Act → World → Prop} (hgd : o.guard = none) (s x : Operand) (t : TypeId)
    (ho : o.op = .call { callee := .builtin .append, args := #[s, x], argTypes := #[t, t] })
    (base : Nat) (e : TypeId) (k : IntKind) (z0 : Int) (bytes : Nat) (ht : P.underlying t = some (.slice e)) (hinfo : (P.info? e).map (fun i => (i.zero, i.size, i.bytes)) = some (some (.int k z0), 1, bytes))
    (v : Value) (xs : List Int) (hs : a.eval s = v) (hown : Own1 k w base e v xs)
    (ad : Addr) (c : Nat) (y : Int) (hx : a.eval x = .slice (some ad) 1 c) (hc0 : w.cell? ad = some (.int k y))
    (hlen : xs.length ≤ 1048576) (hbytes : bytes ≤ 64) (hbase : base ≤ w.heap.size)
    (h : ∀ v' w', Own1 k w' base e v' (xs ++ [y]) → w.grownBy w' v.ownBlock → (v'.ownBlock = v.ownBlock ∨ v'.ownBlock = some w.heap.size) → wpList P ops Q rest (a.put o.dst v') w') : wpList P ops Q (o :: rest) a w := by
  obtain ⟨i0, hi, hz0, hz1, hz2⟩ := info_parts hinfo
  refine wpList_append_own_at w hgd s x t ho base e i0 _ 1 bytes ht hi hz0 hz1 hz2 rfl (by omega) v xs.length (xs.map (Value.int k)) hs hown ad 1 c [.int k y] hx rfl ?_ (by simp [Value.oneCell']) (by unfold maxLen; omega) ?_ hbase ?_
  · intro j u hj
    match j, hj with
    | 0, hj => simp at hj; subst hj; simpa [Addr.add] using hc0
    | n + 1, hj => simp at hj
  · have := Nat.mul_le_mul (show xs.length + 1 ≤ 1048577 by omega) hbytes; omega
  · intro v' w' h1 h2 _ h4
    refine h v' w' ?_ h2 h4
    unfold Own1
    rw [List.map_append, List.length_append]
    exact h1
end Go.Proofs.Qxb6605195a
