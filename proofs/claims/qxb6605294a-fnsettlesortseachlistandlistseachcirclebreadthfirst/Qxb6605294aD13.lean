/-
  Seat b6605294a. THE MEMORY OF settle's SEARCH.
-/
import Derived.Test.Qxb6605294aD12
set_option linter.unusedVariables false
set_option linter.unusedSimpArgs false
namespace Go.Proofs.Qxb6605294a
open Go.RowKit

theorem Bk.putRow' {w : World} {g n : Nat} {V : Nat → Value} (h : Bk w g 3 n V) (l : List Int) (hl : l.length ≤ n) : Bk (Go.Sort.putRow (Value.int .i64) w g 0 l.toArray) g 3 n (fun i => if i < l.length then .int .i64 (l.getD i 0) else V i) := by
  obtain ⟨cur, h1, h2, h3⟩ := h
  refine ⟨Go.Sort.putCells (Value.int .i64) 0 l.toArray cur, ?_, by simp [Go.Sort.putCells, h2], fun i hi => ?_⟩
  · unfold Go.Sort.putRow Go.Sort.mapBlock
    simp [Array.getElem?_modify, h1, Go.Sort.onCells]
  · by_cases hi' : i < l.length
    · simp [Go.Sort.putCells, h3 i hi, hi']
    · simp [Go.Sort.putCells, h3 i hi, hi']

def GsPost (lo : Nat) (v : Value) (q : Nat) (V : Nat → Int) (w : World) (e : Ending) (w' : World) : Prop :=
  e = .returned (.tuple #[]) ∧ ∃ V', Gv w' lo 3 v q (fun i => .int .i64 (V' i)) ∧ (∀ i j, i < j → j < q → V' i ≤ V' j) ∧ (ofN V' q).Perm (ofN V q) ∧ Ts (fun b => v.ownBlock = some b) w w'

theorem sort_gv (lo : Nat) (v : Value) (q : Nat) (V : Nat → Int) (w : World) (hq : q ≤ 1048576) (h : Gv w lo 3 v q (fun i => .int .i64 (V i))) : Calls Try.prog 64 #[v] w (GsPost lo v q V w) := by
  rcases h with ⟨rfl, rfl⟩ | ⟨g, c, W', rfl, hlo, hqc, hcm, hB, hW⟩
  · refine Calls.mono (Try.slices_Sort_int_none none 0 w) ?_
    rintro e w' ⟨rfl, rfl⟩
    exact ⟨rfl, V, .inl ⟨rfl, rfl⟩, fun i j _ hj => absurd hj (Nat.not_lt_zero _), List.Perm.refl _, Ts.refl _ _⟩
  · have hh : Go.Sort.Holds (Value.int .i64) w g 0 (ofN V q).toArray := by
      intro j hj
      have hj : j < q := by simpa [ofN] using hj
      refine ⟨?_, hB.frozen _⟩
      rw [Nat.zero_add, hB.cell j (by omega), hW j hj]
      simp [ofN, hj]
    have hc := Try.slices_Sort_int g 0 c (ofN V q) w hh hB.lt (by rw [ofN_length]; omega)
    rw [ofN_length] at hc
    refine Calls.mono hc ?_
    rintro e w' ⟨rfl, k, os, rfl⟩
    obtain ⟨l, hl⟩ : ∃ l, l = (ofN V q).mergeSort (fun x y => decide (x ≤ y)) := ⟨_, rfl⟩
    rw [← hl]
    have hp : l.Perm (ofN V q) := by rw [hl]; exact List.mergeSort_perm _ _
    have hlen : l.length = q := by rw [hp.length_eq, ofN_length]
    have hs : l.Pairwise (fun x y => x ≤ y) := by
      rw [hl]
      have := List.pairwise_mergeSort (le := fun (x y : Int) => decide (x ≤ y)) (fun a b c h1 h2 => by simp at h1 h2 ⊢; omega) (fun a b => by simp; omega) (ofN V q)
      exact this.imp (fun h => by simpa using h)
    have hB' := Bk.putRow' (w := Go.Sort.ahead w k) hB l (by omega)
    have hsz : (Go.Sort.putRow (Value.int .i64) (Go.Sort.ahead w k) g 0 l.toArray).heap.size = w.heap.size := by simp
    refine ⟨rfl, fun i => l.getD i 0, .inr ⟨g, c, _, rfl, hlo, hqc, hcm, hB'.sameBlock (Go.Sort.heap_grow_old _ _ (by rw [hsz]; exact hB.lt)), fun i hi => by rw [if_pos (by omega)]⟩, fun i j hij hj => ?_, by rw [ofN_of_list l q hlen]; exact hp, ⟨rfl, rfl, rfl, by rw [Go.Sort.size_grow, hsz]; omega, fun b hb hx => ?_⟩⟩
    · have := List.pairwise_iff_getElem.1 hs i j (by omega) (by omega) hij
      have hi' : i < l.length := by omega
      have hj' : j < l.length := by omega
      simpa [hi', hj'] using this
    · rw [Go.Sort.heap_grow_old _ _ (by rw [hsz]; exact hb), heap_putRow _ _ _ _ (fun e => hx (by rw [e]; rfl))]
      rfl

theorem Gv.rdI {w : World} {lo : Nat} {v : Value} {n : Nat} {V : Nat → Int} (h : Gv w lo 3 v n (fun i => .int .i64 (V i))) : ∃ a c, v = .slice a n c ∧ RdI .i64 w a n V ∧ ∀ x, a = some x → v.ownBlock = some x.block := by
  rcases h with ⟨rfl, rfl⟩ | ⟨g, c, W', rfl, hlo, hqc, hcm, hB, hW⟩
  · exact ⟨none, 0, rfl, RdI.nil _ _ _, fun x hx => by cases hx⟩
  · refine ⟨_, c, rfl, ⟨fun e => (by cases e), fun x hx => ?_⟩, fun x hx => (by cases hx; rfl)⟩
    cases hx
    refine ⟨fun _ => hB.lt, fun i hi => ?_⟩
    have hadd : (⟨g, 0, none⟩ : Addr).add i = ⟨g, i, none⟩ := by unfold Addr.add; split <;> simp_all
    rw [hadd, hB.cell i (by omega), hW i hi]

/-- The circles that are laid. -/
def Cs (w : World) (B : Nat) (vo : Value) (D : List (List Int)) : Prop :=
  ∃ W : Nat → Value, Gv w B 22 vo D.length W ∧ ∀ i, i < D.length → Gv w B 3 (W i) (D.getD i []).length (fun j => .int .i64 ((D.getD i []).getD j 0)) ∧ ∀ g, (W i).ownBlock = some g → vo.ownBlock ≠ some g
theorem Cs.nil (w : World) (B : Nat) : Cs w B (.slice none 0 0) [] := ⟨fun _ => .bool false, .inl ⟨rfl, rfl⟩, fun i hi => absurd hi (Nat.not_lt_zero _)⟩
theorem Cs.keep {w w' : World} {B B' : Nat} {vo : Value} {D : List (List Int)} (h : Cs w B vo D) (hB : B' ≤ B) (hb : ∀ b, B ≤ b → b < w.heap.size → w'.heap[b]? = w.heap[b]?) : Cs w' B' vo D := by
  obtain ⟨W, h1, h2⟩ := h
  refine ⟨W, h1.keep hB (fun g hg => hb g (h1.lt g hg).1 (h1.lt g hg).2), fun i hi => ⟨(h2 i hi).1.keep hB (fun g hg => hb g ((h2 i hi).1.lt g hg).1 ((h2 i hi).1.lt g hg).2), (h2 i hi).2⟩⟩
theorem Cs.form {w : World} {B : Nat} {vo : Value} {D : List (List Int)} (h : Cs w B vo D) : ∃ a c, vo = .slice a D.length c := by
  obtain ⟨W, h1, h2⟩ := h
  exact h1.form
theorem Cs.lt {w : World} {B : Nat} {vo : Value} {D : List (List Int)} (h : Cs w B vo D) (g : Nat) (hg : vo.ownBlock = some g) : B ≤ g ∧ g < w.heap.size := by
  obtain ⟨W, h1, h2⟩ := h
  exact h1.lt g hg

theorem getD_snoc_lt {α : Type} (D : List α) (l d : α) (i : Nat) (h : i < D.length) : (D ++ [l]).getD i d = D.getD i d := by
  rw [List.getD_eq_getElem?_getD, List.getD_eq_getElem?_getD, List.getElem?_append_left h]
theorem getD_snoc_eq {α : Type} (D : List α) (l d : α) : (D ++ [l]).getD D.length d = l := by
  rw [List.getD_eq_getElem?_getD, List.getElem?_append_right (Nat.le_refl _)]
  simp
theorem own_oneCell {w : World} {lo : Nat} {e : TypeId} {v : Value} {n : Nat} {W : Nat → Value} (h : Gv w lo e v n W) : v.oneCell' = true := by
  obtain ⟨a, c, rfl⟩ := h.form
  rfl

/-- One more circle is laid. -/
theorem Cs.app {wS wr : World} {B gC : Nat} {vo vc : Value} {D : List (List Int)} {l : List Int} (h : Cs wS B vo D) (t : Ts (fun b => b = gC) wS wr) (hgC : gC < B) (hB : B ≤ wS.heap.size) (hc : Gv wr wS.heap.size 3 vc l.length (fun j => .int .i64 (l.getD j 0))) (hl : D.length ≤ 1048576) :
    ∃ g' c' w', (app #[23, 23] 23 #[vo, .slice (some ⟨wr.heap.size, 0, none⟩) 1 1]).run Try.prog (wr.alloc (.cells #[vc] 22)) = .ok (.slice (some ⟨g', 0, none⟩) (D.length + 1) c') w' ∧ Cs w' B (.slice (some ⟨g', 0, none⟩) (D.length + 1) c') (D ++ [l]) ∧ Ts (fun b => vo.ownBlock = some b) wr w' := by
  have hS := t.size
  obtain ⟨W, h1, h2⟩ := h
  have k1 : Gv wr B 22 vo D.length W := h1.keep (Nat.le_refl _) (fun g hg => t.block g (h1.lt g hg).2 (by have := (h1.lt g hg).1; omega))
  obtain ⟨g', c', w', q1, q2, q3, q4⟩ := k1.app 23 (.slice none 0 0) 24 Try.underlying23 Try.info22 rfl vc (own_oneCell hc) (by simp only [maxLen]; omega) (by omega) (by omega) (wr.alloc (.cells #[vc] 22)) rfl ⟨rfl, rfl, rfl⟩
  obtain ⟨W2, hW2⟩ : ∃ W2 : Nat → Value, W2 = fun i => if i < D.length then W i else vc := ⟨_, rfl⟩
  rw [← hW2] at q2
  refine ⟨g', c', w', q1, ⟨W2, by simpa using q2, fun i hi => ?_⟩, q3⟩
  have hi : i < D.length + 1 := by simpa using hi
  rcases Nat.lt_or_ge i D.length with hlt | hge
  · have e1 : W2 i = W i := by rw [hW2]; exact if_pos hlt
    rw [e1, getD_snoc_lt _ _ _ _ hlt]
    obtain ⟨k2, k3⟩ := h2 i hlt
    refine ⟨k2.keep (Nat.le_refl _) (fun g hg => ?_), fun g hg e => ?_⟩
    · have hgl := k2.lt g hg
      rw [q3.block g (by omega) (k3 g hg), t.block g hgl.2 (by omega)]
    · have e : some g' = some g := e
      cases e
      rcases q4 with q4 | q4
      · exact k3 _ hg q4
      · have := k2.lt _ hg; omega
  · obtain rfl : i = D.length := by omega
    have e1 : W2 D.length = vc := by rw [hW2]; exact if_neg (Nat.lt_irrefl _)
    rw [e1, getD_snoc_eq]
    refine ⟨hc.keep hB (fun g hg => ?_), fun g hg e => ?_⟩
    · have hgl := hc.lt g hg
      exact q3.block g hgl.2 (fun e => by have := h1.lt g e; omega)
    · have e : some g' = some g := e
      cases e
      have hgl := hc.lt _ hg
      rcases q4 with q4 | q4
      · have := h1.lt _ q4; omega
      · omega

def mapOf (co : Int → Option Nat) : Int → Option Value := fun k => (co k).map (fun (x : Nat) => Value.int .i64 (x : Int))
theorem mapOf_some (co : Int → Option Nat) (k : Int) : (mapOf co k).isSome = (co k).isSome := by simp [mapOf]
theorem mapOf_set (co : Int → Option Nat) (r : Int) (c : Nat) : (fun j => if j = r then some (Value.int .i64 (c : Int)) else mapOf co j) = mapOf (fun k => if k = r then some c else co k) := by
  funext j
  unfold mapOf
  by_cases e : j = r <;> simp [e]

/-- The circle at hand and the map, in memory. -/
structure Cu (wS wr : World) (gC : Nat) (v : Value) (s : Bs) : Prop where
  cur : Gv wr wS.heap.size 3 v s.cur.length (fun i => .int .i64 (s.cur.getD i 0))
  mp : ∃ m, Mi wr gC (mapOf s.co) m
  ts : Ts (fun b => b = gC) wS wr

theorem Cu.visit {wS wr : World} {gC : Nat} {v : Value} {s : Bs} (h : Cu wS wr gC v s) (hgC : gC < wS.heap.size) (c : Nat) (r : Int) (hr : (s.co r).isSome = false) (hl : s.cur.length ≤ 1048576) :
    ∃ w6 g' c' w', (Instr.mapUpdate 34 (.map (some gC)) (.int .i64 r) (.int .i64 (c : Int))).run Try.prog wr = .ok () w6 ∧ w6.heap.size = wr.heap.size ∧ (∀ b, b ≠ gC → w6.heap[b]? = wr.heap[b]?) ∧
      (app #[22, 22] 22 #[v, .slice (some ⟨wr.heap.size, 0, none⟩) 1 1]).run Try.prog (w6.alloc (.cells #[.int .i64 r] 3)) = .ok (.slice (some ⟨g', 0, none⟩) (s.cur.length + 1) c') w' ∧
      Cu wS w' gC (.slice (some ⟨g', 0, none⟩) (s.cur.length + 1) c') (visit c s r) ∧ (∀ b, b < wr.heap.size → b ≠ gC → v.ownBlock ≠ some b → w'.heap[b]? = wr.heap[b]?) ∧ (v.ownBlock = some g' ∨ wr.heap.size ≤ g') ∧ wr.heap.size ≤ w'.heap.size := by
  obtain ⟨h1, ⟨m, h2⟩, h3⟩ := h
  have hS := h3.size
  obtain ⟨w6, q1, q2, q3⟩ := h2.store' (P := Try.prog) Try.underlying34 Try.underlying3 r (.int .i64 (c : Int))
  have hsz := q3.size
  have k1 : Gv w6 wS.heap.size 3 v s.cur.length (fun i => .int .i64 (s.cur.getD i 0)) := h1.keep (Nat.le_refl _) (fun g hg => q3.block g (by have := (h1.lt g hg).1; omega))
  obtain ⟨g', c', w', p1, p2, p3, p4⟩ := k1.app 22 (.int .i64 0) 8 Try.underlying22 Try.info3 rfl (.int .i64 r) rfl (by simp only [maxLen]; omega) (by omega) (by omega) (w6.alloc (.cells #[.int .i64 r] 3)) rfl ⟨rfl, rfl, rfl⟩
  rw [hsz] at p1 p4
  have hv : Qxb6605294a.visit c s r = ⟨fun k => if k = r then some c else s.co k, s.cur ++ [r]⟩ := by
    unfold Qxb6605294a.visit
    rw [if_neg (by rw [hr]; decide)]
  have hng : ∀ b, v.ownBlock = some b → b ≠ gC := fun b hb => by have := (h1.lt b hb).1; omega
  refine ⟨w6, g', c', w', q1, hsz, fun b hb => q3.block b hb, p1, ?_, fun b hb hne hv => ?_, p4, by have := p3.size; omega⟩
  · rw [hv]
    have hmm := q2.alloc (p3.block gC (by omega) (fun e => hng _ e rfl))
    rw [mapOf_set] at hmm
    refine ⟨?_, ⟨_, hmm⟩, ?_⟩
    · show Gv w' wS.heap.size 3 _ (s.cur ++ [r]).length _
      have hlen : (s.cur ++ [r]).length = s.cur.length + 1 := by simp
      rw [hlen]
      refine p2.congr (fun i hi => ?_)
      rcases Nat.lt_or_ge i s.cur.length with hlt | hge
      · rw [if_pos hlt, getD_snoc_lt _ _ _ _ hlt]
      · obtain rfl : i = s.cur.length := by omega
        rw [if_neg (Nat.lt_irrefl _), getD_snoc_eq]
    · refine (h3.trans (Ts.ofTn q3) (fun b _ hd => hd)).trans p3 (fun b hb hd => ?_)
      have := (h1.lt b hd).1
      omega
  · rw [p3.block b (by omega) hv, q3.block b hne]

theorem Cu.start {wr : World} {gC m : Nat} {co : Int → Option Nat} (h : Mi wr gC (mapOf co) m) (c : Nat) (p : Int) :
    ∃ w6, (Instr.mapUpdate 34 (.map (some gC)) (.int .i64 p) (.int .i64 (c : Int))).run Try.prog wr = .ok () w6 ∧ w6.heap.size = wr.heap.size ∧ (∀ b, b ≠ gC → w6.heap[b]? = wr.heap[b]?) ∧ Cu wr (w6.alloc (.cells #[.int .i64 p] 3)) gC (.slice (some ⟨wr.heap.size, 0, none⟩) 1 1) (start c co p) := by
  obtain ⟨w6, q1, q2, q3⟩ := h.store' (P := Try.prog) Try.underlying34 Try.underlying3 p (.int .i64 (c : Int))
  have hg := h.lt
  have hsz := q3.size
  have hmm := q2.alloc (w' := w6.alloc (.cells #[.int .i64 p] 3)) (Below.heap_alloc _ _ _ (by omega))
  rw [mapOf_set] at hmm
  refine ⟨w6, q1, hsz, fun b hb => q3.block b hb, ?_, ⟨_, hmm⟩, ?_⟩
  · refine .inr ⟨wr.heap.size, 1, fun i => (#[.int .i64 p] : Array Value).getD i (.bool false), rfl, Nat.le_refl _, Nat.le_refl _, by decide, ?_, fun i hi => ?_⟩
    · have := Bk.new w6 #[.int .i64 p] 3
      rw [hsz] at this
      exact this
    · have hi : i < 1 := hi
      obtain rfl : i = 0 := by omega
      rfl
  · exact (Ts.ofTn q3).trans (Ts.alloc (fun b => b = gC) w6 _) (fun b _ hd => hd)

/-- With the block of the four lists at hand. -/
structure C5 (wS wr : World) (gC : Nat) (v : Value) (s : Bs) (g4 : Nat) (U : Nat → Value) : Prop where
  cu : Cu wS wr gC v s
  b4 : Bk wr g4 22 4 U
  ne : v.ownBlock ≠ some g4
  nc : g4 ≠ gC
theorem C5.visit {wS wr : World} {gC : Nat} {v : Value} {s : Bs} {g4 : Nat} {U : Nat → Value} (h : C5 wS wr gC v s g4 U) (hgC : gC < wS.heap.size) (c : Nat) (r : Int) (hr : (s.co r).isSome = false) (hl : s.cur.length ≤ 1048576) :
    ∃ w6 g' c' w', (Instr.mapUpdate 34 (.map (some gC)) (.int .i64 r) (.int .i64 (c : Int))).run Try.prog wr = .ok () w6 ∧ w6.heap.size = wr.heap.size ∧ (∀ b, b ≠ gC → w6.heap[b]? = wr.heap[b]?) ∧
      (app #[22, 22] 22 #[v, .slice (some ⟨wr.heap.size, 0, none⟩) 1 1]).run Try.prog (w6.alloc (.cells #[.int .i64 r] 3)) = .ok (.slice (some ⟨g', 0, none⟩) (s.cur.length + 1) c') w' ∧
      C5 wS w' gC (.slice (some ⟨g', 0, none⟩) (s.cur.length + 1) c') (Qxb6605294a.visit c s r) g4 U := by
  obtain ⟨w6, g', c', w', q1, q2, q3, q4, q5, q6, q7, q8⟩ := h.cu.visit hgC c r hr hl
  have h4 := h.b4.lt
  refine ⟨w6, g', c', w', q1, q2, q3, q4, q5, h.b4.sameBlock (q6 g4 h4 h.nc h.ne), fun e => ?_, h.nc⟩
  have e : some g' = some g4 := e
  cases e
  rcases q7 with q7 | q7
  · exact h.ne q7
  · omega
theorem C5.make {wS wr w4 : World} {gC : Nat} {v : Value} {s : Bs} (h : Cu wS wr gC v s) (hgC : gC < wS.heap.size) (us : Array Value) (hus : us.size = 4) (hw4 : w4.heap = (wr.alloc (.cells us 22)).heap) (ho : w4.os = wr.os ∧ w4.tape = wr.tape ∧ w4.output = wr.output) : C5 wS w4 gC v s wr.heap.size (fun i => us.getD i (.bool false)) := by
  have hS := h.ts.size
  have hk : ∀ b, b < wr.heap.size → w4.heap[b]? = wr.heap[b]? := fun b hb => by rw [hw4]; exact Below.heap_alloc _ _ _ hb
  obtain ⟨m, hm⟩ := h.mp
  refine ⟨⟨h.cur.keep (Nat.le_refl _) (fun g hg => hk g (h.cur.lt g hg).2), ⟨m, hm.alloc (hk _ hm.lt)⟩, ⟨ho.1.trans h.ts.os, ho.2.1.trans h.ts.tape, ho.2.2.trans h.ts.output, by rw [hw4]; simp; omega, fun b hb hd => by rw [hk b (by omega), h.ts.block b hb hd]⟩⟩, ?_, fun e => by have := (h.cur.lt _ e).2; omega, by omega⟩
  have := Bk.new wr us 22
  rw [hus] at this
  exact this.sameBlock (by rw [hw4])
theorem C5.back {wS wr : World} {gC : Nat} {v : Value} {s : Bs} {g4 : Nat} {U : Nat → Value} (h : C5 wS wr gC v s g4 U) : Cu wS wr gC v s := h.cu
theorem Cu.same {wS wr w4 : World} {gC : Nat} {v : Value} {s : Bs} (h : Cu wS wr gC v s) (hw4 : w4.heap = wr.heap) (ho : w4.os = wr.os ∧ w4.tape = wr.tape ∧ w4.output = wr.output) : Cu wS w4 gC v s := by
  obtain ⟨m, hm⟩ := h.mp
  exact ⟨h.cur.keep (Nat.le_refl _) (fun g hg => by rw [hw4]), ⟨m, hm.alloc (by rw [hw4])⟩, ⟨ho.1.trans h.ts.os, ho.2.1.trans h.ts.tape, ho.2.2.trans h.ts.output, by rw [hw4]; exact h.ts.size, fun b hb hd => by rw [hw4]; exact h.ts.block b hb hd⟩⟩

/-- What the search reads of the family. -/
structure Kx (w : World) (F gM gC n : Nat) (Per : Int → Prop) (f : Int → Option Value) (kl : Int → Nat → List Int) : Prop where
  mp : Mi w gM f n
  gM : gM ≠ F ∧ gM ≠ gC
  look : ∀ p, Per p → ∃ (g : Nat) (a : Nat → Option Addr) (M N : Nat → Nat) (V : Nat → Nat → Int), f p = some (.pointer (some ⟨g, 0, none⟩)) ∧ Bk w g 88 4 (fun k => .slice (a k) (M k) (N k)) ∧ g ≠ F ∧ g ≠ gC ∧
    ∀ k, k < 4 → RdI .i64 w (a k) (M k) (V k) ∧ ofN (V k) (M k) = kl p k ∧ M k ≤ 1048576 ∧ ∀ x, a k = some x → x.block ≠ F ∧ x.block ≠ gC ∧ x.block < w.heap.size
theorem Kx.keep {w w' : World} {F gM gC n : Nat} {Per : Int → Prop} {f : Int → Option Value} {kl : Int → Nat → List Int} (h : Kx w F gM gC n Per f kl) (t : Ts (fun b => b = F ∨ b = gC) w w') : Kx w' F gM gC n Per f kl := by
  have hs := t.size
  refine ⟨h.mp.alloc (t.block _ h.mp.lt (by have := h.gM; omega)), h.gM, fun p hp => ?_⟩
  obtain ⟨g, a, M, N, V, h1, h2, h3, h4, h5⟩ := h.look p hp
  refine ⟨g, a, M, N, V, h1, h2.sameBlock (t.block _ h2.lt (by omega)), h3, h4, fun k hk => ?_⟩
  obtain ⟨q1, q2, q3, q4⟩ := h5 k hk
  refine ⟨q1.keep hs (fun x hx _ => ?_), q2, q3, fun x hx => ⟨(q4 x hx).1, (q4 x hx).2.1, by have := (q4 x hx).2.2; omega⟩⟩
  obtain ⟨k1, k2, k3⟩ := q4 x hx
  exact t.block _ k3 (by omega)

/-- The search between two circles. -/
structure R3 (w3 wr : World) (F gM gC : Nat) (vo : Value) (b : Bf) : Prop where
  ff : Bk wr F 85 3 (fun k => (#[.map (some gM), vo, .map (some gC)] : Array Value).getD k (.bool false))
  cs : Cs wr w3.heap.size vo b.done
  mp : ∃ m, Mi wr gC (mapOf b.co) m
  ts : Ts (fun b => b = F ∨ b = gC) w3 wr

theorem R3.next {w3 wS wr w7 : World} {F gM gC : Nat} {vo vo' : Value} {b : Bf} {v : Value} {s : Bs} (h : R3 w3 wS F gM gC vo b) (hF : F < w3.heap.size) (hgC : gC < w3.heap.size) (hne : F ≠ gC) (hc : Cu wS wr gC v s) (t : Ts (fun b => vo.ownBlock = some b) wr w7) (hcs : Cs w7 w3.heap.size vo' (b.done ++ [s.cur])) : R3 w3 (w7.setCell ⟨F, 1, none⟩ vo') F gM gC vo' ⟨b.done ++ [s.cur], s.co⟩ := by
  have h1 := h.ts.size
  have h2 := hc.ts.size
  have h3 := t.size
  have hvo : ∀ g, vo.ownBlock = some g → w3.heap.size ≤ g := fun g hg => (h.cs.lt g hg).1
  have hsz : (w7.setCell ⟨F, 1, none⟩ vo').heap.size = w7.heap.size := by simp [World.setCell]
  have hF7 : Bk w7 F 85 3 (fun k => (#[.map (some gM), vo, .map (some gC)] : Array Value).getD k (.bool false)) := by
    refine h.ff.sameBlock ?_
    rw [t.block F (by omega) (fun e => by have := hvo _ e; omega), hc.ts.block F (by omega) hne]
  refine ⟨(hF7.set 1 (by omega) vo').congr (fun i hi => ?_), hcs.keep (Nat.le_refl _) (fun g hg _ => Below.heap_setCell _ _ _ _ (by show g ≠ F; omega)), ?_, ?_⟩
  · have : i = 0 ∨ i = 1 ∨ i = 2 := by omega
    rcases this with rfl | rfl | rfl <;> rfl
  · obtain ⟨m, hm⟩ := hc.mp
    refine ⟨m, hm.alloc ?_⟩
    rw [Below.heap_setCell _ _ _ _ (fun e => hne e.symm), t.block gC (by omega) (fun e => by have := hvo _ e; omega)]
  · refine ((h.ts.trans hc.ts (fun b _ hd => .inr hd)).trans t (fun b hb hd => ?_)).trans (Ts.set w7 ⟨F, 1, none⟩ vo') (fun b _ hd => .inl hd)
    have := hvo _ hd
    omega
end Go.Proofs.Qxb6605294a
