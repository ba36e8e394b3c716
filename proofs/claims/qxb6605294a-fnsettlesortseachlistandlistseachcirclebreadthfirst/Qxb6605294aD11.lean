/-
  Seat b6605294a. THE STATE OF settle's FIRST LOOPS.
-/
import Derived.Test.Qxb6605294aD10
set_option linter.unusedVariables false
set_option linter.unusedSimpArgs false
namespace Go.Proofs.Qxb6605294a
open Go.RowKit

/-- Where the blocks of a family lie. -/
structure Sc (lo hi F gM n : Nat) (gk : Nat → Nat) (A : Nat → Nat → Option Addr) : Prop where
  lists : ∀ k j x, k < 4 → j < n → A k j = some x → lo ≤ x.block ∧ x.block < gM
  apart : ∀ k j k' j' x y, k < 4 → j < n → k' < 4 → j' < n → (k ≠ k' ∨ j ≠ j') → A k j = some x → A k' j' = some y → x.block ≠ y.block
  gF : lo ≤ gM ∧ gM < F ∧ F < hi
  gkh : ∀ j, j < n → F < gk j ∧ gk j < hi
  gkA : ∀ j j', j < n → j' < n → j ≠ j' → gk j ≠ gk j'

/-- One list: v is its slice, within N cells at A; it holds what Z holds. -/
def Kl (w : World) (lo : Nat) (A : Option Addr) (N : Nat) (v : Value) (Z : Nat → Int) (done : Prop) : Prop :=
  ∃ M V, v = .slice A M N ∧ M ≤ N ∧ Cn w lo A N V ∧ (∀ x, x ∈ ofN V M ↔ x ∈ ofN Z N) ∧ (done → ∀ i j, i < j → j < M → V i < V j) ∧ (¬ done → M = N)
def K1 (w : World) (lo n : Nat) (gk : Nat → Nat) (A : Nat → Nat → Option Addr) (N : Nat → Nat → Nat) (Z : Nat → Nat → Nat → Int) (dn : Nat → Nat → Prop) : Prop :=
  ∃ U : Nat → Nat → Value, (∀ j, j < n → Bk w (gk j) 88 4 (fun k => U k j)) ∧ ∀ j k, j < n → k < 4 → Kl w lo (A k j) (N k j) (U k j) (Z k j) (dn k j)

section
variable {lo hi F gM n : Nat} {gk : Nat → Nat} {A : Nat → Nat → Option Addr} {N : Nat → Nat → Nat} {Z : Nat → Nat → Nat → Int} {dn dn' : Nat → Nat → Prop}

theorem K1.keep {w w' : World} (h : K1 w lo n gk A N Z dn) (s : Sc lo hi F gM n gk A) (hs : w.heap.size ≤ w'.heap.size) (hb : ∀ b, lo ≤ b → b < hi → w'.heap[b]? = w.heap[b]?) : K1 w' lo n gk A N Z dn := by
  obtain ⟨U, h1, h2⟩ := h
  refine ⟨U, fun j hj => (h1 j hj).sameBlock (hb _ (by have := s.gF; have := s.gkh j hj; omega) (s.gkh j hj).2), fun j k hj hk => ?_⟩
  obtain ⟨M, V, q1, q2, q3, q4, q5⟩ := h2 j k hj hk
  exact ⟨M, V, q1, q2, q3.keep (Nat.le_refl _) hs (fun x hx => hb _ (s.lists k j x hk hj hx).1 (by have := s.gF; have := (s.lists k j x hk hj hx).2; omega)), q4, q5⟩

/-- A list that is not yet done. -/
theorem K1.get {w : World} (h : K1 w lo n gk A N Z dn) {j k : Nat} (hj : j < n) (hk : k < 4) (hd : ¬ dn k j) :
    w.cell? ⟨gk j, k, none⟩ = some (.slice (A k j) (N k j) (N k j)) ∧ ∃ V, Cn w lo (A k j) (N k j) V ∧ ∀ x, x ∈ ofN V (N k j) ↔ x ∈ ofN (Z k j) (N k j) := by
  obtain ⟨U, h1, h2⟩ := h
  obtain ⟨M, V, q1, q2, q3, q4, q5, q6⟩ := h2 j k hj hk
  obtain rfl := q6 hd
  exact ⟨by rw [(h1 j hj).cell k hk]; exact congrArg some q1, V, q3, q4⟩

/-- It is sorted, compacted and laid back. -/
theorem K1.one {w w2 : World} (h : K1 w lo n gk A N Z dn) (s : Sc lo hi F gM n gk A) {j k : Nat} (hj : j < n) (hk : k < 4) (t : Tg (A k j) w w2) {M : Nat} {V : Nat → Int} (hM : M ≤ N k j) (hC : Cn w2 lo (A k j) (N k j) V) (hst : ∀ a b, a < b → b < M → V a < V b) (hm : ∀ x, x ∈ ofN V M ↔ x ∈ ofN (Z k j) (N k j))
    (hdn : ∀ k' j', dn' k' j' ↔ dn k' j' ∨ (k' = k ∧ j' = j)) : K1 (w2.setCell ⟨gk j, k, none⟩ (.slice (A k j) M (N k j))) lo n gk A N Z dn' := by
  obtain ⟨U, h1, h2⟩ := h
  have hsz : (w2.setCell ⟨gk j, k, none⟩ (.slice (A k j) M (N k j))).heap.size = w2.heap.size := by simp [World.setCell]
  have hgkA : ∀ j', j' < n → ∀ x, A k j = some x → gk j' ≠ x.block := fun j' hj' x hx => by
    have := (s.lists k j x hk hj hx).2; have := (s.gkh j' hj').1; have := s.gF; omega
  have hBk : ∀ j', j' < n → Bk w2 (gk j') 88 4 (fun k => U k j') := fun j' hj' => (h1 j' hj').sameBlock (t.block _ (h1 j' hj').lt (hgkA j' hj'))
  refine ⟨fun k' j' => if k' = k ∧ j' = j then .slice (A k j) M (N k j) else U k' j', fun j' hj' => ?_, fun j' k' hj' hk' => ?_⟩
  · by_cases e : j' = j
    · subst e
      refine ((hBk j' hj').set k hk _).congr (fun i hi => ?_)
      by_cases e2 : i = k
      · simp [e2]
      · simp [e2]
    · refine ((hBk j' hj').other _ (s.gkA j' j hj' hj e) _).congr (fun i hi => ?_)
      simp [e]
  · by_cases e : k' = k ∧ j' = j
    · obtain ⟨rfl, rfl⟩ := e
      refine ⟨M, V, by simp, hM, hC.keep (Nat.le_refl _) (by rw [hsz]; exact Nat.le_refl _) (fun x hx => Below.heap_setCell _ _ _ _ (fun e => hgkA j' hj' x hx e.symm)), hm, fun _ => hst, fun hnd => absurd ((hdn _ _).2 (.inr ⟨rfl, rfl⟩)) hnd⟩
    · obtain ⟨M', V', q1, q2, q3, q4, q5, q6⟩ := h2 j' k' hj' hk'
      have hdd : dn' k' j' ↔ dn k' j' := by rw [hdn]; exact ⟨fun h => h.resolve_right e, .inl⟩
      refine ⟨M', V', by show (if k' = k ∧ j' = j then _ else _) = _; rw [if_neg e]; exact q1, q2, ?_, q4, fun hd => q5 (hdd.1 hd), fun hd => q6 (fun h => hd (hdd.2 h))⟩
      refine q3.keep (Nat.le_refl _) (by rw [hsz]; exact t.size) (fun x hx => ?_)
      have hx2 := s.lists k' j' x hk' hj' hx
      rw [Below.heap_setCell _ _ _ _ (by show x.block ≠ gk j; have := (s.gkh j hj).1; have := s.gF; omega)]
      exact t.block _ (q3.blk x hx).2 (fun y hy => s.apart k' j' k j x y hk' hj' hk hj (by by_cases e1 : k' = k
                                                                                           · exact .inr (fun e2 => e ⟨e1, e2⟩)
                                                                                           · exact .inl e1) hx hy)

/-- All that settle's first loops carry. -/
structure P1 (w0 : World) (lo hi F gM n : Nat) (gk : Nat → Nat) (A : Nat → Nat → Option Addr) (N : Nat → Nat → Nat) (Z : Nat → Nat → Nat → Int) (r : Nat) (es : Array MapEntry) (clock : Nat) (v2 : Value) (q : Nat) (V : Nat → Int) (dn : Nat → Nat → Prop) (vis : List MapEntry) (w : World) : Prop where
  it : Itr w r gM es clock vis
  own : Gv w w0.heap.size 3 v2 q (fun i => .int .i64 (V i))
  ne : v2.ownBlock ≠ some r
  k1 : K1 w lo n gk A N Z dn
  ff : Bk w F 85 3 (fun k => (#[.map (some gM), .slice none 0 0, .map none] : Array Value).getD k (.bool false))
  ts : Ts (fun b => lo ≤ b ∧ b < hi) w0 w
  rr : w0.heap.size ≤ r ∧ r < w.heap.size
  hh : hi ≤ w0.heap.size

variable {D : Nat → Prop} {w0 w w' : World} {r : Nat} {es : Array MapEntry} {clock : Nat} {v2 v2' : Value} {q q' : Nat} {V V' : Nat → Int} {vis vis' : List MapEntry}

theorem P1.turn (h : P1 w0 lo hi F gM n gk A N Z r es clock v2 q V dn vis w) (s : Sc lo hi F gM n gk A) (t : Ts D w w') (hD : ∀ b, D b → w0.heap.size ≤ b) (hi' : Itr w' r gM es clock vis') (ho : Gv w' w0.heap.size 3 v2' q' (fun i => .int .i64 (V' i))) (hne : v2'.ownBlock ≠ some r) :
    P1 w0 lo hi F gM n gk A N Z r es clock v2' q' V' dn vis' w' := by
  have hsz := h.ts.size
  have hhh := h.hh
  have hb : ∀ b, b < hi → w'.heap[b]? = w.heap[b]? := fun b hb => t.block b (by omega) (fun hd => by have := hD b hd; omega)
  exact ⟨hi', ho, hne, h.k1.keep s t.size (fun b _ h2 => hb b h2), h.ff.sameBlock (hb _ s.gF.2.2), h.ts.trans t (fun b hb hd => by have := hD b hd; omega), ⟨h.rr.1, Nat.lt_of_lt_of_le h.rr.2 t.size⟩, h.hh⟩

theorem P1.quiet (h : P1 w0 lo hi F gM n gk A N Z r es clock v2 q V dn vis w) (s : Sc lo hi F gM n gk A) (t : Ts (fun _ => False) w w') : P1 w0 lo hi F gM n gk A N Z r es clock v2 q V dn vis w' := by
  have hsz := h.ts.size
  have hhh := h.hh
  have hgF := s.gF
  exact h.turn s t (fun b hd => hd.elim) (h.it.keep (t.block _ h.rr.2 id) (t.block _ (by omega) id)) (h.own.keep (Nat.le_refl _) (fun g hg => t.block _ (h.own.lt g hg).2 id)) h.ne

theorem P1.step (h : P1 w0 lo hi F gM n gk A N Z r es clock v2 q V dn vis w) (s : Sc lo hi F gM n gk A) (hi' : Itr w' r gM es clock vis') (t : Ts (fun b => b = r) w w') : P1 w0 lo hi F gM n gk A N Z r es clock v2 q V dn vis' w' := by
  have := h.rr
  exact h.turn s t (fun b hd => by omega) hi' (h.own.keep (Nat.le_refl _) (fun g hg => t.block _ (h.own.lt g hg).2 (fun e => h.ne (by rw [hg, e])))) h.ne

theorem P1.grow (h : P1 w0 lo hi F gM n gk A N Z r es clock v2 q V dn vis w) (s : Sc lo hi F gM n gk A) {g' c' : Nat} (ho : Gv w' w0.heap.size 3 (.slice (some ⟨g', 0, none⟩) q' c') q' (fun i => .int .i64 (V' i))) (t : Ts (fun b => v2.ownBlock = some b) w w') (hg : v2.ownBlock = some g' ∨ w.heap.size ≤ g') :
    P1 w0 lo hi F gM n gk A N Z r es clock (.slice (some ⟨g', 0, none⟩) q' c') q' V' dn vis w' := by
  have hsz := h.ts.size
  have hhh := h.hh
  have hgF := s.gF
  have hrr := h.rr
  refine h.turn s t (fun b hd => (h.own.lt b hd).1) (h.it.keep (t.block _ h.rr.2 h.ne) (t.block _ (by omega) (fun e => by have := (h.own.lt _ e).1; omega))) ho (fun e => ?_)
  have e : some g' = some r := e
  cases e
  rcases hg with hg | hg
  · exact h.ne hg
  · omega

theorem P1.done1 (h : P1 w0 lo hi F gM n gk A N Z r es clock v2 q V dn vis w) (s : Sc lo hi F gM n gk A) {j k : Nat} (hj : j < n) (hk : k < 4) {w2 : World} (t : Tg (A k j) w w2) {M : Nat} {V1 : Nat → Int} (hM : M ≤ N k j) (hC : Cn w2 lo (A k j) (N k j) V1) (hst : ∀ a b, a < b → b < M → V1 a < V1 b) (hm : ∀ x, x ∈ ofN V1 M ↔ x ∈ ofN (Z k j) (N k j))
    (hdn : ∀ k' j', dn' k' j' ↔ dn k' j' ∨ (k' = k ∧ j' = j)) : P1 w0 lo hi F gM n gk A N Z r es clock v2 q V dn' vis (w2.setCell ⟨gk j, k, none⟩ (.slice (A k j) M (N k j))) := by
  have hsz := h.ts.size
  have hhh := h.hh
  have hgF := s.gF
  have hrr := h.rr
  have hgk := s.gkh j hj
  have hlt : ∀ x, A k j = some x → lo ≤ x.block ∧ x.block < gM := fun x hx => s.lists k j x hk hj hx
  have hb : ∀ b, b < w.heap.size → (b < lo ∨ gM ≤ b) → b ≠ gk j → (w2.setCell ⟨gk j, k, none⟩ (.slice (A k j) M (N k j))).heap[b]? = w.heap[b]? := fun b h1 h2 h3 => by
    rw [Below.heap_setCell _ _ _ _ h3]
    exact t.block b h1 (fun x hx => by have := hlt x hx; omega)
  have hs2 : (w2.setCell ⟨gk j, k, none⟩ (.slice (A k j) M (N k j))).heap.size = w2.heap.size := by simp [World.setCell]
  have t2 : Ts (fun b => lo ≤ b ∧ b < hi) w (w2.setCell ⟨gk j, k, none⟩ (.slice (A k j) M (N k j))) := ⟨t.os, t.tape, t.output, by rw [hs2]; exact t.size, fun b hb1 hd => hb b hb1 (by omega) (by omega)⟩
  exact ⟨h.it.keep (hb _ hrr.2 (by omega) (by omega)) (hb _ (by omega) (by omega) (by omega)), h.own.keep (Nat.le_refl _) (fun g hg => by have := h.own.lt g hg; exact hb g this.2 (by omega) (by omega)), h.ne, h.k1.one s hj hk t hM hC hst hm hdn, h.ff.sameBlock (hb _ (by omega) (by omega) (by omega)), h.ts.trans t2 (fun b _ hd => hd), ⟨hrr.1, by rw [hs2]; exact Nat.lt_of_lt_of_le hrr.2 t.size⟩, hhh⟩
theorem P1.same (h : P1 w0 lo hi F gM n gk A N Z r es clock v2 q V dn vis w) (hd : ∀ k j, k < 4 → j < n → (dn' k j ↔ dn k j)) : P1 w0 lo hi F gM n gk A N Z r es clock v2 q V dn' vis w := by
  obtain ⟨U, h1, h2⟩ := h.k1
  refine ⟨h.it, h.own, h.ne, ⟨U, h1, fun j k hj hk => ?_⟩, h.ff, h.ts, h.rr, h.hh⟩
  obtain ⟨M, V, q1, q2, q3, q4, q5, q6⟩ := h2 j k hj hk
  exact ⟨M, V, q1, q2, q3, q4, fun x => q5 ((hd k j hk hj).1 x), fun x => q6 (fun y => x ((hd k j hk hj).2 y))⟩
end
end Go.Proofs.Qxb6605294a
