/-
  Seat b6605294a. FRAMES, A SLICE THAT GROWS, A MAP THAT IS RANGED OVER.
-/
import Derived.Test.Qxb6605294aD9
import Derived.Maps.AppendAt
set_option linter.unusedVariables false
set_option linter.unusedSimpArgs false
namespace Go.Proofs.Qxb6605294a
open Go.RowKit
open Go.ChangeMaps (setBlock)

theorem hide {p : Prop} (h : p) : Hid p := h

/-- Of what was there only blocks that D names may have turned. -/
structure Ts (D : Nat → Prop) (w w' : World) : Prop where
  os : w'.os = w.os
  tape : w'.tape = w.tape
  output : w'.output = w.output
  size : w.heap.size ≤ w'.heap.size
  block : ∀ b, b < w.heap.size → ¬ D b → w'.heap[b]? = w.heap[b]?
theorem Ts.refl (D : Nat → Prop) (w : World) : Ts D w w := ⟨rfl, rfl, rfl, Nat.le_refl _, fun _ _ _ => rfl⟩
theorem Ts.trans {D D' : Nat → Prop} {w w1 w2 : World} (h : Ts D w w1) (h' : Ts D' w1 w2) (hd : ∀ b, b < w.heap.size → D' b → D b) : Ts D w w2 :=
  ⟨h'.os.trans h.os, h'.tape.trans h.tape, h'.output.trans h.output, Nat.le_trans h.size h'.size, fun b hb hx => (h'.block b (Nat.lt_of_lt_of_le hb h.size) (fun hn => hx (hd b hb hn))).trans (h.block b hb hx)⟩
theorem Ts.mono {D D' : Nat → Prop} {w w1 : World} (h : Ts D w w1) (hd : ∀ b, b < w.heap.size → D b → D' b) : Ts D' w w1 :=
  ⟨h.os, h.tape, h.output, h.size, fun b hb hx => h.block b hb (fun hn => hx (hd b hb hn))⟩
theorem Ts.alloc (D : Nat → Prop) (w : World) (o : Obj) : Ts D w (w.alloc o) := ⟨rfl, rfl, rfl, by simp, fun b hb _ => Below.heap_alloc _ _ _ hb⟩
theorem Ts.drew (D : Nat → Prop) (w : World) : Ts D w w.drew := ⟨rfl, rfl, rfl, Nat.le_refl _, fun b hb _ => rfl⟩
theorem Ts.drewN (D : Nat → Prop) (w : World) (q : Nat) : Ts D w (w.drewN q) := ⟨rfl, rfl, rfl, Nat.le_refl _, fun b hb _ => rfl⟩
theorem Ts.set (w : World) (p : Addr) (u : Value) : Ts (fun b => b = p.block) w (w.setCell p u) := ⟨rfl, rfl, rfl, by simp [World.setCell], fun b hb hx => Below.heap_setCell _ _ _ _ hx⟩
theorem Ts.ofTg {A : Option Addr} {w w' : World} (h : Tg A w w') : Ts (fun b => ∃ x, A = some x ∧ x.block = b) w w' :=
  ⟨h.os, h.tape, h.output, h.size, fun b hb hx => h.block b hb (fun x hxx e => hx ⟨x, hxx, e.symm⟩)⟩
theorem Ts.ofTn {g : Nat} {w w' : World} (h : Tn g w w') : Ts (fun b => b = g) w w' :=
  ⟨h.os, h.tape, h.output, by rw [h.size]; exact Nat.le_refl _, fun b hb hx => h.block b hx⟩
theorem Ts.ofBelow {w w' : World} (h : Below w.heap.size w w') (D : Nat → Prop) : Ts D w w' :=
  ⟨h.os, h.tape, h.output, h.size, fun b hb _ => h.block b hb⟩

/-- append under a name that the walk does not lay open. -/
def app (ats : Array TypeId) (ty : TypeId) (args : Array Value) : Sem Value := Builtin.append_ ats ty args
theorem builtin_app {ats : Array TypeId} {ty : TypeId} {cs : Array Bool} {args : Array Value} : builtin .append ats ty cs args = (do pure (.value (← app ats ty args))) := rfl

/-- A slice of one's own that grows: elements of one cell. -/
def Gv (w : World) (lo : Nat) (e : TypeId) (v : Value) (n : Nat) (W : Nat → Value) : Prop :=
  (v = .slice none 0 0 ∧ n = 0) ∨ ∃ g c W', v = .slice (some ⟨g, 0, none⟩) n c ∧ lo ≤ g ∧ n ≤ c ∧ c ≤ maxLen ∧ Bk w g e c W' ∧ ∀ i, i < n → W' i = W i
theorem Gv.keep {w w' : World} {lo lo' : Nat} {e : TypeId} {v : Value} {n : Nat} {W : Nat → Value} (h : Gv w lo e v n W) (hl : lo' ≤ lo) (hb : ∀ g, v.ownBlock = some g → w'.heap[g]? = w.heap[g]?) : Gv w' lo' e v n W := by
  rcases h with h | ⟨g, c, W', rfl, h2, h3, h4, h5, h6⟩
  · exact .inl h
  · exact .inr ⟨g, c, W', rfl, by omega, h3, h4, h5.sameBlock (hb g rfl), h6⟩
theorem Gv.lt {w : World} {lo : Nat} {e : TypeId} {v : Value} {n : Nat} {W : Nat → Value} (h : Gv w lo e v n W) (g : Nat) (hg : v.ownBlock = some g) : lo ≤ g ∧ g < w.heap.size := by
  rcases h with ⟨rfl, _⟩ | ⟨g', c, W', rfl, h2, h3, h4, h5, h6⟩
  · cases hg
  · cases hg; exact ⟨h2, h5.lt⟩
theorem Gv.form {w : World} {lo : Nat} {e : TypeId} {v : Value} {n : Nat} {W : Nat → Value} (h : Gv w lo e v n W) : ∃ a c, v = .slice a n c := by
  rcases h with ⟨rfl, rfl⟩ | ⟨g', c, W', rfl, h2, h3, h4, h5, h6⟩
  · exact ⟨_, _, rfl⟩
  · exact ⟨_, _, rfl⟩
theorem Gv.congr {w : World} {lo : Nat} {e : TypeId} {v : Value} {n : Nat} {W W2 : Nat → Value} (h : Gv w lo e v n W) (hv : ∀ i, i < n → W2 i = W i) : Gv w lo e v n W2 := by
  rcases h with h | ⟨g', c, W', rfl, h2, h3, h4, h5, h6⟩
  · exact .inl h
  · exact .inr ⟨g', c, W', rfl, h2, h3, h4, h5, fun i hi => by rw [h6 i hi, hv i hi]⟩
theorem Gv.owns {w : World} {lo : Nat} {e : TypeId} {v : Value} {n : Nat} {W : Nat → Value} (h : Gv w lo e v n W) : w.ownsRow lo e 1 v n ((List.range n).map W) := by
  refine ⟨by simp, ?_⟩
  rcases h with ⟨h1, h2⟩ | ⟨g, c, W', h1, h2, h3, h4, ⟨cur, k1, k2, k3⟩, h6⟩
  · exact .inl ⟨h1, h2⟩
  · refine .inr ⟨g, c, cur, h1, h2, k1, h3, h4, by omega, ?_⟩
    apply List.ext_getElem
    · simp; omega
    · intro i hi1 hi2
      have hi : i < n := by simpa using hi2
      have e1 := k3 i (by omega)
      have hic : i < cur.size := by omega
      rw [Array.getElem?_eq_getElem hic] at e1
      simp at e1
      simp [e1, h6 i hi]
theorem Gv.ofOwns {w : World} {lo : Nat} {e : TypeId} {v : Value} {n : Nat} {xs : List Value} {W : Nat → Value} (h : w.ownsRow lo e 1 v n xs) (hV : ∀ i, i < n → xs[i]? = some (W i)) : Gv w lo e v n W := by
  obtain ⟨h1, h2⟩ := h
  rcases h2 with ⟨rfl, hn⟩ | ⟨g, cap, cur, rfl, k0, k1, k2, k3, k4, k5⟩
  · exact .inl ⟨rfl, hn⟩
  · refine .inr ⟨g, cap, fun i => cur.getD i (.bool false), rfl, k0, k2, k3, ⟨cur, k1, by omega, fun i hi => ?_⟩, fun i hi => ?_⟩
    · have : i < cur.size := by omega
      simp [Array.getD, this]
    · have e1 := hV i hi
      rw [← k5] at e1
      have hic : i < cur.size := by omega
      rw [List.getElem?_take] at e1
      rw [if_pos (by omega)] at e1
      rw [Array.getElem?_toList, Array.getElem?_eq_getElem hic] at e1
      simp at e1
      simp [Array.getD, hic, e1]
theorem info_parts {P : Program} {e : TypeId} {z : Option Value} {size bytes : Nat} (h : (P.info? e).map (fun i => (i.zero, i.size, i.bytes)) = some (z, size, bytes)) : ∃ i, P.info? e = some i ∧ i.zero = z ∧ i.size = size ∧ i.bytes = bytes := by
  cases hi : P.info? e with
  | none => rw [hi] at h; simp at h
  | some i => rw [hi] at h; simp at h; exact ⟨i, rfl, h.1, h.2.1, h.2.2⟩

/-- 'append' of one element that has just been laid. -/
theorem Gv.app {wr : World} {lo : Nat} {e : TypeId} {v : Value} {n : Nat} {W : Nat → Value} (h : Gv wr lo e v n W) (T : TypeId) (z : Value) (bytes : Nat) (ht : Try.prog.underlying T = some (.slice e)) (hinfo : (Try.prog.info? e).map (fun i => (i.zero, i.size, i.bytes)) = some (some z, 1, bytes)) (hzs : z.cells.size = 1)
    (u : Value) (h1 : u.oneCell' = true) (h63 : n + 1 ≤ maxLen) (hb : (n + 1) * bytes ≤ 140737488355328) (hlo : lo ≤ wr.heap.size) (X : World) (hX : X.heap = (wr.alloc (.cells #[u] e)).heap) (hos : X.os = wr.os ∧ X.tape = wr.tape ∧ X.output = wr.output) :
    ∃ g' c' w', (app #[T, T] T #[v, .slice (some ⟨wr.heap.size, 0, none⟩) 1 1]).run Try.prog X = .ok (.slice (some ⟨g', 0, none⟩) (n + 1) c') w' ∧ Gv w' lo e (.slice (some ⟨g', 0, none⟩) (n + 1) c') (n + 1) (fun i => if i < n then W i else u) ∧
      Ts (fun b => v.ownBlock = some b) wr w' ∧ (v.ownBlock = some g' ∨ wr.heap.size ≤ g') := by
  obtain ⟨i0, hi, hz0, hz1, hz2⟩ := info_parts hinfo
  have hkeep : ∀ b, b < wr.heap.size → X.heap[b]? = wr.heap[b]? := fun b hb => by rw [hX]; exact Below.heap_alloc _ _ _ hb
  have hown : X.ownsRow lo e 1 v n ((List.range n).map W) := (h.keep (Nat.le_refl _) (fun g hg => hkeep g (h.lt g hg).2)).owns
  have hbk : X.heap[wr.heap.size]? = some (.cells #[u] e) := by rw [hX]; exact heap_alloc_new wr _
  have hXs : X.heap.size = wr.heap.size + 1 := by rw [hX]; simp
  obtain ⟨v', w', hr, q1, q2, _, q3⟩ := run_append_own_at (P := Try.prog) X lo T T e i0 z 1 bytes ht hi hz0 hz1 hz2 hzs (by omega) v n _ hown ⟨wr.heap.size, 0, none⟩ 1 1 [u] rfl (fun j x hj => by
      have hadd : (⟨wr.heap.size, 0, none⟩ : Addr).add j = ⟨wr.heap.size, j, none⟩ := by unfold Addr.add; split <;> simp_all
      rw [hadd]
      simp only [World.cell?, hbk]
      simpa using hj) (by simpa using h1) h63 hb (by omega)
  have hG : Gv w' lo e v' (n + 1) (fun i => if i < n then W i else u) := Gv.ofOwns q1 (fun i hi => by
    rcases Nat.lt_or_ge i n with h2 | h2
    · rw [if_pos h2, List.getElem?_append_left (by simpa using h2)]
      simp [h2]
    · obtain rfl : i = n := by omega
      rw [if_neg (Nat.lt_irrefl _), List.getElem?_append_right (by simp)]
      simp)
  have hG2 := hG
  rcases hG2 with ⟨_, h0⟩ | ⟨g', c', W', rfl, _⟩
  · omega
  · refine ⟨g', c', w', hr, hG, ⟨q2.os.trans hos.1, q2.tape.trans hos.2.1, q2.output.trans hos.2.2, by have := q2.size; omega, fun b hb hd => ?_⟩, ?_⟩
    · rw [q2.block b (by omega) (fun hq => hd hq.symm), hkeep b hb]
    · rcases q3 with q3 | q3
      · exact .inl q3.symm
      · right
        have : some g' = some X.heap.size := q3
        cases this
        omega

/-- The map in block gM is ranged over by the iterator in block r: the entries in vis have come. -/
def Itr (w : World) (r gM : Nat) (es : Array MapEntry) (clock : Nat) (vis : List MapEntry) : Prop :=
  ∃ seen, w.heap[r]? = some (.mapIter (some gM) clock seen clock) ∧ w.heap[gM]? = some (.map es clock) ∧ seen.toList = vis.map (·.born)
theorem Itr.keep {w w' : World} {r gM : Nat} {es : Array MapEntry} {clock : Nat} {vis : List MapEntry} (h : Itr w r gM es clock vis) (hr : w'.heap[r]? = w.heap[r]?) (hg : w'.heap[gM]? = w.heap[gM]?) : Itr w' r gM es clock vis := by
  obtain ⟨seen, h1, h2, h3⟩ := h
  exact ⟨seen, by rw [hr]; exact h1, by rw [hg]; exact h2, h3⟩
theorem Itr.next {w : World} {r gM : Nat} {es : Array MapEntry} {clock : Nat} {vis : List MapEntry} (h : Itr w r gM es clock vis) (hne : r ≠ gM) (hold : ∀ x ∈ es.toList, x.born < clock) (hn : (es.toList.map (·.born)).Nodup) (ty : TypeId) :
    ((∀ e ∈ es.toList, ∃ e' ∈ vis, e'.born = e.born) ∧ (Instr.next (.pointer (some ⟨r, 0, none⟩)) false ty).run Try.prog w = .ok (.tuple #[.bool false]) w) ∨
    ∃ e ∈ es.toList, e.born ∉ vis.map (·.born) ∧ ∃ w', (Instr.next (.pointer (some ⟨r, 0, none⟩)) false ty).run Try.prog w = .ok (.tuple #[.bool true, e.key, e.val]) w' ∧ (Instr.entry (.pointer (some ⟨r, 0, none⟩))).run Try.prog w' = .ok (.tuple #[e.key, e.val]) w' ∧
      Itr w' r gM es clock (vis ++ [e]) ∧ Ts (fun b => b = r) w w' := by
  obtain ⟨seen, h1, h2, h3⟩ := h
  have hmem : ∀ x, seen.contains x = true ↔ x ∈ vis.map (·.born) := fun x => by
    rw [← h3]
    simp
  rcases run_next_at (P := Try.prog) w ty r gM clock clock seen es clock h1 h2 hold (Nat.le_refl _) with ⟨k1, k2⟩ | ⟨e, he, w1, hw1, k2⟩
  · left
    refine ⟨fun e he => ?_, k2⟩
    have h0 : leftOf es seen = #[] := Array.eq_empty_of_size_eq_zero k1
    unfold leftOf at h0
    rw [Array.filter_eq_empty_iff] at h0
    have h5 := h0 e (by simpa using he)
    have h4 : seen.contains e.born = true := by
      cases hc : seen.contains e.born with
      | true => rfl
      | false => rw [hc] at h5; exact absurd rfl h5
    rw [hmem, List.mem_map] at h4
    exact h4
  · right
    have he2 : e ∈ es.toList ∧ seen.contains e.born = false := by
      unfold leftOf at he
      rw [Array.toList_filter, List.mem_filter] at he
      refine ⟨he.1, ?_⟩
      simpa using he.2
    have hr1 : w1.heap = w.heap ∧ w1.os = w.os ∧ w1.tape = w.tape ∧ w1.output = w.output := by rcases hw1 with rfl | rfl <;> exact ⟨rfl, rfl, rfl, rfl⟩
    have hrl : r < w1.heap.size := by rw [hr1.1]; exact (Array.getElem?_eq_some_iff.1 h1).1
    have hb : (setBlock w1 r (.mapIter (some gM) clock (seen.push e.born) clock)).heap[r]? = some (.mapIter (some gM) clock (seen.push e.born) clock) := by simp [setBlock, hrl]
    have hfar : ∀ b, b ≠ r → (setBlock w1 r (.mapIter (some gM) clock (seen.push e.born) clock)).heap[b]? = w.heap[b]? := fun b hne' => by
      simp only [setBlock, Array.getElem?_setIfInBounds]
      rw [if_neg (fun e => hne' e.symm), hr1.1]
    refine ⟨e, he2.1, fun hm => ?_, _, k2, ?_, ⟨seen.push e.born, hb, by rw [hfar _ (fun e => hne e.symm)]; exact h2, by simp [h3]⟩, ⟨hr1.2.1, hr1.2.2.1, hr1.2.2.2, by simp [setBlock, hr1.1], fun b hb hd => hfar b hd⟩⟩
    · rw [← hmem, he2.2] at hm
      cases hm
    · exact run_entry_at (P := Try.prog) _ r gM clock seen es clock e hb (by rw [hfar _ (fun e => hne e.symm)]; exact h2) he2.1 hn
end Go.Proofs.Qxb6605294a
