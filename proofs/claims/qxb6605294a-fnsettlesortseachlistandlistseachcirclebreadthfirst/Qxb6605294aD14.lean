/-
  Seat b6605294a. WHAT settle (58) RESTS ON.
-/
import Derived.Test.Qxb6605294aD13
set_option linter.unusedVariables false
set_option linter.unusedSimpArgs false
namespace Go.Proofs.Qxb6605294a
open Go.RowKit

theorem run_len_mp {w : World} {g : Nat} {f : Int → Option Value} {n : Nat} (h : Mi w g f n) (t k e ty : TypeId) (ht : Try.prog.underlying t = some (.map k e)) : (Builtin.len_ #[t] ty #[.map (some g)]).run Try.prog w = .ok (.int .i64 (n : Int)) w := by
  obtain ⟨es, clock, h1, h2, _⟩ := h.ex
  simp [Builtin.len_, run_underlying ht, run_getObj_map w g es clock h1, goInt, h2]
theorem run_mk0 (n : Nat) (hn : n ≤ 1048576) : ∃ X : Array Value, X.size = n ∧ ∀ w, (Instr.makeSlice 22 (.int .i64 0) (.int .i64 (n : Int))).run Try.prog w = .ok (.slice (some ⟨w.heap.size, 0, none⟩) 0 n) (w.alloc (.cells X 3)) := by
  obtain ⟨i0, hi, hz0, hz1, hz2⟩ := info_parts Try.info3
  refine ⟨madeCells (Value.int .i64 0).cells n, by simp [madeCells, Value.cells], fun w => ?_⟩
  have := run_make (P := Try.prog) w 22 3 i0 (.int .i64 0) Try.underlying22 hi hz0 .i64 .i64 0 (n : Int) (by omega) (by omega) (by rw [hz2]; omega) (by omega)
  simpa [hz1] using this
theorem int_inj {a b : Int} (h : Value.int .i64 a = Value.int .i64 b) : a = b := by injection h
def slen : Value → Nat
  | .slice _ n _ => n
  | _ => 0

structure VisOk (es : Array MapEntry) (vis : List MapEntry) (V : Nat → Int) : Prop where
  mem : ∀ e, e ∈ vis → e ∈ es.toList
  nd : (vis.map (·.born)).Nodup
  key : ∀ (i : Nat) (e : MapEntry), vis[i]? = some e → e.key = .int .i64 (V i)
theorem VisOk.snoc {es : Array MapEntry} {vis : List MapEntry} {V : Nat → Int} (h : VisOk es vis V) {e : MapEntry} (he : e ∈ es.toList) (hb : e.born ∉ vis.map (·.born)) {p : Int} (hk : e.key = .int .i64 p) : VisOk es (vis ++ [e]) (fun i => if i < vis.length then V i else p) := by
  refine ⟨fun x hx => ?_, ?_, fun i x hx => ?_⟩
  · simp at hx
    rcases hx with hx | rfl
    · exact h.mem x hx
    · exact he
  · rw [List.map_append, List.nodup_append]
    refine ⟨h.nd, by simp, fun a ha b hb2 e2 => ?_⟩
    simp at hb2
    subst hb2; subst e2
    exact hb ha
  · rcases Nat.lt_or_ge i vis.length with hl | hl
    · rw [List.getElem?_append_left hl] at hx
      simp only [if_pos hl]
      exact h.key i x hx
    · rw [List.getElem?_append_right hl] at hx
      have : i - vis.length = 0 := by
        rcases Nat.eq_zero_or_pos (i - vis.length) with e0 | e0
        · exact e0
        · rw [List.getElem?_eq_none (by simp; omega)] at hx
          cases hx
      rw [this] at hx
      cases hx
      simp only [if_neg (Nat.not_lt.2 hl)]
      exact hk
theorem VisOk.le {es : Array MapEntry} {vis : List MapEntry} {V : Nat → Int} (h : VisOk es vis V) : vis.length ≤ es.size := by
  have := nodup_le (vis.map (·.born)) (es.toList.map (·.born)) h.nd (fun x hx => by
    rw [List.mem_map] at hx ⊢
    obtain ⟨e, he, rfl⟩ := hx
    exact ⟨e, h.mem e he, rfl⟩)
  simpa using this
theorem VisOk.fresh {es : Array MapEntry} {vis : List MapEntry} {V : Nat → Int} (h : VisOk es vis V) {e : MapEntry} (he : e ∈ es.toList) (hb : e.born ∉ vis.map (·.born)) (hk : (es.toList.map (·.key)).Nodup) : ¬ ∃ x ∈ vis, x.key = e.key := by
  rintro ⟨x, hx, hxe⟩
  obtain ⟨a, ha⟩ := List.mem_iff_getElem?.1 (h.mem x hx)
  obtain ⟨b, hb'⟩ := List.mem_iff_getElem?.1 he
  have : a = b := key_at hk (by simpa using ha) (by simpa using hb') hxe
  subst this
  rw [ha] at hb'
  cases hb'
  exact hb (List.mem_map.2 ⟨_, hx, rfl⟩)
/-- All have come: the keys are the persons, none twice. -/
theorem VisOk.all {es : Array MapEntry} {vis : List MapEntry} {V : Nat → Int} (h : VisOk es vis V) (hall : ∀ e ∈ es.toList, ∃ e' ∈ vis, e'.born = e.born) (hb : (es.toList.map (·.born)).Nodup) (hk : (es.toList.map (·.key)).Nodup) {PE : Nat → Int} {n : Nat} (hn : es.size = n)
    (h1 : ∀ e ∈ es.toList, ∃ j, j < n ∧ e.key = .int .i64 (PE j)) (h2 : ∀ j, j < n → ∃ e ∈ es.toList, e.key = .int .i64 (PE j)) :
    vis.length = n ∧ (∀ x, x ∈ ofN V n ↔ x ∈ ofN PE n) ∧ (ofN V n).Nodup ∧ ∀ j, j < n → ∃ e ∈ vis, e.key = .int .i64 (PE j) := by
  have hin : ∀ e ∈ es.toList, e ∈ vis := fun e he => by
    obtain ⟨e', he', hbb⟩ := hall e he
    obtain ⟨i, hi⟩ := List.mem_iff_getElem?.1 he
    obtain ⟨i', hi'⟩ := List.mem_iff_getElem?.1 (h.mem e' he')
    have a1 : (es.toList.map (·.born))[i]? = some e.born := by rw [List.getElem?_map, hi]; rfl
    have a2 : (es.toList.map (·.born))[i']? = some e.born := by rw [List.getElem?_map, hi', ← hbb]; rfl
    have hlt : i < (es.toList.map (·.born)).length := by
      rcases Nat.lt_or_ge i (es.toList.map (·.born)).length with h | h
      · exact h
      · rw [List.getElem?_eq_none h] at a1; cases a1
    have := (List.getElem?_inj hlt hb).1 (a1.trans a2.symm)
    subst this
    rw [hi] at hi'
    cases hi'
    exact he'
  have hlen : vis.length = n := by
    have k1 := h.le
    have k2 := nodup_le (es.toList.map (·.born)) (vis.map (·.born)) hb (fun x hx => by
      rw [List.mem_map] at hx ⊢
      obtain ⟨e, he, rfl⟩ := hx
      exact ⟨e, hin e he, rfl⟩)
    simp at k2
    omega
  have hget : ∀ i, i < n → ∃ e, vis[i]? = some e ∧ e.key = .int .i64 (V i) := fun i hi => by
    have hi' : i < vis.length := by omega
    exact ⟨vis[i], List.getElem?_eq_getElem hi', h.key i _ (List.getElem?_eq_getElem hi')⟩
  refine ⟨hlen, fun x => ?_, ?_, fun j hj => ?_⟩
  · rw [mem_ofN, mem_ofN]
    constructor
    · rintro ⟨i, hi, rfl⟩
      obtain ⟨e, he, hke⟩ := hget i hi
      obtain ⟨j, hj, hj2⟩ := h1 e (h.mem e (List.mem_of_getElem? he))
      rw [hke] at hj2
      exact ⟨j, hj, (int_inj hj2).symm⟩
    · rintro ⟨j, hj, rfl⟩
      obtain ⟨e, he, hke⟩ := h2 j hj
      obtain ⟨i, hi⟩ := List.mem_iff_getElem?.1 (hin e he)
      have hi2 : i < n := by
        rcases Nat.lt_or_ge i vis.length with h | h
        · omega
        · rw [List.getElem?_eq_none h] at hi; cases hi
      have := h.key i e hi
      rw [hke] at this
      exact ⟨i, hi2, (int_inj this).symm⟩
  · show List.Pairwise (fun a b => a ≠ b) (ofN V n)
    rw [List.pairwise_iff_getElem]
    intro i j hi hj hij e3
    rw [ofN_length] at hi hj
    have e3 : V i = V j := by simpa [ofN] using e3
    obtain ⟨x, hx, hx2⟩ := hget i (by omega)
    obtain ⟨y, hy, hy2⟩ := hget j hj
    have hxy : x.key = y.key := by rw [hx2, hy2, e3]
    obtain ⟨a, ha⟩ := List.mem_iff_getElem?.1 (h.mem x (List.mem_of_getElem? hx))
    obtain ⟨b, hb'⟩ := List.mem_iff_getElem?.1 (h.mem y (List.mem_of_getElem? hy))
    have : a = b := key_at hk (by simpa using ha) (by simpa using hb') hxy
    subst this
    rw [ha] at hb'
    cases hb'
    have b1 : (vis.map (·.born))[i]? = some x.born := by rw [List.getElem?_map, hx]; rfl
    have b2 : (vis.map (·.born))[j]? = some x.born := by rw [List.getElem?_map, hy]; rfl
    have := (List.getElem?_inj (by simp; omega) h.nd).1 (b1.trans b2.symm)
    omega
  · obtain ⟨e, he, hke⟩ := h2 j hj
    exact ⟨e, hin e he, hke⟩
theorem K1.fz {w : World} {lo n : Nat} {gk : Nat → Nat} {A : Nat → Nat → Option Addr} {N : Nat → Nat → Nat} {Z : Nat → Nat → Nat → Int} {dn : Nat → Nat → Prop} (h : K1 w lo n gk A N Z dn) {j : Nat} (hj : j < n) : gk j < w.heap.size ∧ ∀ k, w.frozen? ⟨gk j, k, none⟩ = false := by
  obtain ⟨U, h1, _⟩ := h
  exact ⟨(h1 j hj).lt, fun k => (h1 j hj).frozen k⟩
theorem K1.keepF {w w' : World} {lo hi F gM n : Nat} {gk : Nat → Nat} {A : Nat → Nat → Option Addr} {N : Nat → Nat → Nat} {Z : Nat → Nat → Nat → Int} {dn : Nat → Nat → Prop} (h : K1 w lo n gk A N Z dn) (s : Sc lo hi F gM n gk A) (hs : w.heap.size ≤ w'.heap.size) (hb : ∀ b, lo ≤ b → b < hi → b ≠ F → w'.heap[b]? = w.heap[b]?) : K1 w' lo n gk A N Z dn := by
  obtain ⟨U, h1, h2⟩ := h
  have hgF := s.gF
  refine ⟨U, fun j hj => (h1 j hj).sameBlock (hb _ (by have := s.gkh j hj; omega) (s.gkh j hj).2 (by have := s.gkh j hj; omega)), fun j k hj hk => ?_⟩
  obtain ⟨M, V, q1, q2, q3, q4, q5⟩ := h2 j k hj hk
  exact ⟨M, V, q1, q2, q3.keep (Nat.le_refl _) hs (fun x hx => by have := s.lists k j x hk hj hx; exact hb _ this.1 (by omega) (by omega)), q4, q5⟩

theorem visit_len (c : Nat) (s : Bs) (r : Int) : s.cur.length ≤ (visit c s r).cur.length := by
  unfold visit
  split
  · exact Nat.le_refl _
  · simp
theorem fold_len (c : Nat) : ∀ (l : List Int) (s : Bs), s.cur.length ≤ (l.foldl (visit c) s).cur.length
  | [], s => Nat.le_refl _
  | a :: l, s => Nat.le_trans (visit_len c s a) (fold_len c l _)
theorem expand_len (kl : Int → Nat → List Int) (c : Nat) (p : Int) : ∀ (k : Nat) (s : Bs), s.cur.length ≤ (expand kl c s p k).cur.length
  | 0, s => Nat.le_refl _
  | k + 1, s => by rw [expand_succ]; exact Nat.le_trans (expand_len kl c p k s) (fold_len c _ _)
theorem sorted_is {V PS : Nat → Int} {n : Nat} (hs : ∀ i j, i < j → j < n → V i ≤ V j) (hn : (ofN V n).Nodup) (hP : ∀ i j, i < j → j < n → PS i < PS j) (hm : ∀ x, x ∈ ofN V n ↔ x ∈ ofN PS n) (i : Nat) (hi : i < n) : V i = PS i := by
  refine ofN_inj (strict_uniq _ _ (ofN_strict (fun a b hab hb => ?_)) (ofN_strict hP) hm) i hi
  have h1 := hs a b hab hb
  have h2 : V a ≠ V b := by
    have h3 : List.Pairwise (fun a b => a ≠ b) (ofN V n) := hn
    rw [List.pairwise_iff_getElem] at h3
    have := h3 a b (by rw [ofN_length]; omega) (by rw [ofN_length]; omega) hab
    simpa [ofN] using this
  omega
theorem RdI.congr' {k : IntKind} {w : World} {a : Option Addr} {n : Nat} {V V' : Nat → Int} (h : RdI k w a n V) (hv : ∀ i, i < n → V i = V' i) : RdI k w a n V' :=
  ⟨h.1, fun x hx => ⟨(h.2 x hx).1, fun i hi => by rw [(h.2 x hx).2 i hi, hv i hi]⟩⟩
def Per (PE : Nat → Int) (n : Nat) (p : Int) : Prop := ∃ j, j < n ∧ PE j = p
/-- What the search reads, out of the settled lists. -/
theorem Kx.mk' {w : World} {lo hi F gM n gC : Nat} {gk : Nat → Nat} {A : Nat → Nat → Option Addr} {N : Nat → Nat → Nat} {Z : Nat → Nat → Nat → Int} {PE : Nat → Int} {f : Int → Option Value} {kl : Int → Nat → List Int} {dn : Nat → Nat → Prop} (h : K1 w lo n gk A N Z dn) (hdn : ∀ k j, k < 4 → j < n → dn k j) (s : Sc lo hi F gM n gk A) (hM : Mi w gM f n) (hent : ∀ k v, f k = some v ↔ ∃ j, j < n ∧ PE j = k ∧ v = .pointer (some ⟨gk j, 0, none⟩)) (hN : ∀ k j, k < 4 → j < n → N k j ≤ 1048576)
    (hC : hi ≤ gC) (hkl : ∀ j k, j < n → k < 4 → (kl (PE j) k).Pairwise (fun x y => x < y) ∧ ∀ x, x ∈ kl (PE j) k ↔ x ∈ ofN (Z k j) (N k j)) : Kx w F gM gC n (Per PE n) f kl := by
  have hgF := s.gF
  refine ⟨hM, by omega, fun p hp => ?_⟩
  obtain ⟨j, hj, rfl⟩ := hp
  obtain ⟨U, h1, h2⟩ := h
  have hgk := s.gkh j hj
  have hx : ∀ k, k < 4 → ∃ M V, U k j = .slice (A k j) M (N k j) ∧ RdI .i64 w (A k j) M V ∧ ofN V M = kl (PE j) k ∧ M ≤ 1048576 ∧ ∀ x, A k j = some x → x.block ≠ F ∧ x.block ≠ gC ∧ x.block < w.heap.size := fun k hk => by
    obtain ⟨M, V, q1, q2, q3, q4, q5, q6⟩ := h2 j k hj hk
    obtain ⟨c1, c2⟩ := hkl j k hj hk
    refine ⟨M, V, q1, ?_, strict_uniq _ _ (ofN_strict (q5 (hdn k j hk hj))) c1 (fun x => (q4 x).trans (c2 x).symm), by have := hN k j hk hj; omega, fun x hx => ?_⟩
    · rcases q3 with ⟨e1, e2⟩ | ⟨g, e1, e2, e3, e4⟩
      · rw [e1]
        obtain rfl : M = 0 := by omega
        exact RdI.nil _ _ _
      · rw [e1]
        have hrd := e4.rdI
        exact ⟨fun e => (by cases e), fun x hx => ⟨fun _ => (by cases hx; exact e3), fun i hi => (hrd.2 x hx).2 i (by omega)⟩⟩
    · have := s.lists k j x hk hj hx
      have := (q3.blk x hx).2
      omega
  obtain ⟨M0, V0, a0⟩ := hx 0 (by omega)
  obtain ⟨M1, V1, a1⟩ := hx 1 (by omega)
  obtain ⟨M2, V2, a2⟩ := hx 2 (by omega)
  obtain ⟨M3, V3, a3⟩ := hx 3 (by omega)
  have key : ∀ k, k < 4 → U k j = .slice (A k j) (pick4 M0 M1 M2 M3 k) (N k j) ∧ RdI .i64 w (A k j) (pick4 M0 M1 M2 M3 k) (pick4 V0 V1 V2 V3 k) ∧ ofN (pick4 V0 V1 V2 V3 k) (pick4 M0 M1 M2 M3 k) = kl (PE j) k ∧ pick4 M0 M1 M2 M3 k ≤ 1048576 ∧ ∀ x, A k j = some x → x.block ≠ F ∧ x.block ≠ gC ∧ x.block < w.heap.size := fun k hk => by
    have : k = 0 ∨ k = 1 ∨ k = 2 ∨ k = 3 := by omega
    rcases this with rfl | rfl | rfl | rfl
    · exact a0
    · exact a1
    · exact a2
    · exact a3
  exact ⟨gk j, fun k => A k j, pick4 M0 M1 M2 M3, fun k => N k j, pick4 V0 V1 V2 V3, (hent _ _).2 ⟨j, hj, rfl, rfl⟩, (h1 j hj).congr (fun k hk => (key k hk).1.symm), by omega, by omega, fun k hk => (key k hk).2⟩

/-- The count of a map whose keys are the persons. -/
theorem Mi.count {w : World} {g m n : Nat} {co : Int → Option Nat} {PS : Nat → Int} (h : Mi w g (mapOf co) m) (hnd : (ofN PS n).Nodup) (h1 : ∀ x, (co x).isSome = true ↔ x ∈ ofN PS n) : m = n := by
  obtain ⟨es, clock, q1, q2, q3, q4, q5, q6, q7⟩ := h.ex
  have a1 : es.size ≤ n := by
    have := nodup_le (es.toList.map (·.key)) ((ofN PS n).map (Value.int .i64)) q5 (fun x hx => by
      rw [List.mem_map] at hx
      obtain ⟨e, he, rfl⟩ := hx
      obtain ⟨k, hk, hk2⟩ := q3 e he
      rw [List.mem_map]
      refine ⟨k, (h1 k).1 ?_, hk.symm⟩
      rw [← mapOf_some, hk2]
      rfl)
    simpa [ofN_length] using this
  have a2 : n ≤ es.size := by
    have hnd2 : ((ofN PS n).map (Value.int .i64)).Nodup := by
      exact List.Pairwise.map _ (fun a b hab e => hab (int_inj e)) hnd
    have := nodup_le ((ofN PS n).map (Value.int .i64)) (es.toList.map (·.key)) hnd2 (fun x hx => by
      rw [List.mem_map] at hx
      obtain ⟨k, hk, rfl⟩ := hx
      have hs := (h1 k).2 hk
      rw [← mapOf_some, Option.isSome_iff_exists] at hs
      obtain ⟨v, hv⟩ := hs
      obtain ⟨e, he, hek⟩ := q4 k v hv
      rw [List.mem_map]
      exact ⟨e, he, hek⟩)
    simpa [ofN_length] using this
  omega

def SetPost (lo hi F gM n : Nat) (gk : Nat → Nat) (A : Nat → Nat → Option Addr) (N : Nat → Nat → Nat) (Z : Nat → Nat → Nat → Int) (f : Int → Option Value) (kl : Int → Nat → List Int) (PS : Nat → Int) (w : World) (e : Ending) (w' : World) : Prop :=
  e = .returned (.tuple #[]) ∧ ∃ gC vo, w.heap.size ≤ gC ∧ Bk w' F 85 3 (fun k => (#[.map (some gM), vo, .map (some gC)] : Array Value).getD k (.bool false)) ∧ Mi w' gM f n ∧ K1 w' lo n gk A N Z (fun _ _ => True) ∧
    Cs w' w.heap.size vo (bfsN kl n PS n).done ∧ Mi w' gC (mapOf (bfsN kl n PS n).co) n ∧ Ts (fun b => lo ≤ b ∧ b < hi) w w'

theorem set_done {lo hi F gM n gC : Nat} {gk : Nat → Nat} {A : Nat → Nat → Option Addr} {N : Nat → Nat → Nat} {Z : Nat → Nat → Nat → Int} {PE : Nat → Int} {f : Int → Option Value} {kl : Int → Nat → List Int} {PS : Nat → Int} {w w8 wr : World} {vo : Value}
    (hR : R3 w8 wr F gM gC vo (bfsN kl n PS n)) (hK : K1 w8 lo n gk A N Z (fun _ _ => True)) (hM : Mi w8 gM f n) (s : Sc lo hi F gM n gk A) (hT : Ts (fun b => lo ≤ b ∧ b < hi) w w8) (hh : hi ≤ w.heap.size) (hC : w.heap.size ≤ gC) (hC8 : gC < w8.heap.size)
    (hper : ∀ p, Per PE n p → ∀ k, k < 4 → ∀ x ∈ kl p k, Per PE n x) (hPP : ∀ i, i < n → Per PE n (PS i)) (hPQ : ∀ x, Per PE n x → x ∈ ofN PS n) (hPS : ∀ i j, i < j → j < n → PS i < PS j) :
    SetPost lo hi F gM n gk A N Z f kl PS w (.returned (.tuple #[])) wr := by
  have hgF := s.gF
  have h8 := hT.size
  have hr := hR.ts.size
  obtain ⟨m, hm⟩ := hR.mp
  have hok := bfsN_ok kl hper n PS hPP n (Nat.le_refl _)
  have hmn : m = n := hm.count (strict_nodup (ofN_strict hPS)) (fun x => ⟨fun hx => hPQ x (hok.key x hx), fun hx => by
    obtain ⟨i, hi, rfl⟩ := mem_ofN.1 hx
    exact hok.all i hi⟩)
  subst hmn
  refine ⟨rfl, gC, vo, hC, hR.ff, hM.alloc (hR.ts.block gM hM.lt (by omega)), hK.keepF s hr (fun b _ hb hne => hR.ts.block b (by omega) (by omega)), hR.cs.keep h8 (fun b _ _ => rfl), hm, hT.trans hR.ts (fun b hb hd => by omega)⟩
end Go.Proofs.Qxb6605294a
