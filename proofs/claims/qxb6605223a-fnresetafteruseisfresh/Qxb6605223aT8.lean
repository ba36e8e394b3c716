/-
  Seat b6605223a. append OF ONE ELEMENT, its run laid ahead of the walk.
-/
import Derived.Test.Qxb6605223aT7
set_option linter.unusedVariables false
set_option linter.unusedSimpArgs false
namespace Go.Proofs.Qxb6605223a
open Go.RowKit

/-- append under a name that the walk does not lay open: its run comes from a hypothesis. -/
def app (ats : Array TypeId) (ty : TypeId) (args : Array Value) : Sem Value := Builtin.append_ ats ty args
theorem builtin_app {ats : Array TypeId} {ty : TypeId} {cs : Array Bool} {args : Array Value} : builtin .append ats ty cs args = (do pure (.value (← app ats ty args))) := rfl

theorem Al.app1 {tag : Nat → Nat} {w0 : World} {F : Nat} {d : Gd} {ar : Option Addr} {nr cr : Nat} {rd : Nat → Nat} {tg : Nat → Nat} {wr : World} {R : Nat → Res} (h : Al tag w0 F d ar nr cr rd tg wr R) {t k : Nat} (hk : Fk t k) (hk20 : k < 20) (ht2 : 2 ≤ t) (ht11 : t ≤ 11)
    (T : TypeId) (z : Value) (bytes : Nat) (ht : Try.prog.underlying T = some (.slice (eT t))) (hinfo : (Try.prog.info? (eT t)).map (fun i => (i.zero, i.size, i.bytes)) = some (some z, sT t, bytes)) (hzs : z.cells.size = sT t) (hsz : 0 < sT t)
    (a : Option Addr) (n c : Nat) (hv : (R t).v = .slice a n c) (hn : (R t).n = n) (news : List Value) (hl : news.length = sT t) (h1 : ∀ u ∈ news, u.oneCell' = true) (h63 : n + 1 ≤ maxLen) (hb : (n + 1) * bytes ≤ 140737488355328)
    (W : World) (hW : W.heap = (wr.alloc (.cells news.toArray (eT t))).heap) (hos : W.os = wr.os ∧ W.tape = wr.tape ∧ W.output = wr.output) :
    ∃ g' c' w' tg', (app #[T, T] T #[.slice a n c, .slice (some ⟨wr.heap.size, 0, none⟩) 1 1]).run Try.prog W = .ok (.slice (some ⟨g', 0, none⟩) (n + 1) c') w' ∧ w'.cell? ⟨F, k, none⟩ = some (fld (.pointer (some ⟨d.Gb, 0, none⟩)) (.slice ar nr cr) false R k) ∧ w'.frozen? ⟨F, k, none⟩ = false ∧
      Hid (Al tag w0 F d ar nr cr rd tg' (w'.setCell ⟨F, k, none⟩ (.slice (some ⟨g', 0, none⟩) (n + 1) c')) (put R t ⟨eT t, sT t, .slice (some ⟨g', 0, none⟩) (n + 1) c', n + 1, fun i => if i < n * sT t then (R t).V i else news.getD (i - n * sT t) (.bool false)⟩)) := by
  obtain ⟨i0, hi, hz0, hz1, hz2⟩ := info_parts hinfo
  obtain ⟨he, hs⟩ := h.zs t
  have hown : W.ownsRow 0 (eT t) (sT t) (.slice a n c) n ((List.range (n * sT t)).map (R t).V) := by
    have hc : Ch tg 1 (wr.alloc (.cells news.toArray (eT t))) W := ⟨hos.1, hos.2.1, hos.2.2, by rw [hW]; exact Nat.le_refl _, fun k hk _ => by rw [hW]⟩
    have := (((h.alloc (.cells news.toArray (eT t))).st.2.2 t ht2 ht11).ch hc (by omega)).owns
    rw [he, hs, hv, hn] at this
    exact this
  have hbk : W.heap[wr.heap.size]? = some (.cells news.toArray (eT t)) := by rw [hW]; exact heap_alloc_new wr _
  obtain ⟨v', w', hr, q1, q2, _, q3⟩ := run_append_own_at (P := Try.prog) W 0 T T (eT t) i0 z (sT t) bytes ht hi hz0 hz1 hz2 hzs hsz (.slice a n c) n _ hown ⟨wr.heap.size, 0, none⟩ 1 1 news (by omega) (fun j u hj => by
      have hadd : (⟨wr.heap.size, 0, none⟩ : Addr).add j = ⟨wr.heap.size, j, none⟩ := by unfold Addr.add; split <;> simp_all
      rw [hadd]
      simp [World.cell?, hbk, hj]) h1 h63 hb (Nat.zero_le _)
  obtain ⟨g', c', rfl⟩ := owns_form q1 (by omega)
  obtain ⟨tg', b1, b2, b3, b4, b5, b6⟩ := Al.appd h hk hk20 ht2 ht11 (o := .cells news.toArray (eT t)) (w := W) (w' := w') hW hos (m := 1) (news := news) (v' := .slice (some ⟨g', 0, none⟩) (n + 1) c') (by rw [hs, hl]; omega) (by rw [he, hs, hn]; exact q1) (by rw [hv]; exact q2) (by rw [hv]; exact q3)
  refine ⟨g', c', w', tg', hr, b2, b3, ?_⟩
  rw [he, hs, hn] at b1
  exact b1
end Go.Proofs.Qxb6605223a
