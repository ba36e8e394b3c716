/-
  Seat b6605223a. append ONTO A SLICE OF THE STRUCT's, BY TAG.
-/
import Derived.Test.Qxb6605223aT3
import Derived.Deep.RegionLaw
set_option linter.unusedVariables false
set_option linter.unusedSimpArgs false
namespace Go.Proofs.Qxb6605223a
open Go.RowKit

theorem Rs.owns {tag : Nat → Nat} {t : Nat} {w : World} {r : Res} (h : Rs tag t w r) : w.ownsRow 0 r.e r.sz r.v r.n ((List.range (r.n * r.sz)).map r.V) := by
  refine ⟨by simp, ?_⟩
  rcases h with ⟨h1, h2⟩ | ⟨g, cap, V', h1, h2, h3, ⟨cur, k1, k2, k3⟩, h5, h6⟩
  · exact .inl ⟨h1, h2⟩
  · refine .inr ⟨g, cap, cur, h1, Nat.zero_le _, k1, h2, h3, k2, ?_⟩
    have hle : r.n * r.sz ≤ cap * r.sz := Nat.mul_le_mul_right _ h2
    apply List.ext_getElem
    · simp; omega
    · intro i hi1 hi2
      simp at hi1 hi2
      have := k3 i (by omega)
      rw [Array.getElem?_eq_some_iff] at this
      obtain ⟨_, e⟩ := this
      simp only [List.getElem_take, Array.getElem_toList, List.getElem_map, List.getElem_range]
      rw [e, h5 i hi2]

theorem Rs.ofOwns {tag : Nat → Nat} {t : Nat} {w : World} {e : TypeId} {sz n : Nat} {v : Value} {xs : List Value} {V : Nat → Value} (h : w.ownsRow 0 e sz v n xs) (hV : ∀ i, i < n * sz → xs[i]? = some (V i)) (ht : ∀ g, v.ownBlock = some g → tag g = t) : Rs tag t w ⟨e, sz, v, n, V⟩ := by
  obtain ⟨h1, h2⟩ := h
  rcases h2 with ⟨rfl, hn⟩ | ⟨g, cap, cur, rfl, _, k1, k2, k3, k4, k5⟩
  · exact .inl ⟨rfl, hn⟩
  · refine .inr ⟨g, cap, fun i => cur.getD i (.bool false), rfl, k2, k3, ⟨cur, k1, k4, fun i hi => by simp [Array.getD, k4, hi]⟩, fun i hi => ?_, ht g rfl⟩
    have hle : n * sz ≤ cap * sz := Nat.mul_le_mul_right _ k2
    have e1 := hV i hi
    rw [← k5] at e1
    have hic : i < cur.size := by rw [k4]; show i < cap * sz; have : i < n * sz := hi; omega
    have hi' : i < n * sz := hi
    rw [List.getElem?_take, if_pos hi'] at e1
    simp [Array.getD, hic] at e1 ⊢
    exact e1

/-- The tag of a new block. -/
def tagged (tag : Nat → Nat) (h t : Nat) : Nat → Nat := fun k => if k = h then t else tag k
theorem tagged_old (tag : Nat → Nat) (h t k : Nat) (hk : k < h) : tagged tag h t k = tag k := by unfold tagged; rw [if_neg (by omega)]
theorem tagged_new (tag : Nat → Nat) (h t : Nat) : tagged tag h t h = t := by simp [tagged]

/-- Behind an append: the slice is longer, only blocks of its tag have turned. -/
theorem Rs.appended {tag : Nat → Nat} {t : Nat} {w w' : World} {r : Res} (h : Rs tag t w r) {m : Nat} {news : List Value} {v' : Value} (hn : news.length = m * r.sz)
    (ho : w'.ownsRow 0 r.e r.sz v' (r.n + m) ((List.range (r.n * r.sz)).map r.V ++ news)) (hg : w.grownBy w' r.v.ownBlock) (hb : v'.ownBlock = r.v.ownBlock ∨ v'.ownBlock = some w.heap.size) :
    Rs (tagged tag w.heap.size t) t w' ⟨r.e, r.sz, v', r.n + m, fun i => if i < r.n * r.sz then r.V i else news.getD (i - r.n * r.sz) (.bool false)⟩ ∧ Ch (tagged tag w.heap.size t) t w w' := by
  have hold : ∀ g, r.v.ownBlock = some g → g < w.heap.size ∧ tag g = t := fun g hg' => by
    rcases h with ⟨h1, _⟩ | ⟨g', cap, V', h1, h2, h3, h4, h5, h6⟩
    · rw [h1] at hg'; simp [Value.ownBlock] at hg'
    · rw [h1] at hg'
      simp [Value.ownBlock] at hg'
      subst hg'
      exact ⟨h4.lt, h6⟩
  refine ⟨Rs.ofOwns ho (fun i hi => ?_) (fun g hg' => ?_), ⟨hg.os, hg.tape, hg.output, hg.size, fun k hk ht => hg.block k hk (fun e => ht ?_)⟩⟩
  · by_cases hlt : i < r.n * r.sz
    · rw [if_pos hlt, List.getElem?_append_left (by simpa using hlt)]
      simp [hlt]
    · rw [if_neg hlt, List.getElem?_append_right (by simp; omega)]
      have hi2 : i - r.n * r.sz < news.length := by rw [hn]; rw [Nat.add_mul] at hi; omega
      simp [List.getD, hi2]
  · rcases hb with hb | hb
    · rw [hb] at hg'
      rw [tagged_old _ _ _ _ (hold g hg').1]
      exact (hold g hg').2
    · rw [hb] at hg'
      cases hg'
      exact tagged_new _ _ _
  · rw [tagged_old _ _ _ _ hk]
    exact (hold k e.symm).2

/-- append onto a row of the call's own, as one step of a region that draws. -/
theorem step_append_at {P : Program} {ops : Array Oper} {o : Oper} {a : Act} {w : World} {K : Act → World → Prop} {Q : Exit → Act → World → Prop} {E : Prop}
    (hg : o.guard = none) (s x : Operand) (t : TypeId) (ho : o.op = Op.call { callee := Callee.builtin Builtin.append, args := #[s, x], argTypes := #[t, t] })
    (e : TypeId) (z : Value) (size bytes : Nat) (ht : P.underlying t = some (.slice e)) (hinfo : (P.info? e).map (fun i => (i.zero, i.size, i.bytes)) = some (some z, size, bytes)) (hzs : z.cells.size = size) (hsz : 0 < size)
    (v : Value) (n : Nat) (xs : List Value) (hs : a.eval s = v) (hown : w.ownsRow 0 e size v n xs)
    (ad : Addr) (m c : Nat) (news : List Value) (hx : a.eval x = .slice (some ad) m c) (hl : news.length = m * size) (hnews : ∀ j u, news[j]? = some u → w.cell? (ad.add j) = some u) (h1 : ∀ u ∈ news, u.oneCell' = true)
    (h63 : n + m ≤ maxLen) (hbytes : (n + m) * bytes ≤ 140737488355328)
    (hK : ∀ v' w', w'.ownsRow 0 e size v' (n + m) (xs ++ news) → w.grownBy w' v.ownBlock → (v'.ownBlock = v.ownBlock ∨ v'.ownBlock = some w.heap.size) → K (a.put o.dst v') w') :
    if Region.wanted o (yielded ops a.tmps) = true then Oper.wp P o a w K Q else E := by
  have hw : Region.wanted o (yielded ops a.tmps) = true := by simp [Region.wanted, hg]
  rw [if_pos hw]
  obtain ⟨i0, hi, hz0, hz1, hz2⟩ := info_parts hinfo
  obtain ⟨v', w', hr, h2, h3, h4, h5⟩ := run_append_own_at (P := P) w 0 t o.type e i0 z size bytes ht hi hz0 hz1 hz2 hzs hsz v n xs hown ad m c news hl hnews h1 h63 hbytes (Nat.zero_le _)
  unfold Oper.wp execOp
  simp only [ho, resolve, invoke, builtin, Sem.run_bind, Sem.run_pure, Result.andThen_ok, List.map_toArray, List.map_cons, List.map_nil, hs, hx, hr]
  exact hK v' w' h2 h3 h5
end Go.Proofs.Qxb6605223a
