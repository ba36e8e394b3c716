/-
  Seat b6605223a. slices.Grow AND clear, in reset's state.
-/
import Derived.Test.Qxb6605223aT10
import Derived.Lib.SliceRun
set_option linter.unusedVariables false
set_option linter.unusedSimpArgs false
namespace Go.Proofs.Qxb6605223a
open Go.RowKit

theorem put_put (R : Nat → Res) (t : Nat) (a b : Res) : put (put R t a) t b = put R t b := by
  funext k
  by_cases e : k = t
  · subst e; rw [put_same, put_same]
  · rw [put_other _ _ _ _ e, put_other _ _ _ _ e, put_other _ _ _ _ e]
theorem put_self (R : Nat → Res) (t : Nat) : put R t (R t) = R := by
  funext k
  by_cases e : k = t
  · subst e; rw [put_same]
  · rw [put_other _ _ _ _ e]

def GrowPost (tag : Nat → Nat) (w : World) (F : Nat) (d : Gd) (ar : Option Addr) (nr cr : Nat) (rd : Nat → Nat) (R : Nat → Res) (t k n : Nat) (e : Ending) (w' : World) : Prop :=
  ∃ a' c' tg' V, e = .returned (.slice a' 0 c') ∧ n ≤ c' ∧ (n = 0 ∨ ∃ g, a' = some ⟨g, 0, none⟩) ∧ w'.cell? ⟨F, k, none⟩ = some (R t).v ∧ w'.frozen? ⟨F, k, none⟩ = false ∧ Al tag w F d ar nr cr rd tg' (w'.setCell ⟨F, k, none⟩ (.slice a' n c')) (put R t ⟨eT t, sT t, .slice a' n c', n, V⟩)

theorem Al.growAux {tag : Nat → Nat} {w : World} {F : Nat} {d : Gd} {ar : Option Addr} {nr cr : Nat} {rd : Nat → Nat} {tg : Nat → Nat} {wr : World} {R : Nat → Res} (h : Al tag w F d ar nr cr rd tg wr R) {t k : Nat} (hk : Fk t k) (hk20 : k < 20) (ht2 : 2 ≤ t) (ht11 : t ≤ 11) (hs1 : sT t = 1)
    {a : Option Addr} {c n0 n : Nat} (hv : (R t).v = .slice a n0 c) (hn0 : (R t).n = n0) (hn : n ≤ 4096) (hf : fld (.pointer (some ⟨d.Gb, 0, none⟩)) (.slice ar nr cr) false R k = (R t).v)
    (z : Value) (bytes : Nat) (f : Nat) (hzs : z.cells.size = 1) (hb : bytes ≤ 1048576)
    (hroom : n ≤ c → c ≤ maxLen → Calls Try.prog f #[.slice a 0 c, .int .i64 n] wr fun e w' => e = .returned (.slice a 0 c) ∧ w' = wr)
    (hgrow : ∀ cs : List Value, c < n → cs.length = c → (a = none → c = 0) → (∀ x, a = some x → ∀ j v, cs[j]? = some v → wr.cell? (x.add j) = some v) →
      Calls Try.prog f #[.slice a 0 c, .int .i64 n] wr fun e w' => e = .returned (.slice (some ⟨wr.heap.size, 0, none⟩) 0 (grownCap wr (0 + n) c (eT t))) ∧
        w' = wr.drew.alloc (.cells (cs.toArray ++ Builtin.zeroCells z.cells (0 + n - c) ++ Builtin.zeroCells z.cells (grownCap wr (0 + n) c (eT t) - (0 + n))) (eT t))) :
    Calls Try.prog f #[.slice a 0 c, .int .i64 n] wr (GrowPost tag w F d ar nr cr rd R t k n) := by
  obtain ⟨he, hs⟩ := h.zs t
  have hst := h.st
  by_cases hr : n ≤ c
  · have hcm : c ≤ maxLen := by
      obtain ⟨a1, c1, e1, _, e3, _⟩ := (hst.2.2 t ht2 ht11).form
      rw [hv, hn0] at e1
      cases e1
      exact e3
    refine (hroom hr hcm).mono ?_
    rintro e w' ⟨rfl, rfl⟩
    have hrs : ∃ V, Rs tg t w' ⟨eT t, sT t, .slice a n c, n, V⟩ ∧ (n = 0 ∨ ∃ g, a = some ⟨g, 0, none⟩) := by
      rcases hst.2.2 t ht2 ht11 with ⟨h1, h2⟩ | ⟨g', cap', V', h1, h2, h3, h4, h5, h6⟩
      · rw [hv] at h1
        simp only [Value.slice.injEq] at h1
        obtain ⟨rfl, _, rfl⟩ := h1
        obtain rfl : n = 0 := by omega
        exact ⟨fun _ => .bool false, .inl ⟨rfl, rfl⟩, .inl rfl⟩
      · rw [hv] at h1
        simp only [Value.slice.injEq] at h1
        obtain ⟨rfl, _, rfl⟩ := h1
        rw [he, hs] at h4
        exact ⟨V', .inr ⟨g', c, V', rfl, hr, h3, h4, fun _ _ => rfl, h6⟩, .inr ⟨g', rfl⟩⟩
    obtain ⟨V, hrs, hsome⟩ := hrs
    obtain ⟨a1, a2⟩ := St.newSlice (f := fun _ => .bool false) (R := R) hk hk20 hst.sf ⟨eT t, sT t, .slice a n c, n, V⟩ (fun s _ => rfl) hrs
    refine ⟨a, c, tg, V, rfl, hr, hsome, ?_, hst.2.1.frozen k, h.step a2 (Ag.refl _ _) a1 (h.zs.put t _ he.symm hs.symm)⟩
    rw [hst.2.1.cell k hk20, hf]
  · have hcs : ∃ cs : List Value, cs.length = c ∧ (a = none → c = 0) ∧ (∀ x, a = some x → ∀ j v, cs[j]? = some v → wr.cell? (x.add j) = some v) := by
      rcases hst.2.2 t ht2 ht11 with ⟨h1, h2⟩ | ⟨g', cap', V', h1, h2, h3, h4, h5, h6⟩
      · rw [hv] at h1
        simp only [Value.slice.injEq] at h1
        obtain ⟨rfl, _, rfl⟩ := h1
        exact ⟨[], rfl, fun _ => rfl, fun x hx => by cases hx⟩
      · rw [hv] at h1
        simp only [Value.slice.injEq] at h1
        obtain ⟨rfl, _, rfl⟩ := h1
        refine ⟨(List.range c).map V', by simp, (fun e => by cases e), fun x hx j v hj => ?_⟩
        cases hx
        have hjc : j < c := by
          rcases Nat.lt_or_ge j c with h1 | h1
          · exact h1
          · simp [h1] at hj
        have hadd : (⟨g', 0, none⟩ : Addr).add j = ⟨g', j, none⟩ := by unfold Addr.add; split <;> simp_all
        rw [hadd, h4.cell j (by rw [hs, hs1]; omega)]
        simp [hjc] at hj
        rw [hj]
    obtain ⟨cs, hl, hnil, hc⟩ := hcs
    refine (hgrow cs (by omega) hl hnil hc).mono ?_
    rintro e w' ⟨rfl, rfl⟩
    rw [Nat.zero_add]
    have hge := grownCap_ge wr n c (eT t)
    have hle := grownCap_le_maxLen wr n c (eT t) (by unfold maxLen; omega)
    obtain ⟨X, hX⟩ : ∃ X, X = cs.toArray ++ Builtin.zeroCells z.cells (n - c) ++ Builtin.zeroCells z.cells (grownCap wr n c (eT t) - n) := ⟨_, rfl⟩
    have hzc : ∀ q, (Builtin.zeroCells z.cells q).size = q := fun q => by simp [Builtin.zeroCells, hzs]
    have hXs : X.size = grownCap wr n c (eT t) := by rw [hX, Array.size_append, Array.size_append, hzc, hzc]; simp [hl]; omega
    rw [← hX]
    have ag : Ag wr tg (tagged tg wr.heap.size t) := fun b hb => tagged_old _ _ _ _ hb
    have hb : Below wr.heap.size wr (wr.drew.alloc (.cells X (eT t))) := ⟨rfl, rfl, rfl, by simp, fun k hk => Below.heap_alloc _ _ _ hk⟩
    have h1 : Al tag w F d ar nr cr rd tg (wr.drew.alloc (.cells X (eT t))) R := h.below hb
    have hsz : (wr.drew.alloc (.cells X (eT t))).heap.size = wr.heap.size + 1 := by simp
    have hst2 : Sf (tagged tg wr.heap.size t) (wr.drew.alloc (.cells X (eT t))) F (fld (.pointer (some ⟨d.Gb, 0, none⟩)) (.slice ar nr cr) false R) R := by
      refine ⟨by rw [ag F hst.2.1.lt]; exact hst.1, h1.st.2.1, fun s h2 h11 => ?_⟩
      have := ((hst.2.2 s h2 h11).retag ag).ch (t' := 99) (Ch.ofBelow hb) (by omega)
      exact this
    have hrs : Rs (tagged tg wr.heap.size t) t (wr.drew.alloc (.cells X (eT t))) ⟨eT t, sT t, .slice (some ⟨wr.heap.size, 0, none⟩) n (grownCap wr n c (eT t)), n, fun i => X.getD i (.bool false)⟩ :=
      .inr ⟨wr.heap.size, grownCap wr n c (eT t), fun i => X.getD i (.bool false), rfl, hge, hle, ⟨X, heap_alloc_new wr.drew _, by show X.size = _ * sT t; rw [hs1, hXs]; omega, fun i hi => by
        have hi' : i < X.size := by rw [hXs]; have : i < grownCap wr n c (eT t) * sT t := hi; rw [hs1] at this; omega
        simp [Array.getD, hi']⟩, fun i hi => rfl, tagged_new _ _ _⟩
    obtain ⟨a1, a2⟩ := St.newSlice (f := fun _ => .bool false) (R := R) hk hk20 hst2 ⟨eT t, sT t, .slice (some ⟨wr.heap.size, 0, none⟩) n (grownCap wr n c (eT t)), n, fun i => X.getD i (.bool false)⟩ (fun s _ => rfl) hrs
    refine ⟨_, _, tagged tg wr.heap.size t, _, rfl, hge, .inr ⟨_, rfl⟩, ?_, h1.st.2.1.frozen k, h.step ((Ct.ofCh (t := 99) (Ch.ofBelow hb) (by omega)).trans a2 ag) ag a1 (h.zs.put t _ he.symm hs.symm)⟩
    rw [h1.st.2.1.cell k hk20, hf]

theorem Al.grow64 {tag : Nat → Nat} {w : World} {F : Nat} {d : Gd} {ar : Option Addr} {nr cr : Nat} {rd : Nat → Nat} {tg : Nat → Nat} {wr : World} {R : Nat → Res} (h : Al tag w F d ar nr cr rd tg wr R) {a : Option Addr} {c n0 n : Nat} (hv : (R 6).v = .slice a n0 c) (hn0 : (R 6).n = n0) (hn : n ≤ 4096) :
    Calls Try.prog 27 #[.slice a 0 c, .int .i64 n] wr (GrowPost tag w F d ar nr cr rd R 6 13 n) := by
  obtain ⟨i0, hi, hz0, hz1, hz2⟩ := info_parts (P := Try.prog) (show (Try.prog.info? 64).map (fun i => (i.zero, i.size, i.bytes)) = some (some (.int .u64 0), 1, 8) by kernel_rfl)
  refine h.growAux fk6 (by omega) (by omega) (by omega) rfl hv hn0 hn rfl (.int .u64 0) 8 27 rfl (by omega) (fun h1 h2 => ?_) (fun cs h1 h2 h3 h4 => ?_)
  · have hc : c ≤ 9223372036854775807 := by unfold maxLen at h2; omega
    exact Any8.slices_Grow_room Try.grow64 a 0 c n wr (Nat.zero_le _) hc (by omega) (by omega)
  · exact Any8.slices_Grow_grow Try.grow64 i0 (.int .u64 0) hi hz0 (by omega) a 0 c n cs wr (Nat.zero_le _) (by omega) (by rw [hz2]; omega) (by omega) (by rw [hz1]; omega) h3 h4
theorem Al.grow32 {tag : Nat → Nat} {w : World} {F : Nat} {d : Gd} {ar : Option Addr} {nr cr : Nat} {rd : Nat → Nat} {tg : Nat → Nat} {wr : World} {R : Nat → Res} (h : Al tag w F d ar nr cr rd tg wr R) {a : Option Addr} {c n0 n : Nat} (hv : (R 7).v = .slice a n0 c) (hn0 : (R 7).n = n0) (hn : n ≤ 4096) :
    Calls Try.prog 28 #[.slice a 0 c, .int .i64 n] wr (GrowPost tag w F d ar nr cr rd R 7 14 n) := by
  obtain ⟨i0, hi, hz0, hz1, hz2⟩ := info_parts (P := Try.prog) (show (Try.prog.info? 21).map (fun i => (i.zero, i.size, i.bytes)) = some (some (.int .i32 0), 1, 4) by kernel_rfl)
  refine h.growAux fk7 (by omega) (by omega) (by omega) rfl hv hn0 hn rfl (.int .i32 0) 4 28 rfl (by omega) (fun h1 h2 => ?_) (fun cs h1 h2 h3 h4 => ?_)
  · have hc : c ≤ 9223372036854775807 := by unfold maxLen at h2; omega
    exact Any8.slices_Grow_room Try.grow32 a 0 c n wr (Nat.zero_le _) hc (by omega) (by omega)
  · exact Any8.slices_Grow_grow Try.grow32 i0 (.int .i32 0) hi hz0 (by omega) a 0 c n cs wr (Nat.zero_le _) (by omega) (by rw [hz2]; omega) (by omega) (by rw [hz1]; omega) h3 h4

/-- clear under a name that the walk does not lay open. -/
def clr (ats : Array TypeId) (ty : TypeId) (args : Array Value) : Sem Value := Builtin.clear_ ats ty args
theorem builtin_clr {ats : Array TypeId} {ty : TypeId} {cs : Array Bool} {args : Array Value} : builtin .clear ats ty cs args = (do pure (.value (← clr ats ty args))) := rfl

theorem Al.fill {tag : Nat → Nat} {w : World} {F : Nat} {d : Gd} {ar : Option Addr} {nr cr : Nat} {rd : Nat → Nat} {tg : Nat → Nat} (t g cap : Nat) (h2 : 2 ≤ t) (h11 : t ≤ 11) (z : Value) : ∀ (n o : Nat) (wr : World) (R : Nat → Res), Al tag w F d ar nr cr rd tg wr R → (R t).v = .slice (some ⟨g, 0, none⟩) (R t).n cap → o + n ≤ (R t).n * (R t).sz →
    ∃ V, (∀ i, o ≤ i → i < o + n → V i = z) ∧ (∀ i, i < o → V i = (R t).V i) ∧ Al tag w F d ar nr cr rd tg (wr.setCells g o (List.replicate n z)) (put R t { R t with V := V }) := by
  intro n
  induction n with
  | zero =>
    intro o wr R h hv ho
    refine ⟨(R t).V, fun i h1 h2 => by omega, fun _ _ => rfl, ?_⟩
    rw [show ({ R t with V := (R t).V } : Res) = R t from rfl, put_self]
    exact h
  | succ n ih =>
    intro o wr R h hv ho
    have h1 := h.upd t g cap o h2 h11 hv (by omega) z
    obtain ⟨V, v1, v2, v3⟩ := ih (o + 1) _ _ h1 (by rw [put_same]; exact hv) (by rw [put_same]; show o + 1 + n ≤ (R t).n * (R t).sz; omega)
    refine ⟨V, fun i i1 i2 => ?_, fun i hi => ?_, ?_⟩
    · by_cases e : i = o
      · subst e
        rw [v2 i (by omega), put_same]; simp
      · exact v1 i (by omega) (by omega)
    · rw [v2 i (by omega), put_same]
      show (if i = o then z else (R t).V i) = _
      rw [if_neg (by omega)]
    · rw [put_same, put_put] at v3
      exact v3
theorem Al.clr {tag : Nat → Nat} {w : World} {F : Nat} {d : Gd} {ar : Option Addr} {nr cr : Nat} {rd : Nat → Nat} {tg : Nat → Nat} {wr : World} {R : Nat → Res} (h : Al tag w F d ar nr cr rd tg wr R) {a : Option Addr} {c n : Nat} (hv : (R 6).v = .slice a n c) (hn : (R 6).n = n) (hs : n = 0 ∨ ∃ g, a = some ⟨g, 0, none⟩) :
    ∃ W V, (∀ ty, (clr #[44] ty #[.slice a n c]).run Try.prog wr = .ok (.tuple #[]) W) ∧ (∀ i, i < n → V i = .int .u64 0) ∧ Al tag w F d ar nr cr rd tg W (put R 6 { R 6 with V := V }) := by
  have hsz : (R 6).sz = 1 := (h.zs 6).2
  by_cases h0 : n = 0
  · subst h0
    refine ⟨wr, (R 6).V, fun ty => ?_, fun i hi => absurd hi (Nat.not_lt_zero _), ?_⟩
    · unfold Qxb6605223a.clr Builtin.clear_
      cases a <;> simp [run_underlying Try.underlying44]
    · rw [show ({ R 6 with V := (R 6).V } : Res) = R 6 from rfl, put_self]; exact h
  · obtain ⟨g, rfl⟩ : ∃ g, a = some ⟨g, 0, none⟩ := by rcases hs with e | e; exact absurd e h0; exact e
    obtain ⟨q, z, _, _⟩ := Rs.cells (h.st.2.2 6 (by omega) (by omega)) (g := g) (cap := c) (by rw [hn]; exact hv)
    obtain ⟨V, v1, _, v3⟩ := Al.fill 6 g c (by omega) (by omega) (.int .u64 0) n 0 wr R h (by rw [hn]; exact hv) (by rw [hn, hsz]; omega)
    refine ⟨_, V, fun ty => ?_, fun i hi => v1 i (Nat.zero_le _) (by omega), v3⟩
    exact Lib.run_clear_slice wr 44 64 ty (.int .u64 0) Try.underlying44 Try.zeroValue64 rfl rfl g 0 n c (by omega) (fun j hj => by rw [Nat.zero_add, q j (by rw [hn, hsz]; omega)]; rfl) (fun j hj => by rw [Nat.zero_add]; exact z j)
end Go.Proofs.Qxb6605223a
