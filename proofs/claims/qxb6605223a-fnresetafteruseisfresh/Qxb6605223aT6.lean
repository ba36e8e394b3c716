/-
  Seat b6605223a. THE FRAME BY Ct ALONE; append onto a slice of the struct's AND the store of its field.
-/
import Derived.Test.Qxb6605223aT5
set_option linter.unusedVariables false
set_option linter.unusedSimpArgs false
namespace Go.Proofs.Qxb6605223a
open Go.RowKit

/-- Tags agree on what is there. -/
def Ag (w : World) (tg tg' : Nat → Nat) : Prop := ∀ b, b < w.heap.size → tg' b = tg b
theorem Ag.refl (w : World) (tg : Nat → Nat) : Ag w tg tg := fun _ _ => rfl
theorem Ag.trans {w w1 : World} {t0 t1 t2 : Nat → Nat} (h : Ag w t0 t1) (h2 : Ag w1 t1 t2) (hs : w.heap.size ≤ w1.heap.size) : Ag w t0 t2 := fun b hb => (h2 b (Nat.lt_of_lt_of_le hb hs)).trans (h b hb)
theorem Ct.trans {t0 t1 : Nat → Nat} {a b c : World} (h : Ct t0 a b) (h2 : Ct t1 b c) (ha : Ag a t0 t1) : Ct t0 a c :=
  ⟨h2.os.trans h.os, h2.tape.trans h.tape, h2.output.trans h.output, Nat.le_trans h.size h2.size, fun k hk h0 => (h2.block k (Nat.lt_of_lt_of_le hk h.size) (by rw [ha k hk]; exact h0)).trans (h.block k hk h0)⟩
theorem Ct.ofCh {tg : Nat → Nat} {t : Nat} {a b : World} (h : Ch tg t a b) (ht : t ≠ 0) : Ct tg a b := (Ct.refl tg a).step h ht (fun _ _ => rfl)
theorem Ro.ct {tg tg' : Nat → Nat} {k : IntKind} {w w' : World} {a : Option Addr} {n : Nat} {V : Nat → Int} (h : Ro tg k w a n V) (hc : Ct tg w w') (ha : Ag w tg tg') : Ro tg' k w' a n V :=
  ⟨h.1.keep hc.size (fun x hx h0 => hc.block x.block ((h.1.2 x hx).1 h0) (h.2 x hx h0)), fun x hx h0 => by rw [ha _ ((h.1.2 x hx).1 h0)]; exact h.2 x hx h0⟩
theorem Gok.ct {tg tg' : Nat → Nat} {w w' : World} {d : Gd} (h : Gok tg w d) (hc : Ct tg w w') (ha : Ag w tg tg') : Gok tg' w' d := by
  have hb := hc.block d.Gb h.lt h.tg
  have hk : ∀ i, w'.cell? ⟨d.Gb, i, none⟩ = w.cell? ⟨d.Gb, i, none⟩ := fun i => World.cell?_of_block hb
  refine ⟨Nat.lt_of_lt_of_le h.lt hc.size, by rw [ha _ h.lt]; exact h.tg, by rw [hk]; exact h.k0, by rw [hk]; exact h.k1, by rw [hk]; exact h.k2, by rw [hk]; exact h.k3, by rw [hk]; exact h.k4, h.pr.ct hc ha, h.po.ct hc ha, h.fr.ct hc ha, fun h0 => ?_, fun q hq => (h.rows q hq).ct hc ha⟩
  obtain ⟨x, h1, h2, h3, h4⟩ := h.bp h0
  refine ⟨x, h1, Nat.lt_of_lt_of_le h2 hc.size, by rw [ha _ h2]; exact h3, fun q hq => ?_⟩
  rw [World.cell?_of_block (w := w) (by rw [add_block]; exact hc.block x.block h2 h3)]
  exact h4 q hq
theorem Sf.retag {tg tg' : Nat → Nat} {w : World} {F : Nat} {f : Nat → Value} {R : Nat → Res} (h : Sf tg w F f R) (ha : Ag w tg tg') : Sf tg' w F f R :=
  ⟨by rw [ha _ h.2.1.lt]; exact h.1, h.2.1, h.2.2.retag ha⟩
theorem Sf.alloc {tg : Nat → Nat} {w : World} {F : Nat} {f : Nat → Value} {R : Nat → Res} (h : Sf tg w F f R) (o : Obj) : Sf tg (w.alloc o) F f R :=
  ⟨h.1, h.2.1.alloc o, h.2.2.keep (t := 1) (Ch.alloc w o) (by omega)⟩

/-- The element types and cells of the struct's slices. -/
def eT : Nat → Nat
  | 2 => 64 | 3 => 73 | 4 => 3 | 5 => 79 | 6 => 64 | 7 => 21 | 8 => 21 | 9 => 21 | 10 => 21 | _ => 75
def sT : Nat → Nat
  | 3 => 10 | 5 => 5 | _ => 1
def Zs (R : Nat → Res) : Prop := ∀ t, (R t).e = eT t ∧ (R t).sz = sT t
theorem Zs.put {R : Nat → Res} (h : Zs R) (t : Nat) (r : Res) (he : r.e = (R t).e) (hs : r.sz = (R t).sz) : Zs (put R t r) := fun k => by
  by_cases e : k = t
  · subst e; rw [put_same, he, hs]; exact h k
  · rw [put_other _ _ _ _ e]; exact h k

/-- Field k of the struct holds slice t. -/
def Fk (t k : Nat) : Prop := ∀ (gp rv : Value) (ix : Bool) (R : Nat → Res) (r : Res) (j : Nat), j < 20 → fld gp rv ix (put R t r) j = if j = k then r.v else fld gp rv ix R j
theorem fk2 : Fk 2 5 := fun gp rv ix R r j hj => by
  have : j = 0 ∨ j = 1 ∨ j = 2 ∨ j = 3 ∨ j = 4 ∨ j = 5 ∨ j = 6 ∨ j = 7 ∨ j = 8 ∨ j = 9 ∨ j = 10 ∨ j = 11 ∨ j = 12 ∨ j = 13 ∨ j = 14 ∨ j = 15 ∨ j = 16 ∨ j = 17 ∨ j = 18 ∨ j = 19 := by omega
  rcases this with rfl | rfl | rfl | rfl | rfl | rfl | rfl | rfl | rfl | rfl | rfl | rfl | rfl | rfl | rfl | rfl | rfl | rfl | rfl | rfl <;> rfl
theorem fk3 : Fk 3 4 := fun gp rv ix R r j hj => by
  have : j = 0 ∨ j = 1 ∨ j = 2 ∨ j = 3 ∨ j = 4 ∨ j = 5 ∨ j = 6 ∨ j = 7 ∨ j = 8 ∨ j = 9 ∨ j = 10 ∨ j = 11 ∨ j = 12 ∨ j = 13 ∨ j = 14 ∨ j = 15 ∨ j = 16 ∨ j = 17 ∨ j = 18 ∨ j = 19 := by omega
  rcases this with rfl | rfl | rfl | rfl | rfl | rfl | rfl | rfl | rfl | rfl | rfl | rfl | rfl | rfl | rfl | rfl | rfl | rfl | rfl | rfl <;> rfl
theorem fk4 : Fk 4 19 := fun gp rv ix R r j hj => by
  have : j = 0 ∨ j = 1 ∨ j = 2 ∨ j = 3 ∨ j = 4 ∨ j = 5 ∨ j = 6 ∨ j = 7 ∨ j = 8 ∨ j = 9 ∨ j = 10 ∨ j = 11 ∨ j = 12 ∨ j = 13 ∨ j = 14 ∨ j = 15 ∨ j = 16 ∨ j = 17 ∨ j = 18 ∨ j = 19 := by omega
  rcases this with rfl | rfl | rfl | rfl | rfl | rfl | rfl | rfl | rfl | rfl | rfl | rfl | rfl | rfl | rfl | rfl | rfl | rfl | rfl | rfl <;> rfl
theorem fk5 : Fk 5 8 := fun gp rv ix R r j hj => by
  have : j = 0 ∨ j = 1 ∨ j = 2 ∨ j = 3 ∨ j = 4 ∨ j = 5 ∨ j = 6 ∨ j = 7 ∨ j = 8 ∨ j = 9 ∨ j = 10 ∨ j = 11 ∨ j = 12 ∨ j = 13 ∨ j = 14 ∨ j = 15 ∨ j = 16 ∨ j = 17 ∨ j = 18 ∨ j = 19 := by omega
  rcases this with rfl | rfl | rfl | rfl | rfl | rfl | rfl | rfl | rfl | rfl | rfl | rfl | rfl | rfl | rfl | rfl | rfl | rfl | rfl | rfl <;> rfl
theorem fk6 : Fk 6 13 := fun gp rv ix R r j hj => by
  have : j = 0 ∨ j = 1 ∨ j = 2 ∨ j = 3 ∨ j = 4 ∨ j = 5 ∨ j = 6 ∨ j = 7 ∨ j = 8 ∨ j = 9 ∨ j = 10 ∨ j = 11 ∨ j = 12 ∨ j = 13 ∨ j = 14 ∨ j = 15 ∨ j = 16 ∨ j = 17 ∨ j = 18 ∨ j = 19 := by omega
  rcases this with rfl | rfl | rfl | rfl | rfl | rfl | rfl | rfl | rfl | rfl | rfl | rfl | rfl | rfl | rfl | rfl | rfl | rfl | rfl | rfl <;> rfl
theorem fk7 : Fk 7 14 := fun gp rv ix R r j hj => by
  have : j = 0 ∨ j = 1 ∨ j = 2 ∨ j = 3 ∨ j = 4 ∨ j = 5 ∨ j = 6 ∨ j = 7 ∨ j = 8 ∨ j = 9 ∨ j = 10 ∨ j = 11 ∨ j = 12 ∨ j = 13 ∨ j = 14 ∨ j = 15 ∨ j = 16 ∨ j = 17 ∨ j = 18 ∨ j = 19 := by omega
  rcases this with rfl | rfl | rfl | rfl | rfl | rfl | rfl | rfl | rfl | rfl | rfl | rfl | rfl | rfl | rfl | rfl | rfl | rfl | rfl | rfl <;> rfl
theorem fk8 : Fk 8 6 := fun gp rv ix R r j hj => by
  have : j = 0 ∨ j = 1 ∨ j = 2 ∨ j = 3 ∨ j = 4 ∨ j = 5 ∨ j = 6 ∨ j = 7 ∨ j = 8 ∨ j = 9 ∨ j = 10 ∨ j = 11 ∨ j = 12 ∨ j = 13 ∨ j = 14 ∨ j = 15 ∨ j = 16 ∨ j = 17 ∨ j = 18 ∨ j = 19 := by omega
  rcases this with rfl | rfl | rfl | rfl | rfl | rfl | rfl | rfl | rfl | rfl | rfl | rfl | rfl | rfl | rfl | rfl | rfl | rfl | rfl | rfl <;> rfl

/-- Slice t is another one now, and its field says so. -/
theorem St.newSlice {tg : Nat → Nat} {w : World} {F : Nat} {gp rv : Value} {ix : Bool} {R : Nat → Res} {t k : Nat} (hk : Fk t k) (hk20 : k < 20) {f : Nat → Value} {R0 : Nat → Res} (h : Sf tg w F (fld gp rv ix R) R0) (r : Res) (hR : ∀ s, s ≠ t → R0 s = R s) (hr : Rs tg t w r) :
    St tg (w.setCell ⟨F, k, none⟩ r.v) F gp rv ix (put R t r) ∧ Ct tg w (w.setCell ⟨F, k, none⟩ r.v) := by
  have h1 := h.set k hk20 r.v
  have hc : Ch tg 1 w (w.setCell ⟨F, k, none⟩ r.v) := Ch.set w h.1 k none r.v
  refine ⟨⟨h.1, h1.2.1.congr fun j hj => hk gp rv ix R r j hj, fun s h2 h11 => ?_⟩, Ct.ofCh hc (by omega)⟩
  by_cases e : s = t
  · subst e; rw [put_same]; exact hr.ch hc (by omega)
  · rw [put_other _ _ _ _ e, ← hR s e]; exact h1.2.2 s h2 h11

/-- append onto slice t (behind the making of the one new element), and the store of its field. -/
theorem St.appended {tg : Nat → Nat} {w0 w w' : World} {F : Nat} {gp rv : Value} {ix : Bool} {R : Nat → Res} {t k : Nat} (hk : Fk t k) (hk20 : k < 20) (ht2 : 2 ≤ t) (ht11 : t ≤ 11) (h : St tg w0 F gp rv ix R) {o : Obj} (hw : w.heap = (w0.alloc o).heap) (hos : w.os = w0.os ∧ w.tape = w0.tape ∧ w.output = w0.output)
    {m : Nat} {news : List Value} {v' : Value} (hn : news.length = m * (R t).sz)
    (ho : w'.ownsRow 0 (R t).e (R t).sz v' ((R t).n + m) ((List.range ((R t).n * (R t).sz)).map (R t).V ++ news)) (hg : w.grownBy w' (R t).v.ownBlock) (hb : v'.ownBlock = (R t).v.ownBlock ∨ v'.ownBlock = some w.heap.size) :
    ∃ tg', Ag w0 tg tg' ∧ St tg' (w'.setCell ⟨F, k, none⟩ v') F gp rv ix (put R t ⟨(R t).e, (R t).sz, v', (R t).n + m, fun i => if i < (R t).n * (R t).sz then (R t).V i else news.getD (i - (R t).n * (R t).sz) (.bool false)⟩) ∧ Ct tg w0 (w'.setCell ⟨F, k, none⟩ v') ∧
      w'.cell? ⟨F, k, none⟩ = some (fld gp rv ix R k) ∧ w'.frozen? ⟨F, k, none⟩ = false ∧ Ct tg w0 w' := by
  have hs1 : w.heap.size = w0.heap.size + 1 := by rw [hw]; simp
  have h0 : Sf tg w F (fld gp rv ix R) R := by
    have := h.sf.alloc o
    refine ⟨this.1, this.2.1.sameBlock (by rw [hw]), fun s h2 h11 => (this.2.2 s h2 h11).ch (t' := 1) ⟨hos.1, hos.2.1, hos.2.2, by rw [hw]; exact Nat.le_refl _, fun k hk _ => by rw [hw]⟩ (by omega)⟩
  obtain ⟨a1, a2⟩ := (h0.2.2 t ht2 ht11).appended (v' := v') hn ho hg hb
  have ag : Ag w tg (tagged tg w.heap.size t) := fun b hb => tagged_old _ _ _ _ hb
  have h1 : Sf (tagged tg w.heap.size t) w F (fld gp rv ix R) R := h0.retag ag
  have h2 : Sf (tagged tg w.heap.size t) w' F (fld gp rv ix R) (put R t ⟨(R t).e, (R t).sz, v', (R t).n + m, fun i => if i < (R t).n * (R t).sz then (R t).V i else news.getD (i - (R t).n * (R t).sz) (.bool false)⟩) :=
    ⟨h1.1, h1.2.1.sameBlock (a2.block F h1.2.1.lt (by rw [h1.1]; omega)), h1.2.2.ch a2 _ a1⟩
  obtain ⟨b1, b2⟩ := St.newSlice (f := fld gp rv ix R) hk hk20 h2 _ (fun s hs => put_other _ _ _ _ hs) a1
  refine ⟨tagged tg w.heap.size t, fun b hb' => ag b (by omega), b1, ?_, h2.2.1.cell k hk20, h2.2.1.frozen k, ?_⟩
  · have c0 : Ct tg w0 w := ⟨hos.1, hos.2.1, hos.2.2, by omega, fun k hk' _ => by rw [hw]; exact Below.heap_alloc _ _ _ hk'⟩
    have c1 : Ct (tagged tg w.heap.size t) w w' := Ct.ofCh a2 (by omega)
    exact (c0.trans c1 (fun b hb' => ag b (by omega))).trans b2 (fun b hb' => ag b (by omega))
  · have c0 : Ct tg w0 w := ⟨hos.1, hos.2.1, hos.2.2, by omega, fun k hk' _ => by rw [hw]; exact Below.heap_alloc _ _ _ hk'⟩
    have c1 : Ct (tagged tg w.heap.size t) w w' := Ct.ofCh a2 (by omega)
    exact c0.trans c1 (fun b hb' => ag b (by omega))
/-- Behind an append the slice is written out. -/
theorem owns_form {w : World} {e : TypeId} {sz n : Nat} {v : Value} {xs : List Value} (h : w.ownsRow 0 e sz v n xs) (hn : 0 < n) : ∃ g c, v = .slice (some ⟨g, 0, none⟩) n c := by
  obtain ⟨_, h2⟩ := h
  rcases h2 with ⟨_, h0⟩ | ⟨g, cap, cur, rfl, _⟩
  · omega
  · exact ⟨g, cap, rfl⟩
theorem Ct.drew (tg : Nat → Nat) (w : World) : Ct tg w w.drew := ⟨rfl, rfl, rfl, Nat.le_refl _, fun _ _ _ => rfl⟩
theorem Ct.alloc (tg : Nat → Nat) (w : World) (o : Obj) : Ct tg w (w.alloc o) := Ct.ofCh (t := 1) (Ch.alloc w o) (by omega)
theorem Ct.allocDrew (tg : Nat → Nat) (w : World) (o : Obj) : Ct tg w (w.alloc o).drew := (Ct.alloc tg w o).trans (Ct.drew tg _) (fun _ _ => rfl)
theorem Zs.la {R R1 : Nat → Res} {P : Nat} {ro wa : Nat → Int} (h : Zs R) (k : LA R R1 P ro wa) : Zs R1 := fun t => by
  by_cases e9 : t = 9
  · subst e9; rw [k.s9.1, k.s9.2.1]; exact h 9
  by_cases e10 : t = 10
  · subst e10; rw [k.s10.1, k.s10.2.1]; exact h 10
  by_cases e11 : t = 11
  · subst e11; rw [k.s11.1, k.s11.2.1]; exact h 11
  rw [k.oth t e9 e10 e11]; exact h t
end Go.Proofs.Qxb6605223a
