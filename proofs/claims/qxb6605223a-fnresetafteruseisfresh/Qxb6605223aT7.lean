/-
  Seat b6605223a. ALL THAT reset CARRIES FROM STAGE TO STAGE, in one word.
-/
import Derived.Test.Qxb6605223aT6
set_option linter.unusedVariables false
set_option linter.unusedSimpArgs false
namespace Go.Proofs.Qxb6605223a
open Go.RowKit

/-- What stands at world wr of a run that began at w: tags, struct, graph, reads, frame, shapes. -/
structure Al (tag : Nat → Nat) (w : World) (F : Nat) (d : Gd) (ar : Option Addr) (nr cr : Nat) (rd : Nat → Nat) (tg : Nat → Nat) (wr : World) (R : Nat → Res) : Prop where
  ag : Ag w tag tg
  st : St tg wr F (.pointer (some ⟨d.Gb, 0, none⟩)) (.slice ar nr cr) false R
  gk : Gok tg wr d
  ro : Ro tg .i64 wr ar nr (fun i => (rd i : Int))
  ct : Ct tag w wr
  zs : Zs R
theorem Al.step {tag : Nat → Nat} {w : World} {F : Nat} {d : Gd} {ar : Option Addr} {nr cr : Nat} {rd : Nat → Nat} {tg tg' : Nat → Nat} {wr w' : World} {R R' : Nat → Res} (h : Al tag w F d ar nr cr rd tg wr R) (hc : Ct tg wr w') (ha : Ag wr tg tg')
    (hs : St tg' w' F (.pointer (some ⟨d.Gb, 0, none⟩)) (.slice ar nr cr) false R') (hz : Zs R') : Al tag w F d ar nr cr rd tg' w' R' :=
  ⟨h.ag.trans ha h.ct.size, hs, h.gk.ct hc ha, h.ro.ct hc ha, h.ct.trans hc h.ag, hz⟩
theorem Al.drew {tag : Nat → Nat} {w : World} {F : Nat} {d : Gd} {ar : Option Addr} {nr cr : Nat} {rd : Nat → Nat} {tg : Nat → Nat} {wr : World} {R : Nat → Res} (h : Al tag w F d ar nr cr rd tg wr R) : Al tag w F d ar nr cr rd tg wr.drew R :=
  h.step (Ct.drew tg wr) (Ag.refl _ _) h.st h.zs
theorem Al.drewN {tag : Nat → Nat} {w : World} {F : Nat} {d : Gd} {ar : Option Addr} {nr cr : Nat} {rd : Nat → Nat} {tg : Nat → Nat} {wr : World} {R : Nat → Res} (h : Al tag w F d ar nr cr rd tg wr R) (q : Nat) : Al tag w F d ar nr cr rd tg (wr.drewN q) R :=
  h.step (Ct.ofCh (t := 1) (Ch.drewN wr q) (by omega)) (Ag.refl _ _) h.st h.zs
theorem Al.alloc {tag : Nat → Nat} {w : World} {F : Nat} {d : Gd} {ar : Option Addr} {nr cr : Nat} {rd : Nat → Nat} {tg : Nat → Nat} {wr : World} {R : Nat → Res} (h : Al tag w F d ar nr cr rd tg wr R) (o : Obj) : Al tag w F d ar nr cr rd tg (wr.alloc o) R :=
  h.step (Ct.alloc tg wr o) (Ag.refl _ _) (h.st.sf.alloc o) h.zs
/-- A store into one cell of slice t. -/
theorem Al.upd {tag : Nat → Nat} {w : World} {F : Nat} {d : Gd} {ar : Option Addr} {nr cr : Nat} {rd : Nat → Nat} {tg : Nat → Nat} {wr : World} {R : Nat → Res} (h : Al tag w F d ar nr cr rd tg wr R) (t g cap i : Nat) (h2 : 2 ≤ t) (h11 : t ≤ 11) (hv : (R t).v = .slice (some ⟨g, 0, none⟩) (R t).n cap) (hi : i < (R t).n * (R t).sz) (u : Value) :
    Al tag w F d ar nr cr rd tg (wr.setCell ⟨g, i, none⟩ u) (put R t { R t with V := fun k => if k = i then u else (R t).V k }) := by
  obtain ⟨_, _, hg, _⟩ := Rs.cells (h.st.2.2 t h2 h11) hv
  exact h.step (Ct.ofCh (Ch.set wr hg i none u) (by omega)) (Ag.refl _ _) (h.st.upd t g cap i h2 h11 hv hg hi u) (h.zs.put t _ rfl rfl)
/-- append onto slice t, and the store of its field. -/
theorem Al.appd {tag : Nat → Nat} {w0 : World} {F : Nat} {d : Gd} {ar : Option Addr} {nr cr : Nat} {rd : Nat → Nat} {tg : Nat → Nat} {wr w w' : World} {R : Nat → Res} (h : Al tag w0 F d ar nr cr rd tg wr R) {t k : Nat} (hk : Fk t k) (hk20 : k < 20) (ht2 : 2 ≤ t) (ht11 : t ≤ 11)
    {o : Obj} (hw : w.heap = (wr.alloc o).heap) (hos : w.os = wr.os ∧ w.tape = wr.tape ∧ w.output = wr.output)
    {m : Nat} {news : List Value} {v' : Value} (hn : news.length = m * (R t).sz)
    (ho : w'.ownsRow 0 (R t).e (R t).sz v' ((R t).n + m) ((List.range ((R t).n * (R t).sz)).map (R t).V ++ news)) (hg : w.grownBy w' (R t).v.ownBlock) (hb : v'.ownBlock = (R t).v.ownBlock ∨ v'.ownBlock = some w.heap.size) :
    ∃ tg', Al tag w0 F d ar nr cr rd tg' (w'.setCell ⟨F, k, none⟩ v') (put R t ⟨(R t).e, (R t).sz, v', (R t).n + m, fun i => if i < (R t).n * (R t).sz then (R t).V i else news.getD (i - (R t).n * (R t).sz) (.bool false)⟩) ∧
      w'.cell? ⟨F, k, none⟩ = some (fld (.pointer (some ⟨d.Gb, 0, none⟩)) (.slice ar nr cr) false R k) ∧ w'.frozen? ⟨F, k, none⟩ = false ∧ Ct tg wr w' ∧ Ct tg wr (w'.setCell ⟨F, k, none⟩ v') ∧ Ag wr tg tg' := by
  obtain ⟨tg', a1, a2, a3, a4, a5, a6⟩ := St.appended hk hk20 ht2 ht11 h.st hw hos hn ho hg hb
  exact ⟨tg', h.step a3 a1 a2 (h.zs.put t _ rfl rfl), a4, a5, a6, a3, a1⟩
theorem Al.cut {tag : Nat → Nat} {w : World} {F : Nat} {d : Gd} {ar : Option Addr} {nr cr : Nat} {rd : Nat → Nat} {tg : Nat → Nat} {wr : World} {R : Nat → Res} (h : Al tag w F d ar nr cr rd tg wr R) {t k : Nat} (hk : Fk t k) (hk20 : k < 20) (ht2 : 2 ≤ t) (ht11 : t ≤ 11) (a : Option Addr) (c : Nat) (hv : (R t).v = .slice a (R t).n c) :
    Al tag w F d ar nr cr rd tg (wr.setCell ⟨F, k, none⟩ (.slice a 0 c)) (put R t { R t with v := .slice a 0 c, n := 0 }) := by
  have hr := (h.st.2.2 t ht2 ht11).cut0 hv (R t).V
  obtain ⟨a1, a2⟩ := St.newSlice (f := fun _ => .bool false) (R := R) hk hk20 h.st.sf { R t with v := .slice a 0 c, n := 0 } (fun s _ => rfl) hr
  exact h.step a2 (Ag.refl _ _) a1 (h.zs.put t _ rfl rfl)
end Go.Proofs.Qxb6605223a
