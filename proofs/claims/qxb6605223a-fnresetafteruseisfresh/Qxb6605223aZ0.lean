/-
  Seat b6605223a. PLAIN WORDS FOR THE SECOND LAW: what a second reset begins with.
-/
import Derived.Test.Qxb6605223aR2
import Derived.Test.Qxb6605223aI1
import Derived.Test.Qxb6605223aY0
set_option linter.unusedVariables false
set_option linter.unusedSimpArgs false
namespace Go.Proofs.Qxb6605223a
open Go.RowKit

/-- inA says: a marked write of that process. -/
def InA (d : Gd) (b : Nat → Bool) (i : Nat) (a : Nat → Bool) : Prop := ∀ q, q < d.P → (a q = true ↔ ∃ x, x < i ∧ b x = true ∧ d.pr x = q)
theorem InA.runs {d : Gd} (hW : Gwf d) {rd : Nat → Nat} {nr m r : Nat} {K B : Nat → Nat} (hr : ∀ t, t < nr → rd t < d.n) (hk : Ks d rd nr m K) (hn : Rn K m r B) {b a : Nat → Bool} (hb : Mk d.fr rd d.n nr b) (ha : InA d b d.n a) (q : Nat) (hq : q < d.P) : a q = true ↔ ∃ k, k < r ∧ K (B k) / 4294967296 = q := by
  rw [ha q hq]
  constructor
  · rintro ⟨x, hx, hbx, rfl⟩
    obtain ⟨t, ht, e⟩ := (hb x hx).1 hbx
    obtain ⟨j, hj, ej⟩ := hk.2 t x ht e
    obtain ⟨k, k1, k2, k3⟩ := hn.find r (Nat.le_refl _) j (by rw [hn.br]; exact hj)
    exact ⟨k, k1, by rw [← hn.same k k1 j k2 k3, ej]; exact (key_hi hW hx).1⟩
  · rintro ⟨k, hk1, e⟩
    obtain ⟨x, hx, hbx, ex⟩ := hk.mark hW hr hb (B k) (by have := hn.up k hk1; have := hn.le (k + 1) (by omega); omega)
    exact ⟨x, hx, hbx, by rw [← e, ex]; exact (key_hi hW hx).1.symm⟩

/-- What a state that reset left is good for: a next reset. -/
theorem Fin.pre {tag : Nat → Nat} {w : World} {F : Nat} {d : Gd} {ar : Option Addr} {nr cr : Nat} {rd : Nat → Nat} {R0 : Nat → Res} {u : Nat} {us : Nat → Nat} {ro wa : Nat → Int} {xn : Nat} {tg : Nat → Nat} {w' : World} {R : Nat → Res} {m r : Nat} {K B : Nat → Nat} {ro1 ro2 wa1 : Nat → Int}
    (h : Fin tag w F d ar nr cr rd R0 u us ro wa xn tg w' R m r K B ro1 ro2 wa1) (hW : Gwf d) (hr : ∀ t, t < nr → rd t < d.n) (R2 : Nat → Res) (hR : ∀ t, t ≠ 8 → R2 t = R t) :
    Pre R2 d.P r (fun k => K (B k) / 4294967296) ∧ LA R2 R2 d.P ro2 wa1 := by
  have z := h.al.zs
  refine ⟨⟨by rw [hR 4 (by omega)]; exact h.rv.n4, by rw [hR 4 (by omega)]; exact (z 4).2, by rw [hR 4 (by omega)]; exact (z 4).1, by rw [hR 4 (by omega)]; exact h.rv.v4, by rw [hR 9 (by omega)]; exact h.rv.n9, by rw [hR 9 (by omega)]; exact (z 9).2, by rw [hR 9 (by omega)]; exact (z 9).1, by rw [hR 10 (by omega)]; exact h.n10, by rw [hR 10 (by omega)]; exact (z 10).2, by rw [hR 10 (by omega)]; exact (z 10).1, by rw [hR 11 (by omega)]; exact h.n11, by rw [hR 11 (by omega)]; exact (z 11).2, by rw [hR 11 (by omega)]; exact (z 11).1, fun k hk => ?_⟩,
    ⟨fun _ _ _ _ => rfl, Sh.refl _, Sh.refl _, Sh.refl _, by rw [hR 9 (by omega)]; exact h.rv.v9, by rw [hR 10 (by omega)]; exact h.v10, by rw [hR 11 (by omega)]; exact h.v11⟩⟩
  obtain ⟨t, x, p1, p2, p3⟩ := h.ks.1 (B k) (by have := h.rn.up k hk; have := h.rn.le (k + 1) (by omega); omega)
  have hxn : x < d.n := by have := hW.fr2 (rd t) (hr t p1); omega
  show K (B k) / 4294967296 < d.P
  rw [p3, (key_hi hW hxn).1]
  exact hW.prP x hxn
theorem Fin.r4 {tag : Nat → Nat} {w : World} {F : Nat} {d : Gd} {ar : Option Addr} {nr cr : Nat} {rd : Nat → Nat} {R0 : Nat → Res} {u : Nat} {us : Nat → Nat} {ro wa : Nat → Int} {xn : Nat} {tg : Nat → Nat} {w' : World} {R : Nat → Res} {m r : Nat} {K B : Nat → Nat} {ro1 ro2 wa1 : Nat → Int}
    (h : Fin tag w F d ar nr cr rd R0 u us ro wa xn tg w' R m r K B ro1 ro2 wa1) : r ≤ 4096 := by
  have hr := h.rn
  have : ∀ k, k ≤ r → k ≤ B k := fun k => by
    induction k with
    | zero => intro _; exact Nat.zero_le _
    | succ k ih => intro hk; have h1 := ih (by omega); have h2 := hr.up k (by omega); omega
  have := this r (Nat.le_refl _)
  rw [hr.br] at this
  have := h.m4
  omega

/-- The wants of the second law are what the second reset leaves. -/
theorem wants {d : Gd} {r : Nat} {us : Nat → Nat} {RO WA ro1 ro2 ro1' wa1 wa1' : Nat → Int} {a : Nat → Bool} (ha : ∀ q, q < d.P → (a q = true ↔ ∃ k, k < r ∧ us k = q)) (h1 : ∀ q, ro1 q = RO q) (h2 : ∀ q, (∀ k, k < r → us k ≠ q) → ro2 q = ro1 q) (h3 : ∀ q, wa1 q = WA q) (c1 : Cl us r ro2 ro1' (-1)) (c2 : Cl us r wa1 wa1' 0) (q : Nat) (hq : q < d.P) :
    (if a q = true then (-1 : Int) else RO q) = ro1' q ∧ (if a q = true then (0 : Int) else WA q) = wa1' q := by
  by_cases e : a q = true
  · have h := (ha q hq).1 e
    rw [if_pos e, if_pos e]
    exact ⟨((c1 q).1 h).symm, ((c2 q).1 h).symm⟩
  · have h : ¬ ∃ k, k < r ∧ us k = q := fun k => e ((ha q hq).2 k)
    rw [if_neg e, if_neg e, (c1 q).2 h, (c2 q).2 h, h3 q, h2 q (fun k hk e => h ⟨k, hk, e⟩), h1 q]
    exact ⟨rfl, rfl⟩
end Go.Proofs.Qxb6605223a
