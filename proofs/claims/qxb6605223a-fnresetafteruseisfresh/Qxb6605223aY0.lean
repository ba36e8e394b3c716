/-
  Seat b6605223a. THE STATE THAT THE LAWS BEGIN WITH: clones, graph, struct: tags laid.
-/
import Derived.Test.Qxb6605223aU3
import Derived.Test.Qxb6605223aM4
import Derived.Test.Qxb6605223aT11
set_option linter.unusedVariables false
set_option linter.unusedSimpArgs false
namespace Go.Proofs.Qxb6605223a
open Go.RowKit

/-- A cloned slice: nil, or a block of its own between lo and hi. -/
def Cln (k : IntKind) (e : TypeId) (w : World) (lo hi : Nat) (A : Option Addr) (n c : Nat) (V : Nat → Int) : Prop :=
  (A = none ∧ n = 0 ∧ c = 0) ∨ ∃ g, A = some ⟨g, 0, none⟩ ∧ c = n ∧ lo ≤ g ∧ g < hi ∧ Bk w g e n (fun i => .int k (V i))
theorem Cln.below {k : IntKind} {e : TypeId} {w w' : World} {lo hi : Nat} {A : Option Addr} {n c : Nat} {V : Nat → Int} (h : Cln k e w lo hi A n c V) (hb : Below w.heap.size w w') : Cln k e w' lo hi A n c V := by
  rcases h with h | ⟨g, h1, h2, h3, h4, h5⟩
  · exact .inl h
  · exact .inr ⟨g, h1, h2, h3, h4, h5.sameBlock (hb.block g h5.lt)⟩
theorem add_off (g i : Nat) : (⟨g, 0, none⟩ : Addr).add i = ⟨g, i, none⟩ := by unfold Addr.add; split <;> simp_all
theorem Cln.rd {k : IntKind} {e : TypeId} {w : World} {lo hi : Nat} {A : Option Addr} {n c : Nat} {V : Nat → Int} (h : Cln k e w lo hi A n c V) : RdI k w A n V := by
  rcases h with ⟨rfl, rfl, _⟩ | ⟨g, rfl, _, _, _, h5⟩
  · exact ⟨fun _ => rfl, fun x hx => by cases hx⟩
  · exact ⟨(fun hx => by cases hx), fun x hx => by cases hx; exact ⟨fun _ => h5.lt, fun i hi => by rw [add_off]; exact h5.cell i hi⟩⟩
theorem Cln.blk {k : IntKind} {e : TypeId} {w : World} {lo hi : Nat} {A : Option Addr} {n c : Nat} {V : Nat → Int} (h : Cln k e w lo hi A n c V) (x : Addr) (hx : A = some x) : lo ≤ x.block ∧ x.block < hi := by
  rcases h with ⟨rfl, _⟩ | ⟨g, rfl, _, h1, h2, _⟩
  · cases hx
  · cases hx; exact ⟨h1, h2⟩
/-- A clone's post in one form. -/
theorem ClPost.form {k : IntKind} {e : TypeId} {n : Nat} {V : Nat → Int} {w w' : World} {r : Ending} (h : ClPost k e n V w r w') : Below w.heap.size w w' ∧ ∃ A c, r = .returned (.slice A n c) ∧ Cln k e w' w.heap.size w'.heap.size A n c V := by
  refine ⟨h.1, ?_⟩
  rcases h.2 with ⟨rfl, h2⟩ | ⟨g, h2, h3, h4⟩
  · exact ⟨none, 0, h2, .inl ⟨rfl, rfl, rfl⟩⟩
  · exact ⟨_, n, h2, .inr ⟨g, rfl, rfl, h3, h4.lt, h4⟩⟩
theorem Cl2Post.form {P : Nat} {L : Nat → Nat} {Z : Nat → Nat → Int} {w w' : World} {r : Ending} (h : Cl2Post P L Z w r w') :
    Below w.heap.size w w' ∧ ∃ A c AA, r = .returned (.slice A P c) ∧ RdL w' A P AA L L Z ∧ (∀ x, A = some x → x.block < w'.heap.size) ∧ (∀ q, q < P → ∀ x, AA q = some x → x.block < w'.heap.size) := by
  refine ⟨h.1, ?_⟩
  rcases h.2 with ⟨rfl, h2⟩ | ⟨g, A, h2, h3, h4, h5, h6⟩
  · exact ⟨none, 0, fun _ => none, h2, ⟨fun _ => rfl, fun x hx => by cases hx⟩, (fun x hx => by cases hx), fun q hq => absurd hq (Nat.not_lt_zero _)⟩
  · exact ⟨_, P, A, h2, h5, (fun x hx => by cases hx; exact h4), fun q hq x hx => (h6 q hq x hx).2⟩

/-- The tags: F 1, entries 11, runOf 9, waited 10, the rest 0. -/
def tagOf (o5 o6 : Option Addr) (h : Nat) : Nat → Nat := fun b => if b = h + 3 then 1 else if b = h + 2 then 11 else if o5 = some ⟨b, 0, none⟩ then 9 else if o6 = some ⟨b, 0, none⟩ then 10 else 0
def resOf (A5 A6 : Option Addr) (c5 c6 h P : Nat) (RO WA : Nat → Int) : Nat → Res
  | 9 => ⟨21, 1, .slice A5 P c5, P, fun i => .int .i32 (RO i)⟩
  | 10 => ⟨21, 1, .slice A6 P c6, P, fun i => .int .i32 (WA i)⟩
  | 11 => ⟨75, 1, .slice (some ⟨h + 2, 0, none⟩) P P, P, fun _ => .slice none 0 0⟩
  | t => ⟨eT t, sT t, .slice none 0 0, 0, fun _ => .bool false⟩
def gdOf (h n P : Nat) (A1 A2 A3 A4 : Option Addr) (c1 c2 c3 c4 : Nat) (pr po : Nat → Nat) (fr : Nat → Int) (AA : Nat → Option Addr) (L : Nat → Nat) (Z : Nat → Nat → Int) : Gd :=
  ⟨h + 1, n, P, .slice (some ⟨h, 0, none⟩) n n, A1, A2, A3, A4, c1, c2, c3, c4, pr, po, fr, AA, L, L, Z⟩

theorem assemble (wN : World) (h s5 s6 s7 n P nr : Nat) (A1 A2 A3 A4 A5 A6 A7 : Option Addr) (c1 c2 c3 c4 c5 c6 c7 : Nat) (pr po rd : Nat → Nat) (fr RO WA : Nat → Int) (AA : Nat → Option Addr) (L : Nat → Nat) (Z : Nat → Nat → Int)
    (r1 : RdI .i64 wN A1 n (fun i => (pr i : Int))) (b1 : ∀ x, A1 = some x → x.block < s5) (r2 : RdI .i32 wN A2 n (fun i => (po i : Int))) (b2 : ∀ x, A2 = some x → x.block < s5)
    (r3 : RdL wN A3 P AA L L Z) (b3 : ∀ x, A3 = some x → x.block < s5) (b3' : ∀ q, q < P → ∀ x, AA q = some x → x.block < s5)
    (r4 : RdI .i64 wN A4 n fr) (b4 : ∀ x, A4 = some x → x.block < s5) (r7 : RdI .i64 wN A7 nr (fun i => (rd i : Int))) (b7 : ∀ x, A7 = some x → s7 ≤ x.block ∧ x.block < h)
    (f5 : Cln .i32 21 wN s5 s6 A5 P c5 RO) (f6 : Cln .i32 21 wN s6 s7 A6 P c6 WA) (h56 : s5 ≤ s6) (h67 : s6 ≤ s7) (h7h : s7 ≤ h) (hP : P ≤ 4096)
    (n1 : Bk wN (h + 3) 60 20 (fun i => (nfV h P A5 A6 c5 c6).getD i (.bool false))) (n2 : Bk wN (h + 1) 53 8 (fun i => (ngV h n n P n A1 A2 A3 A4 c1 c2 c3 c4).getD i (.bool false))) (n3 : Bk wN (h + 2) 75 P (fun _ => .slice none 0 0)) (hs : wN.heap.size = h + 4) :
    (∀ b, b < s5 → tagOf A5 A6 h b = 0) ∧ (∀ b, s7 ≤ b → b < h → tagOf A5 A6 h b = 0) ∧
    St (tagOf A5 A6 h) wN (h + 3) (.pointer (some ⟨h + 1, 0, none⟩)) (.slice none 0 0) false (resOf A5 A6 c5 c6 h P RO WA) ∧ Gok (tagOf A5 A6 h) wN (gdOf h n P A1 A2 A3 A4 c1 c2 c3 c4 pr po fr AA L Z) ∧
    Pre (resOf A5 A6 c5 c6 h P RO WA) P 0 (fun _ => 0) ∧ Zs (resOf A5 A6 c5 c6 h P RO WA) ∧ LA (resOf A5 A6 c5 c6 h P RO WA) (resOf A5 A6 c5 c6 h P RO WA) P RO WA ∧ Ro (tagOf A5 A6 h) .i64 wN A7 nr (fun i => (rd i : Int)) := by
  have t0 : ∀ b, b < s5 → tagOf A5 A6 h b = 0 := fun b hb => by
    unfold tagOf
    rw [if_neg (by omega), if_neg (by omega), if_neg (fun e => by have := (f5.blk _ e).1; have : s5 ≤ b := this; omega), if_neg (fun e => by have := (f6.blk _ e).1; have : s6 ≤ b := this; omega)]
  have t7 : ∀ b, s7 ≤ b → b < h → tagOf A5 A6 h b = 0 := fun b hb hb2 => by
    unfold tagOf
    rw [if_neg (by omega), if_neg (by omega), if_neg (fun e => by have := (f5.blk _ e).2; have : b < s6 := this; omega), if_neg (fun e => by have := (f6.blk _ e).2; have : b < s7 := this; omega)]
  have t1 : tagOf A5 A6 h (h + 1) = 0 := by
    unfold tagOf
    rw [if_neg (by omega), if_neg (by omega), if_neg (fun e => by have := (f5.blk _ e).2; have : h + 1 < s6 := this; omega), if_neg (fun e => by have := (f6.blk _ e).2; have : h + 1 < s7 := this; omega)]
  refine ⟨t0, t7, ⟨by unfold tagOf; rw [if_pos rfl], n1.congr fun j hj => ?_, fun t h2 h11 => ?_⟩, ?_, ⟨rfl, rfl, rfl, fun i hi => absurd hi (Nat.not_lt_zero _), rfl, rfl, rfl, rfl, rfl, rfl, rfl, rfl, rfl, fun i hi => absurd hi (Nat.not_lt_zero _)⟩, fun t => ?_, ⟨fun _ _ _ _ => rfl, Sh.refl _, Sh.refl _, Sh.refl _, fun _ _ => rfl, fun _ _ => rfl, fun _ _ => rfl⟩, ⟨r7, fun x hx h0 => t7 _ (b7 x hx).1 (b7 x hx).2⟩⟩
  · have : j = 0 ∨ j = 1 ∨ j = 2 ∨ j = 3 ∨ j = 4 ∨ j = 5 ∨ j = 6 ∨ j = 7 ∨ j = 8 ∨ j = 9 ∨ j = 10 ∨ j = 11 ∨ j = 12 ∨ j = 13 ∨ j = 14 ∨ j = 15 ∨ j = 16 ∨ j = 17 ∨ j = 18 ∨ j = 19 := by omega
    rcases this with rfl | rfl | rfl | rfl | rfl | rfl | rfl | rfl | rfl | rfl | rfl | rfl | rfl | rfl | rfl | rfl | rfl | rfl | rfl | rfl <;> rfl
  · have : t = 2 ∨ t = 3 ∨ t = 4 ∨ t = 5 ∨ t = 6 ∨ t = 7 ∨ t = 8 ∨ t = 9 ∨ t = 10 ∨ t = 11 := by omega
    rcases this with rfl | rfl | rfl | rfl | rfl | rfl | rfl | rfl | rfl | rfl
    · exact .inl ⟨rfl, rfl⟩
    · exact .inl ⟨rfl, rfl⟩
    · exact .inl ⟨rfl, rfl⟩
    · exact .inl ⟨rfl, rfl⟩
    · exact .inl ⟨rfl, rfl⟩
    · exact .inl ⟨rfl, rfl⟩
    · exact .inl ⟨rfl, rfl⟩
    · rcases f5 with ⟨rfl, rfl, rfl⟩ | ⟨g, rfl, hc, q1, q2, q3⟩
      · exact .inl ⟨rfl, rfl⟩
      · have hc := hc.symm
        subst hc
        refine .inr ⟨g, P, _, rfl, Nat.le_refl _, by unfold maxLen; omega, by show Bk wN g 21 (P * 1) _; rw [Nat.mul_one]; exact q3, fun _ _ => rfl, ?_⟩
        unfold tagOf
        rw [if_neg (by omega), if_neg (by omega), if_pos rfl]
    · rcases f6 with ⟨rfl, rfl, rfl⟩ | ⟨g, rfl, hc, q1, q2, q3⟩
      · exact .inl ⟨rfl, rfl⟩
      · have hc := hc.symm
        subst hc
        refine .inr ⟨g, P, _, rfl, Nat.le_refl _, by unfold maxLen; omega, by show Bk wN g 21 (P * 1) _; rw [Nat.mul_one]; exact q3, fun _ _ => rfl, ?_⟩
        unfold tagOf
        rw [if_neg (by omega), if_neg (by omega), if_neg (fun e => by have := (f5.blk _ e).2; have : g < s6 := this; omega), if_pos rfl]
    · refine .inr ⟨h + 2, P, _, rfl, Nat.le_refl _, by unfold maxLen; omega, by show Bk wN (h + 2) 75 (P * 1) _; rw [Nat.mul_one]; exact n3, fun _ _ => rfl, ?_⟩
      unfold tagOf
      rw [if_neg (by omega), if_pos rfl]
  · refine ⟨by show h + 1 < _; omega, t1, n2.cell 0 (by omega), n2.cell 1 (by omega), n2.cell 2 (by omega), n2.cell 3 (by omega), n2.cell 4 (by omega), ⟨r1, fun x hx _ => t0 _ (b1 x hx)⟩, ⟨r2, fun x hx _ => t0 _ (b2 x hx)⟩, ⟨r4, fun x hx _ => t0 _ (b4 x hx)⟩, fun h0 => ?_, fun q hq => ?_⟩
    · cases hA : A3 with
      | none => have := r3.1 hA; have h0' : 0 < P := h0; omega
      | some x => exact ⟨x, rfl, (r3.2 x hA).1 h0, t0 _ (b3 x hA), fun q hq => ((r3.2 x hA).2 q hq).1⟩
    · cases hA : A3 with
      | none => have := r3.1 hA; have hq' : q < P := hq; omega
      | some x => exact ⟨((r3.2 x hA).2 q hq).2, fun y hy _ => t0 _ (b3' q hq y hy)⟩
  · unfold resOf
    split <;> first | exact ⟨rfl, rfl⟩
end Go.Proofs.Qxb6605223a
