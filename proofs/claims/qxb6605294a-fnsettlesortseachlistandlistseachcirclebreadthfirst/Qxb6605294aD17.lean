/-
  Seat b6605294a. A FAMILY THAT IS READY TO BE SETTLED; A SETTLED FAMILY.
-/
import Derived.Test.Qxb6605294aD16
import Derived.Test.Qxb6605294aD15
set_option linter.unusedVariables false
set_option linter.unusedSimpArgs false
namespace Go.Proofs.Qxb6605294a
open Go.RowKit

theorem Cn.rdI {w : World} {lo : Nat} {A : Option Addr} {n : Nat} {V : Nat → Int} (h : Cn w lo A n V) : RdI .i64 w A n V := by
  rcases h with ⟨rfl, rfl⟩ | ⟨g, rfl, h2, h3, h4⟩
  · exact RdI.nil _ _ _
  · exact h4.rdI

/-- Lists of one's own. -/
structure Ow (w : World) (lo hi : Nat) (A : Option Addr) (n : Nat) (AA : Nat → Option Addr) (L : Nat → Nat) (Z : Nat → Nat → Int) : Prop where
  rd : RdL w A n AA L L Z
  cn : ∀ q, q < n → Cn w lo (AA q) (L q) (Z q)
  top : ∀ q, q < n → ∀ x, AA q = some x → x.block < hi
  apart : ∀ q q', q < n → q' < n → q ≠ q' → ∀ x y, AA q = some x → AA q' = some y → x.block ≠ y.block
theorem Ow.of {w w' : World} {r : Ending} {n : Nat} {L : Nat → Nat} {Z : Nat → Nat → Int} (h : OwnsPost n L Z w r w') : ∃ A AA, r = .returned (.slice A n n) ∧ Ow w' w.heap.size w'.heap.size A n AA L Z ∧ Below w.heap.size w w' := by
  obtain ⟨hb, A, AA, rfl, h⟩ := h
  rcases h with ⟨rfl, rfl⟩ | ⟨g, rfl, h1, h2, h3, h4, h5⟩
  · exact ⟨none, AA, rfl, ⟨⟨fun _ => rfl, fun x hx => (by cases hx)⟩, fun q hq => absurd hq (Nat.not_lt_zero _), fun q hq => absurd hq (Nat.not_lt_zero _), fun q q' hq => absurd hq (Nat.not_lt_zero _)⟩, hb⟩
  · refine ⟨_, AA, rfl, ⟨⟨fun hx => (by cases hx), fun x hx => ?_⟩, fun q hq => (h4 q hq).keep (by omega) (Nat.le_refl _) (fun _ _ => rfl), fun q hq x hx => ((h4 q hq).blk x hx).2, h5⟩, hb⟩
    cases hx
    refine ⟨fun _ => h2, fun q hq => ⟨?_, (h4 q hq).rdI⟩⟩
    have hadd : (⟨g, 0, none⟩ : Addr).add q = ⟨g, q, none⟩ := by unfold Addr.add; split <;> simp_all
    rw [hadd]
    exact h3.cell q hq
theorem Ow.below {w w' : World} {lo hi : Nat} {A : Option Addr} {n : Nat} {AA : Nat → Option Addr} {L : Nat → Nat} {Z : Nat → Nat → Int} (h : Ow w lo hi A n AA L Z) (hb : Below w.heap.size w w') : Ow w' lo hi A n AA L Z :=
  ⟨h.rd.below hb, fun q hq => (h.cn q hq).keep (Nat.le_refl _) hb.size (fun x hx => hb.block _ ((h.cn q hq).blk x hx).2), h.top, h.apart⟩

/-- A family that is ready to be settled. -/
structure Rdy (w : World) (lo hi F n : Nat) (PE : Nat → Int) (N : Nat → Nat → Nat) (Z : Nat → Nat → Nat → Int) (gM : Nat) (f : Int → Option Value) (gk : Nat → Nat) (A : Nat → Nat → Option Addr) : Prop where
  ff : Bk w F 85 3 (fun k => (#[.map (some gM), .slice none 0 0, .map none] : Array Value).getD k (.bool false))
  mp : Mi w gM f n
  ent : ∀ k v, f k = some v ↔ ∃ j, j < n ∧ PE j = k ∧ v = .pointer (some ⟨gk j, 0, none⟩)
  k1 : K1 w lo n gk A N Z (fun _ _ => False)
  sc : Sc lo hi F gM n gk A
  hh : hi ≤ w.heap.size
theorem Rdy.keep {w w' : World} {lo hi F n : Nat} {PE : Nat → Int} {N : Nat → Nat → Nat} {Z : Nat → Nat → Nat → Int} {gM : Nat} {f : Int → Option Value} {gk : Nat → Nat} {A : Nat → Nat → Option Addr} {D : Nat → Prop} (h : Rdy w lo hi F n PE N Z gM f gk A) (t : Ts D w w') (hD : ∀ b, D b → hi ≤ b ∨ b < lo) : Rdy w' lo hi F n PE N Z gM f gk A := by
  have hgF := h.sc.gF
  have hhh := h.hh
  have hk : ∀ b, lo ≤ b → b < hi → w'.heap[b]? = w.heap[b]? := fun b h1 h2 => t.block b (by omega) (fun hd => by have := hD b hd; omega)
  exact ⟨h.ff.sameBlock (hk F (by omega) (by omega)), h.mp.alloc (hk gM (by omega) (by omega)), h.ent, h.k1.keep h.sc t.size hk, h.sc, by have := t.size; omega⟩
theorem Rdy.make {wE w' : World} {e : Ending} {n lo1 lo2 lo3 lo4 hi1 hi2 hi3 hi4 : Nat} {PE : Nat → Int} {B1 B2 B3 B4 : Option Addr} {A1 A2 A3 A4 : Nat → Option Addr} {L1 L2 L3 L4 : Nat → Nat} {Z1 Z2 Z3 Z4 : Nat → Nat → Int}
    (o1 : Ow wE lo1 hi1 B1 n A1 L1 Z1) (o2 : Ow wE lo2 hi2 B2 n A2 L2 Z2) (o3 : Ow wE lo3 hi3 B3 n A3 L3 Z3) (o4 : Ow wE lo4 hi4 B4 n A4 L4 Z4) (h0 : lo1 ≤ hi1) (h1 : hi1 ≤ lo2) (h2 : lo2 ≤ hi2) (h3 : hi2 ≤ lo3) (h4 : lo3 ≤ hi3) (h5 : hi3 ≤ lo4) (h6 : lo4 ≤ hi4) (h7 : hi4 ≤ wE.heap.size)
    (hp : FamPost wE n PE (pick4 (fun j => .slice (A1 j) (L1 j) (L1 j)) (fun j => .slice (A2 j) (L2 j) (L2 j)) (fun j => .slice (A3 j) (L3 j) (L3 j)) (fun j => .slice (A4 j) (L4 j) (L4 j))) e w') :
    ∃ F gM f gk, e = .returned (.pointer (some ⟨F, 0, none⟩)) ∧ Rdy w' lo1 w'.heap.size F n PE (pick4 L1 L2 L3 L4) (pick4 Z1 Z2 Z3 Z4) gM f gk (pick4 A1 A2 A3 A4) ∧ Below wE.heap.size wE w' := by
  obtain ⟨F, gM, f, gk, rfl, hF, hfam, hb⟩ := hp
  have hFs := hF.lt
  have hgF := hfam.gF
  have hcn : ∀ k j, k < 4 → j < n → Cn wE lo1 (pick4 A1 A2 A3 A4 k j) (pick4 L1 L2 L3 L4 k j) (pick4 Z1 Z2 Z3 Z4 k j) := fun k j hk hj => by
    have : k = 0 ∨ k = 1 ∨ k = 2 ∨ k = 3 := by omega
    rcases this with rfl | rfl | rfl | rfl
    · exact (o1.cn j hj).keep (by omega) (Nat.le_refl _) (fun _ _ => rfl)
    · exact (o2.cn j hj).keep (by omega) (Nat.le_refl _) (fun _ _ => rfl)
    · exact (o3.cn j hj).keep (by omega) (Nat.le_refl _) (fun _ _ => rfl)
    · exact (o4.cn j hj).keep (by omega) (Nat.le_refl _) (fun _ _ => rfl)
  have hin : ∀ k j x, k < 4 → j < n → pick4 A1 A2 A3 A4 k j = some x → pick4 lo1 lo2 lo3 lo4 k ≤ x.block ∧ x.block < pick4 hi1 hi2 hi3 hi4 k := fun k j x hk hj hx => by
    have : k = 0 ∨ k = 1 ∨ k = 2 ∨ k = 3 := by omega
    rcases this with rfl | rfl | rfl | rfl
    · exact ⟨((o1.cn j hj).blk x hx).1, o1.top j hj x hx⟩
    · exact ⟨((o2.cn j hj).blk x hx).1, o2.top j hj x hx⟩
    · exact ⟨((o3.cn j hj).blk x hx).1, o3.top j hj x hx⟩
    · exact ⟨((o4.cn j hj).blk x hx).1, o4.top j hj x hx⟩
  have hsc : Sc lo1 w'.heap.size F gM n gk (pick4 A1 A2 A3 A4) := by
    refine ⟨fun k j x hk hj hx => ?_, fun k j k' j' x y hk hj hk' hj' hne hx hy => ?_, by omega, fun j hj => ⟨(hfam.kin j hj).2, (hfam.kin j hj).1.lt⟩, hfam.apart⟩
    · refine ⟨((hcn k j hk hj).blk x hx).1, ?_⟩
      have h8 := (hcn k j hk hj).blk x hx
      omega
    · by_cases hkk : k = k'
      · subst hkk
        have hjj : j ≠ j' := hne.resolve_left (fun h => h rfl)
        have : k = 0 ∨ k = 1 ∨ k = 2 ∨ k = 3 := by omega
        rcases this with rfl | rfl | rfl | rfl
        · exact o1.apart j j' hj hj' hjj x y hx hy
        · exact o2.apart j j' hj hj' hjj x y hx hy
        · exact o3.apart j j' hj hj' hjj x y hx hy
        · exact o4.apart j j' hj hj' hjj x y hx hy
      · have a1 := hin k j x hk hj hx
        have a2 := hin k' j' y hk' hj' hy
        have b1 : k = 0 ∨ k = 1 ∨ k = 2 ∨ k = 3 := by omega
        have b2 : k' = 0 ∨ k' = 1 ∨ k' = 2 ∨ k' = 3 := by omega
        rcases b1 with rfl | rfl | rfl | rfl <;> rcases b2 with rfl | rfl | rfl | rfl <;> simp only [pick4] at a1 a2 <;> omega
  refine ⟨F, gM, f, gk, rfl, ⟨hF, hfam.mp, hfam.ent, ⟨_, fun j hj => (hfam.kin j hj).1, fun j k hj hk => ?_⟩, hsc, Nat.le_refl _⟩, hb⟩
  refine ⟨pick4 L1 L2 L3 L4 k j, pick4 Z1 Z2 Z3 Z4 k j, ?_, Nat.le_refl _, (hcn k j hk hj).keep (Nat.le_refl _) hb.size (fun x hx => hb.block _ ((hcn k j hk hj).blk x hx).2), fun x => Iff.rfl, fun h => h.elim, fun _ => rfl⟩
  have : k = 0 ∨ k = 1 ∨ k = 2 ∨ k = 3 := by omega
  rcases this with rfl | rfl | rfl | rfl <;> rfl

/-- A settled family. -/
structure Sr (w : World) (B lo hi F n : Nat) (PE : Nat → Int) (N : Nat → Nat → Nat) (Z : Nat → Nat → Nat → Int) (kl : Int → Nat → List Int) (b : Bf) (gM : Nat) (f : Int → Option Value) (gk : Nat → Nat) (A : Nat → Nat → Option Addr) (gC : Nat) (vo : Value) : Prop where
  ff : Bk w F 85 3 (fun k => (#[.map (some gM), vo, .map (some gC)] : Array Value).getD k (.bool false))
  mp : Mi w gM f n
  ent : ∀ k v, f k = some v ↔ ∃ j, j < n ∧ PE j = k ∧ v = .pointer (some ⟨gk j, 0, none⟩)
  k1 : K1 w lo n gk A N Z (fun _ _ => True)
  sc : Sc lo hi F gM n gk A
  cs : Cs w B vo b.done
  mc : Mi w gC (mapOf b.co) n
  gB : B ≤ gC ∧ hi ≤ B
  hN : ∀ k j, k < 4 → j < n → N k j ≤ 1048576
  hkl : ∀ j k, j < n → k < 4 → (kl (PE j) k).Pairwise (fun x y => x < y) ∧ ∀ x, x ∈ kl (PE j) k ↔ x ∈ ofN (Z k j) (N k j)

section
variable {w w' : World} {B lo hi F n : Nat} {PE : Nat → Int} {N : Nat → Nat → Nat} {Z : Nat → Nat → Nat → Int} {kl : Int → Nat → List Int} {b : Bf} {gM : Nat} {f : Int → Option Value} {gk : Nat → Nat} {A : Nat → Nat → Option Addr} {gC : Nat} {vo : Value}

theorem Sr.keep {D : Nat → Prop} (h : Sr w B lo hi F n PE N Z kl b gM f gk A gC vo) (t : Ts D w w') (hD : ∀ b, D b → hi ≤ b ∧ b < B) : Sr w' B lo hi F n PE N Z kl b gM f gk A gC vo := by
  have hgF := h.sc.gF
  have hF := h.ff.lt
  have hC := h.mc.lt
  have hgB := h.gB
  have hk : ∀ b, b < w.heap.size → (b < hi ∨ B ≤ b) → w'.heap[b]? = w.heap[b]? := fun b h1 h2 => t.block b h1 (fun hd => by have := hD b hd; omega)
  exact ⟨h.ff.sameBlock (hk F hF (by omega)), h.mp.alloc (hk gM h.mp.lt (by omega)), h.ent, h.k1.keep h.sc t.size (fun b h1 h2 => by
    exact hk b (by omega) (by omega)), h.sc, h.cs.keep (Nat.le_refl _) (fun b h1 h2 => hk b h2 (by omega)), h.mc.alloc (hk gC hC (by omega)), h.gB, h.hN, h.hkl⟩
theorem Sr.below (h : Sr w B lo hi F n PE N Z kl b gM f gk A gC vo) (t : Below w.heap.size w w') : Sr w' B lo hi F n PE N Z kl b gM f gk A gC vo := h.keep (Ts.ofBelow t (fun _ => False)) (fun _ h => h.elim)
theorem Sr.kx (h : Sr w B lo hi F n PE N Z kl b gM f gk A gC vo) : Kx w F gM gC n (Per PE n) f kl :=
  Kx.mk' h.k1 (fun _ _ _ _ => trivial) h.sc h.mp h.ent h.hN (by have := h.gB; omega) h.hkl

def KinPost (w : World) (kl : Int → Nat → List Int) (p : Int) (e : Ending) (w' : World) : Prop :=
  ∃ (a : Nat → Option Addr) (M N' : Nat → Nat) (V : Nat → Nat → Int), e = .returned (.tuple #[.slice (a 0) (M 0) (N' 0), .slice (a 1) (M 1) (N' 1), .slice (a 2) (M 2) (N' 2), .slice (a 3) (M 3) (N' 3), .bool true]) ∧ Below w.heap.size w w' ∧ ∀ k, k < 4 → RdI .i64 w (a k) (M k) (V k) ∧ ofN (V k) (M k) = kl p k ∧ M k ≤ 1048576

theorem Sr.kin (h : Sr w B lo hi F n PE N Z kl b gM f gk A gC vo) (j : Nat) (hj : j < n) : Calls Try.prog 15 #[.pointer (some ⟨F, 0, none⟩), .int .i64 (PE j)] w (KinPost w kl (PE j)) := by
  obtain ⟨g, a, M, N', V, h1, h2, h3, h4, h5⟩ := h.kx.look (PE j) ⟨j, hj, rfl⟩
  refine Calls.mono (kin_any F gM n g vo (.map (some gC)) f _ (PE j) w h.ff h.mp h1 h2) ?_
  rintro e w' ⟨rfl, hb⟩
  exact ⟨a, M, N', V, rfl, hb, fun k hk => ⟨(h5 k hk).1, (h5 k hk).2.1, (h5 k hk).2.2.1⟩⟩
theorem Sr.circles (h : Sr w B lo hi F n PE N Z kl b gM f gk A gC vo) : Calls Try.prog 18 #[.pointer (some ⟨F, 0, none⟩)] w (fun e w' => e = .returned vo ∧ w' = w) := circles_any F (.map (some gM)) vo (.map (some gC)) w h.ff
theorem Sr.len (h : Sr w B lo hi F n PE N Z kl b gM f gk A gC vo) : Calls Try.prog 19 #[.pointer (some ⟨F, 0, none⟩)] w (fun e w' => e = .returned (.int .i64 n) ∧ w' = w) := circleLen_any F gC n (.map (some gM)) vo _ w h.ff h.mc
theorem Sr.circleOf (h : Sr w B lo hi F n PE N Z kl b gM f gk A gC vo) (p : Int) (x : Nat) (hp : b.co p = some x) : Calls Try.prog 20 #[.pointer (some ⟨F, 0, none⟩), .int .i64 p] w (fun e w' => e = .returned (.tuple #[.int .i64 x, .bool true]) ∧ w' = w) :=
  circleOf_any F gC n (.map (some gM)) vo _ p x w h.ff h.mc (by simp [mapOf, hp])
/-- The circles, read. -/
theorem Cs.rd {D : List (List Int)} (h : Cs w B vo D) : ∃ a c AA C, vo = .slice a D.length c ∧ RdL w a D.length AA (fun i => (D.getD i []).length) C (fun i j => (D.getD i []).getD j 0) := by
  obtain ⟨W, h1, h2⟩ := h
  have hx : ∀ i, ∃ a c, i < D.length → W i = .slice a (D.getD i []).length c ∧ RdI .i64 w a (D.getD i []).length (fun j => (D.getD i []).getD j 0) := fun i => by
    by_cases hi : i < D.length
    · obtain ⟨a, c, k1, k2, _⟩ := (h2 i hi).1.rdI
      exact ⟨a, c, fun _ => ⟨k1, k2⟩⟩
    · exact ⟨none, 0, fun h => absurd h hi⟩
  refine ?_
  have hA : ∃ AA : Nat → Option Addr, ∃ C : Nat → Nat, ∀ i, i < D.length → W i = .slice (AA i) (D.getD i []).length (C i) ∧ RdI .i64 w (AA i) (D.getD i []).length (fun j => (D.getD i []).getD j 0) :=
    ⟨fun i => Classical.choose (hx i), fun i => Classical.choose (Classical.choose_spec (hx i)), fun i => Classical.choose_spec (Classical.choose_spec (hx i))⟩
  obtain ⟨AA, C, hAC⟩ := hA
  rcases h1 with ⟨rfl, h0⟩ | ⟨g, c, W', rfl, hlo, hqc, hcm, hB, hW⟩
  · rw [h0]
    exact ⟨none, 0, AA, C, rfl, ⟨fun _ => rfl, fun x hx => (by cases hx)⟩⟩
  · refine ⟨_, c, AA, C, rfl, ⟨fun hx => (by cases hx), fun x hx => ?_⟩⟩
    cases hx
    refine ⟨fun _ => hB.lt, fun i hi => ⟨?_, (hAC i hi).2⟩⟩
    have hadd : (⟨g, 0, none⟩ : Addr).add i = ⟨g, i, none⟩ := by unfold Addr.add; split <;> simp_all
    rw [hadd, hB.cell i (by omega), hW i hi, (hAC i hi).1]
end

theorem bfsN_lens {Per : Int → Prop} (kl : Int → Nat → List Int) (hkl : ∀ p, Per p → ∀ k, k < 4 → ∀ x ∈ kl p k, Per x) (n : Nat) (P : Nat → Int) (hP : ∀ i, i < n → Per (P i)) (hQ : ∀ x, Per x → x ∈ ofN P n) : ∀ t, t ≤ n → ∀ l ∈ (bfsN kl n P t).done, l.length ≤ n
  | 0, _ => fun l hl => by simp [bfsN] at hl
  | t + 1, ht => by
    have ih := bfsN_lens kl hkl n P hP hQ t (by omega)
    have ok := bfsN_ok kl hkl n P hP t (by omega)
    unfold bfsN
    split
    · exact ih
    · intro l hl
      simp only [List.mem_append, List.mem_singleton] at hl
      rcases hl with hl | rfl
      · exact ih l hl
      · exact (Ok.circN kl hkl _ (Ok.start ok.key _ _ (hP t (by omega))) n).len hQ

def SettlePost (w : World) (lo hi F n : Nat) (PE : Nat → Int) (N : Nat → Nat → Nat) (Z : Nat → Nat → Nat → Int) (kl : Int → Nat → List Int) (PS : Nat → Int) (gM : Nat) (f : Int → Option Value) (gk : Nat → Nat) (A : Nat → Nat → Option Addr) (e : Ending) (w' : World) : Prop :=
  e = .returned (.tuple #[]) ∧ ∃ gC vo, Sr w' w.heap.size lo hi F n PE N Z kl (bfsN kl n PS n) gM f gk A gC vo ∧ Ts (fun b => lo ≤ b ∧ b < hi) w w'

set_option maxRecDepth 100000 in
set_option maxHeartbeats 4000000 in
theorem zzSettle_any {w : World} {lo hi F n : Nat} {PE : Nat → Int} {N : Nat → Nat → Nat} {Z : Nat → Nat → Nat → Int} {gM : Nat} {f : Int → Option Value} {gk : Nat → Nat} {A : Nat → Nat → Option Addr} (h : Rdy w lo hi F n PE N Z gM f gk A) (kl : Int → Nat → List Int) (PS : Nat → Int)
    (hn : n ≤ 1048576) (hN : ∀ k j, k < 4 → j < n → N k j ≤ 1048576)
    (hkl : ∀ j k, j < n → k < 4 → (kl (PE j) k).Pairwise (fun x y => x < y) ∧ ∀ x, x ∈ kl (PE j) k ↔ x ∈ ofN (Z k j) (N k j))
    (hrel : ∀ j k, j < n → k < 4 → ∀ x, x ∈ ofN (Z k j) (N k j) → Per PE n x)
    (hinj : ∀ i j, i < n → j < n → PE i = PE j → i = j) (hPS : ∀ i j, i < j → j < n → PS i < PS j) (hPm : ∀ x, x ∈ ofN PS n ↔ x ∈ ofN PE n) :
    Calls Try.prog 14 #[.pointer (some ⟨F, 0, none⟩)] w (SettlePost w lo hi F n PE N Z kl PS gM f gk A) := by
  have HC := hide (settle_any lo hi F gM n gk A N Z PE f kl PS w hn hN h.sc h.hh h.ff h.mp h.ent h.k1 hkl hrel hinj hPS hPm)
  have HFIN : Hid (∀ e w', SetPost lo hi F gM n gk A N Z f kl PS w e w' → SettlePost w lo hi F n PE N Z kl PS gM f gk A e w') := by
    rintro e w' ⟨rfl, gC, vo, q1, q2, q3, q4, q5, q6, q7⟩
    exact ⟨rfl, gC, vo, ⟨q2, q3, h.ent, q4, h.sc, q5, q6, ⟨q1, h.hh⟩, hN, hkl⟩, q7⟩
  clear h hN hkl hrel hinj hPS hPm
  go_enter Try.func14, Try.ntmps14
  go_wp2_with fail
  refine Calls.mono HC.out ?_
  rintro e w' hp
  have HP := hide (HFIN.out _ _ hp)
  obtain ⟨rfl, _⟩ := hp
  go_wp2_with fail
  go_end0
  exact HP.out
end Go.Proofs.Qxb6605294a
