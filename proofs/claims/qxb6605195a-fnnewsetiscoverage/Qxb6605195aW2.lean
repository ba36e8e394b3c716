/-
  Seat b6605195a. WALK: sortEvents (32).
-/
import Derived.Test.Qxb6605195aBase
import Derived.Test.Qxb6605195aPlainA
import Derived.Deep.QuietTactic
import Derived.BigQuiet
namespace Go.Proofs.Qxb6605195a
open Go.RowKit

/-- sortEvents' contract: a new slice with the events sorted. -/
def SortPost (es : List (Int × Int)) (w : World) (e : Ending) (w' : World) : Prop :=
  ∃ ys, ys.Perm es ∧ Srt ys ∧ NewSl2 .i64 ys w e w'

set_option maxHeartbeats 400000 in
/-- Fewer than two: a copy. -/
theorem sortE_short (a : Option Addr) (b off n c : Nat) (L H : Nat → Int) (w : World) (hm : n < 2) (ha : 0 < n → a = some ⟨b, off, none⟩ ∧ b < w.heap.size)
    (hc : ∀ i, i < n → w.cell? ⟨b, off + i * 2, none⟩ = some (.int .i64 (L i)) ∧ w.cell? ⟨b, off + i * 2 + 1, none⟩ = some (.int .i64 (H i))) :
    Calls Try.prog 32 #[.slice a n c] w (NewSl2 .i64 (pairs L H n) w) := by
  have hd : decide ((n : Int) < 2) = true := decide_eq_true (by omega)
  go_enter Try.func32, Try.ntmps32
  go_wp2_with fail
  go_loopw [3, 17] (fun v i wr => ∃ k : Nat, k ≤ n ∧ i = .int .i64 k ∧ Below w.heap.size w wr ∧ Own2 .i64 wr w.heap.size 66 v (pairs L H k)) (fun _ i _ => n - (intOf i).toNat)
  case atStart => exact ⟨0, Nat.zero_le _, rfl, Below.refl _ _, Own2.nil _ _ _ _⟩
  case round =>
    obtain ⟨k, hk, rfl, hbel, hown⟩ := hrel
    have hz := hbel.size
    by_cases hlt : k < n
    · obtain ⟨rfl, hb⟩ := ha (by omega)
      have g0 := (hbel.cell (p := ⟨b, off + k * 2, none⟩) hb).trans (hc k hlt).1
      have g1 := (hbel.cell (p := ⟨b, off + k * 2 + 1, none⟩) hb).trans (hc k hlt).2
      have HL : Hid ((pairs L H k).length ≤ 1048576) := by show _ ≤ _; rw [pairs_length]; omega
      clear hc ha
      go_wp2_with (at_builtin; refine wpList_app2 _ rfl _ _ 64 rfl w.heap.size 66 .i64 _ _ 16 Try.underlying64 Try.info66 _ _ rfl ((hown.alloc _).alloc _) _ 1 (L k, H k) rfl ?_ ?_ HL.out (by omega) (by simp; omega) ?_)
      intro v' w1 hown' hgrow
      rw [← pairs_succ] at hown'
      have hbel' : Below w.heap.size w w1 := Own2.belowGrown ((hown.alloc _).alloc _) ((hbel.alloc hz _).alloc (by simp; omega) _) hgrow (by simp; omega) (Nat.le_refl _)
      clear hgrow hown
      go_wp2
      go_roundw
      case rel => exact ⟨k + 1, by omega, by go_num, hbel', hown'⟩
      case measure => simp [intOf]; omega
    · go_wp2
      go_ret
      obtain rfl : k = n := by omega
      exact ⟨_, rfl, hown.sl2, hbel⟩

theorem srt_short (L H : Nat → Int) (n : Nat) (h : n < 2) : Srt (pairs L H n) := by
  match n, h with
  | 0, _ => exact List.Pairwise.nil
  | 1, _ => simp [Srt, pairs, List.range_succ]

def SortE (m : Nat) : Prop := ∀ (es : List (Int × Int)) (v : Value) (w : World), es.length ≤ m → Sl2 .i64 w v es → Calls Try.prog 32 #[v] w (SortPost es w)

theorem sl2_take {w : World} {b off c n mid : Nat} {es : List (Int × Int)} (hn : es.length = n) (hm : mid ≤ n) (hnc : n ≤ c) (hcm : c ≤ maxLen) (hb : b < w.heap.size)
    (hc : ∀ i, i < n → w.cell? ⟨b, off + i * 2, none⟩ = some (.int .i64 (es.getD i (0, 0)).1) ∧ w.cell? ⟨b, off + i * 2 + 1, none⟩ = some (.int .i64 (es.getD i (0, 0)).2)) :
    Sl2 .i64 w (.slice (some ⟨b, off, none⟩) mid c) (es.take mid) := by
  have hl : (es.take mid).length = mid := by rw [List.length_take]; omega
  refine ⟨some ⟨b, off, none⟩, b, off, c, by rw [hl], by omega, hcm, fun _ => ⟨rfl, hb⟩, fun i hi => ?_⟩
  rw [hl] at hi
  have e : (es.take mid).getD i (0, 0) = es.getD i (0, 0) := by simp [List.getD, hi]
  rw [e]
  exact hc i (by omega)

theorem sl2_drop {w : World} {b off c n mid : Nat} {es : List (Int × Int)} (hn : es.length = n) (hm : mid ≤ n) (hnc : n ≤ c) (hcm : c ≤ maxLen) (hb : b < w.heap.size)
    (hc : ∀ i, i < n → w.cell? ⟨b, off + i * 2, none⟩ = some (.int .i64 (es.getD i (0, 0)).1) ∧ w.cell? ⟨b, off + i * 2 + 1, none⟩ = some (.int .i64 (es.getD i (0, 0)).2)) :
    Sl2 .i64 w (.slice (some ⟨b, off + mid * 2, none⟩) (n - mid) (c - mid)) (es.drop mid) := by
  have hl : (es.drop mid).length = n - mid := by rw [List.length_drop]; omega
  refine ⟨some ⟨b, off + mid * 2, none⟩, b, off + mid * 2, c - mid, by rw [hl], by omega, by omega, fun _ => ⟨rfl, hb⟩, fun i hi => ?_⟩
  rw [hl] at hi
  have e : (es.drop mid).getD i (0, 0) = es.getD (mid + i) (0, 0) := by simp [List.getD, List.getElem?_drop]
  rw [e, show off + mid * 2 + i * 2 = off + (mid + i) * 2 by omega]
  exact hc (mid + i) (by omega)

set_option maxHeartbeats 1000000 in
theorem sortE_step (m : Nat) (ih : SortE m) (b off n c : Nat) (es : List (Int × Int)) (w : World) (h2 : 2 ≤ n) (hn : Hid (es.length = n)) (hm : n ≤ m + 1) (hmx : n ≤ 262144) (hnc : n ≤ c) (hcm : c ≤ 9223372036854775807) (hb : b < w.heap.size)
    (hc : Hid (∀ i, i < n → w.cell? ⟨b, off + i * 2, none⟩ = some (.int .i64 (es.getD i (0, 0)).1) ∧ w.cell? ⟨b, off + i * 2 + 1, none⟩ = some (.int .i64 (es.getD i (0, 0)).2))) :
    Calls Try.prog 32 #[.slice (some ⟨b, off, none⟩) n c] w (SortPost es w) := by
  have hd : decide ((n : Int) < 2) = false := decide_eq_false (by omega)
  have hne : ¬ c = n / 2 := by omega
  go_enter Try.func32, Try.ntmps32
  go_wp2_with fail
  refine (ih (es.take (n / 2)) _ w (by rw [List.length_take]; omega) (sl2_take hn.out (by omega) hnc hcm hb hc.out)).mono ?_
  rintro e w1 ⟨A, hpA, hsA, v1, rfl, hv1, hb1⟩
  have hz1 := hb1.size
  go_wp2_with fail
  refine (ih (es.drop (n / 2)) _ w1 (by rw [List.length_drop]; have := hn.out; omega) ((sl2_drop hn.out (by omega) hnc hcm hb hc.out).below hb1)).mono ?_
  rintro e w2 ⟨B, hpB, hsB, v2, rfl, hv2, hb2⟩
  have hz2 := hb2.size
  have hv1' := hv1.below hb2
  have hlA : Hid (A.length = n / 2) := by show _ = _; rw [hpA.length_eq, List.length_take]; have := hn.out; omega
  have hlB : Hid (B.length = n - n / 2) := by show _ = _; rw [hpB.length_eq, List.length_drop]; have := hn.out; omega
  have hpp : Hid ((A ++ B).Perm es) := by
    have := List.Perm.append hpA hpB
    rwa [List.take_append_drop] at this
  have hb12 : Below w.heap.size w w2 := hb1.trans (hb2.mono hz1)
  clear hpA hpB hv1 hb1 hb2 hn hc ih
  obtain ⟨a1, b1, o1, c1, rfl, hc1, hm1, ha1, hcA⟩ := hv1'
  obtain ⟨a2, b2, o2, c2, rfl, hc2, hm2, ha2, hcB⟩ := hv2
  obtain ⟨la, hla⟩ : ∃ la, la = A.length := ⟨_, rfl⟩
  obtain ⟨lb, hlb⟩ : ∃ lb, lb = B.length := ⟨_, rfl⟩
  rw [← hla] at hlA hcA ha1 hc1
  rw [← hlb] at hlB hcB ha2 hc2
  rw [← hla, ← hlb]
  have hlx : la ≤ 262144 ∧ lb ≤ 262144 := ⟨by have := hlA.out; omega, by have := hlB.out; omega⟩
  obtain ⟨hlx1, hlx2⟩ := hlx
  have HA : Hid (la = A.length) := hla
  have HB : Hid (lb = B.length) := hlb
  clear hla hlb
  obtain ⟨LA, hLA⟩ : ∃ LA : Nat → Int, LA = fun i => (A.getD i (0, 0)).1 := ⟨_, rfl⟩
  obtain ⟨PA, hPA⟩ : ∃ PA : Nat → Int, PA = fun i => (A.getD i (0, 0)).2 := ⟨_, rfl⟩
  obtain ⟨LB, hLB⟩ : ∃ LB : Nat → Int, LB = fun i => (B.getD i (0, 0)).1 := ⟨_, rfl⟩
  obtain ⟨PB, hPB⟩ : ∃ PB : Nat → Int, PB = fun i => (B.getD i (0, 0)).2 := ⟨_, rfl⟩
  have hcA' : ∀ i, i < la → w2.cell? ⟨b1, o1 + i * 2, none⟩ = some (.int .i64 (LA i)) ∧ w2.cell? ⟨b1, o1 + i * 2 + 1, none⟩ = some (.int .i64 (PA i)) := by rw [hLA, hPA]; exact hcA
  have hcB' : ∀ i, i < lb → w2.cell? ⟨b2, o2 + i * 2, none⟩ = some (.int .i64 (LB i)) ∧ w2.cell? ⟨b2, o2 + i * 2 + 1, none⟩ = some (.int .i64 (PB i)) := by rw [hLB, hPB]; exact hcB
  have EA : Hid (∀ i, A.getD i (0, 0) = (LA i, PA i)) := by intro i; rw [hLA, hPA]
  have EB : Hid (∀ i, B.getD i (0, 0) = (LB i, PB i)) := by intro i; rw [hLB, hPB]
  clear hcA hcB hLA hPA hLB hPB
  have HcA : Hid _ := hcA'
  have HcB : Hid _ := hcB'
  clear hcA' hcB'
  go_wp2_with fail
  go_loopw [9, 10, 11] (fun v i j wr => ∃ (p q : Nat) (out : List (Int × Int)), p ≤ la ∧ q ≤ lb ∧ i = .int .i64 p ∧ j = .int .i64 q ∧ Below w2.heap.size w2 wr ∧ Own2 .i64 wr w2.heap.size 66 v out ∧ Mg A B p q out) (fun _ i j _ => la - (intOf i).toNat + (lb - (intOf j).toNat))
  case atStart => exact ⟨0, 0, [], Nat.zero_le _, Nat.zero_le _, rfl, rfl, Below.refl _ _, Own2.nil _ _ _ _, Mg.start _ _⟩
  case round =>
    obtain ⟨p, q, out, hp, hq, rfl, rfl, hbel, hown, hmg⟩ := hrel
    have hz := hbel.size
    have HL : Hid (out.length ≤ 1048576) := by show _ ≤ _; rw [hmg.length (by rw [← HA.out]; omega) (by rw [← HB.out]; omega)]; omega
    -- A's element is taken
    have goA : p < la → (q < lb → LA p ≤ LB q) → Mg A B (p + 1) q (out ++ [(LA p, PA p)]) := fun h1 h2 => by
      have := hmg.takeA hsA hsB (by rw [← HA.out]; exact h1) (fun h => by rw [EA.out, EB.out]; exact h2 (by rw [HB.out]; exact h))
      rwa [EA.out] at this
    have goB : q < lb → (p < la → LB q ≤ LA p) → Mg A B p (q + 1) (out ++ [(LB q, PB q)]) := fun h1 h2 => by
      have := hmg.takeB hsA hsB (by rw [← HB.out]; exact h1) (fun h => by rw [EA.out, EB.out]; exact h2 (by rw [HA.out]; exact h))
      rwa [EB.out] at this
    have gA : p < la → a1 = some ⟨b1, o1, none⟩ ∧ wr.cell? ⟨b1, o1 + p * 2, none⟩ = some (.int .i64 (LA p)) ∧ wr.cell? ⟨b1, o1 + p * 2 + 1, none⟩ = some (.int .i64 (PA p)) := fun h => by
      obtain ⟨e, hbb⟩ := ha1 (by omega)
      exact ⟨e, (hbel.cell (p := ⟨b1, o1 + p * 2, none⟩) hbb).trans (HcA.out p h).1, (hbel.cell (p := ⟨b1, o1 + p * 2 + 1, none⟩) hbb).trans (HcA.out p h).2⟩
    have gB : q < lb → a2 = some ⟨b2, o2, none⟩ ∧ wr.cell? ⟨b2, o2 + q * 2, none⟩ = some (.int .i64 (LB q)) ∧ wr.cell? ⟨b2, o2 + q * 2 + 1, none⟩ = some (.int .i64 (PB q)) := fun h => by
      obtain ⟨e, hbb⟩ := ha2 (by omega)
      exact ⟨e, (hbel.cell (p := ⟨b2, o2 + q * 2, none⟩) hbb).trans (HcB.out q h).1, (hbel.cell (p := ⟨b2, o2 + q * 2 + 1, none⟩) hbb).trans (HcB.out q h).2⟩
    clear HcA HcB ha1 ha2
    by_cases hpa : p < la
    · have d1 : decide ((p : Int) < (la : Int)) = true := decide_eq_true (by omega)
      obtain ⟨rfl, a0, a1'⟩ := gA hpa
      by_cases hqb : q < lb
      · have d2 : decide ((lb : Int) ≤ (q : Int)) = false := decide_eq_false (by omega)
        have d2' : decide (lb ≤ q) = false := decide_eq_false (by omega)
        obtain ⟨rfl, b0, b1'⟩ := gB hqb
        by_cases hle : LA p ≤ LB q
        · have d3 : decide (LA p ≤ LB q) = true := decide_eq_true hle
          have hmg' := goA hpa (fun _ => hle)
          clear goA goB gA gB hmg
          go_wp2
          go_big_quiet (fail)
          go_wp2_with (at_builtin; refine wpList_app2 _ rfl _ _ 64 rfl w2.heap.size 66 .i64 _ _ 16 Try.underlying64 Try.info66 _ _ rfl ((hown.drewN _).alloc _) _ 1 (LA p, PA p) rfl (newcell0 _ _ _ _) (newcell1 _ _ _ _) HL.out (by omega) (by simp; omega) ?_)
          intro v' w3 hown' hgrow
          have hbel' := hown.belowStep hbel (Nat.le_refl _) hgrow
          clear hgrow hown HL
          go_wp2
          go_roundw
          case rel => exact ⟨p + 1, q, _, by omega, by omega, by go_num, by go_num, hbel', hown', hmg'⟩
          case measure => simp [intOf]; omega
        · have d3 : decide (LA p ≤ LB q) = false := decide_eq_false hle
          have hmg' := goB hqb (fun _ => by omega)
          clear goA goB gA gB hmg
          go_wp2
          go_big_quiet (fail)
          go_wp2_with (at_builtin; refine wpList_app2 _ rfl _ _ 64 rfl w2.heap.size 66 .i64 _ _ 16 Try.underlying64 Try.info66 _ _ rfl ((hown.drewN _).alloc _) _ 1 (LB q, PB q) rfl (newcell0 _ _ _ _) (newcell1 _ _ _ _) HL.out (by omega) (by simp; omega) ?_)
          intro v' w3 hown' hgrow
          have hbel' := hown.belowStep hbel (Nat.le_refl _) hgrow
          clear hgrow hown HL
          go_wp2
          go_roundw
          case rel => exact ⟨p, q + 1, _, by omega, by omega, by go_num, by go_num, hbel', hown', hmg'⟩
          case measure => simp [intOf]; omega
      · have d2 : decide ((lb : Int) ≤ (q : Int)) = true := decide_eq_true (by omega)
        have d2' : decide (lb ≤ q) = true := decide_eq_true (by omega)
        have hmg' := goA hpa (fun h => absurd h hqb)
        clear goA goB gA gB hmg
        go_wp2
        go_big_quiet (fail)
        go_wp2_with (at_builtin; refine wpList_app2 _ rfl _ _ 64 rfl w2.heap.size 66 .i64 _ _ 16 Try.underlying64 Try.info66 _ _ rfl ((hown.drewN _).alloc _) _ 1 (LA p, PA p) rfl (newcell0 _ _ _ _) (newcell1 _ _ _ _) HL.out (by omega) (by simp; omega) ?_)
        intro v' w3 hown' hgrow
        have hbel' := hown.belowStep hbel (Nat.le_refl _) hgrow
        clear hgrow hown HL
        go_wp2
        go_roundw
        case rel => exact ⟨p + 1, q, _, by omega, by omega, by go_num, by go_num, hbel', hown', hmg'⟩
        case measure => simp [intOf]; omega
    · have d1 : decide ((p : Int) < (la : Int)) = false := decide_eq_false (by omega)
      have d1' : decide (p < la) = false := decide_eq_false (by omega)
      by_cases hqb : q < lb
      · have d2 : decide ((lb : Int) ≤ (q : Int)) = false := decide_eq_false (by omega)
        have d2' : decide (lb ≤ q) = false := decide_eq_false (by omega)
        have d3 : decide ((q : Int) < (lb : Int)) = true := decide_eq_true (by omega)
        obtain ⟨rfl, b0, b1'⟩ := gB hqb
        have hmg' := goB hqb (fun h => absurd h hpa)
        clear goA goB gA gB hmg
        go_wp2
        go_big_quiet (fail)
        go_wp2_with (at_builtin; refine wpList_app2 _ rfl _ _ 64 rfl w2.heap.size 66 .i64 _ _ 16 Try.underlying64 Try.info66 _ _ rfl ((hown.drewN _).alloc _) _ 1 (LB q, PB q) rfl (newcell0 _ _ _ _) (newcell1 _ _ _ _) HL.out (by omega) (by simp; omega) ?_)
        intro v' w3 hown' hgrow
        have hbel' := hown.belowStep hbel (Nat.le_refl _) hgrow
        clear hgrow hown HL
        go_wp2
        go_roundw
        case rel => exact ⟨p, q + 1, _, by omega, by omega, by go_num, by go_num, hbel', hown', hmg'⟩
        case measure => simp [intOf]; omega
      · have d3 : decide ((q : Int) < (lb : Int)) = false := decide_eq_false (by omega)
        clear goA goB gA gB
        go_wp2
        go_ret
        have hf := hmg.finish (by rw [← HA.out]; omega) (by rw [← HB.out]; omega)
        exact ⟨out, hf.1.trans hpp.out, hf.2, _, rfl, hown.sl2, hb12.trans (hbel.mono (by omega))⟩

theorem sortE_all (m : Nat) : m ≤ 262144 → SortE m := by
  induction m with
  | zero =>
    intro _ es v w hl h
    obtain ⟨a, b, off, c, rfl, hcc, hcm, ha, hc⟩ := h
    have hp := sortE_short a b off es.length c (fun i => (es.getD i (0, 0)).1) (fun i => (es.getD i (0, 0)).2) w (by omega) ha hc
    rw [pairs_of] at hp
    have hs := srt_short (fun i => (es.getD i (0, 0)).1) (fun i => (es.getD i (0, 0)).2) es.length (by omega)
    rw [pairs_of] at hs
    exact hp.mono fun e w' h => ⟨es, List.Perm.refl _, hs, h⟩
  | succ m ih =>
    intro hm es v w hl h
    obtain ⟨a, b, off, c, rfl, hcc, hcm, ha, hc⟩ := h
    by_cases h2 : es.length < 2
    · have hp := sortE_short a b off es.length c (fun i => (es.getD i (0, 0)).1) (fun i => (es.getD i (0, 0)).2) w h2 ha hc
      rw [pairs_of] at hp
      have hs := srt_short (fun i => (es.getD i (0, 0)).1) (fun i => (es.getD i (0, 0)).2) es.length h2
      rw [pairs_of] at hs
      exact hp.mono fun e w' h => ⟨es, List.Perm.refl _, hs, h⟩
    · obtain ⟨rfl, hb⟩ := ha (by omega)
      exact sortE_step m (ih (by omega)) b off es.length c es w (by omega) rfl hl (by omega) hcc hcm hb hc

theorem sortE_any {v : Value} {es : List (Int × Int)} (w : World) (h : Sl2 .i64 w v es) (hm : es.length ≤ 262144) : Calls Try.prog 32 #[v] w (SortPost es w) :=
  sortE_all _ hm es v w (Nat.le_refl _) h
end Go.Proofs.Qxb6605195a
