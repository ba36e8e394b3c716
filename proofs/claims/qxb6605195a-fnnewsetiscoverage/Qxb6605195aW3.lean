/-
  Seat b6605195a. WALK: coverage (14).
-/
import Derived.Test.Qxb6605195aW2
import Derived.Test.Qxb6605195aPlainB
set_option linter.unusedVariables false
namespace Go.Proofs.Qxb6605195a
open Go.RowKit

/-- coverage's contract: a new slice with the runs. -/
def CovPost (xs : List (Int × Int)) (w : World) (e : Ending) (w' : World) : Prop :=
  ∃ rs, Canon rs ∧ (∀ c, Cov rs c ↔ Cov xs c) ∧ NewSl2 .i32 rs w e w'

theorem evs_pairs_succ (L H : Nat → Int) (k : Nat) : evs (pairs L H (k + 1)) = evs (pairs L H k) ++ (if L k ≤ H k then [(L k, 1), (H k + 1, -1)] else []) := by
  rw [pairs_succ, evs_append]; simp [evs]

theorem newcellA (W : World) (o : Obj) (x y : Value) (t : TypeId) : ((W.alloc o).alloc (.cells #[x, y] t)).cell? ⟨W.heap.size + 1, 0, none⟩ = some x := by simp
theorem newcellB (W : World) (o : Obj) (x y : Value) (t : TypeId) : ((W.alloc o).alloc (.cells #[x, y] t)).cell? (Addr.add ⟨W.heap.size + 1, 0, none⟩ 1) = some y := by simp [Addr.add]

set_option maxHeartbeats 1000000 in
theorem cov_core (a : Option Addr) (b off n c : Nat) (L H : Nat → Int) (w : World) (hm : n ≤ 131072) (ha : 0 < n → a = some ⟨b, off, none⟩ ∧ b < w.heap.size)
    (hc : Hid (∀ i, i < n → w.cell? ⟨b, off + i * 2, none⟩ = some (.int .i32 (L i)) ∧ w.cell? ⟨b, off + i * 2 + 1, none⟩ = some (.int .i32 (H i))))
    (hdom : Hid (∀ i, i < n → 0 ≤ L i ∧ L i ≤ 1114111 ∧ 0 ≤ H i ∧ H i ≤ 1114111)) :
    Calls Try.prog 14 #[.slice a n c] w (CovPost (pairs L H n) w) := by
  go_enter Try.func14, Try.ntmps14
  go_wp2_with fail
  go_loopw [3, 14] (fun v i wr => ∃ k : Nat, k ≤ n ∧ i = .int .i64 k ∧ Below w.heap.size w wr ∧ Own2 .i64 wr w.heap.size 66 v (evs (pairs L H k))) (fun _ i _ => n - (intOf i).toNat)
  case atStart => exact ⟨0, Nat.zero_le _, rfl, Below.refl _ _, Own2.nil _ _ _ _⟩
  case round =>
    obtain ⟨k, hk, rfl, hbel, hown⟩ := hrel
    have hz := hbel.size
    by_cases hlt : k < n
    · obtain ⟨rfl, hb⟩ := ha (by omega)
      have g0 := (hbel.cell (p := ⟨b, off + k * 2, none⟩) hb).trans (hc.out k hlt).1
      have g1 := (hbel.cell (p := ⟨b, off + k * 2 + 1, none⟩) hb).trans (hc.out k hlt).2
      obtain ⟨q1, q2, q3, q4⟩ := hdom.out k hlt
      have HL : Hid ((evs (pairs L H k)).length ≤ 1048575) := by show _ ≤ _; have := evs_length (pairs L H k); rw [pairs_length] at this; omega
      have hev := evs_pairs_succ L H k
      by_cases hle : L k ≤ H k
      · rw [if_pos hle] at hev
        have hev' : Hid (evs (pairs L H (k + 1)) = evs (pairs L H k) ++ [(L k, 1), (H k + 1, -1)]) := hev
        clear hev hc hdom ha
        go_wp2_with (at_builtin; refine wpList_app2 _ rfl (.tmp 23) (.tmp 28) 64 rfl w.heap.size 66 .i64 _ _ 16 Try.underlying64 Try.info66 _ _ rfl ((hown.alloc _).alloc _) _ 1 (L k, 1) rfl (newcellA _ _ _ _ _) (newcellB _ _ _ _ _) (by have := HL.out; omega) (by omega) (by simp; omega) ?_)
        intro v1 w1 hown1 hgrow1
        have hbel1 : Below w.heap.size w w1 := Own2.belowGrown ((hown.alloc _).alloc _) ((hbel.alloc hz _).alloc (by simp; omega) _) hgrow1 (by simp; omega) (Nat.le_refl _)
        have hz1 : wr.heap.size + 2 ≤ w1.heap.size := by have := hgrow1.size; simpa using this
        have hr1 : w1.cell? ⟨wr.heap.size, 1, none⟩ = some (.int .i32 (H k)) := by
          refine hgrow1.cell (by simp) ?_
          intro e
          have := World.ownsRow.lt hown _ e.symm
          simp at this
        have HL1 : Hid ((evs (pairs L H k) ++ [(L k, 1)]).length ≤ 1048576) := by show _ ≤ _; have := HL.out; simp; omega
        clear hgrow1 hown HL
        go_wp2_with (at_builtin; refine wpList_app2 _ rfl (.tmp 30) (.tmp 36) 64 rfl w.heap.size 66 .i64 _ _ 16 Try.underlying64 Try.info66 _ _ rfl (hown1.alloc _) _ 1 (H k + 1, -1) rfl (newcell0 _ _ _ _) (newcell1 _ _ _ _) HL1.out (by omega) (by simp; omega) ?_)
        intro v2 w2 hown2 hgrow2
        rw [← hev'.out] at hown2
        have hbel2 : Below w.heap.size w w2 := Own2.belowGrown (hown1.alloc _) (hbel1.alloc (by omega) _) hgrow2 (by simp; omega) (Nat.le_refl _)
        clear hgrow2 hown1 hr1 HL1 hev'
        go_wp2
        go_roundw
        case rel => exact ⟨k + 1, by omega, by go_num, hbel2, hown2⟩
        case measure => simp [intOf]; omega
      · rw [if_neg hle, List.append_nil] at hev
        have hev' : Hid (evs (pairs L H (k + 1)) = evs (pairs L H k)) := hev
        clear hev hc hdom ha
        go_wp2
        go_roundw
        case rel => exact ⟨k + 1, by omega, by go_num, hbel.alloc hz _, by rw [hev'.out]; exact hown.alloc _⟩
        case measure => simp [intOf]; omega
    · obtain rfl : k = n := by omega
      have hxs : Hid (∀ x ∈ pairs L H k, 0 ≤ x.1 ∧ x.1 ≤ 1114111 ∧ 0 ≤ x.2 ∧ x.2 ≤ 1114111) := by
        intro x hx
        simp only [pairs, List.mem_map, List.mem_range] at hx
        obtain ⟨i, hi, rfl⟩ := hx
        exact hdom.out i hi
      have HL : Hid ((evs (pairs L H k)).length ≤ 262144) := by show _ ≤ _; have := evs_length (pairs L H k); rw [pairs_length] at this; omega
      obtain ⟨xs, hX⟩ : ∃ xs, xs = pairs L H k := ⟨_, rfl⟩
      rw [← hX] at hown hxs HL
      have HX : Hid (xs = pairs L H k) := hX
      clear hX
      clear hc hdom ha hlt
      go_wp2_with fail
      refine (sortE_any wr hown.sl2 HL.out).mono ?_
      rintro e w1 ⟨ys, hperm, hsrt, v1, rfl, hv1, hb1⟩
      have hb01 : Below w.heap.size w w1 := hbel.trans (hb1.mono hz)
      have hok : Hid (∀ e ∈ ys, EvOk e) := fun e he => evs_ok xs hxs.out e (hperm.mem_iff.1 he)
      have hup : Hid (∀ c, 0 ≤ upTo ys c) := fun c => by rw [upTo_perm hperm c]; exact (upTo_evs xs c).1
      have Hperm : Hid (ys.Perm (evs xs)) := hperm
      have Hlen : Hid (ys.length ≤ 262144) := by show _ ≤ _; rw [hperm.length_eq]; exact HL.out
      clear hperm hown hxs HL hb1 hbel hz
      obtain ⟨a1, b1, o1, c1, rfl, hc1, hm1, ha1, hcy⟩ := hv1
      obtain ⟨m, hm'⟩ : ∃ m, m = ys.length := ⟨_, rfl⟩
      rw [← hm'] at ha1 hcy hc1 Hlen
      rw [← hm']
      have hmx : m ≤ 262144 := Hlen.out
      have Hm : Hid (m = ys.length) := hm'
      clear hm' Hlen
      obtain ⟨LA, hLA⟩ : ∃ LA : Nat → Int, LA = fun i => (ys.getD i (0, 0)).1 := ⟨_, rfl⟩
      obtain ⟨DA, hDA⟩ : ∃ DA : Nat → Int, DA = fun i => (ys.getD i (0, 0)).2 := ⟨_, rfl⟩
      obtain ⟨P, hP⟩ : ∃ P : Nat → Int, P = psum ys := ⟨_, rfl⟩
      have hcy' : Hid (∀ i, i < m → w1.cell? ⟨b1, o1 + i * 2, none⟩ = some (.int .i64 (LA i)) ∧ w1.cell? ⟨b1, o1 + i * 2 + 1, none⟩ = some (.int .i64 (DA i))) := by rw [hLA, hDA]; exact hcy
      have hPs : Hid (∀ i, i < m → P (i + 1) = P i + DA i) := by
        intro i hi; rw [hP, hDA]; exact psum_succ ys i (by rw [← Hm.out]; exact hi)
      have hPb : Hid (∀ i, -(262144 : Int) ≤ P i ∧ P i ≤ 262144) := by
        intro i; rw [hP]; have := psum_bound ys hok.out i; have := Hm.out; omega
      have hLb : Hid (∀ i, i < m → 0 ≤ LA i ∧ LA i ≤ 1114112 ∧ (DA i = 1 ∨ DA i = -1)) := by
        intro i hi
        have hi' : i < ys.length := by rw [← Hm.out]; exact hi
        have := hok.out (ys.getD i (0, 0)) (by simp [hi'])
        rw [hLA, hDA]; exact ⟨this.2.1, this.2.2, this.1⟩
      have hSrt : Hid (∀ i j, i ≤ j → j < m → LA i ≤ LA j) := by
        intro i j hij hj
        rw [hLA]
        have hj' : j < ys.length := by rw [← Hm.out]; exact hj
        have hi' : i < ys.length := by omega
        rcases Nat.lt_or_ge i j with hlt | hge
        · have := List.pairwise_iff_getElem.1 hsrt i j hi' hj' hlt
          simpa [hi', hj'] using this
        · obtain rfl : i = j := by omega
          exact Int.le_refl _
      have hP0 : Hid (P 0 = 0) := by show _ = _; rw [hP]; rfl
      have HLA : Hid (LA = fun i => (ys.getD i (0, 0)).1) := hLA
      have HP : Hid (P = psum ys) := hP
      clear hcy hLA hDA hP hok
      have hz1 := hb01.size
      go_wp2_with fail
      go_loopw [6, 7, 8, 9] (fun v cnt st ii wr => ∃ (i : Nat) (s : Int) (out : List (Int × Int)), i ≤ m ∧ cnt = .int .i64 (P i) ∧ st = .int .i64 s ∧ ii = .int .i64 i ∧ 0 ≤ s ∧ s ≤ 1114112 ∧ Below w1.heap.size w1 wr ∧ Own2 .i32 wr w1.heap.size 58 v out ∧ Hid (out.length ≤ i) ∧ Sw ys i s out) (fun _ _ _ ii _ => m - (intOf ii).toNat)
      case atStart => exact ⟨0, 0, [], Nat.zero_le _, by rw [hP0.out], rfl, rfl, Int.le_refl _, by omega, Below.refl _ _, Own2.nil _ _ _ _, Nat.le_refl _, Sw.start0 ys hup.out⟩
      case round =>
        obtain ⟨i, s, out, hi, rfl, rfl, rfl, hs0, hs1, hbel, hown, hol, hsw⟩ := hrel
        have hz := hbel.size
        by_cases hlt : i < m
        · obtain ⟨rfl, hb⟩ := ha1 (by omega)
          have g0 := (hbel.cell (p := ⟨b1, o1 + i * 2, none⟩) hb).trans (hcy'.out i hlt).1
          obtain ⟨l0, l1, _⟩ := hLb.out i hlt
          have hn0 : 0 ≤ P i := by rw [HP.out]; exact hsw.nonneg
          obtain ⟨pb0, pb1⟩ := hPb.out i
          go_wp2_with fail
          go_loop [7, 9] (fun cnt ii => ∃ k : Nat, i ≤ k ∧ k ≤ m ∧ cnt = .int .i64 (P k) ∧ ii = .int .i64 k ∧ Hid (∀ j, i ≤ j → j < k → LA j = LA i)) (fun _ ii => m - (intOf ii).toNat)
          case atStart => exact ⟨i, Nat.le_refl _, hi, rfl, rfl, fun j h1 h2 => by omega⟩
          case round =>
            obtain ⟨k, hik, hkm, rfl, rfl, hall⟩ := hrel
            obtain ⟨qb0, qb1⟩ := hPb.out k
            by_cases hcont : k < m ∧ LA k = LA i
            · obtain ⟨hkl, hpk⟩ := hcont
              have g2 := (hbel.cell (p := ⟨b1, o1 + k * 2, none⟩) hb).trans (hcy'.out k hkl).1
              have g3 := (hbel.cell (p := ⟨b1, o1 + k * 2 + 1, none⟩) hb).trans (hcy'.out k hkl).2
              have hpk' : (LA k == LA i) = true := by simp [hpk]
              have HPS : Hid (P (k + 1) = P k + DA k) := hPs.out k hkl
              have hd1 : -1 ≤ DA k := by rcases (hLb.out k hkl).2.2 with e | e <;> omega
              have hd2 : DA k ≤ 1 := by rcases (hLb.out k hkl).2.2 with e | e <;> omega
              have HPK : Hid (LA k = LA i) := hpk
              clear hpk
              go_wp2
              go_round
              case rel => exact ⟨k + 1, by omega, by omega, by rw [HPS.out], by go_num, fun j h1 h2 => by
                rcases Nat.lt_or_ge j k with h | h
                · exact hall.out j h1 h
                · obtain rfl : j = k := by omega
                  exact HPK.out⟩
              case measure => simp [intOf]; omega
            · have hik' : i < k := by
                rcases Nat.lt_or_ge i k with h | h
                · exact h
                · obtain rfl : i = k := by omega
                  exact absurd ⟨hlt, rfl⟩ hcont
              have hgt : ∀ k', k ≤ k' → k' < m → LA i < LA k' := fun k' h1 h2 => by
                have h3 := hSrt.out i k (by omega) (by omega)
                have h4 := hSrt.out k k' h1 h2
                rcases Int.lt_or_le (LA i) (LA k) with h | h
                · omega
                · exact absurd ⟨by omega, by omega⟩ hcont
              have nxt := hsw.next hsrt hup.out (LA i) hik' (by rw [← Hm.out]; exact hkm) (fun j h1 h2 => by have := hall.out j h1 h2; rw [HLA.out] at this; rw [HLA.out]; exact this) (fun k' h1 h2 => by have := hgt k' h1 (by rw [Hm.out]; exact h2); rw [HLA.out] at this; rw [HLA.out]; exact this)
              rw [← HP.out] at nxt
              obtain ⟨n1, n2, n3, n4, n5⟩ := nxt
              have hol' : Hid (out.length ≤ k) := by show _ ≤ _; have := hol.out; omega
              have hol1 : Hid (out.length + 1 ≤ k) := by show _ ≤ _; have := hol.out; omega
              have HL : Hid (out.length ≤ 1048576) := by show _ ≤ _; have := hol.out; omega
              have N1 : Hid (P i = 0 → 0 < P k → Sw ys k (LA i) out) := n1
              have N2 : Hid (P i = 0 → P k = 0 → Sw ys k s out) := n2
              have N3 : Hid (0 < P i → P k = 0 → Sw ys k s (out ++ [(s, LA i - 1)])) := n3
              have N4 : Hid (0 < P i → 0 < P k → Sw ys k s out) := n4
              clear n1 n2 n3 n4 hgt hsw hup hall
              have hways : (k < m ∧ (LA k == LA i) = false ∧ wr.cell? ⟨b1, o1 + k * 2, none⟩ = some (.int .i64 (LA k))) ∨ ¬ k < m := by
                rcases Nat.lt_or_ge k m with h | h
                · exact .inl ⟨h, by simpa using fun e => hcont ⟨h, e⟩, (hbel.cell (p := ⟨b1, o1 + k * 2, none⟩) hb).trans (hcy'.out k h).1⟩
                · exact .inr (by omega)
              clear hcont hcy' hPs hPb hLb hSrt
              rcases (show P i ≤ 0 ∨ 0 < P i by omega) with z | z <;> rcases (show P k ≤ 0 ∨ 0 < P k by omega) with y | y
              · have hsw' := N2.out (by omega) (by omega)
                clear N1 N2 N3 N4
                rcases hways with ⟨hkl, hpk', g2⟩ | hkl
                all_goals
                  go_wp2
                  go_roundw
                  case rel => exact ⟨k, s, out, hkm, rfl, rfl, rfl, hs0, hs1, hbel, hown, hol', hsw'⟩
                  case measure => simp [intOf]; omega
              · have hsw' := N1.out (by omega) y
                clear N1 N2 N3 N4
                rcases hways with ⟨hkl, hpk', g2⟩ | hkl
                all_goals
                  go_wp2
                  go_roundw
                  case rel => exact ⟨k, LA i, out, hkm, rfl, rfl, rfl, l0, l1, hbel, hown, hol', hsw'⟩
                  case measure => simp [intOf]; omega
              · have hsw' := N3.out z (by omega)
                clear N1 N2 N3 N4
                rcases hways with ⟨hkl, hpk', g2⟩ | hkl
                all_goals
                  go_wp2_with (at_builtin; refine wpList_app2 _ rfl _ _ 22 rfl w1.heap.size 58 .i32 _ _ 8 Try.underlying22 Try.info58 _ _ rfl (hown.alloc _) _ 1 (s, LA i - 1) rfl (newcell0 _ _ _ _) (newcell1 _ _ _ _) HL.out (by omega) (by simp; omega) ?_)
                  intro v' w3 hown' hgrow
                  have hbel' : Below w1.heap.size w1 w3 := Own2.belowGrown (hown.alloc _) (hbel.alloc hz _) hgrow (by simp; omega) (Nat.le_refl _)
                  clear hgrow
                  go_wp2
                  go_roundw
                  case rel => exact ⟨k, s, _, hkm, rfl, rfl, rfl, hs0, hs1, hbel', hown', by show _ ≤ _; have := hol1.out; simp; omega, hsw'⟩
                  case measure => simp [intOf]; omega
              · have hsw' := N4.out z y
                clear N1 N2 N3 N4
                rcases hways with ⟨hkl, hpk', g2⟩ | hkl
                all_goals
                  go_wp2
                  go_roundw
                  case rel => exact ⟨k, s, out, hkm, rfl, rfl, rfl, hs0, hs1, hbel, hown, hol', hsw'⟩
                  case measure => simp [intOf]; omega
        · obtain rfl : i = m := by omega
          go_wp2
          go_ret
          rw [Hm.out] at hsw
          have hf := hsw.finish Hperm.out
          exact ⟨out, hf.1, by rw [← HX.out]; exact hf.2, _, rfl, hown.sl2, hb01.trans (hbel.mono hz1)⟩

theorem cov_any {v : Value} {xs : List (Int × Int)} (w : World) (h : Sl2 .i32 w v xs) (hm : xs.length ≤ 131072) (hd : ∀ x ∈ xs, 0 ≤ x.1 ∧ x.1 ≤ 1114111 ∧ 0 ≤ x.2 ∧ x.2 ≤ 1114111) :
    Calls Try.prog 14 #[v] w (CovPost xs w) := by
  obtain ⟨a, b, off, c, rfl, hcc, hcm, ha, hc⟩ := h
  have := cov_core a b off xs.length c (fun i => (xs.getD i (0, 0)).1) (fun i => (xs.getD i (0, 0)).2) w hm ha hc (fun i hi => by have := hd (xs.getD i (0, 0)) (by simp [hi]); exact this)
  rwa [pairs_of] at this
end Go.Proofs.Qxb6605195a
