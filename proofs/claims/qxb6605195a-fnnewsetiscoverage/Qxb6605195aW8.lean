/-
  Seat b6605195a. THE LAW's WALK: FnNewSetIsCoverage (3).
-/
import Derived.Test.Qxb6605195aW1
import Derived.Test.Qxb6605195aW3
import Derived.Test.Qxb6605195aW4
import Derived.Test.Qxb6605195aW5
import Derived.Test.Qxb6605195aW7
import Derived.Deep.RegionWith
import Derived.Laws.StructEq
set_option linter.unusedVariables false
namespace Go.Proofs.Qxb6605195a
open Go.RowKit

set_option maxRecDepth 100000 in
set_option maxHeartbeats 1000000 in
theorem law_long (a : Option Addr) (n c : Nat) (w : World) (hn : 131072 < n) (hnx : n ≤ 9223372036854775807) :
    Calls Try.prog 3 #[.slice a n c] w fun e w' => e = .returned (.bool true) ∧ Below w.heap.size w w' := by
  by_cases h2 : n ≤ 1048576
  · go_enter Try.func3, Try.ntmps3
    go_wp2
    all_goals
      go_ret
      exact ⟨rfl, Below.refl _ _⟩
  · go_enter Try.func3, Try.ntmps3
    go_wp2
    all_goals
      go_ret
      exact ⟨rfl, Below.refl _ _⟩

theorem eq_arr (a b : Int) (w : World) : (Op.equalIn 10000 31 (.agg #[.int .u64 a, .int .u64 b]) (.agg #[.int .u64 a, .int .u64 b])).run Try.prog w = .ok true w := by
  have h30 : ∀ x y w, (Op.equalIn 9999 30 (.int .u64 x) (.int .u64 y)).run Try.prog w = .ok (x == y) w := fun x y w => run_equalIn_int w 9998 30 .u64 .u64 x y Try.underlying30
  show (Op.equalIn (9998 + 1 + 1) 31 _ _).run Try.prog w = _
  rw [Op.equalIn]
  simp [run_underlying Try.underlying31, go_sem]
  rw [show List.range' 0 2 = [0, 1] from rfl]
  simp [h30, Try.isAgg30, go_sem]

set_option maxRecDepth 100000 in
set_option maxHeartbeats 1000000 in
theorem law_short (h43 : SortC) (v : Value) (xs : List (Int × Int)) (w : World) (h : Sl2 .i32 w v xs) (hm : Hid (xs.length ≤ 131072)) :
    Calls Try.prog 3 #[v] w fun e w' => e = .returned (.bool true) ∧ Below w.heap.size w w' := by
  have H := h
  obtain ⟨a, b, off, c, rfl, _, _, _, _⟩ := h
  obtain ⟨n, hn⟩ : ∃ n, n = xs.length := ⟨_, rfl⟩
  have Hn : Hid (n = xs.length) := hn
  have hnx : n ≤ 131072 := by rw [hn]; exact hm.out
  rw [← hn] at H ⊢
  clear hn
  have HV : Hid (Sl2 .i32 w (.slice a n c) xs) := H
  clear H
  go_enter Try.func3, Try.ntmps3
  go_wp2_with (go_at_call 7; go_in)
  refine (dom_any w HV.out hm.out).mono ?_
  rintro e w1 ⟨r, rfl, hr, hb1⟩
  cases r with
  | false =>
    clear hr
    go_wp2
    go_ret
    exact ⟨rfl, hb1⟩
  | true =>
    have hd : Hid (∀ x ∈ xs, 0 ≤ x.1 ∧ x.1 ≤ 1114111 ∧ 0 ≤ x.2 ∧ x.2 ≤ 1114111) := hr rfl
    clear hr
    go_wp2_with fail
    refine (clone_any w1 (HV.out.below hb1) hm.out).mono ?_
    rintro e w2 ⟨v2, rfl, hv2, hb2⟩
    have hb02 : Below w.heap.size w w2 := hb1.trans (hb2.mono hb1.size)
    clear hb1 hb2 HV
    go_wp2_with fail
    refine (rune_any w2 hv2 hm.out).mono ?_
    rintro e w3 ⟨v3, rfl, hv3, hb3⟩
    go_wp2_with (go_at_call 10; go_in)
    refine (set_core clone_c h43 v3 xs w3 hv3 hm hd).mono ?_
    rintro e w4 ⟨g, u, m, A, rfl, hblk, hu, hml, hcan, hcov, hwd, hb4⟩
    have hb24 : Below w2.heap.size w2 w4 := hb3.trans (hb4.mono hb3.size)
    clear hb3 hb4 hv3
    go_wp2_with fail
    refine (data_any w4 hu hml hblk).mono ?_
    rintro e w5 ⟨v4, v5, rfl, h4, h5, hb5⟩
    have hb25 : Below w2.heap.size w2 w5 := hb24.trans (hb5.mono hb24.size)
    have Hml : Hid (m.length ≤ 131072) := hml
    have Hcan : Hid (Canon m) := hcan
    have Hcov : Hid (∀ c, Cov m c ↔ Cov xs c) := hcov
    have Hwd : Hid (Words (fun x => Cov m (x : Int)) A) := hwd
    have hz25 := hb25.size
    have hz02 := hb02.size
    clear hb24 hb5 hblk hu hml hcan hcov hwd
    have hc14 : ∀ W : World, Below w2.heap.size w2 W → Calls Try.prog 14 #[v2] W fun e w' => ∃ v6, e = .returned v6 ∧ Sl2 .i32 w' v6 m ∧ Below W.heap.size W w' := fun W hW => by
      refine (cov_any W (hv2.below hW) hm.out hd.out).mono ?_
      rintro e w' ⟨rs, hcan', hcov', v6, he, hv6, hb6⟩
      obtain rfl : m = rs := canon_unique m rs Hcan.out hcan' (fun c => by rw [Hcov.out, hcov'])
      exact ⟨v6, he, hv6, hb6⟩
    have hc13 : ∀ (W : World) (v6 : Value), Below w5.heap.size w5 W → Sl2 .i32 W v6 m → Calls Try.prog 13 #[v4, v5, v6] W fun e w' => e = .returned (.bool true) ∧ ∃ q, w' = W.drewN q := fun W v6 hW hv6 =>
      same_any W (h4.below hW) (h5.below hW) hv6 Hml.out
    have hc15 : ∀ W : World, Below w2.heap.size w2 W → Calls Try.prog 15 #[v2] W fun e w' => e = .returned (.agg #[.int .u64 (A 0), .int .u64 (A 1)]) ∧ Below W.heap.size W w' := fun W hW => by
      refine (ascii_any v2 xs W (hv2.below hW) hm hd).mono ?_
      rintro e w' ⟨A', rfl, hA', hb'⟩
      have hwm : Words (fun x => Cov m (x : Int)) A' := hA'.congr fun x _ => (Hcov.out x).symm
      have e0 : A' 0 = A 0 := hwm.1.unique Hwd.out.1
      have e1 : A' 1 = A 1 := hwm.2.unique Hwd.out.2
      rw [e0, e1]
      exact ⟨rfl, hb'⟩
    have Hc14 : Hid _ := hc14
    have Hc13 : Hid _ := hc13
    have Hc15 : Hid _ := hc15
    clear hc14 hc13 hc15 h4 h5 hv2 Hcan Hcov Hwd
    have hb56 : Below w5.heap.size w5 (w5.alloc (.cells #[.int .u64 (A 0), .int .u64 (A 1)] 31)).drew := ((Below.refl _ _).alloc (Nat.le_refl _) _).drew
    have hbl6 : Blk (w5.alloc (.cells #[.int .u64 (A 0), .int .u64 (A 1)] 31)).drew w5.heap.size #[.int .u64 (A 0), .int .u64 (A 1)] 31 := (Blk.new _ _ _).drew
    have Hb56 : Hid (Below w5.heap.size w5 (w5.alloc (.cells #[.int .u64 (A 0), .int .u64 (A 1)] 31)).drew) := hb56
    have Hbl6 : Hid (Blk (w5.alloc (.cells #[.int .u64 (A 0), .int .u64 (A 1)] 31)).drew w5.heap.size #[.int .u64 (A 0), .int .u64 (A 1)] 31) := hbl6
    clear hb56 hbl6
    have heq := fun w => eq_arr (A 0) (A 1) w
    go_wp2_with fail
    go_region_with (first
      | (go_at_call 14; refine (Hc14.out _ (hb25.trans (Hb56.out.mono hz25))).mono ?_; rintro e w6 ⟨v6, rfl, hv6, hb6⟩; have hbl := Hbl6.out.below hb6 Hbl6.out.lt; have hx56 := Hb56.out.trans (hb6.mono Hb56.out.size); have hz6 := hbl.lt; have c0 : w6.cell? ⟨w5.heap.size, 0, none⟩ = some (.int .u64 (A 0)) := hbl.cell 0; have c1 : w6.cell? ⟨w5.heap.size, 1, none⟩ = some (.int .u64 (A 1)) := hbl.cell 1)
      | (go_at_call 13; refine (Hc13.out _ _ hx56 hv6).mono ?_; rintro e w7 ⟨rfl, q, rfl⟩)
      | (go_at_call 15; refine (Hc15.out _ (below_drewN (hb25.trans (hx56.mono hz25)) q)).mono ?_; rintro e w8 ⟨rfl, hb8⟩; have hbl8 := Blk.below (w := w6.drewN q) hbl hb8 hz6; have d0 : w8.cell? ⟨w5.heap.size, 0, none⟩ = some (.int .u64 (A 0)) := hbl8.cell 0; have d1 : w8.cell? ⟨w5.heap.size, 1, none⟩ = some (.int .u64 (A 1)) := hbl8.cell 1))
    all_goals
      go_wp2
      go_ret
      have t1 : Below w.heap.size w w5 := hb02.trans (hb25.mono hz02)
      have t2 : Below w.heap.size w (w6.drewN q) := below_drewN (t1.trans (hx56.mono t1.size)) q
      exact ⟨rfl, t2.trans (hb8.mono t2.size)⟩
end Go.Proofs.Qxb6605195a
