/-
  Seat b6605195a. WALKS: rangesInDomain (8), cloneRanges (9), toRuneRanges (11).
-/
import Derived.Test.Qxb6605195aBase
import Derived.Lib.SliceRun
namespace Go.Proofs.Qxb6605195a
open Go.RowKit

def Dom (x : Int × Int) : Prop := 0 ≤ x.1 ∧ x.1 ≤ 1114111 ∧ 0 ≤ x.2 ∧ x.2 ≤ 1114111

def DomPost (n : Nat) (L H : Nat → Int) (w : World) (e : Ending) (w' : World) : Prop :=
  ∃ r : Bool, e = .returned (.bool r) ∧ (r = true → ∀ i, i < n → 0 ≤ L i ∧ L i ≤ 1114111 ∧ 0 ≤ H i ∧ H i ≤ 1114111) ∧ Below w.heap.size w w'

set_option maxHeartbeats 400000 in
theorem dom_core (a : Option Addr) (b off n c : Nat) (L H : Nat → Int) (w : World) (hm : n ≤ 131072) (ha : 0 < n → a = some ⟨b, off, none⟩ ∧ b < w.heap.size)
    (hc : ∀ i, i < n → w.cell? ⟨b, off + i * 2, none⟩ = some (.int .i32 (L i)) ∧ w.cell? ⟨b, off + i * 2 + 1, none⟩ = some (.int .i32 (H i))) :
    Calls Try.prog 8 #[.slice a n c] w (DomPost n L H w) := by
  go_enter Try.func8, Try.ntmps8
  go_wp2
  go_loopw [7] (fun i wr => ∃ k : Nat, k ≤ n ∧ i = .int .i64 k ∧ Below w.heap.size w wr ∧ Hid (∀ i, i < k → 0 ≤ L i ∧ L i ≤ 1114111 ∧ 0 ≤ H i ∧ H i ≤ 1114111)) (fun i _ => n - (intOf i).toNat)
  case atStart => exact ⟨0, Nat.zero_le _, rfl, Below.refl _ _, fun i h => absurd h (Nat.not_lt_zero _)⟩
  case round =>
    obtain ⟨k, hk, rfl, hbel, hall⟩ := hrel
    have hz := hbel.size
    by_cases hlt : k < n
    · obtain ⟨rfl, hb⟩ := ha (by omega)
      have g0 := (hbel.cell (p := ⟨b, off + k * 2, none⟩) hb).trans (hc k hlt).1
      have g1 := (hbel.cell (p := ⟨b, off + k * 2 + 1, none⟩) hb).trans (hc k hlt).2
      clear hc ha
      go_wp2
      all_goals first
        | (go_ret; exact ⟨false, rfl, fun h => absurd h (by decide), hbel.alloc hz _⟩)
        | (go_roundw
           case rel =>
             refine ⟨k + 1, by omega, by go_num, hbel.alloc hz _, fun i hi => ?_⟩
             by_cases e : i = k
             · subst e; omega
             · exact hall.out i (by omega)
           case measure => simp [intOf]; omega)
    · go_wp2
      go_ret
      exact ⟨true, rfl, fun _ i hi => hall.out i (by omega), hbel⟩

theorem dom_any {v : Value} {xs : List (Int × Int)} (w : World) (h : Sl2 .i32 w v xs) (hm : xs.length ≤ 131072) :
    Calls Try.prog 8 #[v] w fun e w' => ∃ r : Bool, e = .returned (.bool r) ∧ (r = true → ∀ x ∈ xs, Dom x) ∧ Below w.heap.size w w' := by
  obtain ⟨a, b, off, c, rfl, hcc, hcm, ha, hc⟩ := h
  refine (dom_core a b off xs.length c (fun i => (xs.getD i (0, 0)).1) (fun i => (xs.getD i (0, 0)).2) w hm ha hc).mono ?_
  rintro e w' ⟨r, he, hr, hb⟩
  refine ⟨r, he, fun h x hx => ?_, hb⟩
  obtain ⟨i, hi, rfl⟩ := List.getElem_of_mem hx
  have := hr h i hi
  simpa [Dom, hi] using this

def ClonePost (n : Nat) (w : World) (L H : Nat → Int) (e : Ending) (w' : World) : Prop :=
  ∃ v b, e = .returned v ∧ Below w.heap.size w w' ∧ ∃ a c, v = .slice a n c ∧ n ≤ c ∧ c ≤ maxLen ∧ (0 < n → a = some ⟨b, 0, none⟩ ∧ b < w'.heap.size) ∧
   ∀ i, i < n → w'.cell? ⟨b, i * 2, none⟩ = some (.int .i32 (L i)) ∧ w'.cell? ⟨b, i * 2 + 1, none⟩ = some (.int .i32 (H i))

set_option maxHeartbeats 400000 in
theorem clone_core (ad : Addr) (b off n c : Nat) (L H : Nat → Int) (w : World) (hm : n ≤ 131072) (ha : 0 < n → ad = ⟨b, off, none⟩ ∧ b < w.heap.size)
    (hc : ∀ i, i < n → w.cell? ⟨b, off + i * 2, none⟩ = some (.int .i32 (L i)) ∧ w.cell? ⟨b, off + i * 2 + 1, none⟩ = some (.int .i32 (H i))) :
    Calls Try.prog 9 #[.slice (some ad) n c] w (ClonePost n w L H) := by
  obtain ⟨X, hX, hmk⟩ := run_make2 (P := Try.prog) 22 58 _ 2 8 Try.underlying22 Try.info58 n (by omega) (by omega)
  have HX : Hid (X.size = n * 2) := by rw [hX, size_madeCells]; exact rfl
  clear hX
  have hnil := fun w => Lib.run_eql_slice_nil (P := Try.prog) w 22 58 (some ad) n c 0 0 Try.underlying22
  go_enter Try.func9, Try.ntmps9
  go_wp2
  go_loopw [4] (fun i wr => ∃ (k : Nat) (cur : Array Value), k ≤ n ∧ i = .int .i64 k ∧ Below w.heap.size w wr ∧ Blk wr w.heap.size cur 58 ∧ Hid (cur.size = n * 2) ∧ Filled .i32 cur k L H) (fun i _ => n - (intOf i).toNat)
  case atStart => exact ⟨0, X, Nat.zero_le _, rfl, (Below.refl _ _).alloc (Nat.le_refl _) _, Blk.new _ _ _, HX, fun i h => absurd h (Nat.not_lt_zero _)⟩
  case round =>
    obtain ⟨k, cur, hk, rfl, hbel, hblk, hcs, hfill⟩ := hrel
    have hz := hblk.lt
    by_cases hlt : k < n
    · obtain ⟨rfl, hb⟩ := ha (by omega)
      have g0 := (hbel.cell (p := ⟨b, off + k * 2, none⟩) hb).trans (hc k hlt).1
      have g1 := (hbel.cell (p := ⟨b, off + k * 2 + 1, none⟩) hb).trans (hc k hlt).2
      have f0 := hblk.frozen (k * 2)
      have f1 := hblk.frozen (k * 2 + 1)
      have e0 : wr.cell? ⟨w.heap.size, k * 2, none⟩ = some (cur[k * 2]'(by have := hcs.out; omega)) := by rw [hblk.cell]; simp
      have e1 : wr.cell? ⟨w.heap.size, k * 2 + 1, none⟩ = some (cur[k * 2 + 1]'(by have := hcs.out; omega)) := by rw [hblk.cell]; simp
      generalize cur[k * 2]'(by have := hcs.out; omega) = x0 at e0
      generalize cur[k * 2 + 1]'(by have := hcs.out; omega) = x1 at e1
      clear hc ha
      go_wp2
      go_roundw
      case rel =>
        refine ⟨k + 1, _, by omega, by go_num, (hbel.setCell (Nat.le_refl _) _).setCell (Nat.le_refl _) _, (hblk.set _ _).set _ _, ?_, hfill.step (by have := hcs.out; omega)⟩
        have := hcs.out
        simpa [Hid] using this
      case measure => simp [intOf]; omega
    · go_wp2
      go_ret
      obtain rfl : k = n := by omega
      exact ⟨_, w.heap.size, rfl, hbel, _, _, rfl, Nat.le_refl _, by unfold maxLen; omega, fun _ => ⟨rfl, hz⟩, fun i hi => ⟨(hblk.cell _).trans (hfill i hi).1, (hblk.cell _).trans (hfill i hi).2⟩⟩

set_option maxHeartbeats 400000 in
theorem clone_nil (n c : Nat) (w : World) : Calls Try.prog 9 #[.slice none n c] w fun e w' => e = .returned (.slice none 0 0) ∧ w' = w := by
  have hnil := fun w => Lib.run_eql_slice_nil (P := Try.prog) w 22 58 none n c 0 0 Try.underlying22
  go_enter Try.func9, Try.ntmps9
  go_wp2
  go_ret
  exact ⟨rfl, rfl⟩

theorem clone_any {v : Value} {xs : List (Int × Int)} (w : World) (h : Sl2 .i32 w v xs) (hm : xs.length ≤ 131072) :
    Calls Try.prog 9 #[v] w (NewSl2 .i32 xs w) := by
  obtain ⟨a, b, off, c, rfl, hcc, hcm, ha, hc⟩ := h
  cases a with
  | none =>
    have h0 : xs.length = 0 := by
      rcases Nat.eq_zero_or_pos xs.length with h | h
      · exact h
      · exact absurd (ha h).1 (by simp)
    refine (clone_nil xs.length c w).mono ?_
    rintro e w' ⟨rfl, rfl⟩
    exact ⟨_, rfl, ⟨none, 0, 0, 0, by rw [h0], by omega, by unfold maxLen; omega, fun h => by omega, fun i hi => by omega⟩, Below.refl _ _⟩
  | some ad =>
    refine (clone_core ad b off xs.length c (fun i => (xs.getD i (0, 0)).1) (fun i => (xs.getD i (0, 0)).2) w hm (fun h => by simpa using ha h) hc).mono ?_
    rintro e w' ⟨v, b', rfl, hb, a', c', rfl, g1, g2, h1, h2⟩
    exact ⟨_, rfl, ⟨a', b', 0, c', rfl, g1, g2, h1, fun i hi => by simpa using h2 i hi⟩, hb⟩

theorem zzrange_any (lo hi : Int) (w : World) : Calls Try.prog 31 #[.int .i32 lo, .int .i32 hi] w fun e w' => e = .returned (.agg #[.int .i32 lo, .int .i32 hi]) ∧ w' = w.alloc (.cells #[.int .i32 lo, .int .i32 hi] 60) := by
  go_enter Try.func31, Try.ntmps31
  go_wp2
  exact bodyPost_ret (v := .agg #[.int .i32 lo, .int .i32 hi]) (by simp [results, Try.results31, go_sem]) rfl ⟨rfl, rfl⟩

set_option maxHeartbeats 400000 in
theorem rune_core (a : Option Addr) (b off n c : Nat) (L H : Nat → Int) (w : World) (hm : n ≤ 131072) (ha : 0 < n → a = some ⟨b, off, none⟩ ∧ b < w.heap.size)
    (hc : ∀ i, i < n → w.cell? ⟨b, off + i * 2, none⟩ = some (.int .i32 (L i)) ∧ w.cell? ⟨b, off + i * 2 + 1, none⟩ = some (.int .i32 (H i))) :
    Calls Try.prog 11 #[.slice a n c] w (NewSl2 .i32 (pairs L H n) w) := by
  go_enter Try.func11, Try.ntmps11
  go_wp2
  go_loopw [3, 8] (fun v i wr => ∃ k : Nat, k ≤ n ∧ i = .int .i64 k ∧ Below w.heap.size w wr ∧ Own2 .i32 wr w.heap.size 60 v (pairs L H k)) (fun _ i _ => n - (intOf i).toNat)
  case atStart => exact ⟨0, Nat.zero_le _, rfl, Below.refl _ _, Own2.nil _ _ _ _⟩
  case round =>
    obtain ⟨k, hk, rfl, hbel, hown⟩ := hrel
    have hz := hbel.size
    by_cases hlt : k < n
    · obtain ⟨rfl, hb⟩ := ha (by omega)
      have g0 := (hbel.cell (p := ⟨b, off + k * 2, none⟩) hb).trans (hc k hlt).1
      have g1 := (hbel.cell (p := ⟨b, off + k * 2 + 1, none⟩) hb).trans (hc k hlt).2
      have hl := pairs_length L H k
      have HL : Hid ((pairs L H k).length ≤ 1048576) := by show _ ≤ _; omega
      clear hc ha hl
      go_wp2_with (first
        | (at_builtin; refine wpList_app2 _ rfl _ _ 27 rfl w.heap.size 60 .i32 _ _ 8 Try.underlying27 Try.info60 _ _ rfl (((hown.alloc _).alloc _).alloc _) _ 1 (L k, H k) rfl ?_ ?_ HL.out (by omega) (by simp; omega) ?_)
        | (go_at_call 31; refine (zzrange_any _ _ _).mono ?_; rintro e w' ⟨rfl, rfl⟩))
      intro v' w1 hown' hgrow
      rw [← pairs_succ] at hown'
      have hbel' : Below w.heap.size w w1 := Own2.belowGrown (((hown.alloc _).alloc _).alloc _) (((hbel.alloc hz _).alloc (by simp; omega) _).alloc (by simp; omega) _) hgrow (by simp; omega) (Nat.le_refl _)
      clear hgrow hown
      go_wp2
      go_roundw
      case rel => exact ⟨k + 1, by omega, by go_num, hbel', hown'⟩
      case measure => simp [intOf]; omega
    · go_wp2
      go_ret
      obtain rfl : k = n := by omega
      exact ⟨_, rfl, hown.sl2, hbel⟩

theorem rune_any {v : Value} {xs : List (Int × Int)} (w : World) (h : Sl2 .i32 w v xs) (hm : xs.length ≤ 131072) :
    Calls Try.prog 11 #[v] w (NewSl2 .i32 xs w) := by
  obtain ⟨a, b, off, c, rfl, hcc, hcm, ha, hc⟩ := h
  have := rune_core a b off xs.length c (fun i => (xs.getD i (0, 0)).1) (fun i => (xs.getD i (0, 0)).2) w hm ha hc
  rwa [pairs_of] at this
end Go.Proofs.Qxb6605195a
