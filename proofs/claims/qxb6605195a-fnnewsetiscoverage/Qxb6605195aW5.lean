/-
  Seat b6605195a. WALKS: ZZSetData (12), sameRanges (13).
-/
import Derived.Test.Qxb6605195aBase
import Derived.Deep.QuietTactic
import Derived.BigQuiet
import Derived.RegionTactic
set_option linter.unusedVariables false
namespace Go.Proofs.Qxb6605195a
open Go.RowKit

def ints (L : Nat → Int) (k : Nat) : List Int := (List.range k).map L
theorem ints_length (L : Nat → Int) (k : Nat) : (ints L k).length = k := by simp [ints]
theorem ints_succ (L : Nat → Int) (k : Nat) : ints L (k + 1) = ints L k ++ [L k] := by simp [ints, List.range_succ]

/-- Two owned slices do not lie in one row. -/
def ApartV (v u : Value) : Prop := v.ownBlock = none ∨ u.ownBlock = none ∨ v.ownBlock ≠ u.ownBlock

def DataPost (n : Nat) (L H : Nat → Int) (A0 A1 : Int) (w : World) (e : Ending) (w' : World) : Prop :=
  ∃ v1 v2, e = .returned (.tuple #[v1, v2, .agg #[.int .u64 A0, .int .u64 A1]]) ∧ Sl1 .i32 w' v1 (ints L n) ∧ Sl1 .i32 w' v2 (ints H n) ∧ Below w.heap.size w w'

theorem Own1.kept {k : IntKind} {w w' : World} {base : Nat} {e : TypeId} {v u : Value} {xs : List Int} (h : Own1 k w base e v xs) (hg : w.grownBy w' u.ownBlock) (ha : ApartV v u) : Own1 k w' base e v xs := by
  refine World.ownsRow.kept h (row := u.ownBlock) hg ?_
  rcases ha with a | a | a
  · exact .inl a
  · rw [a]
    cases hv : v.ownBlock with
    | none => exact .inl rfl
    | some x => exact .inr (by simp)
  · exact .inr a

theorem ApartV.symm {v u : Value} (h : ApartV v u) : ApartV u v := by
  rcases h with h | h | h
  · exact .inr (.inl h)
  · exact .inl h
  · exact .inr (.inr (Ne.symm h))

/-- behind an append onto u: the new value lies apart from v still. -/
theorem ApartV.grown {k : IntKind} {w : World} {base N : Nat} {e : TypeId} {v u u' : Value} {xs : List Int} (h : Own1 k w base e v xs) (ha : ApartV v u) (hN : w.heap.size ≤ N) (hu : u'.ownBlock = u.ownBlock ∨ u'.ownBlock = some N) : ApartV v u' := by
  rcases hu with hu | hu
  · unfold ApartV; rw [hu]; exact ha
  · cases hv : v.ownBlock with
    | none => exact .inl hv
    | some x =>
      have := (World.ownsRow.lt h x hv).2
      exact .inr (.inr (by rw [hv, hu]; simp; omega))

theorem Blk.grown {w w' : World} {g : Nat} {cur : Array Value} {t : TypeId} {row : Option Nat} (h : Blk w g cur t) (hg : w.grownBy w' row) (hne : some g ≠ row) : Blk w' g cur t := by
  unfold Blk at *
  rw [hg.block g (Blk.lt h) hne]; exact h

theorem row_ne {k : IntKind} {w : World} {base g : Nat} {e : TypeId} {v : Value} {xs : List Int} (h : Own1 k w base e v xs) (hg : g < base ∨ w.heap.size ≤ g) : some g ≠ v.ownBlock := by
  intro hv
  have := World.ownsRow.lt h g hv.symm
  omega

set_option maxRecDepth 100000 in
set_option maxHeartbeats 1000000 in
theorem data_core (a : Option Addr) (g b off n c : Nat) (L H : Nat → Int) (A0 A1 : Int) (w : World) (hm : n ≤ 131072) (ha : 0 < n → a = some ⟨b, off, none⟩ ∧ b < w.heap.size)
    (hc : Hid (∀ i, i < n → w.cell? ⟨b, off + i * 2, none⟩ = some (.int .i32 (L i)) ∧ w.cell? ⟨b, off + i * 2 + 1, none⟩ = some (.int .i32 (H i))))
    (hblk : Blk w g #[.slice a n c, .int .u64 A0, .int .u64 A1] 63) :
    Calls Try.prog 12 #[.pointer (some ⟨g, 0, none⟩)] w (DataPost n L H A0 A1 w) := by
  have hg := hblk.lt
  have e0 : w.cell? ⟨g, 0, none⟩ = some (.slice a n c) := by rw [hblk.cell]; rfl
  go_enter Try.func12, Try.ntmps12
  go_wp2_with fail
  go_loopw [2, 3, 12] (fun v1 v2 i wr => ∃ k : Nat, k ≤ n ∧ i = .int .i64 k ∧ Below w.heap.size w wr ∧ Blk wr w.heap.size #[.int .u64 0, .int .u64 0] 31 ∧ Own1 .i32 wr (w.heap.size + 1) 21 v1 (ints L k) ∧ Own1 .i32 wr (w.heap.size + 1) 21 v2 (ints H k) ∧ ApartV v1 v2) (fun _ _ i _ => n - (intOf i).toNat)
  case atStart => exact ⟨0, Nat.zero_le _, rfl, (Below.refl _ _).alloc (Nat.le_refl _) _, Blk.new _ _ _, Own1.nil _ _ _ _, Own1.nil _ _ _ _, .inl rfl⟩
  case round =>
    obtain ⟨k, hk, rfl, hbel, hres, hown1, hown2, hap⟩ := hrel
    have hz := hres.lt
    by_cases hlt : k < n
    · obtain ⟨rfl, hb⟩ := ha (by omega)
      have g0 := (hbel.cell (p := ⟨b, off + k * 2, none⟩) hb).trans (hc.out k hlt).1
      have g1 := (hbel.cell (p := ⟨b, off + k * 2 + 1, none⟩) hb).trans (hc.out k hlt).2
      have HL1 : Hid ((ints L k).length ≤ 1048576) := by show _ ≤ _; rw [ints_length]; omega
      have HL2 : Hid ((ints H k).length ≤ 1048576) := by show _ ≤ _; rw [ints_length]; omega
      clear hc ha e0 hblk
      go_wp2_with (at_builtin; refine wpList_app1 _ rfl (.tmp 16) (.tmp 19) 29 rfl (w.heap.size + 1) 21 .i32 _ 4 Try.underlying29 Try.info21 _ _ rfl ((hown1.alloc _).alloc _) _ 1 (L k) rfl ?_ HL1.out (by omega) (by simp; omega) ?_)
      · simp
      intro v1 w1 hown1' hgrow hat
      rw [← ints_succ] at hown1'
      have hz1 : wr.heap.size + 2 ≤ w1.heap.size := by have := hgrow.size; simpa using this
      have hbel1 : Below w.heap.size w w1 := ((hbel.alloc (by omega) _).alloc (by simp; omega) _).grown hgrow (by simp; omega) (fun j hj => by have := (World.ownsRow.lt hown1 j hj).1; omega)
      have hr1 : w1.cell? ⟨wr.heap.size, 1, none⟩ = some (.int .i32 (H k)) := hgrow.cell (by simp) (row_ne hown1 (.inr (Nat.le_refl _)))
      have hres1 : Blk w1 w.heap.size #[.int .u64 0, .int .u64 0] 31 := Blk.grown ((hres.alloc _).alloc _) hgrow (row_ne hown1 (.inl (by omega)))
      have hown2' : Own1 .i32 w1 (w.heap.size + 1) 21 u3 (ints H k) := Own1.kept ((hown2.alloc _).alloc _) hgrow hap.symm
      have hap1 : ApartV v1 u3 := (ApartV.grown hown2 hap.symm (by omega) hat).symm
      clear hgrow hat hown1 hown2 hap hres HL1
      go_wp2_with (at_builtin; refine wpList_app1 _ rfl (.tmp 21) (.tmp 24) 29 rfl (w.heap.size + 1) 21 .i32 _ 4 Try.underlying29 Try.info21 _ _ rfl (hown2'.alloc _) _ 1 (H k) rfl ?_ HL2.out (by omega) (by simp; omega) ?_)
      · simp
      intro v2 w2 hown2'' hgrow hat
      rw [← ints_succ] at hown2''
      have hz2 : w1.heap.size + 1 ≤ w2.heap.size := by have := hgrow.size; simpa using this
      have hbel2 : Below w.heap.size w w2 := (hbel1.alloc (by omega) _).grown hgrow (by simp; omega) (fun j hj => by have := (World.ownsRow.lt hown2' j hj).1; omega)
      have hres2 : Blk w2 w.heap.size #[.int .u64 0, .int .u64 0] 31 := Blk.grown (hres1.alloc _) hgrow (row_ne hown2' (.inl (by omega)))
      have hown1'' : Own1 .i32 w2 (w.heap.size + 1) 21 v1 (ints L (k + 1)) := Own1.kept (hown1'.alloc _) hgrow hap1
      have hap2 : ApartV v1 v2 := ApartV.grown hown1' hap1 (by simp) hat
      clear hgrow hat hown1' hown2' hap1 hres1 HL2 hr1
      go_wp2
      go_roundw
      case rel => exact ⟨k + 1, by omega, by go_num, hbel2, hres2, hown1'', hown2'', hap2⟩
      case measure => simp [intOf]; omega
    · obtain rfl : k = n := by omega
      have f0 := hres.frozen 0
      have f1 := hres.frozen 1
      have d0 : wr.cell? ⟨w.heap.size, 0, none⟩ = some (.int .u64 0) := by rw [hres.cell]; rfl
      have d1 : wr.cell? ⟨w.heap.size, 1, none⟩ = some (.int .u64 0) := by rw [hres.cell]; rfl
      have e1 : wr.cell? ⟨g, 1, none⟩ = some (.int .u64 A0) := by rw [hbel.cell hg, hblk.cell]; rfl
      have e2 : wr.cell? ⟨g, 2, none⟩ = some (.int .u64 A1) := by rw [hbel.cell hg, hblk.cell]; rfl
      clear hc ha e0
      go_wp2
      go_region
      all_goals
        go_wp2
        refine bodyPost_ret (v := .tuple #[u2, u3, .agg #[.int .u64 A0, .int .u64 A1]]) (by simp [results, Try.results12, go_sem, d0, d1]) rfl ⟨u2, u3, rfl, ?_, ?_, ((hbel.setCell (Nat.le_refl _) _).setCell (Nat.le_refl _) _).drew⟩
        · exact Own1.sl1 (k := .i32) (base := w.heap.size + 1) (e := 21) (World.ownsRow.drew (ownsRow_setCell_below (ownsRow_setCell_below hown1 (by simp) _) (by simp) _))
        · exact Own1.sl1 (k := .i32) (base := w.heap.size + 1) (e := 21) (World.ownsRow.drew (ownsRow_setCell_below (ownsRow_setCell_below hown2 (by simp) _) (by simp) _))

theorem ints_fst (xs : List (Int × Int)) : ints (fun i => (xs.getD i (0, 0)).1) xs.length = xs.map (·.1) := by
  refine List.ext_getElem (by simp [ints]) fun i h1 h2 => ?_
  have : i < xs.length := by simpa using h2
  simp [ints, this]
theorem ints_snd (xs : List (Int × Int)) : ints (fun i => (xs.getD i (0, 0)).2) xs.length = xs.map (·.2) := by
  refine List.ext_getElem (by simp [ints]) fun i h1 h2 => ?_
  have : i < xs.length := by simpa using h2
  simp [ints, this]

theorem data_any {g : Nat} {v : Value} {xs : List (Int × Int)} {A0 A1 : Int} (w : World) (h : Sl2 .i32 w v xs) (hm : xs.length ≤ 131072) (hblk : Blk w g #[v, .int .u64 A0, .int .u64 A1] 63) :
    Calls Try.prog 12 #[.pointer (some ⟨g, 0, none⟩)] w fun e w' => ∃ v1 v2, e = .returned (.tuple #[v1, v2, .agg #[.int .u64 A0, .int .u64 A1]]) ∧ Sl1 .i32 w' v1 (xs.map (·.1)) ∧ Sl1 .i32 w' v2 (xs.map (·.2)) ∧ Below w.heap.size w w' := by
  obtain ⟨a, b, off, c, rfl, hcc, hcm, ha, hc⟩ := h
  have := data_core a g b off xs.length c (fun i => (xs.getD i (0, 0)).1) (fun i => (xs.getD i (0, 0)).2) A0 A1 w hm ha hc hblk
  unfold DataPost at this
  rwa [ints_fst, ints_snd] at this

/-! ### sameRanges -/
set_option maxRecDepth 100000 in
set_option maxHeartbeats 1000000 in
/-- sameRanges on equal contents says true. -/
theorem same_core (a1 a2 a3 : Option Addr) (b1 o1 b2 o2 b3 o3 n c1 c2 c3 : Nat) (L H : Nat → Int) (w : World) (hm : n ≤ 131072)
    (ha1 : 0 < n → a1 = some ⟨b1, o1, none⟩) (ha2 : 0 < n → a2 = some ⟨b2, o2, none⟩) (ha3 : 0 < n → a3 = some ⟨b3, o3, none⟩)
    (h1 : Hid (∀ i, i < n → w.cell? ⟨b1, o1 + i, none⟩ = some (.int .i32 (L i)))) (h2 : Hid (∀ i, i < n → w.cell? ⟨b2, o2 + i, none⟩ = some (.int .i32 (H i))))
    (h3 : Hid (∀ i, i < n → w.cell? ⟨b3, o3 + i * 2, none⟩ = some (.int .i32 (L i)) ∧ w.cell? ⟨b3, o3 + i * 2 + 1, none⟩ = some (.int .i32 (H i)))) :
    Calls Try.prog 13 #[.slice a1 n c1, .slice a2 n c2, .slice a3 n c3] w fun e w' => e = .returned (.bool true) ∧ ∃ q, w' = w.drewN q := by
  go_enter Try.func13, Try.ntmps13
  go_wp2
  go_loopw [7] (fun i wr => ∃ k q : Nat, k ≤ n ∧ i = .int .i64 k ∧ wr = w.drewN q) (fun i _ => n - (intOf i).toNat)
  case atStart => exact ⟨0, 0, Nat.zero_le _, rfl, rfl⟩
  case round =>
    obtain ⟨k, q, hk, rfl, rfl⟩ := hrel
    by_cases hlt : k < n
    · obtain rfl := ha1 (by omega)
      obtain rfl := ha2 (by omega)
      obtain rfl := ha3 (by omega)
      have g1 := h1.out k hlt
      have g2 := h2.out k hlt
      obtain ⟨g3, g4⟩ := h3.out k hlt
      clear h1 h2 h3 ha1 ha2 ha3
      have hL : (L k != L k) = false := by simp
      have hH : (H k != H k) = false := by simp
      go_wp2
      go_big_quiet (fail)
      go_wp2
      go_roundw
      case rel => exact ⟨k + 1, _, by omega, by go_num, rfl⟩
      case measure => simp [intOf]; omega
    · go_wp2
      go_ret
      exact ⟨rfl, q, rfl⟩

theorem same_any {v1 v2 v3 : Value} {xs : List (Int × Int)} (w : World) (h1 : Sl1 .i32 w v1 (xs.map (·.1))) (h2 : Sl1 .i32 w v2 (xs.map (·.2))) (h3 : Sl2 .i32 w v3 xs) (hm : xs.length ≤ 131072) :
    Calls Try.prog 13 #[v1, v2, v3] w fun e w' => e = .returned (.bool true) ∧ ∃ q, w' = w.drewN q := by
  obtain ⟨a1, b1, o1, c1, rfl, ha1, hc1⟩ := h1
  obtain ⟨a2, b2, o2, c2, rfl, ha2, hc2⟩ := h2
  obtain ⟨a3, b3, o3, c3, rfl, _, _, ha3, hc3⟩ := h3
  rw [List.length_map] at ha1 ha2 hc1 hc2
  rw [List.length_map, List.length_map]
  refine same_core a1 a2 a3 b1 o1 b2 o2 b3 o3 xs.length c1 c2 c3 (fun i => (xs.getD i (0, 0)).1) (fun i => (xs.getD i (0, 0)).2) w hm (fun h => (ha1 h).1) (fun h => (ha2 h).1) (fun h => (ha3 h).1) (fun i hi => ?_) (fun i hi => ?_) hc3
  · have := hc1 i hi; simpa [hi] using this
  · have := hc2 i hi; simpa [hi] using this
end Go.Proofs.Qxb6605195a
