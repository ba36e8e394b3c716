/-
  Seat b6605195a. WALK: newSet (30), over the contracts of slices.Clone and slices.SortFunc.
-/
import Derived.Test.Qxb6605195aBase
import Derived.Test.Qxb6605195aPlainC
import Derived.Test.Qxb6605195aPlainD
import Derived.Deep.QuietTactic
import Derived.BigQuiet
import Derived.RegionTactic
set_option linter.unusedVariables false
namespace Go.Proofs.Qxb6605195a
open Go.RowKit

/-- slices.Clone at runeRange. -/
def CloneC : Prop := ∀ (w : World) (v : Value) (xs : List (Int × Int)), Sl2 .i32 w v xs → xs.length ≤ 131072 →
  Calls Try.prog 42 #[v] w fun e w' => ∃ v', e = .returned v' ∧ Own2 .i32 w' w.heap.size 60 v' xs ∧ Below w.heap.size w w'

/-- slices.SortFunc at runeRange, by newSet's comparison: the call's own slice is sorted in place. -/
def SortC : Prop := ∀ (w0 w : World) (v : Value) (xs : List (Int × Int)), Own2 .i32 w w0.heap.size 60 v xs → Below w0.heap.size w0 w → (∀ x ∈ xs, 0 ≤ x.1 ∧ x.1 ≤ 1114111 ∧ 0 ≤ x.2 ∧ x.2 ≤ 1114111) → xs.length ≤ 131072 →
  Calls Try.prog 43 #[v, .func (.func 44) #[] #[]] w fun e w' => e = .returned (.tuple #[]) ∧ ∃ ys, ys.Perm xs ∧ Srt ys ∧ Sl2 .i32 w' v ys ∧ Below w0.heap.size w0 w'

/-- newSet's contract: a new set: the runs, and their bitmap. -/
def SetPost (xs : List (Int × Int)) (w : World) (e : Ending) (w' : World) : Prop :=
  ∃ g v m A, e = .returned (.pointer (some ⟨g, 0, none⟩)) ∧ Blk w' g #[v, .int .u64 (A 0), .int .u64 (A 1)] 63 ∧ Sl2 .i32 w' v m ∧ m.length ≤ 131072 ∧ Canon m ∧ (∀ c, Cov m c ↔ Cov xs c) ∧ Words (fun x => Cov m (x : Int)) A ∧ Below w.heap.size w w'

theorem flat_set_last (k : IntKind) (m : List (Int × Int)) (l : Int × Int) (h : Int) : (flat k (m ++ [l])).set (m.length * 2 + 1) (.int k h) = flat k (m ++ [(l.1, h)]) := by
  induction m with
  | nil => rfl
  | cons x r ih =>
    simp only [List.cons_append, flat, List.length_cons]
    rw [show (r.length + 1) * 2 + 1 = r.length * 2 + 1 + 1 + 1 by omega]
    simp only [List.set_cons_succ, ih]

theorem last_cases (m : List (Int × Int)) : m = [] ∨ ∃ m' l, m = m' ++ [l] := by
  rcases List.eq_nil_or_concat m with h | ⟨m', l, h⟩
  · exact .inl h
  · exact .inr ⟨m', l, by rw [h, List.concat_eq_append]⟩

/-- The last run's end, written in place. -/
theorem Own2.setLast {k : IntKind} {w : World} {base g cap : Nat} {e : TypeId} {m : List (Int × Int)} {l : Int × Int} (h : Own2 k w base e (.slice (some ⟨g, 0, none⟩) (m ++ [l]).length cap) (m ++ [l])) (hi : Int) :
    Own2 k (w.setCell ⟨g, m.length * 2 + 1, none⟩ (.int k hi)) base e (.slice (some ⟨g, 0, none⟩) (m ++ [l]).length cap) (m ++ [(l.1, hi)]) := by
  have := (World.ownsRow.stored h (m.length * 2 + 1) (.int k hi)).1
  rw [flat_set_last] at this
  unfold Own2
  simpa using this

theorem setBit_cells3 (x : Value) (A : Nat → Int) (c : Nat) (hc : c < 128) :
    (#[x, Value.int .u64 (A 0), .int .u64 (A 1)]).setIfInBounds (1 + c / 64) (.int .u64 (bits .or .u64 (A (c / 64)) (IntKind.u64.wrap ((2 : Int) ^ (c % 64))))) = #[x, Value.int .u64 (setBit A c 0), .int .u64 (setBit A c 1)] := by
  unfold setBit
  rcases (show c / 64 = 0 ∨ c / 64 = 1 by omega) with e | e <;> rw [e] <;> simp

set_option maxRecDepth 100000 in
set_option maxHeartbeats 2000000 in
theorem set_core (h42 : CloneC) (h43 : SortC) (v : Value) (xs : List (Int × Int)) (w : World) (h : Sl2 .i32 w v xs) (hm : Hid (xs.length ≤ 131072)) (hd : Hid (∀ x ∈ xs, 0 ≤ x.1 ∧ x.1 ≤ 1114111 ∧ 0 ≤ x.2 ∧ x.2 ≤ 1114111)) :
    Calls Try.prog 30 #[v] w (SetPost xs w) := by
  go_enter Try.func30, Try.ntmps30
  go_wp2_with fail
  refine (h42 w v xs h hm.out).mono ?_
  rintro e w1 ⟨v1, rfl, hown1, hb1⟩
  clear h
  go_wp2_with fail
  refine (h43 w w1 v1 xs hown1 hb1 hd.out hm.out).mono ?_
  rintro e w2 ⟨rfl, ys, hperm, hsrt, hv2, hb2⟩
  clear hown1 hb1
  have hysd : Hid (∀ x ∈ ys, 0 ≤ x.1 ∧ x.1 ≤ 1114111 ∧ 0 ≤ x.2 ∧ x.2 ≤ 1114111) := fun x hx => hd.out x (hperm.mem_iff.1 hx)
  have Hperm : Hid (ys.Perm xs) := hperm
  obtain ⟨a, b, off, c, rfl, hcc, hcm, ha, hc⟩ := hv2
  obtain ⟨n, hn⟩ : ∃ n, n = ys.length := ⟨_, rfl⟩
  have Hn : Hid (n = ys.length) := hn
  have hnx : n ≤ 131072 := by rw [hn, hperm.length_eq]; exact hm.out
  rw [← hn] at ha hc hcc
  rw [← hn]
  clear hn hperm
  obtain ⟨L, hL⟩ : ∃ L : Nat → Int, L = fun i => (ys.getD i (0, 0)).1 := ⟨_, rfl⟩
  obtain ⟨H, hH⟩ : ∃ H : Nat → Int, H = fun i => (ys.getD i (0, 0)).2 := ⟨_, rfl⟩
  have hc' : Hid (∀ i, i < n → w2.cell? ⟨b, off + i * 2, none⟩ = some (.int .i32 (L i)) ∧ w2.cell? ⟨b, off + i * 2 + 1, none⟩ = some (.int .i32 (H i))) := by rw [hL, hH]; exact hc
  have hdom : Hid (∀ i, i < n → 0 ≤ L i ∧ L i ≤ 1114111 ∧ 0 ≤ H i ∧ H i ≤ 1114111) := by
    intro i hi
    have hi' : i < ys.length := by rw [← Hn.out]; exact hi
    rw [hL, hH]; exact hysd.out (ys.getD i (0, 0)) (by simp [hi'])
  have HY : Hid (∀ i, ys.getD i (0, 0) = (L i, H i)) := by intro i; rw [hL, hH]
  clear hc hL hH
  have hz2 := hb2.size
  go_wp2_with fail
  go_loopw [4, 18] (fun u i wr => ∃ (k : Nat) (m : List (Int × Int)), k ≤ n ∧ i = .int .i64 k ∧ Below w2.heap.size w2 wr ∧ Own2 .i32 wr w2.heap.size 60 u m ∧ Mr ys k m ∧ Hid (m.length ≤ k)) (fun _ i _ => n - (intOf i).toNat)
  case atStart => exact ⟨0, [], Nat.zero_le _, rfl, Below.refl _ _, Own2.nil _ _ _ _, Mr.start _, Nat.le_refl _⟩
  case round =>
    obtain ⟨k, m, hk, rfl, hbel, hown, hmr, hml⟩ := hrel
    have hz := hbel.size
    by_cases hlt : k < n
    · obtain ⟨rfl, hb⟩ := ha (by omega)
      have g0 := (hbel.cell (p := ⟨b, off + k * 2, none⟩) hb).trans (hc'.out k hlt).1
      have g1 := (hbel.cell (p := ⟨b, off + k * 2 + 1, none⟩) hb).trans (hc'.out k hlt).2
      obtain ⟨q1, q2, q3, q4⟩ := hdom.out k hlt
      have hky : Hid (k < ys.length) := by show _ < _; rw [← Hn.out]; exact hlt
      have HYk : Hid (ys.getD k (0, 0) = (L k, H k)) := HY.out k
      by_cases hle : L k ≤ H k
      · rcases last_cases m with rfl | ⟨m', l, rfl⟩
        · -- nothing yet
          have hmr' : Mr ys (k + 1) ([] ++ [(L k, H k)]) := by
            have := hmr.new hsrt hky.out (by rw [HYk.out]; exact hle) (by simp)
            rwa [HYk.out] at this
          have HL : Hid (([] : List (Int × Int)).length ≤ 1048576) := Nat.zero_le _
          obtain ⟨a3, b3, o3, c3, rfl, _⟩ := hown.sl2
          clear hmr ha hc' hdom HY
          go_wp2
          go_big_quiet (fail)
          go_wp2_with (at_builtin; refine wpList_app2 _ rfl _ _ 27 rfl w2.heap.size 60 .i32 _ _ 8 Try.underlying27 Try.info60 _ _ rfl (((hown.alloc _).drewN _).alloc _) _ 1 (L k, H k) rfl ?_ ?_ HL.out (by omega) (by simp; omega) ?_)
          intro v' w3 hown' hgrow
          have hbel' : Below w2.heap.size w2 w3 := Own2.belowGrown (((hown.alloc _).drewN _).alloc _) ((below_drewN (hbel.alloc hz _) _).alloc (by simp; omega) _) hgrow (by simp; omega) (Nat.le_refl _)
          clear hgrow hown
          go_wp2
          go_roundw
          case rel => exact ⟨k + 1, _, by omega, by go_num, hbel', hown', hmr', by show _ ≤ _; simp⟩
          case measure => simp [intOf]; omega
        · -- a last run l
          have hln : Hid ((m' ++ [l]).length = m'.length + 1) := by show _ = _; simp
          obtain ⟨g, cap, cur, rfl, hgb, hgh, _⟩ : ∃ g cap cur, _ ∧ _ ∧ _ ∧ _ := by
            rcases hown.2 with ⟨_, h0⟩ | h0
            · rw [hln.out] at h0; omega
            · exact h0
          have hglt : g < wr.heap.size := (Array.getElem?_eq_some_iff.1 hgh).1
          have hcl : wr.cell? ⟨g, m'.length * 2 + 1, none⟩ = some (.int .i32 l.2) := by
            rw [World.ownsRow.cellAt hown _ (by rw [hln.out]; omega), flat_get1 _ _ _ (by rw [hln.out]; omega)]
            simp
          have hfl : wr.frozen? ⟨g, m'.length * 2 + 1, none⟩ = false := World.ownsRow.frozenAt hown _
          obtain ⟨l1, l2⟩ := l
          obtain ⟨p, hp⟩ : ∃ p, p = m'.length := ⟨_, rfl⟩
          have Hp : Hid (p = m'.length) := hp
          have hpx : p ≤ 131072 := by have := hml.out; rw [hln.out] at this; omega
          have hlb : Hid (0 ≤ l1 ∧ l1 ≤ l2 ∧ l2 ≤ 1114111) := by
            have hl := hmr.canon.1 (l1, l2) (by simp)
            obtain ⟨x, hx, a1, b1⟩ := (hmr.cov l1).1 ⟨(l1, l2), by simp, Int.le_refl _, hl⟩
            obtain ⟨y, hy, a2, b2⟩ := (hmr.cov l2).1 ⟨(l1, l2), by simp, hl, Int.le_refl _⟩
            have e1 := hysd.out x (List.mem_of_mem_take hx)
            have e2 := hysd.out y (List.mem_of_mem_take hy)
            have hl' : l1 ≤ l2 := hl
            show 0 ≤ l1 ∧ l1 ≤ l2 ∧ l2 ≤ 1114111
            omega
          obtain ⟨lb1, lb2, lb3⟩ := hlb.out
          have hcl' : wr.cell? ⟨g, p * 2 + 1, none⟩ = some (.int .i32 l2) := by rw [hp]; exact hcl
          have hfl' : wr.frozen? ⟨g, p * 2 + 1, none⟩ = false := by rw [hp]; exact hfl
          clear hcl hfl
          rw [hln.out, ← hp]
          clear hp ha hc' hdom HY hgh
          have hpos : decide ((0 : Int) < ((p + 1 : Nat) : Int)) = true := decide_eq_true (by omega)
          by_cases ht : L k ≤ l2 + 1
          · have dt : decide (L k ≤ l2 + 1) = true := decide_eq_true ht
            have hmr' := hmr.touch hsrt hky.out (by rw [HYk.out]; exact hle) (by rw [HYk.out]; exact ht)
            rw [HYk.out] at hmr'
            have hmx : max l2 (H k) = if l2 < H k then H k else l2 := by split <;> omega
            simp only [hmx] at hmr'
            clear hmx hmr
            go_wp2
            go_big_quiet (fail)
            go_wp2
            go_big_region
            all_goals
              go_wp2
              go_roundw
              case rel =>
                refine ⟨k + 1, _, by omega, by go_num, (below_drewN (hbel.alloc hz _) _).setCell hgb _, ?_, hmr', by show _ ≤ _; have := hml.out; simp at this ⊢; omega⟩
                have ho := fun O q => Own2.setLast ((hown.alloc O).drewN q) (if l2 < H k then H k else l2)
                rw [hln.out, ← Hp.out] at ho
                exact ho _ _
              case measure => simp [intOf]; omega
          · have dt : decide (L k ≤ l2 + 1) = false := decide_eq_false ht
            have hmr' := hmr.new hsrt hky.out (by rw [HYk.out]; exact hle) (by rw [HYk.out]; exact canon_last hmr.canon _ (by show l2 + 1 < L k; omega))
            rw [HYk.out] at hmr'
            have hown0 : Own2 .i32 wr w2.heap.size 60 (.slice (some ⟨g, 0, none⟩) (p + 1) cap) (m' ++ [(l1, l2)]) := by have := hown; rw [hln.out, ← Hp.out] at this; exact this
            have HL : Hid ((m' ++ [(l1, l2)]).length ≤ 1048576) := by show _ ≤ _; have := hml.out; omega
            clear hmr hown
            go_wp2
            go_big_quiet (fail)
            go_wp2_with (at_builtin; refine wpList_app2 _ rfl _ _ 27 rfl w2.heap.size 60 .i32 _ _ 8 Try.underlying27 Try.info60 _ _ rfl (((hown0.alloc _).drewN _).alloc _) _ 1 (L k, H k) rfl ?_ ?_ HL.out (by omega) (by simp; omega) ?_)
            intro v' w3 hown' hgrow
            have hbel' : Below w2.heap.size w2 w3 := Own2.belowGrown (((hown0.alloc _).drewN _).alloc _) ((below_drewN (hbel.alloc hz _) _).alloc (by simp; omega) _) hgrow (by simp; omega) (Nat.le_refl _)
            clear hgrow hown0
            go_wp2
            go_roundw
            case rel => exact ⟨k + 1, _, by omega, by go_num, hbel', by simpa using hown', by simpa using hmr', by show _ ≤ _; have := hml.out; simp at this ⊢; omega⟩
            case measure => simp [intOf]; omega
      · have hmr' := hmr.skip hky.out (by rw [HYk.out]; show H k < L k; omega)
        clear hmr
        go_wp2
        go_roundw
        case rel => exact ⟨k + 1, m, by omega, by go_num, hbel.alloc hz _, hown.alloc _, hmr', by show _ ≤ _; have := hml.out; omega⟩
        case measure => simp [intOf]; omega
    · obtain rfl : k = n := by omega
      have hfin := hmr.finish (by rw [← Hn.out]; exact Nat.le_refl _) Hperm.out
      have Hcan : Hid (Canon m) := hfin.1
      have Hcov : Hid (∀ c, Cov m c ↔ Cov xs c) := hfin.2
      have Hmd : Hid (∀ r ∈ m, 0 ≤ r.1 ∧ r.1 ≤ r.2 ∧ r.2 ≤ 1114111) := canon_dom hfin.1 hfin.2 hd.out
      have hmn : Hid (m.length ≤ 131072) := by show _ ≤ _; have := hml.out; omega
      have hb3 : Below w.heap.size w wr := hb2.trans (hbel.mono hz2)
      have hsl := hown.sl2
      clear hmr hfin hown hbel hml hc' hdom HY ha hysd Hperm hsrt hb2 hcc hcm
      obtain ⟨a3, b3, o3, c3, rfl, hc3, hm3, ha3, hce⟩ := hsl
      have HS : Hid (Sl2 .i32 wr (.slice a3 m.length c3) m) := ⟨a3, b3, o3, c3, rfl, hc3, hm3, ha3, hce⟩
      obtain ⟨q, hq⟩ : ∃ q, q = m.length := ⟨_, rfl⟩
      have Hq : Hid (q = m.length) := hq
      have hqx : q ≤ 131072 := by rw [hq]; exact hmn.out
      rw [← hq] at ha3 hce hc3
      rw [← hq]
      clear hq
      obtain ⟨R, hR⟩ : ∃ R : Nat → Int, R = fun i => (m.getD i (0, 0)).1 := ⟨_, rfl⟩
      obtain ⟨T, hT⟩ : ∃ T : Nat → Int, T = fun i => (m.getD i (0, 0)).2 := ⟨_, rfl⟩
      have hce' : Hid (∀ i, i < q → wr.cell? ⟨b3, o3 + i * 2, none⟩ = some (.int .i32 (R i)) ∧ wr.cell? ⟨b3, o3 + i * 2 + 1, none⟩ = some (.int .i32 (T i))) := by rw [hR, hT]; exact hce
      have hdom : Hid (∀ i, i < q → 0 ≤ R i ∧ R i ≤ T i ∧ T i ≤ 1114111) := by
        intro i hi
        have hi' : i < m.length := by rw [← Hq.out]; exact hi
        rw [hR, hT]; exact Hmd.out (m.getD i (0, 0)) (by simp [hi'])
      have HM : Hid (∀ i, m.getD i (0, 0) = (R i, T i)) := by intro i; rw [hR, hT]
      have hz3 := hb3.size
      clear hce hR hT
      obtain ⟨w3, rfl⟩ : ∃ x, x = wr := ⟨wr, rfl⟩
      go_wp2_with fail
      go_loopw [67] (fun ii wx => ∃ (i : Nat) (A : Nat → Int), i ≤ q ∧ ii = .int .i64 i ∧ Below w3.heap.size w3 wx ∧ Blk wx w3.heap.size #[.slice a3 q c3, .int .u64 (A 0), .int .u64 (A 1)] 63 ∧ Words (fun x => Cov (m.take i) (x : Int)) A) (fun ii _ => q - (intOf ii).toNat)
      case atStart => exact ⟨0, fun _ => 0, Nat.zero_le _, rfl, (Below.refl _ _).alloc (Nat.le_refl _) _, Blk.new _ _ _, Words.congr (S := fun _ => False) ⟨Word.zero 0, Word.zero 1⟩ (fun x _ => by simp [Cov])⟩
      case round =>
        obtain ⟨wx, rfl⟩ : ∃ x, x = wr := ⟨wr, rfl⟩
        obtain ⟨i, A, hi, rfl, hbx, hblk, hwd⟩ := hrel
        have hzx := hblk.lt
        by_cases hiq : i < q
        · obtain ⟨rfl, hb3'⟩ := ha3 (by omega)
          have g0 := (hbx.cell (p := ⟨b3, o3 + i * 2, none⟩) hb3').trans (hce'.out i hiq).1
          have g1 := (hbx.cell (p := ⟨b3, o3 + i * 2 + 1, none⟩) hb3').trans (hce'.out i hiq).2
          obtain ⟨r1, r2, r3⟩ := hdom.out i hiq
          obtain ⟨r0, hr0⟩ : ∃ r0 : Nat, R i = r0 := ⟨(R i).toNat, by omega⟩
          obtain ⟨t0, ht0⟩ : ∃ t0 : Nat, T i = t0 := ⟨(T i).toNat, by omega⟩
          have Hstep : Hid (∀ c, Cov (m.take (i + 1)) c ↔ Cov (m.take i) c ∨ ((r0 : Int) ≤ c ∧ c ≤ (t0 : Int))) := by
            intro c
            rw [cov_take m i (by rw [← Hq.out]; exact hiq), HM.out, ← hr0, ← ht0]
          rw [hr0] at g0 r1 r2
          rw [ht0] at g1 r2 r3
          clear hr0 ht0 hce' hdom ha3
          go_wp2_with fail
          go_loopw [11] (fun cc wy => ∃ (c : Nat) (B : Nat → Int), r0 ≤ c ∧ c ≤ t0 + 1 ∧ cc = .int .i32 c ∧ Below w3.heap.size w3 wy ∧ Blk wy w3.heap.size #[.slice (some ⟨b3, o3, none⟩) q c3, .int .u64 (B 0), .int .u64 (B 1)] 63 ∧ Blk wy wx.heap.size #[.int .i32 r0, .int .i32 t0] 60 ∧ Words (fun x => Cov (m.take i) (x : Int) ∨ (r0 ≤ x ∧ x < c)) B) (fun cc _ => 128 - (intOf cc).toNat)
          case atStart => exact ⟨r0, A, Nat.le_refl _, by omega, rfl, hbx.alloc (by omega) _, hblk.alloc _, Blk.new _ _ _, hwd.congr fun x _ => ⟨.inl, fun h => by rcases h with h | h; exact h; omega⟩⟩
          case round =>
            obtain ⟨wy, rfl⟩ : ∃ x, x = wr := ⟨wr, rfl⟩
            obtain ⟨c, B, hc1, hc2, rfl, hby, hblky, hbox, hwdy⟩ := hrel
            have e1 : wy.cell? ⟨wx.heap.size, 1, none⟩ = some (.int .i32 t0) := by rw [hbox.cell]; rfl
            have hzy := hblky.lt
            by_cases hcc : c ≤ t0 ∧ c < 128
            · obtain ⟨h1, h2⟩ := hcc
              have f0 := hblky.frozen (1 + c / 64)
              have c0 : wy.cell? ⟨w3.heap.size, 1 + c / 64, none⟩ = some (.int .u64 (B (c / 64))) := by
                rw [hblky.cell]
                rcases (show c / 64 = 0 ∨ c / 64 = 1 by omega) with e | e <;> rw [e] <;> rfl
              go_wp2
              go_big_region
              have hwd' : Words (fun x => Cov (m.take i) (x : Int) ∨ (r0 ≤ x ∧ x < c + 1)) (setBit B c) := (hwdy.set c h2).congr fun x _ => by
                constructor
                · rintro ((h | h) | h)
                  · exact .inl h
                  · exact .inr ⟨h.1, by omega⟩
                  · exact .inr ⟨by omega, by omega⟩
                · rintro (h | h)
                  · exact .inl (.inl h)
                  · rcases Nat.lt_or_ge x c with h3 | h3
                    · exact .inl (.inr ⟨h.1, h3⟩)
                    · exact .inr (by omega)
              all_goals
                go_wp2
                go_roundw
                case rel =>
                  have hb := hblky.set (1 + c / 64) (.int .u64 (bits .or .u64 (B (c / 64)) (IntKind.u64.wrap ((2 : Int) ^ (c % 64)))))
                  rw [setBit_cells3 _ B c h2] at hb
                  exact ⟨c + 1, setBit B c, by omega, by omega, by go_num, (hby.setCell (Nat.le_refl _) _).drew, hb.drew, (hbox.setOther _ _ (by simp; omega)).drew, hwd'⟩
                case measure => simp [intOf]; omega
            · have hwd' : Words (fun x => Cov (m.take (i + 1)) (x : Int)) B := hwdy.congr fun x hx => by
                rw [Hstep.out]
                constructor
                · rintro (h | h)
                  · exact .inl h
                  · exact .inr ⟨by omega, by omega⟩
                · rintro (h | h)
                  · exact .inl h
                  · exact .inr ⟨by omega, by omega⟩
              have hways : t0 < c ∨ (c ≤ t0 ∧ 128 ≤ c) := by omega
              clear hcc hwdy
              rcases hways with h1 | ⟨h1, h2⟩
              all_goals
                go_wp2
                go_roundw
                case rel => exact ⟨i + 1, B, by omega, by go_num, hby, hblky, hwd'⟩
                case measure => simp [intOf]; omega
        · go_wp2
          go_ret
          have hwd' : Words (fun x => Cov m (x : Int)) A := by
            have := hwd
            rw [List.take_of_length_le (by rw [← Hq.out]; omega)] at this
            exact this
          refine ⟨_, _, m, A, rfl, hblk, ?_, hmn.out, Hcan.out, Hcov.out, hwd', hb3.trans (hbx.mono hz3)⟩
          have hs := HS.out.below hbx
          rw [← Hq.out] at hs
          exact hs
end Go.Proofs.Qxb6605195a
