/-
  Seat b6605195a. slices.SortFunc at runeRange by newSet's comparison: off the shelf's contract at structs.
-/
import Derived.Test.Qxb6605195aW7
import Derived.Test.Qxb6605195aShelf
import Derived.Deep.LoopGhost
set_option linter.unusedVariables false
namespace Go.Proofs.Qxb6605195a
open Go.RowKit Go.Sort

/-- A range whose lo lies in the domain. -/
structure Rg where
  v : Int × Int
  h : 0 ≤ v.1 ∧ v.1 ≤ 1114111
def rg0 : Rg := ⟨(0, 0), by decide⟩
def encR (x : Rg) : List Value := [.int .i32 x.v.1, .int .i32 x.v.2]
def cmpR (x y : Rg) : Int := x.v.1 - y.v.1

theorem ltR (x y : Rg) : ltOf cmpR x y = decide (x.v.1 < y.v.1) := by
  unfold ltOf cmpR
  rw [decide_eq_decide]; omega

theorem swoR : SWO (ltOf cmpR) where
  irrefl x := by rw [ltR]; simp
  trans x y z h1 h2 := by rw [ltR] at *; simp at *; omega
  ntrans x y z h1 h2 := by rw [ltR] at *; simp at *; omega

/-- Below B nothing turns where a row from B on is laid anew and blocks are added. -/
theorem below_sortWorld {α : Type} {B : Nat} {w0 w : World} [Inhabited α] (h : Go.RowKit.Below B w0 w) (enc : α → List Value) (k blk off n : Nat) (d : Array α) (os : Array Obj) (hB : B ≤ blk) (hBw : B ≤ w.heap.size) :
    Go.RowKit.Below B w0 (sortWorldK enc k w blk off n d os) := by
  have hs : (putRowK enc k (Sort.ahead w n) blk off d).heap.size = w.heap.size := by simp [putRowK]
  refine h.trans ⟨rfl, rfl, rfl, ?_, fun j hj => ?_⟩
  · simp [sortWorldK, grow, hs]
  · unfold sortWorldK
    rw [heap_grow_old _ _ (by rw [hs]; omega)]
    simp only [putRowK, putRow, mapBlock, Array.getElem?_modify]
    rw [if_neg (by omega)]
    rfl

theorem cmpLaysR [Inhabited Rg] (blk off size : Nat) (w : World) : CmpLays Try.prog 44 #[] encR 2 cmpR blk off size w := by
  intro m os dk _ x y
  refine (cmp_any x.v.1 x.v.2 y.v.1 y.v.2 _ x.h y.h).mono ?_
  rintro e w' ⟨rfl, rfl⟩
  exact ⟨rfl, 0, _, by rw [alloc_eq_grow, alloc_eq_grow, grow_grow]; rfl⟩

set_option maxHeartbeats 1000000 in
theorem ins_none (p : Option Addr) (cap : Nat) (fv : Value) (w : World) :
    Calls Try.prog 53 #[.slice p 0 cap, .int .i64 0, .int .i64 0, fv] w fun e w' => e = .returned (.tuple #[]) ∧ w' = w := by
  go_enter Try.func53, Try.ntmps53
  go_wp2
  refine wp_loop_rounds 1 ?_
  rw [rounds_succ]
  go_wp2
  go_end0
  exact ⟨rfl, rfl⟩

set_option maxHeartbeats 1000000 in
theorem pdq_none (p : Option Addr) (cap : Nat) (lim : Int) (fv : Value) (w : World) :
    Calls Try.prog 49 #[.slice p 0 cap, .int .i64 0, .int .i64 0, .int .i64 lim, fv] w fun e w' => e = .returned (.tuple #[]) ∧ w' = w := by
  go_enter Try.func49, Try.ntmps49
  go_wp2
  refine wp_loop_rounds 1 ?_
  rw [rounds_succ]
  go_wp2_with (go_at_call 53; refine (ins_none _ _ _ _).mono ?_; rintro e w' ⟨rfl, rfl⟩)
  (try simp only [Exit.inBlock, Exit.then])
  refine bodyPost_ret (results_none rfl _ _ _) rfl ?_
  exact ⟨rfl, rfl⟩

theorem bits_none (w : World) : Calls Try.prog 50 #[.int .u64 0] w fun e w' => e = .returned (.int .i64 (Lib.bitLen 0 : Nat)) ∧ w' = w :=
  Any.bits_Len (SlLaysF0.n15.bits (P := Try.prog) (ρ := Try.sortR_ren) { Try.sortR with }) 0 w (by omega) (by omega)

set_option maxHeartbeats 1000000 in
/-- At no element: nothing turns. -/
theorem sort_none (p : Option Addr) (cap : Nat) (fv : Value) (w : World) : Calls Try.prog 43 #[.slice p 0 cap, fv] w fun e w' => e = .returned (.tuple #[]) ∧ w' = w := by
  go_enter Try.func43, Try.ntmps43
  go_wp2_with (first | (go_at_call 50; refine (bits_none _).mono ?_; rintro e w' ⟨rfl, rfl⟩) | (go_at_call 49; refine (pdq_none _ _ _ _ _).mono ?_; rintro e w' ⟨rfl, rfl⟩))
  go_end0
  exact ⟨rfl, rfl⟩

/-- The list as a list of ranges. -/
theorem rgs_ex (xs : List (Int × Int)) (h : ∀ x ∈ xs, 0 ≤ x.1 ∧ x.1 ≤ 1114111) : ∃ l : List Rg, l.map (fun x => x.v) = xs := by
  induction xs with
  | nil => exact ⟨[], rfl⟩
  | cons x r ih =>
    obtain ⟨l, hl⟩ := ih fun y hy => h y (List.mem_cons_of_mem _ hy)
    exact ⟨(⟨x, h x List.mem_cons_self⟩ : Rg) :: l, by rw [List.map_cons, hl]⟩

theorem rg_get [Inhabited Rg] (l : List Rg) (xs : List (Int × Int)) (hl : l.map (fun x => x.v) = xs) (i : Nat) (hi : i < xs.length) : (l.toArray[i]!).v = xs.getD i (0, 0) := by
  subst hl
  have hi' : i < l.length := by simpa using hi
  rw [getElem!_pos l.toArray i (by simpa using hi')]
  simp [hi']

theorem holdsR [Inhabited Rg] {w : World} {base g cap : Nat} {xs : List (Int × Int)} {l : List Rg} (hl : l.map (fun x => x.v) = xs) (h : Own2 .i32 w base 60 (.slice (some ⟨g, 0, none⟩) xs.length cap) xs) : HoldsK encR 2 w g 0 l.toArray := by
  have hll : l.length = xs.length := by rw [← hl, List.length_map]
  intro j hj
  rw [size_flatK] at hj
  have hjl : j < xs.length * 2 := by simpa [hll] using hj
  rw [Nat.zero_add, World.ownsRow.cellAt h j hjl, get_flatK _ _ _ _ hj]
  refine ⟨?_, World.ownsRow.frozenAt h j⟩
  have hg := rg_get l xs hl (j / 2) (by omega)
  rcases Nat.mod_two_eq_zero_or_one j with hm | hm
  · have e : j = j / 2 * 2 := by omega
    have hf := flat_get0 .i32 xs (j / 2) (by omega)
    rw [← e] at hf
    rw [hf, hm, ← hg]; rfl
  · have e : j = j / 2 * 2 + 1 := by omega
    have hf := flat_get1 .i32 xs (j / 2) (by omega)
    rw [← e] at hf
    rw [hf, hm, ← hg]; rfl

set_option maxHeartbeats 1000000 in
theorem sort_c : SortC := by
  intro w0 w v xs hown hb hd hm
  have hlo : ∀ x ∈ xs, 0 ≤ x.1 ∧ x.1 ≤ 1114111 := fun x hx => ⟨(hd x hx).1, (hd x hx).2.1⟩
  rcases hown.2 with ⟨rfl, hn⟩ | ⟨g, cap, cur, rfl, hg, hh, hnc, hcm, _⟩
  · have hx : xs = [] := List.eq_nil_of_length_eq_zero hn
    subst hx
    refine (sort_none none 0 _ w).mono ?_
    rintro e w' ⟨rfl, rfl⟩
    exact ⟨rfl, [], List.Perm.refl _, List.Pairwise.nil, hown.sl2, hb⟩
  · have hglt : g < w.heap.size := (Array.getElem?_eq_some_iff.1 hh).1
    have iR : Inhabited Rg := ⟨rg0⟩
    obtain ⟨l, hl⟩ := rgs_ex xs hlo
    have hll : l.toArray.size = xs.length := by rw [← hl, List.length_map, List.size_toArray]
    have eg : ∀ args w, (callFunc 44 args).run Try.prog w = .ok (.enter 44 args) w := enters_of Try.func44 (by kernel_rfl) rfl
    have hcon := AnyQ.slices_SortFunc Try.sortR 2 Try.isAgg60 Try.sizeOf60 encR (fun _ => rfl) (fun x v hv => by simp [encR] at hv; rcases hv with rfl | rfl <;> rfl) cmpR swoR 44 #[] g 0 cap l.toArray w eg (cmpLaysR g 0 l.toArray.size w) (holdsR hl hown) hglt (by rw [hll]; omega)
    rw [hll] at hcon
    change Calls Try.prog 43 _ _ _ at hcon
    refine hcon.mono ?_
    rintro e w' ⟨rfl, d', n, os, hp, hs, rfl⟩
    refine ⟨rfl, d'.toList.map (fun x => x.v), ?_, ?_, ?_, below_sortWorld hb encR 2 g 0 n d' os hg (by omega)⟩
    · have h1 := hp.2.2
      have e1 : (l.toArray.extract 0 xs.length).toList = l := by rw [← hll]; simp
      have e2 : (d'.extract 0 xs.length).toList = d'.toList := by
        have : d'.size = xs.length := by rw [hp.1, hll]
        rw [← this]; simp
      rw [e1, e2] at h1
      have := h1.map (fun x : Rg => x.v)
      rwa [hl] at this
    · have hds : d'.size = xs.length := by rw [hp.1, hll]
      unfold Srt
      rw [List.pairwise_iff_getElem]
      intro i j hi hj hij
      have hi' : i < d'.size := by simpa using hi
      have hj' : j < d'.size := by simpa using hj
      have := hs i j (Nat.zero_le _) hij (by omega)
      rw [ltR, getElem!_pos d' i hi', getElem!_pos d' j hj'] at this
      simp at this
      simpa using this
    · have hds : d'.size = xs.length := by rw [hp.1, hll]
      have hH : HoldsK encR 2 (sortWorldK encR 2 w g 0 n d' os) g 0 d' := by
        unfold sortWorldK
        refine holdsK_grow encR 2 _ os g 0 d' (by simp [putRowK]; exact hglt) ?_
        exact holdsK_putRowK encR 2 (Sort.ahead w n) g 0 l.toArray d' (holdsK_ahead encR 2 w n g 0 _ (holdsR hl hown)) (by rw [hds, hll])
      have hsz : g < (sortWorldK encR 2 w g 0 n d' os).heap.size := by
        have : (putRowK encR 2 (Sort.ahead w n) g 0 d').heap.size = w.heap.size := by simp [putRowK]
        simp [sortWorldK, grow, this]; omega
      have hln : (d'.toList.map (fun x : Rg => x.v)).length = xs.length := by rw [List.length_map, Array.length_toList, hds]
      rw [← hln]
      refine ⟨_, g, 0, cap, rfl, ?_, ?_, fun _ => ⟨rfl, hsz⟩, fun i hi => ?_⟩
      · rw [hln]; exact hnc
      · exact hcm
      · rw [hln] at hi
        have c0 := (hH.cell (i := i) (c := 0) (by omega) (by omega)).1
        have c1 := (hH.cell (i := i) (c := 1) (by omega) (by omega)).1
        have hi' : i < d'.size := by omega
        have e : (d'.toList.map (fun x : Rg => x.v)).getD i (0, 0) = (d'[i]!).v := by
          rw [getElem!_pos d' i hi']; simp [hi']
        rw [e]
        exact ⟨c0, c1⟩
end Go.Proofs.Qxb6605195a
