/-
  Seat b6605207a. The stack of bools; WALK: zzItemsModel (21).
-/
import Derived.Test.Qxb6605207aW8
import Derived.WalkSmall
import Derived.Maps.AppendAt
set_option linter.unusedVariables false
namespace Go.Proofs.Qxb6605207a
open Go.RowKit

/-- The model's stack, top first in S, last in memory. -/
def Stk (w : World) (base g c : Nat) (S : List Bool) : Prop := w.ownsRow base 4 1 (.slice (some ⟨g, 0, none⟩) S.length c) S.length (S.reverse.map Value.bool)

theorem Stk.parts {w : World} {base g c : Nat} {S : List Bool} (h : Stk w base g c S) : base ≤ g ∧ g < w.heap.size ∧ S.length ≤ c := by
  obtain ⟨_, h2⟩ := h
  rcases h2 with ⟨h0, _⟩ | ⟨g', cap', cur, hv, hg, hh, hn, _⟩
  · cases h0
  · cases hv
    exact ⟨hg, (Array.getElem?_eq_some_iff.1 hh).1, hn⟩

theorem Stk.top {w : World} {base g c : Nat} {s : Bool} {S : List Bool} (h : Stk w base g c (s :: S)) : w.cell? ⟨g, S.length, none⟩ = some (.bool s) := by
  rw [World.ownsRow.cellAt h S.length (by simp)]
  simp

theorem Stk.pop {w : World} {base g c : Nat} {s : Bool} {S : List Bool} (h : Stk w base g c (s :: S)) : Stk w base g c S := by
  unfold Stk at *
  rw [List.reverse_cons, List.map_append] at h
  exact ownsRow_pop (by simp) h

theorem Stk.below {w w' : World} {base g c : Nat} {S : List Bool} (h : Stk w base g c S) (hb : Below w.heap.size w w') : Stk w' base g c S := by
  have hp := h.parts
  obtain ⟨h1, h2⟩ := h
  refine ⟨h1, ?_⟩
  rcases h2 with ⟨h0, _⟩ | ⟨g', cap', cur, hv, hg, hh, hr⟩
  · cases h0
  · cases hv
    exact .inr ⟨g, c, cur, rfl, hg, by rw [hb.block g hp.2.1]; exact hh, hr⟩

theorem Stk.alloc {w : World} {base g c : Nat} {S : List Bool} (h : Stk w base g c S) (o : Obj) : Stk (w.alloc o) base g c S := World.ownsRow.alloc h o
theorem Stk.drew {w : World} {base g c : Nat} {S : List Bool} (h : Stk w base g c S) : Stk w.drew base g c S := h

theorem Try.info4 : (Try.prog.info? 4).map (fun i => (i.zero, i.size, i.bytes)) = some (some (.bool false), 1, 1) := by kernel_rfl

/-- A push. -/
theorem wpList_push {P : Program} (w : World) {ops : Array Oper} {rest : List Oper} {o : Oper} {a : Act} {Q : Exit → Act → World → Prop} (hgd : o.guard = none) (s x : Operand) (t : TypeId)
    (ho : o.op = .call { callee := .builtin .append, args := #[s, x], argTypes := #[t, t] })
    (base : Nat) (bytes : Nat) (ht : P.underlying t = some (.slice 4)) (hinfo : (P.info? 4).map (fun i => (i.zero, i.size, i.bytes)) = some (some (.bool false), 1, bytes))
    (g cp k : Nat) (S : List Bool) (hk : S.length = k) (hs : a.eval s = .slice (some ⟨g, 0, none⟩) k cp) (hown : Stk w base g cp S)
    (ad : Addr) (c : Nat) (y : Bool) (hx : a.eval x = .slice (some ad) 1 c) (hc0 : w.cell? ad = some (.bool y))
    (hlen : S.length ≤ 1048576) (hbytes : bytes ≤ 64) (hbase : base ≤ w.heap.size)
    (h : ∀ g' c' w', Stk w' base g' c' (y :: S) → w.grownBy w' (some g) → wpList P ops Q rest (a.put o.dst (.slice (some ⟨g', 0, none⟩) (k + 1) c')) w') : wpList P ops Q (o :: rest) a w := by
  subst hk
  obtain ⟨i0, hi, hz0, hz1, hz2⟩ := info_parts hinfo
  refine wpList_append_own w hgd s x t ho base 4 i0 _ 1 bytes ht hi hz0 hz1 hz2 rfl (by omega) _ S.length (S.reverse.map Value.bool) hs hown ad 1 c [.bool y] hx rfl ?_ (by simp [Value.oneCell']) (by unfold maxLen; omega) ?_ hbase ?_
  · intro j u hj
    match j, hj with
    | 0, hj => simp at hj; subst hj; simpa [Addr.add] using hc0
    | n + 1, hj => simp at hj
  · have := Nat.mul_le_mul (show S.length + 1 ≤ 1048577 by omega) hbytes; omega
  · intro v' w' h1 h2 _
    obtain ⟨g', c', rfl⟩ : ∃ g' c', v' = .slice (some ⟨g', 0, none⟩) (S.length + 1) c' := by
      obtain ⟨_, h3⟩ := h1
      rcases h3 with ⟨_, h0⟩ | ⟨g', c', cur, hv, _⟩
      · omega
      · exact ⟨g', c', hv⟩
    refine h g' c' w' ?_ h2
    unfold Stk
    rw [List.reverse_cons, List.map_append]
    exact h1

theorem run_mk (w : World) : ∃ X : Array Value, X.size = 16 ∧ ∀ w : World, (Instr.makeSlice 42 (.int .i64 0) (.int .i64 16)).run Try.prog w = .ok (.slice (some ⟨w.heap.size, 0, none⟩) 0 16) (w.alloc (.cells X 4)) := by
  obtain ⟨i0, hi, hz0, hz1, hz2⟩ := info_parts Try.info4
  refine ⟨madeCells (Value.cells (.bool false)) 16, by kernel_rfl, fun w => ?_⟩
  have := run_make (P := Try.prog) w 42 4 i0 (.bool false) Try.underlying42 hi hz0 .i64 .i64 0 16 (by omega) (by omega) (by rw [hz2]; decide) (by omega)
  rw [hz1] at this
  exact this

theorem Stk.made (w : World) (X : Array Value) (h : X.size = 16) : Stk (w.alloc (.cells X 4)) w.heap.size w.heap.size 16 [] :=
  World.ownsRow_made (e := 4) (size := 1) w X 16 (Nat.le_refl _) (by unfold maxLen; omega) (by omega)

/-- What follows at state 0 and 4 when nothing closes. -/
def nxt (s : Bool) : Nat := if s = true then 1 else 3

set_option maxRecDepth 100000 in
set_option maxHeartbeats 4000000 in
theorem model_any (T : Nat → Int) (b n i : Nat) (d : Int) (w : World) (hn : n ≤ 1048576) (hd : -9223372036854775808 ≤ d) (hi : i < n) (hb : T i = 123 ∨ T i = 91) (h : Txt w b T n) :
    Calls Try.prog 21 #[.slice (some ⟨b, 0, none⟩) n n, .int .i64 i, .int .i64 d] w (VPost (if 10000 < d then none else run T n d [decide (T i = 123)] 0 (i + 1)) some i n w) := by
  have hci := h.2 i hi
  have hblt := h.1
  have HX : Hid (Txt w b T n) := h
  have HB0 : Hid (Below w.heap.size w w) := Below.refl _ _
  by_cases hdd : 10000 < d
  · rw [if_pos hdd]
    go_enter Try.func21, Try.ntmps21
    go_wp2_with fail
    go_ret2
    exact vNo HB0.out rfl
  · rw [if_neg hdd]
    obtain ⟨X, hX, hmk⟩ := run_mk w
    have hmk0 := hmk w
    obtain ⟨s0, hs0⟩ : ∃ s0, s0 = decide (T i = 123) := ⟨_, rfl⟩
    have b0 : (T i == 123) = s0 := by rw [hs0, Bool.eq_iff_iff]; simp
    rw [← hs0]
    obtain ⟨R, hR⟩ : ∃ R, R = run T n d [s0] 0 (i + 1) := ⟨_, rfl⟩
    rw [← hR]
    have HR : Hid (R = run T n d [s0] 0 (i + 1)) := hR
    have hS0 : Stk (w.alloc (.cells X 4)) w.heap.size w.heap.size 16 [] := Stk.made w X hX
    have HX0 : Hid (X.size = 16) := hX
    clear hR hs0 hb h hmk hX
    go_enter Try.func21, Try.ntmps21
    go_wp2_with (at_builtin; refine wpList_push _ rfl _ _ 42 rfl w.heap.size 1 Try.underlying42 Try.info4 w.heap.size 16 0 [] rfl rfl (hS0.alloc _) _ 1 s0 rfl ?_ (by simp) (by omega) (by simp; omega) ?_)
    --LOOP
    intro g1 c1 w1 hS1 hg1
    have HS1 : Hid (Stk w1 w.heap.size g1 c1 [s0]) := hS1
    have HB1 : Hid (Below w.heap.size w w1) := by
      refine Below.grown (((Below.refl _ w).alloc (Nat.le_refl _) _).alloc (by simp) _) hg1 (by simp; omega) (fun k hk => ?_)
      cases hk
      exact Nat.le_refl _
    clear hS1 hg1 hS0 HX0 hmk0 hci b0
    go_wp2_with fail
    go_loopw [8, 9, 10] (fun v8 v9 v10 wr => ∃ (s : Bool) (S : List Bool) (st p g c m : Nat), v8 = .slice (some ⟨g, 0, none⟩) (m + 1) c ∧ v9 = .int .i64 st ∧ v10 = .int .i64 p ∧ st ≤ 4 ∧ p ≤ n ∧ i < p ∧ m < p ∧ Hid (S.length = m) ∧ Hid (Stk wr w.heap.size g c (s :: S)) ∧ Hid (R = run T n d (s :: S) st p) ∧ Hid (Below w.heap.size w wr)) (fun _ _ v10 _ => n - (intOf v10).toNat)
    case atStart => exact ⟨s0, [], 0, i + 1, g1, c1, 0, rfl, rfl, by go_num, by omega, by omega, by omega, by omega, rfl, HS1, HR, HB1⟩
    case round =>
      clear HS1 HB1 HR HB0
      obtain ⟨s, S, st, p, g, c, m, rfl, rfl, rfl, hst, hp, hip, hmp, HM, HS, HR, HB⟩ := hrel
      have HXr : Hid (Txt wr b T n) := HX.out.below HB.out
      have c29 := skipSp_any b n p T wr HXr.out hn hp
      have hq1 := sp_ge T n p
      have hq2 := sp_le T n p hp
      obtain ⟨q, hq⟩ : ∃ q, q = sp T n p := ⟨_, rfl⟩
      rw [← hq] at c29 hq1 hq2
      have HQ : Hid (q = sp T n p) := hq
      clear hq
      by_cases hqn : n ≤ q
      · have HF : Hid (R = none) := by
          show _ = _
          rw [HR.out]
          exact run_out T n d _ _ _ (by rw [← HQ.out]; exact hqn)
        clear HR HQ
        go_wp2_with (go_at_call 29; refine c29.mono ?_; rintro e w3 ⟨rfl, hw3⟩; obtain rfl := hw3.symm)
        go_ret2
        exact vNo HB.out HF.out
      · have hlt : q < n := by omega
        have hcq := HXr.out.2 q hlt
        have htop := HS.out.top
        rw [HM.out] at htop
        have HSPq : Hid (sp T n q = q) := by show _ = _; rw [HQ.out]; exact sp_idem T n p
        have HR' : Hid (R = run T n d (s :: S) st q) := by show _ = _; rw [HR.out, HQ.out, run_sp]
        have hpart := HS.out.parts
        obtain ⟨hp1, hp2, hp3⟩ := hpart
        clear HR HQ hqn
        go_upto_if 53 with (go_at_call 29; refine c29.mono ?_; rintro e w3 ⟨rfl, hw3⟩; obtain rfl := hw3.symm)
        go_cut [13] from 36 to 155 (fun v wx => v = .int .u8 (clo s) ∧ wx = wr)
        case first =>
          cases s
          all_goals
            go_wp2_with fail
            go_meet
            exact ⟨rfl, rfl⟩
        case rest =>
          obtain ⟨rfl, hwx⟩ := hcut
          obtain rfl := hwx.symm
          go_step
          go_step
          go_cut [8, 9, 10] from 36 to 155 (fun v8 v9 v10 wx => ∃ st' : Nat, v8 = .slice (some ⟨g, 0, none⟩) (m + 1) c ∧ v9 = .int .i64 st' ∧ v10 = .int .i64 q ∧ wx = wr ∧ (st' = 1 ∨ st' = 2 ∨ st' = 3) ∧ Hid (R = run T n d (s :: S) st' q))
          case first =>
            by_cases h04 : st = 0 ∨ st = 4
            · by_cases hcl : T q = clo s
              · have HSH : Hid (R = shut T n d S (q + 1)) := by
                  have h1 := run_close T n d s S st q h04 (by rw [HSPq.out]; exact hlt) (by rw [HSPq.out]; exact hcl)
                  rw [HSPq.out] at h1
                  exact HR'.out.trans h1
                have b1 : (T q == clo s) = true := by simp [hcl]
                clear hcl HR'
                have hmc : m + 1 ≤ c := by have := HM.out; simp at hp3; omega
                have HSp : Hid (Stk wr w.heap.size g c S) := HS.out.pop
                clear hp3
                cases m with
                | zero =>
                  have HF : Hid (R = some (q + 1)) := by
                    show _ = _
                    rw [HSH.out, List.eq_nil_of_length_eq_zero HM.out]
                    rfl
                  clear HSH
                  rcases h04 with rfl | rfl
                  all_goals
                    go_wp2_with fail
                    go_ret2
                    rw [← cast1]
                    exact vYes HB.out (by omega) (by omega) HF.out
                | succ m =>
                  cases S with
                  | nil => exact absurd HM.out (by simp)
                  | cons s' S' =>
                    have HF : Hid (R = run T n d (s' :: S') 4 (q + 1)) := HSH.out
                    have HM' : Hid (S'.length = m) := by have := HM.out; show _ = _; simpa using this
                    clear HSH HM HS
                    rcases h04 with rfl | rfl
                    all_goals
                      go_wp2_with fail
                      go_roundw
                      case rel => exact ⟨s', S', 4, q + 1, g, c, m, rfl, rfl, by go_num, by omega, by omega, by omega, by omega, HM', HSp, HF, HB⟩
                      case measure => simp [intOf]; omega
              · have b1 : (T q == clo s) = false := by simp [hcl]
                rcases h04 with rfl | rfl
                · have HF : Hid (R = run T n d (s :: S) (if s = true then 1 else 3) q) := HR'.out.trans (run_open T n d s S q (fun _ => by rw [HSPq.out]; exact hcl))
                  clear hcl HR'
                  cases s with
                  | true =>
                    go_wp2_with fail
                    go_meet
                    exact ⟨1, rfl, rfl, rfl, rfl, .inl rfl, HF⟩
                  | false =>
                    go_wp2_with fail
                    go_meet
                    exact ⟨3, rfl, rfl, rfl, rfl, .inr (.inr rfl), HF⟩
                · by_cases h44 : T q = 44
                  · have b2 : (T q != 44) = false := by simp [h44]
                    have HF : Hid (R = run T n d (s :: S) (if s = true then 1 else 3) (q + 1)) := by
                      have h1 := run_comma T n d s S q (by rw [HSPq.out]; exact hlt) (by rw [HSPq.out]; exact hcl) (by rw [HSPq.out]; exact h44)
                      rw [HSPq.out] at h1
                      exact HR'.out.trans h1
                    clear hcl h44 HR'
                    cases s with
                    | true =>
                      go_wp2_with fail
                      go_roundw
                      case rel => exact ⟨true, S, 1, q + 1, g, c, m, rfl, rfl, by go_num, by omega, by omega, by omega, by omega, HM, HS, HF, HB⟩
                      case measure => simp [intOf]; omega
                    | false =>
                      go_wp2_with fail
                      go_roundw
                      case rel => exact ⟨false, S, 3, q + 1, g, c, m, rfl, rfl, by go_num, by omega, by omega, by omega, by omega, HM, HS, HF, HB⟩
                      case measure => simp [intOf]; omega
                  · have b2 : (T q != 44) = true := by simp [h44]
                    have HF : Hid (R = none) := HR'.out.trans (run_nocomma T n d s S q (by rw [HSPq.out]; exact hlt) (by rw [HSPq.out]; exact hcl) (by rw [HSPq.out]; exact h44))
                    clear hcl h44 HR'
                    go_wp2_with fail
                    go_ret2
                    exact vNo HB.out HF.out
            · rcases (show st = 1 ∨ st = 2 ∨ st = 3 by omega) with rfl | rfl | rfl
              · go_wp2_with fail
                go_meet
                exact ⟨1, rfl, rfl, rfl, rfl, .inl rfl, HR'⟩
              · go_wp2_with fail
                go_meet
                exact ⟨2, rfl, rfl, rfl, rfl, .inr (.inl rfl), HR'⟩
              · go_wp2_with fail
                go_meet
                exact ⟨3, rfl, rfl, rfl, rfl, .inr (.inr rfl), HR'⟩
          case rest =>
            clear HR' hst
            obtain ⟨st', rfl, rfl, rfl, hwx, hst', HR⟩ := hcut
            obtain rfl := hwx.symm
            clear hwx c29 htop
            rcases hst' with rfl | rfl | rfl
            · by_cases h34 : T q = 34
              · have b1 : (T q != 34) = false := by simp [h34]
                have cS := strM_any b n q T wr HXr.out hn hlt
                have H34 : Hid (T q = 34) := h34
                clear h34
                go_wp2_with fail
                refine cS.mono ?_
                rintro e w3 ⟨hw3, hE⟩
                obtain rfl := hw3.symm
                rcases hE with ⟨e1, esc, hs1, rfl⟩ | ⟨hs1, rfl⟩
                · have hb1 := sm_bound T n _ 0 (q + 1) e1 rfl hs1
                  obtain ⟨hb2, hb3⟩ := hb1
                  have HF : Hid (R = run T n d (s :: S) 2 e1) := HR.out.trans (key_ok T n d (s :: S) q e1 HSPq.out hlt H34.out hs1)
                  clear hs1 HR H34 cS
                  go_wp2_with fail
                  go_roundw
                  case rel => exact ⟨s, S, 2, e1, g, c, m, rfl, rfl, by go_num, by omega, by omega, by omega, by omega, HM, HS, HF, HB⟩
                  case measure => simp [intOf]; omega
                · have HF : Hid (R = none) := HR.out.trans (key_bad T n d (s :: S) q HSPq.out hlt hs1)
                  clear hs1 HR H34 cS
                  go_wp2_with fail
                  go_ret2
                  exact vNo HB.out HF.out
              · have b1 : (T q != 34) = true := by simp [h34]
                have HF : Hid (R = none) := HR.out.trans (key_no T n d (s :: S) q HSPq.out (fun h => h34 h.2))
                clear h34 HR
                go_wp2_with fail
                go_ret2
                exact vNo HB.out HF.out
            · by_cases h58 : T q = 58
              · have b1 : (T q != 58) = false := by simp [h58]
                have HF : Hid (R = run T n d (s :: S) 3 (q + 1)) := by
                  show _ = _
                  rw [HR.out, run_colon T n d (s :: S) q (by rw [HSPq.out]; exact hlt), HSPq.out, if_pos h58]
                clear h58 HR
                go_wp2_with fail
                go_roundw
                case rel => exact ⟨s, S, 3, q + 1, g, c, m, rfl, rfl, by go_num, by omega, by omega, by omega, by omega, HM, HS, HF, HB⟩
                case measure => simp [intOf]; omega
              · have b1 : (T q != 58) = true := by simp [h58]
                have HF : Hid (R = none) := HR.out.trans (colon_no T n d (s :: S) q q HSPq.out.symm (fun h => h58 h.2))
                clear h58 HR
                go_wp2_with fail
                go_ret2
                exact vNo HB.out HF.out
            · by_cases h1 : T q = 123 ∨ T q = 91
              · have hv := HR.out.trans (val_open T n d (s :: S) q HSPq.out hlt h1)
                have hl : ((s :: S).length : Int) = (m : Int) + 1 := by have := HM.out; simp; omega
                rw [hl] at hv
                have hw : (T q == 123) = true ∨ ((T q == 123) = false ∧ (T q == 91) = true) := by
                  rcases h1 with h | h
                  · exact .inl (by simp [h])
                  · exact .inr ⟨by simp [h], by simp [h]⟩
                by_cases hdeep : 10000 < d + ((m : Int) + 1)
                · have HF : Hid (R = none) := by
                    show _ = _
                    rw [hv, if_pos hdeep]
                  have hd1 : (10000 : Int) - ((m : Int) + 1) < d := by omega
                  have hd2 : decide ((10000 : Int) - ((m : Int) + 1) < d) = true := decide_eq_true hd1
                  clear hv hl h1 HR
                  rcases hw with x1 | ⟨x1, x2⟩
                  all_goals
                    go_wp2_with fail
                    go_ret2
                    exact vNo HB.out HF.out
                · rw [if_neg hdeep] at hv
                  have hd1 : ¬ ((10000 : Int) - ((m : Int) + 1) < d) := by omega
                  have hd2 : decide ((10000 : Int) - ((m : Int) + 1) < d) = false := decide_eq_false hd1
                  have hdq : decide (T q = 123) = (T q == 123) := by rw [Bool.eq_iff_iff]; simp
                  rw [hdq] at hv
                  have HL : Hid ((s :: S).length = m + 1) := by have := HM.out; show _ = _; simp; omega
                  have hsz := HB.out.size
                  clear hl h1 HR hdeep hdq
                  rcases hw with x1 | ⟨x1, x2⟩
                  · rw [x1] at hv
                    have HF : Hid (R = run T n d (true :: s :: S) 0 (q + 1)) := hv
                    clear hv
                    go_wp2_with (at_builtin; refine wpList_push _ rfl _ _ 42 rfl w.heap.size 1 Try.underlying42 Try.info4 g c (m + 1) (s :: S) HL.out rfl (HS.out.alloc _) _ 1 true rfl ?_ (by rw [HL.out]; omega) (by omega) (by simp; omega) ?_)
                    intro g3 c3 w3 hS3 hg3
                    have HS3 : Hid (Stk w3 w.heap.size g3 c3 (true :: s :: S)) := hS3
                    have HB3 : Hid (Below w.heap.size w w3) := Below.grown (HB.out.alloc hsz _) hg3 (by simp; omega) (fun k hk => by cases hk; exact hp1)
                    clear hS3 hg3
                    go_wp2_with fail
                    go_roundw
                    case rel => exact ⟨true, s :: S, 0, q + 1, g3, c3, m + 1, rfl, rfl, by go_num, by omega, by omega, by omega, by omega, HL, HS3, HF, HB3⟩
                    case measure => simp [intOf]; omega
                  · rw [x1] at hv
                    have HF : Hid (R = run T n d (false :: s :: S) 0 (q + 1)) := hv
                    clear hv
                    go_wp2_with (at_builtin; refine wpList_push _ rfl _ _ 42 rfl w.heap.size 1 Try.underlying42 Try.info4 g c (m + 1) (s :: S) HL.out rfl (HS.out.alloc _) _ 1 false rfl ?_ (by rw [HL.out]; omega) (by omega) (by simp; omega) ?_)
                    intro g3 c3 w3 hS3 hg3
                    have HS3 : Hid (Stk w3 w.heap.size g3 c3 (false :: s :: S)) := hS3
                    have HB3 : Hid (Below w.heap.size w w3) := Below.grown (HB.out.alloc hsz _) hg3 (by simp; omega) (fun k hk => by cases hk; exact hp1)
                    clear hS3 hg3
                    go_wp2_with fail
                    go_roundw
                    case rel => exact ⟨false, s :: S, 0, q + 1, g3, c3, m + 1, rfl, rfl, by go_num, by omega, by omega, by omega, by omega, HL, HS3, HF, HB3⟩
                    case measure => simp [intOf]; omega
              · have x1 : (T q == 123) = false := by simpa using fun e => h1 (.inl e)
                have x2 : (T q == 91) = false := by simpa using fun e => h1 (.inr e)
                by_cases h34 : T q = 34
                · have x3 : (T q == 34) = true := by simp [h34]
                  have cS := strM_any b n q T wr HXr.out hn hlt
                  have H34 : Hid (T q = 34) := h34
                  clear h34 h1
                  go_wp2_with fail
                  refine cS.mono ?_
                  rintro e w3 ⟨hw3, hE⟩
                  obtain rfl := hw3.symm
                  rcases hE with ⟨e1, esc, hs1, rfl⟩ | ⟨hs1, rfl⟩
                  · have hb1 := sm_bound T n _ 0 (q + 1) e1 rfl hs1
                    obtain ⟨hb2, hb3⟩ := hb1
                    have HF : Hid (R = run T n d (s :: S) 4 e1) := HR.out.trans (val_sm T n d (s :: S) q e1 HSPq.out hlt H34.out hs1)
                    clear hs1 HR H34 cS
                    go_wp2_with fail
                    go_roundw
                    case rel => exact ⟨s, S, 4, e1, g, c, m, rfl, rfl, by go_num, by omega, by omega, by omega, by omega, HM, HS, HF, HB⟩
                    case measure => simp [intOf]; omega
                  · have HF : Hid (R = none) := HR.out.trans (val_smno T n d (s :: S) q HSPq.out hlt H34.out hs1)
                    clear hs1 HR H34 cS
                    go_wp2_with fail
                    go_ret2
                    exact vNo HB.out HF.out
                · have x3 : (T q == 34) = false := by simp [h34]
                  by_cases h3 : T q = 45 ∨ isDg (T q) = true
                  · have H3 : Hid (T q = 45 ∨ isDg (T q) = true) := h3
                    have cN := numM_any b n q T wr HXr.out hn (by omega)
                    have c30 := isDg_any (T q) wr
                    have hw : (T q == 45) = true ∨ ((T q == 45) = false ∧ isDg (T q) = true) := by
                      by_cases h45 : T q = 45
                      · exact .inl (by simp [h45])
                      · exact .inr ⟨by simp [h45], by rcases h3 with h | h; exact absurd h h45; exact h⟩
                    clear h1 h3 h34
                    rcases hw with y1 | ⟨y1, y2⟩
                    · clear c30
                      go_wp2_with fail
                      refine cN.mono ?_
                      rintro e w4 ⟨hB4, hE⟩
                      have HS4 : Hid (Stk w4 w.heap.size g c (s :: S)) := HS.out.below hB4
                      have HB4 : Hid (Below w.heap.size w w4) := HB.out.trans (hB4.mono HB.out.size)
                      clear hB4
                      rcases hE with ⟨e1, hs1, rfl⟩ | ⟨hs1, rfl⟩
                      · have hb1 := nm_bound T n _ 0 q e1 rfl (by omega) hs1
                        have hb2 := hb1.2.2 rfl
                        have hb3 := hb1.2.1
                        have HF : Hid (R = run T n d (s :: S) 4 e1) := HR.out.trans (val_nm T n d (s :: S) q e1 HSPq.out hlt H3.out hs1)
                        clear hs1 HR H3 cN hb1
                        go_wp2_with fail
                        go_roundw
                        case rel => exact ⟨s, S, 4, e1, g, c, m, rfl, rfl, by go_num, by omega, by omega, by omega, by omega, HM, HS4, HF, HB4⟩
                        case measure => simp [intOf]; omega
                      · have HF : Hid (R = none) := HR.out.trans (val_nmno T n d (s :: S) q HSPq.out hlt H3.out hs1)
                        clear hs1 HR H3 cN
                        go_wp2_with fail
                        go_ret2
                        exact vNo HB4.out HF.out
                    · rw [y2] at c30
                      clear y2
                      go_wp2_with fail
                      refine c30.mono ?_
                      rintro e w3 ⟨rfl, hw3⟩
                      obtain rfl := hw3.symm
                      go_wp2_with fail
                      refine cN.mono ?_
                      rintro e w4 ⟨hB4, hE⟩
                      have HS4 : Hid (Stk w4 w.heap.size g c (s :: S)) := HS.out.below hB4
                      have HB4 : Hid (Below w.heap.size w w4) := HB.out.trans (hB4.mono HB.out.size)
                      clear hB4
                      rcases hE with ⟨e1, hs1, rfl⟩ | ⟨hs1, rfl⟩
                      · have hb1 := nm_bound T n _ 0 q e1 rfl (by omega) hs1
                        have hb2 := hb1.2.2 rfl
                        have hb3 := hb1.2.1
                        have HF : Hid (R = run T n d (s :: S) 4 e1) := HR.out.trans (val_nm T n d (s :: S) q e1 HSPq.out hlt H3.out hs1)
                        clear hs1 HR H3 cN hb1
                        go_wp2_with fail
                        go_roundw
                        case rel => exact ⟨s, S, 4, e1, g, c, m, rfl, rfl, by go_num, by omega, by omega, by omega, by omega, HM, HS4, HF, HB4⟩
                        case measure => simp [intOf]; omega
                      · have HF : Hid (R = none) := HR.out.trans (val_nmno T n d (s :: S) q HSPq.out hlt H3.out hs1)
                        clear hs1 HR H3 cN
                        go_wp2_with fail
                        go_ret2
                        exact vNo HB4.out HF.out
                  · have y1 : (T q == 45) = false := by simpa using fun e => h3 (.inl e)
                    have y2 : isDg (T q) = false := by simpa using fun e => h3 (.inr e)
                    have c30 := isDg_any (T q) wr
                    rw [y2] at c30
                    have hv := HR.out.trans (val_lit T n d (s :: S) q HSPq.out hlt h1 h34 h3)
                    have c31 := litLen_any b n q T wr HXr.out hn (by omega)
                    have hlb := lit_bound T n q
                    obtain ⟨L, hL⟩ : ∃ L, L = litL T n q := ⟨_, rfl⟩
                    rw [← hL] at hv c31 hlb
                    clear h1 h34 h3 y2 HR hL
                    by_cases hL0 : L = 0
                    · subst hL0
                      have HF : Hid (R = none) := hv
                      clear hv hlb
                      go_wp2_with fail
                      refine c30.mono ?_
                      rintro e w3 ⟨rfl, hw3⟩
                      obtain rfl := hw3.symm
                      go_wp2_with fail
                      refine c31.mono ?_
                      rintro e w4 ⟨rfl, nq, hw4⟩
                      have HB4 : Hid (Below w.heap.size w w4) := by show Below ..; rw [hw4]; exact below_drewN HB.out nq
                      clear hw4
                      go_wp2_with fail
                      go_ret2
                      exact vNo HB4.out HF.out
                    · rw [if_neg hL0] at hv
                      have HF : Hid (R = run T n d (s :: S) 4 (q + L)) := hv
                      have hLn := hlb hL0
                      have z1 : ((L : Int) == 0) = false := by simpa using hL0
                      clear hv hlb
                      go_wp2_with fail
                      refine c30.mono ?_
                      rintro e w3 ⟨rfl, hw3⟩
                      obtain rfl := hw3.symm
                      go_wp2_with fail
                      refine c31.mono ?_
                      rintro e w4 ⟨rfl, nq, hw4⟩
                      have HB4 : Hid (Below w.heap.size w w4) := by show Below ..; rw [hw4]; exact below_drewN HB.out nq
                      have HS4 : Hid (Stk w4 w.heap.size g c (s :: S)) := by show Stk ..; rw [hw4]; exact HS.out
                      clear hw4
                      go_wp2_with fail
                      go_roundw
                      case rel => exact ⟨s, S, 4, q + L, g, c, m, rfl, rfl, by go_num, by omega, by omega, by omega, by omega, HM, HS4, HF, HB4⟩
                      case measure => simp [intOf]; omega
end Go.Proofs.Qxb6605207a
