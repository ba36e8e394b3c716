/-
  Seat b6605223a. WALK: index (24), the first time and again; ZZIndex (18).
-/
import Derived.Test.Qxb6605223aR1
import Derived.Test.Qxb6605223aV0
import Derived.Test.Qxb6605223aU3
set_option linter.unusedVariables false
set_option linter.unusedSimpArgs false
namespace Go.Proofs.Qxb6605223a
open Go.RowKit

/-- The state once indexed: all but indexOf is as in R; indexOf holds f. -/
structure Ixd (tag : Nat → Nat) (w : World) (F : Nat) (d : Gd) (rv : Value) (R : Nat → Res) (m : Nat) (K : Nat → Nat) (tg : Nat → Nat) (w' : World) (R' : Nat → Res) (f : Nat → Int) : Prop where
  ag : Ag w tag tg
  st : St tg w' F (.pointer (some ⟨d.Gb, 0, none⟩)) rv true R'
  gk : Gok tg w' d
  ct : Ct tag w w'
  zs : Zs R'
  oth : ∀ t, t ≠ 8 → R' t = R t
  n8 : (R' 8).n = d.n
  v8 : ∀ k, k < d.n → (R' 8).V k = .int .i32 (f k)
  cov : ∀ k, k < d.n → f k = -1 ∨ ∃ j, j < m ∧ K j = key d k

set_option maxRecDepth 100000 in
set_option maxHeartbeats 4000000 in
theorem index_again (tag : Nat → Nat) (w0 : World) (F : Nat) (d : Gd) (rv : Value) (R : Nat → Res) (m : Nat) (K : Nat → Nat) (tg : Nat → Nat) (w : World) (R' : Nat → Res) (f : Nat → Int) (h : Ixd tag w0 F d rv R m K tg w R' f) (x : Nat) (hx : x < d.n) :
    Calls Try.prog 24 #[.pointer (some ⟨F, 0, none⟩), .int .i64 x] w fun e w' => (∃ i : Int, e = .returned (.int .i32 i)) ∧ w' = w := by
  have f0 : w.cell? ⟨F, 0, none⟩ = some (.pointer (some ⟨d.Gb, 0, none⟩)) := h.st.2.1.cell 0 (by omega)
  have f7 : w.cell? ⟨F, 7, none⟩ = some (.bool true) := h.st.2.1.cell 7 (by omega)
  obtain ⟨g8, k8, x8, _, _, _, q8, _⟩ := (h.st.2.2 8 (by omega) (by omega)).at (by rw [h.n8]; omega)
  rw [h.n8] at x8
  have f6 : w.cell? ⟨F, 6, none⟩ = some (R' 8).v := h.st.2.1.cell 6 (by omega)
  rw [x8] at f6
  have s8 : (R' 8).sz = 1 := (h.zs 8).2
  have b8 := q8 x (by rw [h.n8, s8]; omega)
  rw [h.v8 x hx] at b8
  have hxi : (x : Int) < (d.n : Int) := by omega
  clear q8 h x8 s8
  go_enter Try.func24, Try.ntmps24
  go_wp2_with fail
  go_ret
  exact ⟨⟨_, rfl⟩, rfl⟩

set_option maxRecDepth 100000 in
set_option maxHeartbeats 8000000 in
theorem index_first (tag0 : Nat → Nat) (w00 : World) (F : Nat) (d : Gd) (ar : Option Addr) (nr cr : Nat) (rd : Nat → Nat) (tg : Nat → Nat) (w : World) (R : Nat → Res) (m : Nat) (K : Nat → Nat) (ao : Option Addr) (co : Nat)
    (h : Al tag0 w00 F d ar nr cr rd tg w R) (hW : Gwf d) (hm : m ≤ 4096) (hvo : d.vo = .slice ao d.n co) (h8 : (R 8).v = .slice none 0 0) (hn3 : (R 3).n = m) (hv3 : ∀ j, j < m → ∀ c, c < 10 → (R 3).V (j * 10 + c) = rwV (K j) c) (hkx : ∀ j, j < m → ∃ x, x < d.n ∧ K j = key d x) (x0 : Nat) (hx0 : x0 < d.n) :
    Calls Try.prog 24 #[.pointer (some ⟨F, 0, none⟩), .int .i64 x0] w fun e w' => (∃ i : Int, e = .returned (.int .i32 i)) ∧ ∃ tg' R' f, Ixd tg w F d (.slice ar nr cr) R m K tg' w' R' f := by
  have HW : Hid (Gwf d) := hW
  have HV3 : Hid (∀ j, j < m → ∀ c, c < 10 → (R 3).V (j * 10 + c) = rwV (K j) c) := hv3
  have HKX : Hid (∀ j, j < m → ∃ x, x < d.n ∧ K j = key d x) := hkx
  have HZ : Hid (Zs R) := h.zs
  have HN3 : Hid ((R 3).n = m) := hn3
  have hn4 := hW.n4
  have f0 : w.cell? ⟨F, 0, none⟩ = some (.pointer (some ⟨d.Gb, 0, none⟩)) := h.st.2.1.cell 0 (by omega)
  have f7 : w.cell? ⟨F, 7, none⟩ = some (.bool false) := h.st.2.1.cell 7 (by omega)
  have f6 : w.cell? ⟨F, 6, none⟩ = some (R 8).v := h.st.2.1.cell 6 (by omega)
  have y6 := h.st.2.1.frozen 6
  rw [h8] at f6
  have g0 := h.gk.k0
  rw [hvo] at g0
  obtain ⟨a3, c3, h3, _, _, _⟩ := (h.st.2.2 3 (by omega) (by omega)).form
  rw [hn3] at h3
  have H3V : Hid ((R 3).v = .slice a3 m c3) := h3
  obtain ⟨X, hX, hmk⟩ := run_mk (P := Try.prog) 23 21 (.int .i32 0) 1 4 Try.underlying23 (by kernel_rfl) d.n (by omega) (by omega)
  have hXs : X.size = d.n := by rw [hX, size_made1, Nat.mul_one]
  -- the state behind the making
  have hFl := h.st.2.1.lt
  have hGl := h.gk.lt
  have hFn : ¬ w.heap.size = F := by omega
  have hb : Below w.heap.size w (w.alloc (.cells X 21)) := (Below.refl _ _).alloc (Nat.le_refl _) _
  have ag : Ag w tg (tagged tg w.heap.size 8) := fun b hb => tagged_old _ _ _ _ hb
  have f6a : (w.alloc (.cells X 21)).cell? ⟨F, 6, none⟩ = some (.slice none 0 0) := by rw [hb.cell (p := ⟨F, 6, none⟩) hFl]; exact f6
  have y6a : (w.alloc (.cells X 21)).frozen? ⟨F, 6, none⟩ = false := by rw [hb.frozen (p := ⟨F, 6, none⟩) hFl]; exact y6
  have hst2 : Sf (tagged tg w.heap.size 8) (w.alloc (.cells X 21)) F (fld (.pointer (some ⟨d.Gb, 0, none⟩)) (.slice ar nr cr) false R) R :=
    ⟨by rw [ag F hFl]; exact h.st.1, h.st.2.1.sameBlock (hb.block F hFl), fun s h2 h11 => ((h.st.2.2 s h2 h11).retag ag).ch (t' := 99) (Ch.ofBelow hb) (by omega)⟩
  have hrs : Rs (tagged tg w.heap.size 8) 8 (w.alloc (.cells X 21)) ⟨eT 8, sT 8, .slice (some ⟨w.heap.size, 0, none⟩) d.n d.n, d.n, fun i => X.getD i (.bool false)⟩ :=
    .inr ⟨w.heap.size, d.n, fun i => X.getD i (.bool false), rfl, Nat.le_refl _, by unfold maxLen; omega, by
      have := Bk.new w X 21
      rw [hXs] at this
      show Bk (w.alloc (.cells X 21)) w.heap.size 21 (d.n * 1) _
      rw [Nat.mul_one]
      exact this, fun _ _ => rfl, tagged_new _ _ _⟩
  obtain ⟨m1, m2⟩ := St.newSlice (f := fun _ => .bool false) (R := R) fk8 (by omega) hst2 ⟨eT 8, sT 8, .slice (some ⟨w.heap.size, 0, none⟩) d.n d.n, d.n, fun i => X.getD i (.bool false)⟩ (fun s _ => rfl) hrs
  have hct : Ct tg w ((w.alloc (.cells X 21)).setCell ⟨F, 6, none⟩ (.slice (some ⟨w.heap.size, 0, none⟩) d.n d.n)) := (Ct.alloc tg w _).trans m2 ag
  have HAG : Hid (Ag w tg (tagged tg w.heap.size 8)) := ag
  have HS0 : Hid _ := m1
  have HG0 : Hid (Gok (tagged tg w.heap.size 8) ((w.alloc (.cells X 21)).setCell ⟨F, 6, none⟩ (.slice (some ⟨w.heap.size, 0, none⟩) d.n d.n)) d) := h.gk.ct hct ag
  have HT0 : Hid (Ct tg w ((w.alloc (.cells X 21)).setCell ⟨F, 6, none⟩ (.slice (some ⟨w.heap.size, 0, none⟩) d.n d.n))) := hct
  have f6b : ((w.alloc (.cells X 21)).setCell ⟨F, 6, none⟩ (.slice (some ⟨w.heap.size, 0, none⟩) d.n d.n)).cell? ⟨F, 6, none⟩ = some (.slice (some ⟨w.heap.size, 0, none⟩) d.n d.n) := m1.2.1.cell 6 (by omega)
  clear h hW hvo h8 hn3 hv3 hkx h3 hX hXs hb hst2 hrs m1 m2 hct ag
  have hnil := fun w => Lib.run_eql_slice_nil (P := Try.prog) w 23 21 none 0 0 0 0 Try.underlying23
  go_enter Try.func24, Try.ntmps24
  go_wp2_with fail
  obtain ⟨wA, hwA⟩ : ∃ x, x = (w.alloc (.cells X 21)).setCell ⟨F, 6, none⟩ (.slice (some ⟨w.heap.size, 0, none⟩) d.n d.n) := ⟨_, rfl⟩
  have hcm : (w.alloc (.cells X 21)).setCell ⟨F, 6, none⟩ (.slice (some ⟨w.heap.size, 0, none⟩) d.n d.n) = (w.setCell ⟨F, 6, none⟩ (.slice (some ⟨w.heap.size, 0, none⟩) d.n d.n)).alloc (.cells X 21) := World.setCell_alloc_past (w := w) _ F 6 _ hFl
  rw [← hcm]
  rw [← hwA]
  rw [← hwA] at HS0 HG0 HT0
  clear hcm
  obtain ⟨g8, HG8⟩ : ∃ x, Hid (x = w.heap.size) := ⟨_, rfl⟩
  rw [← HG8.out]
  rw [← HG8.out] at HS0 HG0 HAG
  obtain ⟨tt, HTT⟩ : ∃ x, Hid (x = tagged tg g8 8) := ⟨_, rfl⟩
  rw [← HTT.out] at HS0 HG0 HAG
  obtain ⟨R1, HR1⟩ : ∃ x, Hid (x = put R 8 ⟨eT 8, sT 8, .slice (some ⟨g8, 0, none⟩) d.n d.n, d.n, fun i => X.getD i (.bool false)⟩) := ⟨_, rfl⟩
  have HS0' : Hid (St tt wA F (.pointer (some ⟨d.Gb, 0, none⟩)) (.slice ar nr cr) false R1) := by rw [HR1.out]; exact HS0.out
  have HO1 : Hid (∀ t, t ≠ 8 → R1 t = R t) := fun t ht => by rw [HR1.out, put_other _ _ _ _ ht]
  have HR8 : Hid ((R1 8).v = .slice (some ⟨g8, 0, none⟩) d.n d.n ∧ (R1 8).n = d.n ∧ (R1 8).sz = 1 ∧ (R1 8).e = 21) := by rw [HR1.out]; exact ⟨rfl, rfl, rfl, rfl⟩
  clear hwA HS0 HR1 f0 f7 f6 y6 g0 hmk hFl hGl hFn f6a y6a f6b hnil
  go_loopw [37] (fun v wr => ∃ (p : Nat) (R2 : Nat → Res), v = .int .i64 p ∧ p ≤ d.n ∧ Hid (∀ t, t ≠ 8 → R2 t = R t) ∧ Hid ((R2 8).v = .slice (some ⟨g8, 0, none⟩) d.n d.n ∧ (R2 8).n = d.n ∧ (R2 8).sz = 1 ∧ (R2 8).e = 21) ∧ Hid (∀ j, j < p → (R2 8).V j = .int .i32 (-1)) ∧ Hid (St tt wr F (.pointer (some ⟨d.Gb, 0, none⟩)) (.slice ar nr cr) false R2) ∧ Hid (Gok tt wr d) ∧ Hid (Ct tg w wr)) (fun v _ => d.n - (intOf v).toNat)
  case atStart => exact ⟨0, R1, rfl, Nat.zero_le _, HO1, HR8, fun j hj => absurd hj (Nat.not_lt_zero _), HS0', HG0, HT0⟩
  case round =>
    clear HS0' HG0 HT0 HO1 HR8
    obtain ⟨p, R2, rfl, hp, HO2, HR8, HM1, HS, HG, HT⟩ := hrel
    by_cases hlt : p < d.n
    · have e0 : decide ((p : Int) < (d.n : Int)) = true := decide_eq_true (by omega)
      have e0' : decide (p < d.n) = true := decide_eq_true hlt
      have x8 : (R2 8).v = .slice (some ⟨g8, 0, none⟩) (R2 8).n d.n := by rw [HR8.out.2.1]; exact HR8.out.1
      obtain ⟨q8, z8, t8, l8⟩ := Rs.cells (HS.out.2.2 8 (by omega) (by omega)) x8
      have hpi : p < (R2 8).n * (R2 8).sz := by rw [HR8.out.2.1, HR8.out.2.2.1]; omega
      have b8 := q8 p hpi
      have z8' := z8 p
      have f6 : wr.cell? ⟨F, 6, none⟩ = some (R2 8).v := HS.out.2.1.cell 6 (by omega)
      rw [HR8.out.1] at f6
      have HSU : Hid _ := HS.out.upd 8 g8 d.n p (by omega) (by omega) x8 t8 hpi (.int .i32 (-1))
      have HGU : Hid (Gok tt (wr.setCell ⟨g8, p, none⟩ (.int .i32 (-1))) d) := HG.out.ch (Ch.set wr t8 p none (.int .i32 (-1))) (by omega)
      have HTU : Hid (Ct tg w (wr.setCell ⟨g8, p, none⟩ (.int .i32 (-1)))) := HT.out.step (Ch.set wr t8 p none (.int .i32 (-1))) (by omega) HAG.out
      clear q8 z8 x8 hpi
      go_wp2_with fail
      go_roundw
      case rel => exact ⟨p + 1, _, by go_num, by omega, fun t ht => (put_other _ _ _ _ ht).trans (HO2.out t ht), (by show _ ∧ _; rw [put_same]; exact HR8.out), fun j hj => by
          rw [put_same]
          show (if j = p then Value.int .i32 (-1) else (R2 8).V j) = _
          by_cases e : j = p
          · rw [if_pos e]
          · rw [if_neg e]; exact HM1.out j (by omega), HSU, HGU, HTU⟩
      case measure => simp [intOf]; omega
    · have e0 : decide ((p : Int) < (d.n : Int)) = false := decide_eq_false (by omega)
      have e0' : decide (p < d.n) = false := decide_eq_false hlt
      obtain rfl : p = d.n := by omega
      have e3 : R2 3 = R 3 := HO2.out 3 (by omega)
      have f4 : wr.cell? ⟨F, 4, none⟩ = some (R2 3).v := HS.out.2.1.cell 4 (by omega)
      rw [e3, H3V.out] at f4
      clear e3
      go_wp2_with fail
      go_loopw [52] (fun v wr => ∃ (p : Nat) (R3 : Nat → Res) (f : Nat → Int), v = .int .i64 p ∧ p ≤ m ∧ Hid (∀ t, t ≠ 8 → R3 t = R t) ∧ Hid ((R3 8).v = .slice (some ⟨g8, 0, none⟩) d.n d.n ∧ (R3 8).n = d.n ∧ (R3 8).sz = 1 ∧ (R3 8).e = 21) ∧ Hid (∀ k, k < d.n → (R3 8).V k = .int .i32 (f k)) ∧ Hid (∀ k, k < d.n → f k = -1 ∨ ∃ j, j < m ∧ K j = key d k) ∧ Hid (St tt wr F (.pointer (some ⟨d.Gb, 0, none⟩)) (.slice ar nr cr) false R3) ∧ Hid (Gok tt wr d) ∧ Hid (Ct tg w wr)) (fun v _ => m - (intOf v).toNat)
      case atStart => exact ⟨0, R2, fun _ => -1, rfl, Nat.zero_le _, HO2, HR8, HM1, fun k hk => .inl rfl, HS, HG, HT⟩
      case round =>
        clear HS HG HT HO2 HR8 HM1 f4
        obtain ⟨p, R3, f, rfl, hp, HO3, HR8, HF8, HCV, HS, HG, HT⟩ := hrel
        by_cases hlt2 : p < m
        · have e1 : decide ((p : Int) < (m : Int)) = true := decide_eq_true (by omega)
          have e1' : decide (p < m) = true := decide_eq_true hlt2
          have e23 : R3 3 = R 3 := HO3.out 3 (by omega)
          have r3 := HS.out.2.2 3 (by omega) (by omega)
          rw [e23] at r3
          obtain ⟨g3, k3c, x3, y3, t3, l3, q3, z3⟩ := r3.at (by rw [HN3.out]; omega)
          rw [HN3.out] at x3 q3
          have s3 : (R 3).sz = 10 := (HZ.out 3).2
          have ha3 : a3 = some ⟨g3, 0, none⟩ := by have := H3V.out.symm.trans x3; simp only [Value.slice.injEq] at this; exact this.1
          obtain ⟨x, hxn, hkx⟩ := HKX.out p hlt2
          obtain ⟨hh, HHH⟩ : ∃ hh : Nat, Hid (hh = d.pr x) := ⟨_, rfl⟩
          obtain ⟨ll, HLL⟩ : ∃ ll : Nat, Hid (ll = d.po x) := ⟨_, rfl⟩
          have hp1 := HW.out.prP x hxn
          have hp2 := HW.out.po1 x hxn
          have hp3 := HW.out.poL x hxn
          have hp4 := HW.out.Lb _ hp1
          have hp5 := HW.out.P4
          have hinv := HW.out.inv x hxn
          rw [← HHH.out] at hp1 hp3 hp4 hinv
          rw [← HLL.out] at hp2 hp3 hinv
          have kc : ∀ c, c < 10 → wr.cell? ⟨g3, p * 10 + c, none⟩ = some (rwL hh ll c) := fun c hc => by
            rw [q3 (p * 10 + c) (by rw [s3]; omega), HV3.out p hlt2 c hc, hkx]
            have e1 : hh = key d x / 4294967296 := by rw [HHH.out]; exact (key_hi HW.out hxn).1.symm
            have e2 : ll = key d x % 4294967296 := by rw [HLL.out]; exact (key_hi HW.out hxn).2.symm
            rw [e1, e2]
            rfl
          have k0 : wr.cell? ⟨g3, p * 10, none⟩ = some (.int .i32 (hh : Int)) := kc 0 (by omega)
          have k1 : wr.cell? ⟨g3, p * 10 + 1, none⟩ = some (.int .i32 (ll : Int)) := kc 1 (by omega)
          have k2 : wr.cell? ⟨g3, p * 10 + 2, none⟩ = some (.bool false) := kc 2 (by omega)
          have k3 : wr.cell? ⟨g3, p * 10 + 3, none⟩ = some (.bool false) := kc 3 (by omega)
          have k4 : wr.cell? ⟨g3, p * 10 + 4, none⟩ = some (.int .i32 0) := kc 4 (by omega)
          have k5 : wr.cell? ⟨g3, p * 10 + 5, none⟩ = some (.int .i32 0) := kc 5 (by omega)
          have k6 : wr.cell? ⟨g3, p * 10 + 6, none⟩ = some (.int .i32 0) := kc 6 (by omega)
          have k7 : wr.cell? ⟨g3, p * 10 + 7, none⟩ = some (.int .i32 0) := kc 7 (by omega)
          have k8 : wr.cell? ⟨g3, p * 10 + 8, none⟩ = some (.int .i32 0) := kc 8 (by omega)
          have k9 : wr.cell? ⟨g3, p * 10 + 9, none⟩ = some (.int .i32 (-1)) := kc 9 (by omega)
          have hS1 : Sf tt (wr.alloc (.cells #[.int .i32 (hh : Int), .int .i32 (ll : Int), .bool false, .bool false, .int .i32 0, .int .i32 0, .int .i32 0, .int .i32 0, .int .i32 0, .int .i32 (-1)] 73)) F (fld (.pointer (some ⟨d.Gb, 0, none⟩)) (.slice ar nr cr) false R3) R3 := HS.out.sf.alloc _
          have hG1 : Gok tt (wr.alloc (.cells #[.int .i32 (hh : Int), .int .i32 (ll : Int), .bool false, .bool false, .int .i32 0, .int .i32 0, .int .i32 0, .int .i32 0, .int .i32 0, .int .i32 (-1)] 73)) d := HG.out.ch (t := 1) (Ch.alloc wr _) (by omega)
          have hT1 : Ct tg w (wr.alloc (.cells #[.int .i32 (hh : Int), .int .i32 (ll : Int), .bool false, .bool false, .int .i32 0, .int .i32 0, .int .i32 0, .int .i32 0, .int .i32 0, .int .i32 (-1)] 73)) := HT.out.step (tag' := tt) (t := 1) (Ch.alloc wr _) (by omega) HAG.out
          have c0 : (wr.alloc (.cells #[.int .i32 (hh : Int), .int .i32 (ll : Int), .bool false, .bool false, .int .i32 0, .int .i32 0, .int .i32 0, .int .i32 0, .int .i32 0, .int .i32 (-1)] 73)).cell? ⟨wr.heap.size, 0, none⟩ = some (.int .i32 (hh : Int)) := (Bk.new wr #[.int .i32 (hh : Int), .int .i32 (ll : Int), .bool false, .bool false, .int .i32 0, .int .i32 0, .int .i32 0, .int .i32 0, .int .i32 0, .int .i32 (-1)] 73).cell 0 (by simp)
          have c1 : (wr.alloc (.cells #[.int .i32 (hh : Int), .int .i32 (ll : Int), .bool false, .bool false, .int .i32 0, .int .i32 0, .int .i32 0, .int .i32 0, .int .i32 0, .int .i32 (-1)] 73)).cell? ⟨wr.heap.size, 1, none⟩ = some (.int .i32 (ll : Int)) := (Bk.new wr #[.int .i32 (hh : Int), .int .i32 (ll : Int), .bool false, .bool false, .int .i32 0, .int .i32 0, .int .i32 0, .int .i32 0, .int .i32 0, .int .i32 (-1)] 73).cell 1 (by simp)
          have HS1 : Hid _ := hS1
          have HG1 : Hid (Gok tt (wr.alloc (.cells #[.int .i32 (hh : Int), .int .i32 (ll : Int), .bool false, .bool false, .int .i32 0, .int .i32 0, .int .i32 0, .int .i32 0, .int .i32 0, .int .i32 (-1)] 73)) d) := hG1
          have HT1 : Hid (Ct tg w (wr.alloc (.cells #[.int .i32 (hh : Int), .int .i32 (ll : Int), .bool false, .bool false, .int .i32 0, .int .i32 0, .int .i32 0, .int .i32 0, .int .i32 0, .int .i32 (-1)] 73))) := hT1
          have hnew : ¬ wr.heap.size = g3 := by omega
          have HKE : Hid (K p = key d x) := hkx
          clear kc r3 q3 z3 x3 y3 hS1 hG1 hT1 hkx e23
          subst ha3
          go_wp2_with fail
          obtain ⟨w1, hw1⟩ : ∃ x, x = wr.alloc (.cells #[.int .i32 (hh : Int), .int .i32 (ll : Int), .bool false, .bool false, .int .i32 0, .int .i32 0, .int .i32 0, .int .i32 0, .int .i32 0, .int .i32 (-1)] 73) := ⟨_, rfl⟩
          rw [← hw1]
          rw [← hw1] at HS1 HG1 HT1 c0 c1
          clear hw1
          obtain ⟨h15, HH15⟩ : ∃ x, Hid (x = wr.heap.size) := ⟨_, rfl⟩
          rw [← HH15.out]
          rw [← HH15.out] at c0 c1
          have hSt : St tt w1 F (.pointer (some ⟨d.Gb, 0, none⟩)) (.slice ar nr cr) false R3 := HS1.out
          have x8 : (R3 8).v = .slice (some ⟨g8, 0, none⟩) (R3 8).n d.n := by rw [HR8.out.2.1]; exact HR8.out.1
          obtain ⟨q8, z8, t8', l8'⟩ := Rs.cells (hSt.2.2 8 (by omega) (by omega)) x8
          have hxi8 : x < (R3 8).n * (R3 8).sz := by rw [HR8.out.2.1, HR8.out.2.2.1]; omega
          have b8 := q8 x hxi8
          have z8' := z8 x
          have f6 : w1.cell? ⟨F, 6, none⟩ = some (R3 8).v := hSt.2.1.cell 6 (by omega)
          rw [HR8.out.1] at f6
          obtain ⟨xb, hxb, _, _, kb⟩ := HG1.out.bp (by omega)
          have kb1 := kb hh hp1
          have g3k := HG1.out.k3
          rw [hxb] at g3k
          obtain ⟨xA, hxA, kA⟩ := (HG1.out.rows hh hp1).cell (ll - 1) (by omega)
          rw [hinv] at kA
          obtain ⟨lm, hlm⟩ : ∃ lm : Nat, lm = ll - 1 := ⟨_, rfl⟩
          rw [← hlm] at kA
          have el : (ll : Int) - 1 = (lm : Int) := by omega
          have el2 : lm < d.L hh := by omega
          have el3 : (lm : Int) < (d.L hh : Int) := by omega
          have el4 : lm ≤ 1048576 := by omega
          rw [hxA] at kb1
          have hxi : (x : Int) < (d.n : Int) := by omega
          have HSU : Hid _ := hSt.upd 8 g8 d.n x (by omega) (by omega) x8 t8' hxi8 (.int .i32 (p : Int))
          have HGU : Hid (Gok tt (w1.setCell ⟨g8, x, none⟩ (.int .i32 (p : Int))) d) := HG1.out.ch (Ch.set w1 t8' x none (.int .i32 (p : Int))) (by omega)
          have HTU : Hid (Ct tg w (w1.setCell ⟨g8, x, none⟩ (.int .i32 (p : Int)))) := HT1.out.step (Ch.set w1 t8' x none (.int .i32 (p : Int))) (by omega) HAG.out
          clear hSt q8 z8 kb hlm hxb hxA hinv k0 k1 k2 k3 k4 k5 k6 k7 k8 k9 hnew HS1 HG1 HT1 hp3 hp4 x8 hxi8
          go_big_region
          all_goals
            go_wp2_with fail
            go_roundw
            case rel => exact ⟨p + 1, _, fun k => if k = x then (p : Int) else f k, by go_num, by omega, fun t ht => (put_other _ _ _ _ ht).trans (HO3.out t ht), (by show _ ∧ _; rw [put_same]; exact HR8.out), fun k hk => by
                rw [put_same]
                show (if k = x then Value.int .i32 (p : Int) else (R3 8).V k) = .int .i32 (if k = x then (p : Int) else f k)
                by_cases e : k = x
                · rw [if_pos e, if_pos e]
                · rw [if_neg e, if_neg e]; exact HF8.out k hk, fun k hk => by
                show (if k = x then (p : Int) else f k) = -1 ∨ _
                by_cases e : k = x
                · exact .inr ⟨p, hlt2, by rw [e]; exact HKE.out⟩
                · rw [if_neg e]; exact HCV.out k hk, HSU, HGU.out.ch (Ch.drewN _ 1) (t := 1) (by omega), HTU.out.step (tag' := tt) (t := 1) (Ch.drewN _ 1) (by omega) HAG.out⟩
            case measure => simp [intOf]; omega
        · have e1 : decide ((p : Int) < (m : Int)) = false := decide_eq_false (by omega)
          have e1' : decide (p < m) = false := decide_eq_false hlt2
          obtain rfl : p = m := by omega
          have f7 : wr.cell? ⟨F, 7, none⟩ = some (.bool false) := HS.out.2.1.cell 7 (by omega)
          have y7 := HS.out.2.1.frozen 7
          have HSN : Hid (St tt (wr.setCell ⟨F, 7, none⟩ (.bool true)) F (.pointer (some ⟨d.Gb, 0, none⟩)) (.slice ar nr cr) true R3) := Sf.st (HS.out.sf.set 7 (by omega) (.bool true)) rfl rfl rfl rfl rfl rfl rfl rfl rfl rfl rfl rfl rfl rfl rfl rfl rfl rfl rfl rfl
          have hc : Ch tt 1 wr (wr.setCell ⟨F, 7, none⟩ (.bool true)) := Ch.set wr HS.out.1 7 none _
          have HGN : Hid (Gok tt (wr.setCell ⟨F, 7, none⟩ (.bool true)) d) := HG.out.ch hc (by omega)
          have HTN : Hid (Ct tg w (wr.setCell ⟨F, 7, none⟩ (.bool true))) := HT.out.step hc (by omega) HAG.out
          have x8 : (R3 8).v = .slice (some ⟨g8, 0, none⟩) (R3 8).n d.n := by rw [HR8.out.2.1]; exact HR8.out.1
          obtain ⟨q8, _, _, _⟩ := Rs.cells (HSN.out.2.2 8 (by omega) (by omega)) x8
          have b8 := q8 x0 (by rw [HR8.out.2.1, HR8.out.2.2.1]; omega)
          rw [HF8.out x0 hx0] at b8
          have f6 : (wr.setCell ⟨F, 7, none⟩ (.bool true)).cell? ⟨F, 6, none⟩ = some (R3 8).v := HSN.out.2.1.cell 6 (by omega)
          rw [HR8.out.1] at f6
          have hxi : (x0 : Int) < (d.n : Int) := by omega
          have HZN : Hid (Zs R3) := fun t => by
            by_cases e : t = 8
            · subst e; exact ⟨HR8.out.2.2.2, HR8.out.2.2.1⟩
            · rw [HO3.out t e]; exact HZ.out t
          clear hc HS HG HT q8 x8
          go_wp2_with fail
          go_ret
          exact ⟨⟨_, rfl⟩, tt, R3, f, HAG.out, HSN.out, HGN.out, HTN.out, HZN.out, HO3.out, HR8.out.2.1, HF8.out, HCV.out⟩

theorem zzIndex {p v : Value} {w : World} {Q : Ending → World → Prop} (h : Calls Try.prog 24 #[p, v] w fun e w' => (∃ i : Int, e = .returned (.int .i32 i)) ∧ Q e w') : Calls Try.prog 18 #[p, v] w Q := by
  have H : Hid (Calls Try.prog 24 #[p, v] w fun e w' => (∃ i : Int, e = .returned (.int .i32 i)) ∧ Q e w') := h
  clear h
  go_enter Try.func18, Try.ntmps18
  go_wp2_with fail
  refine Calls.mono H.out ?_
  rintro e w' ⟨⟨i, rfl⟩, hq⟩
  have HQ : Hid (Q (.returned (.int .i32 i)) w') := hq
  clear hq H
  go_wp2_with fail
  exact HQ.out
end Go.Proofs.Qxb6605223a
