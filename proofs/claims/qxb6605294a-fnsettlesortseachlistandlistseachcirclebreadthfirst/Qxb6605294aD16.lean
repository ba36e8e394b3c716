/-
  Seat b6605294a. WALK: settle (58).
-/
import Derived.Test.Qxb6605294aD14
set_option linter.unusedVariables false
set_option linter.unusedSimpArgs false
namespace Go.Proofs.Qxb6605294a
open Go.RowKit

attribute [local go_sem ↓ 3000] builtin_app
set_option maxRecDepth 100000 in
set_option maxHeartbeats 40000000 in
theorem settle_any (lo hi F gM n : Nat) (gk : Nat → Nat) (A : Nat → Nat → Option Addr) (N : Nat → Nat → Nat) (Z : Nat → Nat → Nat → Int) (PE : Nat → Int) (f : Int → Option Value) (kl : Int → Nat → List Int) (PS : Nat → Int) (w : World)
    (hn : n ≤ 1048576) (hN : ∀ k j, k < 4 → j < n → N k j ≤ 1048576) (s : Sc lo hi F gM n gk A) (hh : hi ≤ w.heap.size)
    (hF : Bk w F 85 3 (fun k => (#[.map (some gM), .slice none 0 0, .map none] : Array Value).getD k (.bool false)))
    (hM : Mi w gM f n) (hent : ∀ k v, f k = some v ↔ ∃ j, j < n ∧ PE j = k ∧ v = .pointer (some ⟨gk j, 0, none⟩)) (hK : K1 w lo n gk A N Z (fun _ _ => False))
    (hkl : ∀ j k, j < n → k < 4 → (kl (PE j) k).Pairwise (fun x y => x < y) ∧ ∀ x, x ∈ kl (PE j) k ↔ x ∈ ofN (Z k j) (N k j))
    (hrel : ∀ j k, j < n → k < 4 → ∀ x, x ∈ ofN (Z k j) (N k j) → Per PE n x)
    (hinj : ∀ i j, i < n → j < n → PE i = PE j → i = j) (hPS : ∀ i j, i < j → j < n → PS i < PS j) (hPm : ∀ x, x ∈ ofN PS n ↔ x ∈ ofN PE n) :
    Calls Try.prog 58 #[.pointer (some ⟨F, 0, none⟩)] w (SetPost lo hi F gM n gk A N Z f kl PS w) := by
  have HN := hide hN
  have HS := hide s
  have HKL := hide hkl
  have HREL := hide hrel
  have HINJ := hide hinj
  have HPS := hide hPS
  have HPM := hide hPm
  have HENT := hide hent
  have hgF := s.gF
  obtain ⟨X, hXs, hmk⟩ := run_mk0 n hn
  have hlen := fun ty => run_len_mp hM 83 _ _ ty Try.underlying83
  obtain ⟨es, clock, m1, m2, m3, m4, m5, m6, m7⟩ := hM.ex
  have kF : w.cell? ⟨F, 0, none⟩ = some (.map (some gM)) := hF.cell 0 (by omega)
  have hFs := hF.lt
  have hMs := hM.lt
  have hrg := run_range_map (P := Try.prog) (w.alloc (.cells X 3)) 83 _ _ gM es clock Try.underlying83 (by rw [Below.heap_alloc _ _ _ hMs]; exact m1)
  have kF2 : (w.alloc (.cells X 3)).cell? ⟨F, 0, none⟩ = some (.map (some gM)) := (hF.alloc _).cell 0 (by omega)
  have HMM := hide hM
  have HM1 := hide m1
  have HES : Hid (es.size = n ∧ (es.toList.map (·.key)).Nodup ∧ (es.toList.map (·.born)).Nodup ∧ (∀ e ∈ es.toList, e.born < clock) ∧ (∀ e ∈ es.toList, ∃ j, j < n ∧ e.key = .int .i64 (PE j) ∧ e.val = .pointer (some ⟨gk j, 0, none⟩)) ∧ ∀ j, j < n → ∃ e ∈ es.toList, e.key = .int .i64 (PE j)) := by
    refine ⟨m2, m5, m6, m7, fun e he => ?_, fun j hj => ?_⟩
    · obtain ⟨k, hk, hk2⟩ := m3 e he
      obtain ⟨j, hj, hj2, hj3⟩ := (hent _ _).1 hk2
      exact ⟨j, hj, by rw [hk, hj2], hj3⟩
    · exact m4 (PE j) _ ((hent _ _).2 ⟨j, hj, rfl, rfl⟩)
  have hwa : (w.alloc (.cells X 3)).heap.size = w.heap.size + 1 := by simp
  obtain ⟨r, HR⟩ : ∃ x, Hid (x = w.heap.size + 1) := ⟨_, rfl⟩
  obtain ⟨gp, HGP⟩ : ∃ x, Hid (x = w.heap.size) := ⟨_, rfl⟩
  obtain ⟨w2, HW2⟩ : ∃ x, Hid (x = (w.alloc (.cells X 3)).alloc (.mapIter (some gM) clock #[] clock)) := ⟨_, rfl⟩
  have HP0 : Hid (P1 w lo hi F gM n gk A N Z r es clock (.slice (some ⟨gp, 0, none⟩) 0 n) 0 (fun _ => 0) (fun k j => ∃ e ∈ ([] : List MapEntry), e.key = .int .i64 (PE j)) [] w2) := by
    have hr : r = w.heap.size + 1 := HR.out
    have hg : gp = w.heap.size := HGP.out
    have hw2 : w2 = (w.alloc (.cells X 3)).alloc (.mapIter (some gM) clock #[] clock) := HW2.out
    have hk : ∀ b, b < w.heap.size → w2.heap[b]? = w.heap[b]? := fun b hb => by rw [hw2, Below.heap_alloc _ _ _ (by rw [hwa]; omega), Below.heap_alloc _ _ _ hb]
    have hs2 : w2.heap.size = w.heap.size + 2 := by rw [hw2]; simp
    refine ⟨⟨#[], ?_, by rw [hk _ hMs]; exact m1, rfl⟩, .inr ⟨gp, n, fun i => X.getD i (.bool false), rfl, by omega, Nat.zero_le _, by simp only [maxLen]; omega, ?_, fun i hi => absurd hi (Nat.not_lt_zero _)⟩, ?_, ?_, hF.sameBlock (hk _ hFs), ⟨by rw [hw2]; rfl, by rw [hw2]; rfl, by rw [hw2]; rfl, by omega, fun b hb _ => hk b hb⟩, by omega, hh⟩
    · rw [hw2, hr, ← hwa]
      exact heap_alloc_new _ _
    · rw [hg, ← hXs, hw2]
      exact (Bk.new w X 3).alloc _
    · intro e
      have e : some gp = some r := e
      cases e
      omega
    · obtain ⟨U, u1, u2⟩ := hK.keep s (by omega) (fun b _ hb => hk b (by omega))
      refine ⟨U, u1, fun j k hj hk => ?_⟩
      obtain ⟨M, V, q1, q2, q3, q4, q5, q6⟩ := u2 j k hj hk
      exact ⟨M, V, q1, q2, q3, q4, fun ⟨e, he, _⟩ => (by cases he), fun _ => q6 (fun h => h)⟩
  have HV0 : Hid (VisOk es [] (fun _ => 0)) := ⟨fun e he => (by cases he), by simp, fun i e he => (by simp at he)⟩
  go_enter Try.func58, Try.ntmps58
  go_wp2_with fail
  clear hmk hlen m1 m2 m3 m4 m5 m6 m7 kF kF2 hrg hFs hMs hN s hF hM hent hK hkl hrel hinj hPS hPm
  rw [← HW2.out, ← HR.out, ← HGP.out]
  clear HW2 hXs hwa
  go_loopw [2] (fun v wr => ∃ (vis : List MapEntry) (V : Nat → Int), Hid (P1 w lo hi F gM n gk A N Z r es clock v vis.length V (fun k j => ∃ e ∈ vis, e.key = .int .i64 (PE j)) vis wr) ∧ Hid (VisOk es vis V)) (fun v _ => n - slen v)
  case atStart => exact ⟨[], _, HP0, HV0⟩
  case round =>
    clear HP0 HV0
    obtain ⟨vis, V, HP, HV⟩ := hrel
    have hne : r ≠ gM := by have := HP.out.rr; have := HP.out.hh; omega
    rcases HP.out.it.next hne HES.out.2.2.2.1 HES.out.2.2.1 0 with ⟨HALL, hnx⟩ | ⟨e, he, hnb, w3, hnx, hen, hit, hts⟩
    · obtain ⟨hvl, hmv, hndv, hdone⟩ := HV.out.all HALL HES.out.2.2.1 HES.out.2.1 (PE := PE) HES.out.1 (fun e he => (HES.out.2.2.2.2.1 e he).imp fun j h => ⟨h.1, h.2.1⟩) HES.out.2.2.2.2.2
      have HMV := hide hmv
      have HNDV := hide hndv
      have HDONE := hide hdone
      clear hmv hndv hdone HALL
      go_wp2_with fail
      refine Calls.mono (sort_gv w.heap.size u2 vis.length V wr (by omega) HP.out.own) ?_
      rintro _ w6 ⟨rfl, V6, hG6, hs6, hp6, hT6⟩
      have HP6 : Hid (P1 w lo hi F gM n gk A N Z r es clock u2 vis.length V6 (fun k j => ∃ e ∈ vis, e.key = .int .i64 (PE j)) vis w6) := by
        have h1 := HP.out.rr
        have h2 := HP.out.ts.size
        exact HP.out.turn HS.out hT6 (fun b hb => (HP.out.own.lt b hb).1) (HP.out.it.keep (hT6.block r h1.2 HP.out.ne) (hT6.block gM (by omega) (fun e => by have := (HP.out.own.lt _ e).1; omega))) hG6 HP.out.ne
      have HM6 : Hid (Mi w6 gM f n) := by
        obtain ⟨_, _, h2, _⟩ := HP6.out.it
        exact HMM.out.alloc (by rw [h2]; exact HM1.out.symm)
      rw [hvl] at hs6 hp6 hG6
      have hPV := sorted_is hs6 (hp6.nodup_iff.2 HNDV.out) HPS.out (fun x => (hp6.mem_iff.trans (HMV.out x)).trans (HPM.out x).symm)
      obtain ⟨a2, c2, hu2, hrd6, hown⟩ := hG6.rdI
      have hrd6 := hrd6.congr' hPV
      have HRD6 := hide hrd6
      have HA2 : Hid (∀ x, a2 = some x → w.heap.size ≤ x.block ∧ x.block < w6.heap.size) := fun x hx => hG6.lt _ (hown x hx)
      clear hs6 hp6 hPV hrd6 hT6 hown
      subst hu2
      have HF6 := hide HP6.out.ff
      have kF : w6.cell? ⟨F, 0, none⟩ = some (.map (some gM)) := HF6.out.cell 0 (by omega)
      have hF6s := HF6.out.lt
      have hM6s := HM6.out.lt
      have hlen6 := fun ty => run_len_mp HM6.out 83 _ _ ty Try.underlying83
      have hmk6 := run_mkMap (P := Try.prog) Try.underlying34 (n : Int) w6
      have kF7 : (w6.alloc (.map #[] 0)).cell? ⟨F, 2, none⟩ = some (.map none) := (HF6.out.alloc _).cell 2 (by omega)
      have fF7 : (w6.alloc (.map #[] 0)).frozen? ⟨F, 2, none⟩ = false := (HF6.out.alloc _).frozen 2
      clear hG6
      go_wp2_with fail
      obtain ⟨gC, HGC⟩ : ∃ x, Hid (x = w6.heap.size) := ⟨_, rfl⟩
      rw [← HGC.out]
      obtain ⟨w8, HW8⟩ : ∃ x, Hid (x = (w6.setCell ⟨F, 2, none⟩ (.map (some gC))).alloc (.map #[] 0)) := ⟨_, rfl⟩
      rw [← HW8.out]
      have HT8 : Hid (Ts (fun b => b = F) w6 w8) := by
        show Ts _ _ _
        rw [HW8.out]
        exact (Ts.set w6 ⟨F, 2, none⟩ _).trans (Ts.alloc (fun b => b = F) _ _) (fun _ _ h => h)
      have hs8 : gC < w8.heap.size := by rw [HW8.out, HGC.out]; simp [World.setCell]
      have hw6 : w.heap.size ≤ w6.heap.size := HP6.out.ts.size
      have hgC6 : w6.heap.size ≤ gC := Nat.le_of_eq HGC.out.symm
      have HR8 : Hid (R3 w8 w8 F gM gC (.slice none 0 0) (bfsN kl n PS 0)) := by
        refine ⟨?_, Cs.nil _ _, ⟨0, ?_⟩, Ts.refl _ _⟩
        · rw [HW8.out]
          refine ((HF6.out.set 2 (by omega) (.map (some gC))).alloc _).congr (fun i hi => ?_)
          have : i = 0 ∨ i = 1 ∨ i = 2 := by omega
          rcases this with rfl | rfl | rfl <;> rfl
        · have hms := Mi.made (w6.setCell ⟨F, 2, none⟩ (.map (some gC)))
          have hsz : (w6.setCell ⟨F, 2, none⟩ (.map (some gC))).heap.size = gC := by rw [HGC.out]; simp [World.setCell]
          rw [hsz] at hms
          rw [HW8.out]
          exact hms
      have HK8 : Hid (K1 w8 lo n gk A N Z (fun _ _ => True)) := by
        obtain ⟨U, u1, u2⟩ := HP6.out.k1.keepF HS.out HT8.out.size (fun b _ hb hne => HT8.out.block b (by omega) hne)
        refine ⟨U, u1, fun j k hj hk => ?_⟩
        obtain ⟨M, V, q1, q2, q3, q4, q5, q6⟩ := u2 j k hj hk
        exact ⟨M, V, q1, q2, q3, q4, fun _ => q5 (HDONE.out j hj), fun h => absurd trivial h⟩
      have HM8 : Hid (Mi w8 gM f n) := HM6.out.alloc (HT8.out.block gM hM6s (by omega))
      have HX8 : Hid (Kx w8 F gM gC n (Per PE n) f kl) := Kx.mk' HK8.out (fun _ _ _ _ => trivial) HS.out HM8.out HENT.out HN.out (by omega) HKL.out
      have HRD8 : Hid (RdI .i64 w8 a2 n PS) := HRD6.out.keep HT8.out.size (fun x hx _ => HT8.out.block _ (HA2.out x hx).2 (by have := (HA2.out x hx).1; omega))
      have HT0 : Hid (Ts (fun b => lo ≤ b ∧ b < hi) w w8) := HP6.out.ts.trans HT8.out (fun b _ h => by omega)
      have HPER : Hid (∀ p, Per PE n p → ∀ k, k < 4 → ∀ x ∈ kl p k, Per PE n x) := by
        rintro p ⟨j, hj, rfl⟩ k hk x hx
        exact HREL.out j k hj hk x (((HKL.out j k hj hk).2 x).1 hx)
      have HPP : Hid (∀ i, i < n → Per PE n (PS i)) := fun i hi => by
        obtain ⟨j, hj, e⟩ := mem_ofN.1 ((HPM.out (PS i)).1 (mem_ofN.2 ⟨i, hi, rfl⟩))
        exact ⟨j, hj, e⟩
      have HPQ : Hid (∀ x, Per PE n x → x ∈ ofN PS n) := fun x hx => (HPM.out x).2 (mem_ofN.2 hx)
      clear HT8 HW8 HGC hlen6 hmk6 kF7 fF7 kF HP6 HF6 HM6 HRD6 hnx
      go_loopw [83] (fun v wr => ∃ (t : Nat) (vo : Value), v = .int .i64 t ∧ t ≤ n ∧ Hid (R3 w8 wr F gM gC vo (bfsN kl n PS t))) (fun v _ => n - (intOf v).toNat)
      case atStart => exact ⟨0, _, rfl, Nat.zero_le _, HR8⟩
      case round =>
        clear HR8
        obtain ⟨t, vo, rfl, htn, HR3⟩ := hrel
        by_cases hlt : t < n
        · have e0 : decide ((t : Int) < (n : Int)) = true := decide_eq_true (by omega)
          have e0' : decide (t < n) = true := decide_eq_true hlt
          obtain ⟨x2, hx2⟩ := HRD8.out.at' (by omega)
          have HRDr : Hid (RdI .i64 wr a2 n PS) := HRD8.out.keep HR3.out.ts.size (fun x hx _ => HR3.out.ts.block _ (by have := (HA2.out x hx).2; omega) (by have := HA2.out x hx; omega))
          have kp : wr.cell? (x2.add t) = some (.int .i64 (PS t)) := ((HRDr.out.2 x2 hx2).2 t hlt)
          obtain ⟨p, HPT⟩ : ∃ x, Hid (x = PS t) := ⟨_, rfl⟩
          rw [← HPT.out] at kp
          obtain ⟨b, HBT⟩ : ∃ x, Hid (bfsN kl n PS t = x) := ⟨_, rfl⟩
          rw [HBT.out] at HR3
          have kF0 : wr.cell? ⟨F, 0, none⟩ = some (.map (some gM)) := HR3.out.ff.cell 0 (by omega)
          have kF1 : wr.cell? ⟨F, 1, none⟩ = some vo := HR3.out.ff.cell 1 (by omega)
          have kF2 : wr.cell? ⟨F, 2, none⟩ = some (.map (some gC)) := HR3.out.ff.cell 2 (by omega)
          obtain ⟨m, hm⟩ := HR3.out.mp
          have hl := hm.look (P := Try.prog) Try.underlying34 Try.underlying3 Try.zeroValue3 p true
          obtain ⟨x0, hx0⟩ : ∃ x, x = (mapOf b.co p).getD (.int .i64 0) := ⟨_, rfl⟩
          rw [if_pos rfl, ← hx0, mapOf_some] at hl
          clear hx0
          have HMC := hide hm
          clear hm
          subst hx2
          by_cases hfd : (b.co p).isSome = true
          · rw [hfd] at hl
            go_wp2_with fail
            go_roundw
            case rel =>
              refine ⟨t + 1, vo, by go_num, by omega, ?_⟩
              rw [bfsN_found kl n PS t (by rw [HBT.out, ← HPT.out]; exact hfd), HBT.out]
              exact HR3
            case measure => simp [intOf]; omega
          · have hfd : (b.co p).isSome = false := by simpa using hfd
            rw [hfd] at hl
            obtain ⟨ao, co, hvo⟩ := HR3.out.cs.form
            obtain ⟨w9, hst, hs9, hb9, hcu⟩ := Cu.start HMC.out b.done.length p
            have HCU := hide hcu
            clear hcu
            subst hvo
            go_wp2_with fail
            obtain ⟨wS, rfl⟩ : ∃ x, x = wr := ⟨wr, rfl⟩
            obtain ⟨s0, HS0⟩ : ∃ x, Hid (x = start b.done.length b.co p) := ⟨_, rfl⟩
            rw [← HS0.out] at HCU
            obtain ⟨wA, HWA⟩ : ∃ x, Hid (x = w9.alloc (.cells #[.int .i64 p] 3)) := ⟨_, rfl⟩
            rw [← HWA.out] at HCU
            rw [← HWA.out]
            obtain ⟨cn, HCN⟩ : ∃ x, Hid (x = b.done.length) := ⟨_, rfl⟩
            rw [← HCN.out] at HS0
            rw [← HCN.out]
            have HBOK : Hid (Bok (Per PE n) PS t b) := by
              have := bfsN_ok kl HPER.out n PS HPP.out t htn
              rw [HBT.out] at this
              exact this
            have hcn : cn ≤ 1048576 := by rw [HCN.out]; have := HBOK.out.len; omega
            have HPp : Hid (Per PE n p) := by rw [HPT.out]; exact HPP.out t hlt
            have HOK0 : Hid (Ok (Per PE n) s0) := by rw [HS0.out]; exact Ok.start HBOK.out.key _ p HPp.out
            have hwS : w8.heap.size ≤ wS.heap.size := HR3.out.ts.size
            clear HWA hst hb9 hs9 hl kp
            go_loopw [12, 13] (fun v i wr => ∃ (q : Nat) (s : Bs), i = .int .i64 q ∧ Hid (s = circN kl cn s0 q) ∧ Hid (q ≤ s.cur.length) ∧ Hid (Ok (Per PE n) s) ∧ Hid (Cu wS wr gC v s)) (fun _ i _ => n - (intOf i).toNat)
            case atStart =>
              refine ⟨0, s0, rfl, rfl, Nat.zero_le _, HOK0, ?_⟩
              exact HCU
            case round =>
              clear HCU HOK0
              obtain ⟨q, s, rfl, HSQ, HQL, HOK, HC⟩ := hrel
              have hsl : s.cur.length ≤ n := HOK.out.len HPQ.out
              have hql : q ≤ s.cur.length := HQL.out
              obtain ⟨ac, cc, hv, hrdc, hownc⟩ := HC.out.cur.rdI
              have HRDC := hide hrdc
              clear hrdc hownc
              subst hv
              obtain ⟨L, HL⟩ : ∃ x, Hid (x = s.cur.length) := ⟨_, rfl⟩
              rw [← HL.out] at hsl hql HC HRDC
              rw [← HL.out]
              by_cases hlq : q < L
              · have e1 : decide ((q : Int) < (L : Int)) = true := decide_eq_true (by omega)
                have e1' : decide (q < L) = true := decide_eq_true hlq
                obtain ⟨xc, hxc, kc⟩ := HRDC.out.cell q hlq
                obtain ⟨pq, HPQ2⟩ : ∃ x, Hid (x = s.cur.getD q 0) := ⟨_, rfl⟩
                rw [← HPQ2.out] at kc
                subst hxc
                have HGET : Hid (s.cur[q]? = some pq) := by
                  have h1 : q < s.cur.length := by rw [← HL.out]; exact hlq
                  show s.cur[q]? = some pq
                  rw [HPQ2.out, List.getD_eq_getElem?_getD, List.getElem?_eq_getElem h1]
                  rfl
                have HPpq : Hid (Per PE n pq) := HOK.out.per pq (List.mem_of_getElem? HGET.out)
                have HTr : Hid (Ts (fun b => b = F ∨ b = gC) w8 wr) := HR3.out.ts.trans HC.out.ts (fun b _ h => .inr h)
                have HXr := hide (HX8.out.keep HTr.out)
                obtain ⟨g, a, M, N', V', hfq, hBg8, hgF', hgC', hlists⟩ := HX8.out.look pq HPpq.out
                have HLI := hide hlists
                have hBg := hBg8.sameBlock (HTr.out.block g hBg8.lt (by omega))
                clear hBg8
                have kF0r : wr.cell? ⟨F, 0, none⟩ = some (.map (some gM)) := by
                  rw [World.cell?_of_block (w := wS) (HC.out.ts.block F (by omega) (by omega))]
                  exact kF0
                have hl5 : (Instr.lookup 83 (.map (some gM)) (.int .i64 pq) false).run Try.prog wr.drew = .ok (.pointer (some ⟨g, 0, none⟩)) wr.drew := by
                  have hl4 := (HXr.out.mp.alloc (w' := wr.drew) rfl).look (P := Try.prog) Try.underlying83 Try.underlying3 Try.zeroValue86 pq false
                  rw [hfq] at hl4
                  exact hl4
                have hl6 : (Instr.lookup 83 (.map (some gM)) (.int .i64 pq) false).run Try.prog wr = .ok (.pointer (some ⟨g, 0, none⟩)) wr := by
                  have hl4 := HXr.out.mp.look (P := Try.prog) Try.underlying83 Try.underlying3 Try.zeroValue86 pq false
                  rw [hfq] at hl4
                  exact hl4
                have c0 : wr.cell? ⟨g, 0, none⟩ = some (.slice (a 0) (M 0) (N' 0)) := hBg.cell 0 (by omega)
                have c1 : wr.cell? ⟨g, 1, none⟩ = some (.slice (a 1) (M 1) (N' 1)) := hBg.cell 1 (by omega)
                have c2' : wr.cell? ⟨g, 2, none⟩ = some (.slice (a 2) (M 2) (N' 2)) := hBg.cell 2 (by omega)
                have c3 : wr.cell? ⟨g, 3, none⟩ = some (.slice (a 3) (M 3) (N' 3)) := hBg.cell 3 (by omega)
                have HBg := hide hBg
                clear hBg hlists hfq
                have hgl : g < wr.heap.size := HBg.out.lt
                have HKK : Hid (∀ w' : World, w'.heap[g]? = wr.heap[g]? → w'.cell? ⟨g, 0, none⟩ = some (.slice (a 0) (M 0) (N' 0)) ∧ w'.cell? ⟨g, 1, none⟩ = some (.slice (a 1) (M 1) (N' 1)) ∧ w'.cell? ⟨g, 2, none⟩ = some (.slice (a 2) (M 2) (N' 2)) ∧ w'.cell? ⟨g, 3, none⟩ = some (.slice (a 3) (M 3) (N' 3))) := fun w' h =>
                  ⟨(HBg.out.sameBlock h).cell 0 (by omega), (HBg.out.sameBlock h).cell 1 (by omega), (HBg.out.sameBlock h).cell 2 (by omega), (HBg.out.sameBlock h).cell 3 (by omega)⟩
                have HKA : Hid (∀ o : Obj, (wr.alloc o).heap[g]? = wr.heap[g]?) := fun o => Below.heap_alloc _ _ _ hgl
                go_wp2_with fail
                go_big_region
                clear hl5 hl6 kc kF0r
                go_wp2_with fail
                go_region_held3 (fun (w' : World) => w'.cell? ⟨g, 0, none⟩ = some (.slice (a 0) (M 0) (N' 0)) ∧ w'.cell? ⟨g, 1, none⟩ = some (.slice (a 1) (M 1) (N' 1)) ∧ w'.cell? ⟨g, 2, none⟩ = some (.slice (a 2) (M 2) (N' 2)) ∧ w'.cell? ⟨g, 3, none⟩ = some (.slice (a 3) (M 3) (N' 3)))
                  (first | exact HKK.out _ rfl | exact HKK.out _ (HKA.out _))
                  (fail)
                go_wp2_with fail
                obtain ⟨w5, HW5⟩ : ∃ x, Hid (x = (wr.alloc (.cells #[.slice (a 0) (M 0) (N' 0), .slice (a 1) (M 1) (N' 1), .slice (a 2) (M 2) (N' 2), .slice (a 3) (M 3) (N' 3)] 22)).drew.drew) := ⟨_, rfl⟩
                rw [← HW5.out]
                obtain ⟨g4, HG4⟩ : ∃ x, Hid (x = wr.heap.size) := ⟨_, rfl⟩
                rw [← HG4.out]
                have HC5 : Hid (C5 wS w5 gC (.slice (some xc) L cc) s g4 (fun k => .slice (a k) (M k) (N' k))) := by
                  rw [HG4.out]
                  have h5 := C5.make HC.out (by omega) #[.slice (a 0) (M 0) (N' 0), .slice (a 1) (M 1) (N' 1), .slice (a 2) (M 2) (N' 2), .slice (a 3) (M 3) (N' 3)] rfl (w4 := w5) (by rw [HW5.out]; rfl) (by rw [HW5.out]; exact ⟨rfl, rfl, rfl⟩)
                  refine ⟨h5.cu, h5.b4.congr (fun k hk => ?_), h5.ne, h5.nc⟩
                  have : k = 0 ∨ k = 1 ∨ k = 2 ∨ k = 3 := by omega
                  rcases this with rfl | rfl | rfl | rfl <;> rfl
                clear HW5 HG4 c0 c1 c2' c3 HKK HKA HBg hgl HXr HTr
                obtain ⟨wB, rfl⟩ : ∃ x, x = wr := ⟨wr, rfl⟩
                go_loopw [12, 143] (fun v i wr => ∃ (k : Nat) (s5 : Bs), i = .int .i64 k ∧ k ≤ 4 ∧ Hid (s5 = expand kl cn s pq k) ∧ Hid (Ok (Per PE n) s5) ∧ Hid (C5 wS wr gC v s5 g4 (fun k => .slice (a k) (M k) (N' k)))) (fun _ i _ => 4 - (intOf i).toNat)
                case atStart => exact ⟨0, s, rfl, by omega, rfl, HOK, HC5⟩
                case round =>
                  clear HC5
                  obtain ⟨k, s5, rfl, hk4, HS5, HOK5, HC5⟩ := hrel
                  by_cases hlk : k < 4
                  · have e2 : decide ((k : Int) < 4) = true := decide_eq_true (by omega)
                    have e2' : decide (k < 4) = true := decide_eq_true hlk
                    have k4 : wr.cell? ⟨g4, k, none⟩ = some (.slice (a k) (M k) (N' k)) := HC5.out.b4.cell k hlk
                    obtain ⟨hrdk, hklk, hMk, hblk⟩ := HLI.out k hlk
                    obtain ⟨ak, HAK⟩ : ∃ x, Hid (x = a k) := ⟨_, rfl⟩
                    obtain ⟨mk, HMK⟩ : ∃ x, Hid (x = M k) := ⟨_, rfl⟩
                    obtain ⟨nk, HNK⟩ : ∃ x, Hid (x = N' k) := ⟨_, rfl⟩
                    rw [← HAK.out, ← HMK.out, ← HNK.out] at k4
                    rw [← HAK.out, ← HMK.out] at hrdk
                    rw [← HMK.out] at hklk hMk
                    rw [← HAK.out] at hblk
                    have HRDK := hide hrdk
                    have HKLK := hide hklk
                    have HBLK := hide hblk
                    clear hrdk hklk hblk
                    go_wp2_with fail
                    obtain ⟨wD, rfl⟩ : ∃ x, x = wr := ⟨wr, rfl⟩
                    go_loopw [12, 149] (fun v i wr => ∃ (t6 : Nat) (s6 : Bs), i = .int .i64 t6 ∧ t6 ≤ mk ∧ Hid (s6 = (ofN (V' k) t6).foldl (visit cn) s5) ∧ Hid (Ok (Per PE n) s6) ∧ Hid (C5 wS wr gC v s6 g4 (fun k => .slice (a k) (M k) (N' k)))) (fun _ i _ => mk - (intOf i).toNat)
                    case atStart => exact ⟨0, s5, rfl, Nat.zero_le _, rfl, HOK5, HC5⟩
                    case round =>
                      clear HC5 HOK5
                      obtain ⟨t6, s6, rfl, ht6, HS6, HOK6, HC6⟩ := hrel
                      by_cases hl6 : t6 < mk
                      · have e3 : decide ((t6 : Int) < (mk : Int)) = true := decide_eq_true (by omega)
                        have e3' : decide (t6 < mk) = true := decide_eq_true hl6
                        have HT6 : Hid (Ts (fun b => b = F ∨ b = gC) w8 wr) := HR3.out.ts.trans HC6.out.cu.ts (fun b _ h => .inr h)
                        have hrd := HRDK.out.keep HT6.out.size (fun x hx _ => HT6.out.block _ (HBLK.out x hx).2.2 (by have := HBLK.out x hx; omega))
                        obtain ⟨xk, hxk, kk⟩ := hrd.cell t6 hl6
                        obtain ⟨rr, HRR⟩ : ∃ x, Hid (x = V' k t6) := ⟨_, rfl⟩
                        rw [← HRR.out] at kk
                        clear hrd
                        have HPr : Hid (Per PE n rr) := HPER.out pq HPpq.out k hlk rr (by rw [← HKLK.out]; exact mem_ofN.2 ⟨t6, hl6, HRR.out.symm⟩)
                        have kF2r : wr.cell? ⟨F, 2, none⟩ = some (.map (some gC)) := by
                          rw [World.cell?_of_block (w := wS) (HC6.out.cu.ts.block F (by omega) (by omega))]
                          exact kF2
                        obtain ⟨m6, hm6⟩ := HC6.out.cu.mp
                        have hl := hm6.look (P := Try.prog) Try.underlying34 Try.underlying3 Try.zeroValue3 rr true
                        clear hm6
                        obtain ⟨x6, hx6⟩ : ∃ x, x = (mapOf s6.co rr).getD (.int .i64 0) := ⟨_, rfl⟩
                        rw [if_pos rfl, ← hx6, mapOf_some] at hl
                        clear hx6
                        have HSTEP : Hid ((ofN (V' k) (t6 + 1)).foldl (visit cn) s5 = visit cn s6 rr) := by
                          show _ = _
                          rw [ofN_succ, List.foldl_append, ← HS6.out, HRR.out]
                          rfl
                        have hsl6 : s6.cur.length ≤ n := HOK6.out.len HPQ.out
                        obtain ⟨a6, c6, hv6⟩ := HC6.out.cu.cur.form
                        subst hv6
                        subst hxk
                        by_cases hfd6 : (s6.co rr).isSome = true
                        · rw [hfd6] at hl
                          go_wp2_with fail
                          go_roundw
                          case rel =>
                            refine ⟨t6 + 1, s6, by go_num, by omega, ?_, HOK6, HC6⟩
                            show s6 = _
                            rw [HSTEP.out]
                            unfold visit
                            rw [if_pos hfd6]
                          case measure => simp [intOf]; omega
                        · have hfd6 : (s6.co rr).isSome = false := by simpa using hfd6
                          rw [hfd6] at hl
                          obtain ⟨w6', g6, c6', w7', hup, hsz6, hb6, hap6, hC7⟩ := HC6.out.visit (by omega) cn rr hfd6 (by omega)
                          have HC7 := hide hC7
                          clear hC7 hb6
                          go_wp2_with fail
                          go_roundw
                          case rel => exact ⟨t6 + 1, visit cn s6 rr, by go_num, by omega, HSTEP.out.symm, HOK6.out.visit cn rr HPr.out, HC7⟩
                          case measure => simp [intOf]; omega
                      · have e3 : decide ((t6 : Int) < (mk : Int)) = false := decide_eq_false (by omega)
                        have e3' : decide (t6 < mk) = false := decide_eq_false hl6
                        go_wp2_with fail
                        go_roundw
                        case rel =>
                          refine ⟨k + 1, s6, by go_num, by omega, ?_, HOK6, HC6⟩
                          show s6 = _
                          have hte : t6 = mk := by omega
                          rw [expand_succ, ← HKLK.out, ← hte, ← HS5.out]
                          exact HS6.out
                        case measure => simp [intOf]; omega
                  · have e2 : decide ((k : Int) < 4) = false := decide_eq_false (by omega)
                    have e2' : decide (k < 4) = false := decide_eq_false hlk
                    go_wp2_with fail
                    go_roundw
                    case rel =>
                      have hke : k = 4 := by omega
                      subst hke
                      have hcs : s5 = circN kl cn s0 (q + 1) := by
                        rw [circN_succ kl cn s0 q pq (by rw [← HSQ.out]; exact HGET.out), ← HSQ.out]
                        exact HS5.out
                      refine ⟨q + 1, s5, by go_num, hcs, ?_, HOK5, HC5.out.cu⟩
                      show q + 1 ≤ s5.cur.length
                      have h1 : q < s.cur.length := by rw [← HL.out]; exact hlq
                      have h2 := expand_len kl cn pq 4 s
                      rw [← HS5.out] at h2
                      omega
                    case measure => simp [intOf]; omega
              · have e1 : decide ((q : Int) < (L : Int)) = false := decide_eq_false (by omega)
                have e1' : decide (q < L) = false := decide_eq_false hlq
                have kF1r : wr.cell? ⟨F, 1, none⟩ = some (.slice ao b.done.length co) := by
                  rw [World.cell?_of_block (w := wS) (HC.out.ts.block F (by omega) (by omega))]
                  exact kF1
                have HFr := hide (HR3.out.ff.sameBlock (HC.out.ts.block F (by omega) (by omega)))
                obtain ⟨g7, c7, w7, hap7, hcs7, hts7⟩ := Cs.app HR3.out.cs HC.out.ts hs8 hwS (l := s.cur) HC.out.cur (by rw [← HCN.out]; exact hcn)
                have fF7 : w7.frozen? ⟨F, 1, none⟩ = false := by
                  rw [World.frozen?_of_block (w := wr) (hts7.block F (by have := HC.out.ts.size; omega) (fun e => by have := (HR3.out.cs.lt _ e).1; omega))]
                  exact HFr.out.frozen 1
                have kF7 : w7.cell? ⟨F, 1, none⟩ = some (.slice ao b.done.length co) := by
                  rw [World.cell?_of_block (w := wr) (hts7.block F (by have := HC.out.ts.size; omega) (fun e => by have := (HR3.out.cs.lt _ e).1; omega))]
                  exact kF1r
                have HCS7 := hide hcs7
                have HTS7 := hide hts7
                clear hcs7 hts7
                go_wp2_with fail
                go_roundw
                case rel =>
                  refine ⟨t + 1, .slice (some ⟨g7, 0, none⟩) (b.done.length + 1) c7, by go_num, by omega, ?_⟩
                  have hend : circN kl cn s0 n = s := by
                    have h1 : (circN kl cn s0 q).cur.length ≤ q := by rw [← HSQ.out, ← HL.out]; omega
                    rw [circN_end kl cn s0 q h1 n (by omega), ← HSQ.out]
                  rw [bfsN_new kl n PS t b HBT.out (by rw [← HPT.out]; exact hfd) s (by rw [← HCN.out, ← HPT.out, ← HS0.out]; exact hend)]
                  exact HR3.out.next (by omega) hs8 (by omega) HC.out HTS7.out HCS7.out
                case measure => simp [intOf]; omega
        · have e0 : decide ((t : Int) < (n : Int)) = false := decide_eq_false (by omega)
          have e0' : decide (t < n) = false := decide_eq_false hlt
          obtain rfl : t = n := by omega
          go_wp2_with fail
          go_end0
          exact set_done HR3.out HK8.out HM8.out HS.out HT0.out hh (by omega) hs8 HPER.out HPP.out HPQ.out HPS.out
    · obtain ⟨j, hj, hke, hve⟩ := HES.out.2.2.2.2.1 e he
      obtain ⟨p, HPE⟩ : ∃ x, Hid (x = PE j) := ⟨_, rfl⟩
      rw [← HPE.out] at hke
      obtain ⟨g, HG⟩ : ∃ x, Hid (x = gk j) := ⟨_, rfl⟩
      rw [← HG.out] at hve
      rw [hke, hve] at hnx hen
      have HP3 := hide (HP.out.step HS.out hit hts)
      have hvl := HV.out.le
      rw [HES.out.1] at hvl
      have hlo3 : w.heap.size ≤ w3.heap.size := HP3.out.ts.size
      obtain ⟨g1, c1, w4, hap, hG4, hT4, hO4⟩ := HP3.out.own.app 22 (.int .i64 0) 8 Try.underlying22 Try.info3 rfl (.int .i64 p) rfl (by simp only [maxLen]; omega) (by omega) hlo3 (w3.alloc (.cells #[.int .i64 p] 3)) rfl ⟨rfl, rfl, rfl⟩
      have HV5 := hide (HV.out.snoc he hnb hke)
      have HP4 : Hid (P1 w lo hi F gM n gk A N Z r es clock (.slice (some ⟨g1, 0, none⟩) (vis.length + 1) c1) (vis.length + 1) (fun i => if i < vis.length then V i else p) (fun k j' => ∃ x ∈ vis, x.key = .int .i64 (PE j')) (vis ++ [e]) w4) := by
        refine HP3.out.grow HS.out (hG4.congr (fun i hi => ?_)) hT4 hO4
        by_cases h : i < vis.length
        · simp [h]
        · simp [h]
      have HND : Hid (¬ ∃ x ∈ vis, x.key = .int .i64 (PE j)) := by
        have := HV.out.fresh he hnb HES.out.2.1
        rw [hke, HPE.out] at this
        exact this
      have HNV : Hid (∀ j', (∃ x ∈ vis ++ [e], x.key = .int .i64 (PE j')) ↔ (∃ x ∈ vis, x.key = .int .i64 (PE j')) ∨ PE j = PE j') := by
        intro j'
        constructor
        · rintro ⟨x, hx, hxk⟩
          rw [List.mem_append, List.mem_singleton] at hx
          rcases hx with hx | rfl
          · exact .inl ⟨x, hx, hxk⟩
          · right
            rw [hke, HPE.out] at hxk
            exact int_inj hxk
        · rintro (⟨x, hx, hxk⟩ | h)
          · exact ⟨x, by simp [hx], hxk⟩
          · exact ⟨e, by simp, by rw [hke, HPE.out, h]⟩
      clear hit hts hG4 hT4 hO4
      go_wp2_with fail
      go_big_region
      go_wp2_with fail
      obtain ⟨w5, HW5⟩ : ∃ x, Hid (x = (w4.alloc (.cells #[.pointer (some ⟨g, 0, none⟩), .pointer (some ⟨g, 1, none⟩), .pointer (some ⟨g, 2, none⟩), .pointer (some ⟨g, 3, none⟩)] 107)).drew) := ⟨_, rfl⟩
      rw [← HW5.out]
      obtain ⟨g4, HG4⟩ : ∃ x, Hid (x = w4.heap.size) := ⟨_, rfl⟩
      try rw [← HG4.out]
      have hg4 : hi ≤ g4 := by rw [HG4.out]; exact Nat.le_trans hh HP4.out.ts.size
      have HT5 : Hid (Ts (fun _ => False) w4 w5) := by
        show Ts _ _ _
        rw [HW5.out]
        exact (Ts.alloc _ w4 _).trans (Ts.drew (fun _ => False) _) (fun _ _ h => h)
      have HP5 : Hid (P1 w lo hi F gM n gk A N Z r es clock (.slice (some ⟨g1, 0, none⟩) (vis.length + 1) c1) (vis.length + 1) (fun i => if i < vis.length then V i else p) (fun k' j' => (∃ x ∈ vis, x.key = .int .i64 (PE j')) ∨ (j' = j ∧ k' < 0)) (vis ++ [e]) w5) := by
        refine (HP4.out.quiet HS.out HT5.out).same (fun k j' _ _ => ?_)
        constructor
        · rintro (h | h)
          · exact h
          · omega
        · exact .inl
      have HB5 : Hid (Bk w5 g4 107 4 (fun k => .pointer (some ⟨g, k, none⟩))) := by
        show Bk _ _ _ _ _
        rw [HW5.out, HG4.out]
        refine (Bk.new w4 _ 107).congr (fun k hk => ?_)
        have hk : k < 4 := hk
        have : k = 0 ∨ k = 1 ∨ k = 2 ∨ k = 3 := by omega
        rcases this with rfl | rfl | rfl | rfl <;> rfl
      clear HT5 HP4 hap hlo3 hnx hen
      clear HW5
      go_loopw [55] (fun v wr => ∃ k : Nat, v = .int .i64 k ∧ k ≤ 4 ∧ Hid (P1 w lo hi F gM n gk A N Z r es clock (.slice (some ⟨g1, 0, none⟩) (vis.length + 1) c1) (vis.length + 1) (fun i => if i < vis.length then V i else p) (fun k' j' => (∃ x ∈ vis, x.key = .int .i64 (PE j')) ∨ (j' = j ∧ k' < k)) (vis ++ [e]) wr) ∧ Hid (Bk wr g4 107 4 (fun k => .pointer (some ⟨g, k, none⟩)))) (fun v _ => 4 - (intOf v).toNat)
      case atStart => exact ⟨0, rfl, by omega, HP5, HB5⟩
      case round =>
        clear HP5 HB5
        obtain ⟨k, rfl, hk4, HPr, HBr⟩ := hrel
        by_cases hlt : k < 4
        · have e0 : decide ((k : Int) < 4) = true := decide_eq_true (by omega)
          have e0' : decide (k < 4) = true := decide_eq_true hlt
          obtain ⟨ak, HA⟩ : ∃ x, Hid (x = A k j) := ⟨_, rfl⟩
          obtain ⟨nk, HNK⟩ : ∃ x, Hid (x = N k j) := ⟨_, rfl⟩
          have hnk : nk ≤ 1048576 := by rw [HNK.out]; exact HN.out k j hlt hj
          have k4 : wr.cell? ⟨g4, k, none⟩ = some (.pointer (some ⟨g, k, none⟩)) := HBr.out.cell k hlt
          have hnd : ¬ ((∃ x ∈ vis, x.key = .int .i64 (PE j)) ∨ (j = j ∧ k < k)) := fun h => h.elim HND.out (fun h => Nat.lt_irrefl _ h.2)
          obtain ⟨kc, Vk, hCk, hmk⟩ := HPr.out.k1.get hj hlt hnd
          clear hnd
          rw [← HG.out, ← HA.out, ← HNK.out] at kc
          have HC := hide hCk
          have HMK := hide hmk
          clear hCk hmk
          go_wp2_with fail
          refine Calls.mono (sort_own lo ak nk nk Vk wr hnk (by rw [HA.out, HNK.out]; exact HC.out)) ?_
          rintro _ w6 ⟨rfl, V6, hC6, hs6, hp6, hT6⟩
          have HC6 := hide hC6
          have HS6 := hide hs6
          have HP6 := hide hp6
          have HT6 := hide hT6
          clear hC6 hs6 hp6 hT6
          have hgl := HPr.out.k1.fz hj
          rw [← HG.out] at hgl
          have HGA : Hid (∀ x, ak = some x → g ≠ x.block) := by
            intro x hx e1
            rw [HA.out] at hx
            have h1 := HS.out.lists k j x hlt hj hx
            have h2 := HS.out.gkh j hj
            rw [HG.out] at e1
            omega
          have k6 : w6.cell? ⟨g, k, none⟩ = some (.slice ak nk nk) := by
            rw [World.cell?_of_block (w := wr) (HT6.out.block g hgl.1 HGA.out)]
            exact kc
          go_wp2_with fail
          refine Calls.mono (compact_own lo ak nk nk V6 w6 hnk (Nat.le_refl _) HS6.out HC6.out) ?_
          rintro _ w7 ⟨M, V7, rfl, hM7, hC7, hst7, hm7, hT7⟩
          have HC7 := hide hC7
          have HST7 := hide hst7
          have HM7 := hide hm7
          have HT7 := hide hT7
          clear hC7 hst7 hm7 hT7
          have HB7 : Hid (w7.heap[g]? = wr.heap[g]?) := by
            show _ = _
            rw [HT7.out.block g (Nat.lt_of_lt_of_le hgl.1 HT6.out.size) HGA.out, HT6.out.block g hgl.1 HGA.out]
          have k7 : w7.cell? ⟨g, k, none⟩ = some (.slice ak nk nk) := by
            rw [World.cell?_of_block (w := wr) HB7.out]
            exact kc
          have f7 : w7.frozen? ⟨g, k, none⟩ = false := by
            rw [World.frozen?_of_block (w := wr) HB7.out]
            exact hgl.2 k
          go_wp2_with fail
          go_roundw
          case rel =>
            have e1 := HA.out
            have e2 := HNK.out
            have e3 := HG.out
            subst e1 e2 e3
            refine ⟨k + 1, by go_num, by omega, ?_, ?_⟩
            · refine HPr.out.done1 HS.out hj hlt (HT6.out.trans HT7.out) hM7 HC7.out HST7.out (fun x => (HM7.out x).trans ((HP6.out.mem_iff).trans (HMK.out x))) (fun k' j' => ?_)
              constructor
              · rintro (h | ⟨h1, h2⟩)
                · exact .inl (.inl h)
                · rcases Nat.lt_or_ge k' k with h3 | h3
                  · exact .inl (.inr ⟨h1, h3⟩)
                  · exact .inr ⟨by omega, h1⟩
              · rintro ((h | ⟨h1, h2⟩) | ⟨h1, h2⟩)
                · exact .inl h
                · exact .inr ⟨h1, by omega⟩
                · exact .inr ⟨h2, by omega⟩
            · have hg2 := HS.out.gkh j hj
              refine (HBr.out.sameBlock ?_).other _ (by show g4 ≠ gk j; omega) _
              have hb4 := HBr.out.lt
              have hna : ∀ x, A k j = some x → g4 ≠ x.block := fun x hx => by have := HS.out.lists k j x hlt hj hx; omega
              rw [HT7.out.block g4 (Nat.lt_of_lt_of_le hb4 HT6.out.size) hna, HT6.out.block g4 hb4 hna]
          case measure => simp [intOf]; omega
        · have e0 : decide ((k : Int) < 4) = false := decide_eq_false (by omega)
          have e0' : decide (k < 4) = false := decide_eq_false hlt
          obtain rfl : k = 4 := by omega
          go_wp2_with fail
          have hl2 : (vis ++ [e]).length = vis.length + 1 := by simp
          refine ⟨⟨vis ++ [e], _, ?_, HV5⟩, ?_⟩
          · rw [hl2]
            refine HPr.out.same (fun k j' hk hj' => ?_)
            refine (HNV.out j').trans ?_
            constructor
            · rintro (h | h)
              · exact .inl h
              · exact .inr ⟨(HINJ.out j j' hj hj' h).symm, hk⟩
            · rintro (h | h)
              · exact .inl h
              · exact .inr (by rw [h.1])
          · obtain ⟨a2, c2, ha2⟩ := HP.out.own.form
            have h5 := HV5.out.le
            rw [HES.out.1, hl2] at h5
            rw [ha2]
            simp only [slen]
            omega
end Go.Proofs.Qxb6605294a
