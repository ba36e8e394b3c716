/-
  Seat b6605223a. STORES INTO THE STRUCT's FIELDS.
-/
import Derived.Test.Qxb6605223aT2
set_option linter.unusedVariables false
set_option linter.unusedSimpArgs false
namespace Go.Proofs.Qxb6605223a
open Go.RowKit

/-- The struct's fields, whatever they hold, and its slices. -/
def Sf (tag : Nat → Nat) (w : World) (F : Nat) (f : Nat → Value) (R : Nat → Res) : Prop := tag F = 1 ∧ Bk w F 60 20 f ∧ All tag w R
theorem St.sf {tag : Nat → Nat} {w : World} {F : Nat} {gp rv : Value} {ix : Bool} {R : Nat → Res} (h : St tag w F gp rv ix R) : Sf tag w F (fld gp rv ix R) R := h
theorem Sf.set {tag : Nat → Nat} {w : World} {F : Nat} {f : Nat → Value} {R : Nat → Res} (h : Sf tag w F f R) (k : Nat) (hk : k < 20) (v : Value) : Sf tag (w.setCell ⟨F, k, none⟩ v) F (fun j => if j = k then v else f j) R :=
  ⟨h.1, h.2.1.set k hk v, h.2.2.keep (Ch.set w h.1 k none v) (by omega)⟩
theorem Sf.drewN {tag : Nat → Nat} {w : World} {F : Nat} {f : Nat → Value} {R : Nat → Res} (h : Sf tag w F f R) (q : Nat) : Sf tag (w.drewN q) F f R := h
theorem Sf.res {tag : Nat → Nat} {w : World} {F : Nat} {f : Nat → Value} {R : Nat → Res} (h : Sf tag w F f R) (t : Nat) (r : Res) (hr : Rs tag t w r) : Sf tag w F f (put R t r) :=
  ⟨h.1, h.2.1, fun k h1 h2 => by
    by_cases e : k = t
    · subst e; rw [put_same]; exact hr
    · rw [put_other _ _ _ _ e]; exact h.2.2 k h1 h2⟩
theorem Sf.st {tag : Nat → Nat} {w : World} {F : Nat} {f : Nat → Value} {R : Nat → Res} (h : Sf tag w F f R) {gp rv : Value} {ix : Bool}
    (h0 : gp = f 0) (h1 : rv = f 1) (h2 : .slice none 0 0 = f 2) (h3 : .slice none 0 0 = f 3) (h4 : (R 3).v = f 4) (h5 : (R 2).v = f 5) (h6 : (R 8).v = f 6) (h7 : .bool ix = f 7) (h8 : (R 5).v = f 8) (h9 : (R 9).v = f 9) (h10 : (R 11).v = f 10)
    (h11 : .slice none 0 0 = f 11) (h12 : (R 10).v = f 12) (h13 : (R 6).v = f 13) (h14 : (R 7).v = f 14) (h15 : .slice none 0 0 = f 15) (h16 : .int .i64 0 = f 16) (h17 : .int .i64 0 = f 17) (h18 : .int .i64 0 = f 18) (h19 : (R 4).v = f 19) : St tag w F gp rv ix R := by
  refine ⟨h.1, h.2.1.congr fun k hk => ?_, h.2.2⟩
  match k, hk with
  | 0, _ => exact h0
  | 1, _ => exact h1
  | 2, _ => exact h2
  | 3, _ => exact h3
  | 4, _ => exact h4
  | 5, _ => exact h5
  | 6, _ => exact h6
  | 7, _ => exact h7
  | 8, _ => exact h8
  | 9, _ => exact h9
  | 10, _ => exact h10
  | 11, _ => exact h11
  | 12, _ => exact h12
  | 13, _ => exact h13
  | 14, _ => exact h14
  | 15, _ => exact h15
  | 16, _ => exact h16
  | 17, _ => exact h17
  | 18, _ => exact h18
  | 19, _ => exact h19
  | n + 20, h => omega

/-- Stage B: used cut to none, the reads laid down, all counters at zero. -/
theorem St.stageB {tag : Nat → Nat} {w : World} {F : Nat} {gp rv rv' : Value} {ix : Bool} {R : Nat → Res} (h : St tag w F gp rv ix R) {a4 : Option Addr} {c4 : Nat} (h4 : (R 4).v = .slice a4 (R 4).n c4) :
    St tag ((((((((w.setCell ⟨F, 19, none⟩ (.slice a4 0 c4)).setCell ⟨F, 1, none⟩ rv').setCell ⟨F, 2, none⟩ (.slice none 0 0)).setCell ⟨F, 15, none⟩ (.slice none 0 0)).setCell ⟨F, 11, none⟩ (.slice none 0 0)).setCell ⟨F, 16, none⟩ (.int .i64 0)).setCell ⟨F, 17, none⟩ (.int .i64 0)).setCell ⟨F, 18, none⟩ (.int .i64 0)) F gp rv' ix
      (put R 4 { R 4 with v := .slice a4 0 c4, n := 0 }) := by
  have h1 := (((((((h.sf.set 19 (by omega) (.slice a4 0 c4)).set 1 (by omega) rv').set 2 (by omega) (.slice none 0 0)).set 15 (by omega) (.slice none 0 0)).set 11 (by omega) (.slice none 0 0)).set 16 (by omega) (.int .i64 0)).set 17 (by omega) (.int .i64 0)).set 18 (by omega) (.int .i64 0)
  have h2 := h1.res 4 { R 4 with v := .slice a4 0 c4, n := 0 } ((h1.2.2 4 (by omega) (by omega)).cut0 h4 (R 4).V)
  exact h2.st rfl rfl rfl rfl rfl rfl rfl rfl rfl rfl rfl rfl rfl rfl rfl rfl rfl rfl rfl rfl
theorem Ch.stageB {tag : Nat → Nat} (w : World) {F : Nat} (hF : tag F = 1) (v19 rv' : Value) :
    Ch tag 1 w ((((((((w.setCell ⟨F, 19, none⟩ v19).setCell ⟨F, 1, none⟩ rv').setCell ⟨F, 2, none⟩ (.slice none 0 0)).setCell ⟨F, 15, none⟩ (.slice none 0 0)).setCell ⟨F, 11, none⟩ (.slice none 0 0)).setCell ⟨F, 16, none⟩ (.int .i64 0)).setCell ⟨F, 17, none⟩ (.int .i64 0)).setCell ⟨F, 18, none⟩ (.int .i64 0)) :=
  (((((((Ch.set w hF 19 none v19).trans (Ch.set _ hF 1 none rv')).trans (Ch.set _ hF 2 none _)).trans (Ch.set _ hF 15 none _)).trans (Ch.set _ hF 11 none _)).trans (Ch.set _ hF 16 none _)).trans (Ch.set _ hF 17 none _)).trans (Ch.set _ hF 18 none _)
end Go.Proofs.Qxb6605223a
