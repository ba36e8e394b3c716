/-
  Seat b6605223a. A WRITE's KEY as a number.
-/
import Derived.Test.Qxb6605223aT4
import Derived.Laws.Bits64b
set_option linter.unusedVariables false
set_option linter.unusedSimpArgs false
namespace Go.Proofs.Qxb6605223a
open Go.RowKit

theorem wrap_u64_nat (a : Nat) (h : a < 18446744073709551616) : IntKind.u64.wrap (a : Int) = (a : Int) := by
  simp [IntKind.wrap, IntKind.bits, IntKind.signed]
  omega
theorem key_or (p q : Nat) (hp : p < 4096) (hq : q < 4294967296) :
    bits .or .u64 (IntKind.u64.wrap (IntKind.u64.wrap (p : Int) * 4294967296)) (IntKind.u64.wrap (q : Int)) = ((p * 4294967296 + q : Nat) : Int) := by
  rw [wrap_u64_nat p (by omega), wrap_u64_nat q (by omega), show (p : Int) * 4294967296 = ((p * 4294967296 : Nat) : Int) by omega, wrap_u64_nat _ (by omega), bits_or_u64_nat _ _ (by omega) (by omega)]
  congr 1
  have := Nat.two_pow_add_eq_or_of_lt (i := 32) (b := q) (by omega) p
  rw [Nat.mul_comm] at this
  rw [← this]
end Go.Proofs.Qxb6605223a
