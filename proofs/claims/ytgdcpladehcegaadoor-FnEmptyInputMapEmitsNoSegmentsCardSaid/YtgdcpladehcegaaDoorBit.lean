/- Bits of bytes and of small numbers of 32 bits: and with a mask, or of parts that do not meet. -/
import Derived.WalkKit
import Derived.Laws.BitsAllLaws
namespace Go.Proofs.YtgdcpladehcegaaDoor
open Go.RowKit
set_option linter.unusedVariables false
set_option linter.unusedSimpArgs false
set_option maxRecDepth 100000 in
theorem and_all : ∀ b : Fin 256, bits BinOp.and IntKind.u8 ((b.val : Nat) : Int) 63 = ((b.val % 64 : Nat) : Int) ∧ bits BinOp.and IntKind.u8 ((b.val : Nat) : Int) 31 = ((b.val % 32 : Nat) : Int) ∧ bits BinOp.and IntKind.u8 ((b.val : Nat) : Int) 15 = ((b.val % 16 : Nat) : Int) ∧ bits BinOp.and IntKind.u8 ((b.val : Nat) : Int) 7 = ((b.val % 8 : Nat) : Int) := by decide
theorem and_u8 (b : Nat) (h : b < 256) : bits BinOp.and IntKind.u8 (b : Int) 63 = ((b % 64 : Nat) : Int) ∧ bits BinOp.and IntKind.u8 (b : Int) 31 = ((b % 32 : Nat) : Int) ∧ bits BinOp.and IntKind.u8 (b : Int) 15 = ((b % 16 : Nat) : Int) ∧ bits BinOp.and IntKind.u8 (b : Int) 7 = ((b % 8 : Nat) : Int) := and_all ⟨b, h⟩
theorem or_i32 (m j b : Nat) (hb : b < 2 ^ j) (h : m * 2 ^ j + b < 2147483648) : bits BinOp.or IntKind.i32 ((m * 2 ^ j : Nat) : Int) (b : Int) = ((m * 2 ^ j + b : Nat) : Int) := by
  have e0 : bits BinOp.or IntKind.i32 ((m * 2 ^ j : Nat) : Int) (b : Int) = IntKind.i32.wrap (((BitVec.ofInt 32 ((m * 2 ^ j : Nat) : Int) ||| BitVec.ofInt 32 (b : Int)).toNat : Nat) : Int) := rfl
  rw [e0, BitVec.ofInt_natCast, BitVec.ofInt_natCast, BitVec.toNat_or, BitVec.toNat_ofNat, BitVec.toNat_ofNat, Nat.mod_eq_of_lt (by omega), Nat.mod_eq_of_lt (by omega)]
  have e2 : m * 2 ^ j ||| b = m * 2 ^ j + b := by
    have := Nat.shiftLeft_add_eq_or_of_lt (i := j) (b := b) hb m
    rw [Nat.shiftLeft_eq] at this
    exact this.symm
  rw [e2, IntKind.wrap_i32]
  omega
end Go.Proofs.YtgdcpladehcegaaDoor
