/- Plain facts on a bitwise override over words of any width, and what the integer operations of the model make of it. -/
import Derived.WalkKit
import Derived.Laws.BitsAllLaws
namespace Go.Proofs.Ytniamejelnmdgaa

def ovB {n : Nat} (a o m : BitVec n) : BitVec n := (a &&& ~~~m) ||| (o &&& m)
theorem ovB_again {n : Nat} (a o p m : BitVec n) : ovB (ovB a o m) p m = ovB a p m := by
  apply BitVec.eq_of_getElem_eq; intro i hi; simp only [ovB, BitVec.getElem_or, BitVec.getElem_and, BitVec.getElem_not]
  cases a[i] <;> cases o[i] <;> cases p[i] <;> cases m[i] <;> rfl
theorem ovB_self {n : Nat} (a m : BitVec n) : ovB a a m = a := by
  apply BitVec.eq_of_getElem_eq; intro i hi; simp only [ovB, BitVec.getElem_or, BitVec.getElem_and, BitVec.getElem_not]
  cases a[i] <;> cases m[i] <;> rfl
theorem ovB_zero {n : Nat} (a o : BitVec n) : ovB a o 0#n = a := by
  apply BitVec.eq_of_getElem_eq; intro i hi; simp [ovB]
theorem ovB_ones {n : Nat} (a o : BitVec n) : ovB a o (BitVec.allOnes n) = o := by
  apply BitVec.eq_of_getElem_eq; intro i hi; simp [ovB]
theorem ovB_comm {n : Nat} (a o p m q : BitVec n) (h : m &&& q = 0#n) : ovB (ovB a o m) p q = ovB (ovB a p q) o m := by
  apply BitVec.eq_of_getElem_eq; intro i hi
  have hb : (m[i] && q[i]) = false := by rw [← BitVec.getElem_and, h]; simp
  simp only [ovB, BitVec.getElem_or, BitVec.getElem_and, BitVec.getElem_not]
  revert hb
  cases a[i] <;> cases o[i] <;> cases p[i] <;> cases m[i] <;> cases q[i] <;> simp

def ov16 (a o m : Int) : Int := ((ovB (BitVec.ofInt 16 a) (BitVec.ofInt 16 o) (BitVec.ofInt 16 m)).toNat : Int)
theorem ov16_def (a o m : Int) : ov16 a o m = ((ovB (BitVec.ofInt 16 a) (BitVec.ofInt 16 o) (BitVec.ofInt 16 m)).toNat : Int) := rfl
theorem of_ov16 (a o m : Int) : BitVec.ofInt 16 (ov16 a o m) = ovB (BitVec.ofInt 16 a) (BitVec.ofInt 16 o) (BitVec.ofInt 16 m) := by
  unfold ov16; rw [BitVec.ofInt_natCast, BitVec.ofNat_toNat, BitVec.setWidth_eq]
theorem toNat16 (a : Int) (h : 0 ≤ a) (h' : a ≤ 65535) : (((BitVec.ofInt 16 a).toNat : Nat) : Int) = a := by
  obtain ⟨n, rfl⟩ := Int.eq_ofNat_of_zero_le h
  rw [ofInt_u16 n (by omega)]
theorem ov16_again (a o p m : Int) : ov16 (ov16 a o m) p m = ov16 a p m := by
  rw [ov16_def (ov16 a o m), of_ov16, ovB_again]; rfl
theorem ov16_self (a m : Int) (h : 0 ≤ a) (h' : a ≤ 65535) : ov16 a a m = a := by
  unfold ov16; rw [ovB_self, toNat16 a h h']
theorem bits16 (x : BitVec 16) : IntKind.u16.wrap (x.toNat : Int) = x.toNat := by
  rw [IntKind.wrap_u16]; have := x.isLt; omega
theorem bits16_ov (a o m : Int) : bits BinOp.or IntKind.u16 (bits BinOp.and IntKind.u16 a (bits BinOp.xor IntKind.u16 IntKind.u16.max m)) (bits BinOp.and IntKind.u16 o m) = ov16 a o m := by
  have e1 : bits BinOp.xor IntKind.u16 IntKind.u16.max m = ((~~~ BitVec.ofInt 16 m).toNat : Int) := by
    show IntKind.u16.wrap ((BitVec.ofInt 16 IntKind.u16.max ^^^ BitVec.ofInt 16 m).toNat : Int) = _
    rw [bits16]
    have : BitVec.ofInt 16 IntKind.u16.max = BitVec.allOnes 16 := by decide
    rw [this, BitVec.allOnes_xor]
  have e2 : ∀ x y : Int, bits BinOp.and IntKind.u16 x y = ((BitVec.ofInt 16 x &&& BitVec.ofInt 16 y).toNat : Int) := fun x y => bits16 _
  have e3 : ∀ x y : Int, bits BinOp.or IntKind.u16 x y = ((BitVec.ofInt 16 x ||| BitVec.ofInt 16 y).toNat : Int) := fun x y => bits16 _
  rw [e3, e2, e2, e1]
  simp only [BitVec.ofInt_natCast, BitVec.ofNat_toNat, BitVec.setWidth_eq]
  rfl

def ov64 (a o m : Int) : Int := ((ovB (BitVec.ofInt 64 a) (BitVec.ofInt 64 o) (BitVec.ofInt 64 m)).toNat : Int)
theorem ov64_def (a o m : Int) : ov64 a o m = ((ovB (BitVec.ofInt 64 a) (BitVec.ofInt 64 o) (BitVec.ofInt 64 m)).toNat : Int) := rfl
theorem of_ov64 (a o m : Int) : BitVec.ofInt 64 (ov64 a o m) = ovB (BitVec.ofInt 64 a) (BitVec.ofInt 64 o) (BitVec.ofInt 64 m) := by
  unfold ov64; rw [BitVec.ofInt_natCast, BitVec.ofNat_toNat, BitVec.setWidth_eq]
theorem toNat64 (a : Int) (h : 0 ≤ a) (h' : a ≤ 18446744073709551615) : (((BitVec.ofInt 64 a).toNat : Nat) : Int) = a := by
  obtain ⟨n, rfl⟩ := Int.eq_ofNat_of_zero_le h
  rw [ofInt_u64 n (by omega)]
theorem ov64_again (a o p m : Int) : ov64 (ov64 a o m) p m = ov64 a p m := by
  rw [ov64_def (ov64 a o m), of_ov64, ovB_again]; rfl
theorem ov64_zero (a o : Int) (h : 0 ≤ a) (h' : a ≤ 18446744073709551615) : ov64 a o 0 = a := by
  unfold ov64; rw [show BitVec.ofInt 64 0 = 0#64 from rfl, ovB_zero, toNat64 a h h']
theorem ov64_ones (a o : Int) (h : 0 ≤ o) (h' : o ≤ 18446744073709551615) : ov64 a o 18446744073709551615 = o := by
  unfold ov64; rw [show BitVec.ofInt 64 18446744073709551615 = BitVec.allOnes 64 by decide, ovB_ones, toNat64 o h h']
theorem bits64 (x : BitVec 64) : IntKind.u64.wrap (x.toNat : Int) = x.toNat := by
  rw [IntKind.wrap_u64]; have := x.isLt; omega
theorem ov64_comm (a o p m q : Int) (h : (bits BinOp.and IntKind.u64 m q == 0) = true) : ov64 (ov64 a o m) p q = ov64 (ov64 a p q) o m := by
  have h1 : ((BitVec.ofInt 64 m &&& BitVec.ofInt 64 q).toNat : Int) = 0 := by
    have e2 : bits BinOp.and IntKind.u64 m q = ((BitVec.ofInt 64 m &&& BitVec.ofInt 64 q).toNat : Int) := bits64 _
    rw [e2] at h; simpa using h
  have h2 : BitVec.ofInt 64 m &&& BitVec.ofInt 64 q = 0#64 := BitVec.eq_of_toNat_eq (by simpa using h1)
  rw [ov64_def (ov64 a o m), ov64_def (ov64 a p q), of_ov64, of_ov64, ovB_comm _ _ _ _ _ h2]
theorem bits64_ov (a o m : Int) : bits BinOp.or IntKind.u64 (bits BinOp.and IntKind.u64 a (bits BinOp.xor IntKind.u64 IntKind.u64.max m)) (bits BinOp.and IntKind.u64 o m) = ov64 a o m := by
  have e1 : bits BinOp.xor IntKind.u64 IntKind.u64.max m = ((~~~ BitVec.ofInt 64 m).toNat : Int) := by
    show IntKind.u64.wrap ((BitVec.ofInt 64 IntKind.u64.max ^^^ BitVec.ofInt 64 m).toNat : Int) = _
    rw [bits64]
    have : BitVec.ofInt 64 IntKind.u64.max = BitVec.allOnes 64 := by decide
    rw [this, BitVec.allOnes_xor]
  have e2 : ∀ x y : Int, bits BinOp.and IntKind.u64 x y = ((BitVec.ofInt 64 x &&& BitVec.ofInt 64 y).toNat : Int) := fun x y => bits64 _
  have e3 : ∀ x y : Int, bits BinOp.or IntKind.u64 x y = ((BitVec.ofInt 64 x ||| BitVec.ofInt 64 y).toNat : Int) := fun x y => bits64 _
  rw [e3, e2, e2, e1]
  simp only [BitVec.ofInt_natCast, BitVec.ofNat_toNat, BitVec.setWidth_eq]
  rfl
end Go.Proofs.Ytniamejelnmdgaa
