/- n011_102: the makers of symbols, references and tables. -/
import Derived.Test.YtlpmkbdglpnjhaaTbs
import Derived.Test.YtlpmkbdglpnjhaaLvl
import Derived.IntWalk
import Derived.Laws.BitsAllLaws
namespace Go.Proofs.Ytlpmkbdglpnjhaa
open Go.RowKit
set_option linter.unusedVariables false
set_option linter.unusedSimpArgs false

/-- A call that hands back a value and makes, perhaps, some memory. -/
def KPost (v : Value) (w : World) (e : Ending) (w' : World) : Prop := e = .returned v ∧ w.grownBy w' none
def kdOf (k : Int) : Int := if k % 3 = 0 then 0 else if k % 3 = 1 then 27 else 18
set_option maxRecDepth 100000 in
theorem kind_any (k : Int) (h0 : 0 ≤ k) (h1 : k ≤ 255) (w : World) : Calls Try.prog 21 #[.int .u8 k] w (KPost (.int .u8 (kdOf k)) w) := by
  rcases (by omega : k % 3 = 0 ∨ k % 3 = 1 ∨ k % 3 = 2) with e | e | e
  · have HK := Lib.hid (show kdOf k = 0 by unfold kdOf; rw [if_pos e])
    go_enter Try.func21, Try.ntmps21
    go_wp2
    go_ret
    exact ⟨ret_int HK.out.symm, World.grownBy.refl _ _⟩
  · have HK := Lib.hid (show kdOf k = 27 by unfold kdOf; rw [if_neg (by omega), if_pos e])
    go_enter Try.func21, Try.ntmps21
    go_wp2
    go_ret
    exact ⟨ret_int HK.out.symm, World.grownBy.refl _ _⟩
  · have HK := Lib.hid (show kdOf k = 18 by unfold kdOf; rw [if_neg (by omega), if_neg (by omega)])
    go_enter Try.func21, Try.ntmps21
    go_wp2
    go_ret
    exact ⟨ret_int HK.out.symm, World.grownBy.refl _ _⟩
theorem ref_size' : (Try.prog.info? 40).map (·.size) = some 2 := by kernel_rfl
theorem idx_size : (Try.prog.info? 61).map (·.size) = some 1 := by kernel_rfl
set_option maxRecDepth 100000 in
theorem inval_any (w : World) : Calls Try.prog 22 #[] w (KPost (.agg #[.int .u32 4294967295, .int .u32 4294967295]) w) := by
  have HF := Lib.hid (Blk.new w 40 #[.int .u32 4294967295, .int .u32 4294967295])
  go_enter Try.func22, Try.ntmps22
  go_wp2
  refine bodyPost_ret (results_cell_row rfl _ _ w.heap.size _ #[.int .u32 4294967295, .int .u32 4294967295] (0, 0) _ rfl HF.out Try.underlying40 rfl ref_size') rfl ?_
  exact ⟨rfl, only_alloc (World.grownBy.refl _ _) _⟩
set_option maxRecDepth 100000 in
theorem ref_any (i : Int) (w : World) : Calls Try.prog 11 #[.int .u32 i] w (KPost (.agg #[.int .u32 0, .int .u32 i]) w) := by
  have HF := Lib.hid (Blk.new w 40 #[.int .u32 0, .int .u32 i])
  go_enter Try.func11, Try.ntmps11
  go_wp2
  refine bodyPost_ret (results_cell_row rfl _ _ w.heap.size _ #[.int .u32 0, .int .u32 i] (0, 0) _ rfl HF.out Try.underlying40 rfl ref_size') rfl ?_
  exact ⟨rfl, only_alloc (World.grownBy.refl _ _) _⟩
theorem u32_not (i : Int) (h0 : 0 ≤ i) (h1 : i ≤ 4294967295) : bits .xor .u32 IntKind.u32.max i = 4294967295 - i := by
  obtain ⟨n, rfl⟩ := Int.eq_ofNat_of_zero_le h0
  rw [show IntKind.u32.max = ((4294967295 : Nat) : Int) from rfl, u32_xor_nat _ _ (by omega) (by omega)]
  have key : (BitVec.allOnes 32 ^^^ BitVec.ofNat 32 n).toNat = (~~~ (BitVec.ofNat 32 n)).toNat := by rw [BitVec.allOnes_xor]
  rw [BitVec.toNat_xor, BitVec.toNat_not, BitVec.toNat_allOnes, BitVec.toNat_ofNat, Nat.mod_eq_of_lt (by omega)] at key
  have e : (2 : Nat) ^ 32 - 1 = 4294967295 := by decide
  rw [e] at key
  rw [key]
  omega
set_option maxRecDepth 100000 in
theorem mki_any (i : Int) (h0 : 0 ≤ i) (h1 : i ≤ 4294967295) (w : World) : Calls Try.prog 23 #[.int .u32 i] w (KPost (.agg #[.int .u32 (4294967295 - i)]) w) := by
  have HF := Lib.hid (Blk.new w 61 #[.int .u32 (4294967295 - i)])
  have hsg : IntKind.u32.signed = false := rfl
  have hx := u32_not i h0 h1
  go_enter Try.func23, Try.ntmps23
  go_wp2
  refine bodyPost_ret (results_cell_row rfl _ _ w.heap.size _ #[.int .u32 (4294967295 - i)] (0, 0) _ rfl HF.out Try.underlying61 rfl idx_size) rfl ?_
  exact ⟨rfl, only_alloc (World.grownBy.refl _ _) _⟩
end Go.Proofs.Ytlpmkbdglpnjhaa
