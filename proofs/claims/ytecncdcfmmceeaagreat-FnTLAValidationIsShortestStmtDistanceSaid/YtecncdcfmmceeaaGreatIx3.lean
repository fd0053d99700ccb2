/- ast.Index32: MakeIndex32, GetIndex, IsValid, by the index (INV: none). -/
import Derived.Test.YtecncdcfmmceeaaGreatRows
import Derived.Test.YtecncdcfmmceeaaGreatWords
import Derived.Test.YtecncdcfmmceeaaGreatTla
import Derived.WalkKit
import Derived.IntWalk
import Derived.Laws.BitsAllLaws
namespace Go.Proofs.YtecncdcfmmceeaaGreat
open Go.RowKit
set_option linter.unusedVariables false
set_option linter.unusedSimpArgs false
def KPost (v : Value) (w : World) (e : Ending) (w' : World) : Prop := e = .returned v ∧ w.grownBy w' none
theorem idx_size : (Tryz.prog.info? 44).map (·.size) = some 1 := by kernel_rfl
theorem u32_not (i : Int) (h0 : 0 ≤ i) (h1 : i ≤ 4294967295) : bits .xor .u32 IntKind.u32.max i = 4294967295 - i := by
  obtain ⟨n, rfl⟩ := Int.eq_ofNat_of_zero_le h0
  rw [show IntKind.u32.max = ((4294967295 : Nat) : Int) from rfl, u32_xor_nat _ _ (by omega) (by omega)]
  have key : (BitVec.allOnes 32 ^^^ BitVec.ofNat 32 n).toNat = (~~~ (BitVec.ofNat 32 n)).toNat := by rw [BitVec.allOnes_xor]
  rw [BitVec.toNat_xor, BitVec.toNat_not, BitVec.toNat_allOnes, BitVec.toNat_ofNat, Nat.mod_eq_of_lt (by omega)] at key
  have e : (2 : Nat) ^ 32 - 1 = 4294967295 := by decide
  rw [e] at key
  rw [key]
  omega
set_option maxRecDepth 100000 in
theorem mkIx (x : Nat) (hx : x ≤ INV) (w : World) : Calls Tryz.prog 17 #[.int .u32 (x : Int)] w (KPost (.agg #[.int .u32 ((INV - x : Nat) : Int)]) w) := by
  unfold INV at hx
  have hsg : IntKind.u32.signed = false := rfl
  have hn := u32_not (x : Int) (by omega) (by omega)
  obtain ⟨v, hv⟩ : ∃ v : Nat, v = INV - x := ⟨_, rfl⟩
  have hv2 : (4294967295 : Int) - (x : Int) = (v : Int) := by rw [hv]; unfold INV; omega
  rw [hv2] at hn
  rw [← hv]
  have HF := Lib.hid (Blk.new w 44 #[.int .u32 (v : Int)])
  clear hv hv2
  go_enter Tryz.func17, Tryz.ntmps17
  go_wp2
  refine bodyPost_ret (results_cell_row rfl _ _ w.heap.size _ #[.int .u32 (v : Int)] (0, 0) _ rfl HF.out Tryz.underlying44 rfl idx_size) rfl ?_
  exact ⟨rfl, only_alloc (World.grownBy.refl _ _) _⟩
set_option maxRecDepth 100000 in
theorem gtIx (x : Nat) (hx : x ≤ INV) (w : World) : Calls Tryz.prog 22 #[.agg #[.int .u32 ((INV - x : Nat) : Int)]] w (KPost (.int .u32 (x : Int)) w) := by
  unfold INV at hx
  have hsg : IntKind.u32.signed = false := rfl
  obtain ⟨v, hv⟩ : ∃ v : Nat, v = INV - x := ⟨_, rfl⟩
  have hn := u32_not (v : Int) (by omega) (by rw [hv]; unfold INV; omega)
  have hv2 : (4294967295 : Int) - (v : Int) = (x : Int) := by rw [hv]; unfold INV; omega
  rw [hv2] at hn
  rw [← hv]
  clear hv hv2
  go_enter Tryz.func22, Tryz.ntmps22
  go_wp2
  go_ret
  exact ⟨rfl, by first | exact World.grownBy.refl _ _ | exact only_alloc (World.grownBy.refl _ _) _⟩
set_option maxRecDepth 100000 in
theorem isIx (x : Nat) (b : Bool) (hx : x ≤ INV) (hb : decide (x ≠ INV) = b) (w : World) : Calls Tryz.prog 21 #[.agg #[.int .u32 ((INV - x : Nat) : Int)]] w (KPost (.bool b) w) := by
  obtain ⟨v, hv⟩ : ∃ v : Nat, v = INV - x := ⟨_, rfl⟩
  have hb2 : ((v : Int) != 0) = b := by
    rw [← hb, Bool.eq_iff_iff]
    simp only [bne_iff_ne, decide_eq_true_iff]
    omega
  rw [← hv]
  have HB := Lib.hid hb2
  clear hb hb2 hv
  go_enter Tryz.func21, Tryz.ntmps21
  go_wp2
  go_ret
  exact ⟨ret_bool HB.out, by first | exact World.grownBy.refl _ _ | exact only_alloc (World.grownBy.refl _ _) _⟩
end Go.Proofs.YtecncdcfmmceeaaGreat
