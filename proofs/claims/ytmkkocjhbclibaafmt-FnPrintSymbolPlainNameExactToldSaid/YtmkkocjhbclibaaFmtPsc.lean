/- n011_125: the law's own copies of slices: a row of the call's own with just the elements. -/
import Derived.Test.YtmkkocjhbclibaaFmtIsP
import Derived.WalkSpells
import Derived.Laws.MakeOwn
import Derived.Laws.CopyOwn
import Derived.Laws.IdiomStrings
import Derived.BigRegion
import Derived.BigQuiet
import Derived.Deep.QuietTactic
import Derived.Deep.Light
import Derived.LoopTactic
import Derived.Outline
namespace Go.Proofs.YtmkkocjhbclibaaFmt
open Go.RowKit
set_option linter.unusedVariables false
set_option linter.unusedSimpArgs false
/-- What the copy hands back: a row of its own, with just the elements. -/
def copyPost (E : Nat) (w : World) (n : Nat) (xs : List Value) (e : Ending) (w' : World) : Prop :=
  ∃ A c, e = .returned (.slice A n c) ∧ w'.ownsRow w.heap.size E 1 (.slice A n c) n xs ∧ Below w.heap.size w w'
theorem strI : (Tryf.prog.info? 9).map (fun i => (i.zero, i.size, i.bytes)) = some (some (.string ⟨#[]⟩), 1, 16) := by kernel_rfl
theorem u32I : (Tryf.prog.info? 25).map (fun i => (i.zero, i.size, i.bytes)) = some (some (.int .u32 0), 1, 4) := by kernel_rfl
set_option maxHeartbeats 1000000 in
set_option maxRecDepth 100000 in
theorem copyB (A : Option Addr) (n c : Nat) (xs : List Int) (w : World) (hx : Reads w w.heap.size 1 A n (xs.map (Value.int .u8))) (hn : n ≤ 16777216) (hA : A = none → n = 0) :
    Calls Tryf.prog 7 #[.slice A n c] w (copyPost 5 w n (xs.map (Value.int .u8))) := by
  have heq : ∀ (W : World) (a : Option Addr) (l c : Nat), (binOp .eql 22 (.slice a l c) (.slice none 0 0)).run Tryf.prog W = .ok (.bool a.isNone) W := fun W a l c => Lib.run_eql_slice_nil W 22 5 a l c 0 0 Tryf.underlying22
  have HX := Lib.hid hx
  have lx : xs.length = n := by have := hx.1; simpa using this
  have HLX := Lib.hid lx
  clear hx lx
  cases A with
  | none =>
    obtain rfl := hA rfl
    go_enter Tryf.func7, Tryf.ntmps7
    go_wp2
    go_ret
    have : xs = [] := List.eq_nil_of_length_eq_zero HLX.out
    subst this
    exact ⟨none, 0, rfl, World.ownsRow_nil _ _ _ _, Below.refl _ _⟩
  | some ad =>
    obtain ⟨i0, hi, hz0, hz1, hz2⟩ := info_parts u8I
    have hmk : ∀ W : World, (Instr.makeSlice 22 (.int .i64 (n : Int)) (.int .i64 (n : Int))).run Tryf.prog W = .ok (.slice (some ⟨W.heap.size, 0, none⟩) n n) (W.alloc (.cells (madeCells #[Value.int .u8 0] n) 5)) := fun W => by
      have := run_make (P := Tryf.prog) W 22 5 i0 (.int .u8 0) Tryf.underlying22 hi hz0 .i64 .i64 n n (by omega) (by omega) (by rw [hz2]; omega) (by omega)
      simpa [hz1, Value.cells] using this
    have hsz : (Tryf.prog.info? 5).map (·.size) = some 1 := by kernel_rfl
    obtain ⟨X1, hX1⟩ : ∃ X1, X1 = xs.map (Value.int .u8) := ⟨_, rfl⟩
    have HX1 := Lib.hid hX1
    obtain ⟨cur, hcur⟩ : ∃ cur, cur = (madeCells #[Value.int .u8 0] n).toList := ⟨_, rfl⟩
    have HCUR := Lib.hid hcur
    have HCL : Hid (cur.length = n) := Lib.hid (by rw [hcur]; simp [madeCells])
    have HG : Hid ((w.alloc (.cells (madeCells #[Value.int .u8 0] n) 5)).heap[w.heap.size]? = some (.cells cur.toArray 5 (0, 0))) := Lib.hid (by rw [hcur]; exact heap_alloc_new w _)
    have HSRC : Hid (∀ j v, X1[j]? = some v → (w.alloc (.cells (madeCells #[Value.int .u8 0] n) 5)).cell? (ad.add j) = some v) := Lib.hid (by
      intro j v hv
      rw [HX1.out] at hv
      have hj : j < n := by have := (List.getElem?_eq_some_iff.1 hv).1; have := HLX.out; simp at *; omega
      obtain ⟨ad', e, hb, hc⟩ := (HX.out.alloc (Nat.le_refl _) (.cells (madeCells #[Value.int .u8 0] n) 5)).2 (by omega)
      obtain rfl := Option.some.inj e
      exact hc j v hv)
    clear hX1 hcur
    go_enter Tryf.func7, Tryf.ntmps7
    go_wp2_with (with_reducible refine wpList_copy_splice (o := ⟨some 11, _, _, _, _, _⟩) rfl _ _ _ _ rfl 5 Tryf.underlying22 hsz (some ⟨w.heap.size, 0, none⟩) (some ad) n n n c rfl rfl w.heap.size 0 cur 5 HG.out X1 ?h1 ?h2 ?h3 ?h4 w.heap.size w ?h5 (Nat.le_refl _) ?_)
    case h1 => rw [HX1.out]; simp [HLX.out]
    case h2 => intro _; first | exact ⟨rfl, ad, rfl, HSRC.out⟩ | exact HSRC.out
    case h3 => have := HCL.out; rw [HX1.out]; simp; have := HLX.out; omega
    case h4 =>
      rw [HX1.out]; intro v hv
      obtain ⟨_, _, rfl⟩ := List.mem_map.1 hv
      rfl
    case h5 => exact (Below.refl _ _).alloc (Nat.le_refl _) _
    intro w2 HG2 hB2
    go_wp2
    go_ret
    refine ⟨_, n, rfl, ⟨by simp [HLX.out], .inr ⟨w.heap.size, n, _, rfl, Nat.le_refl _, HG2.out, Nat.le_refl _, by unfold maxLen; omega, ?_, ?_⟩⟩, hB2⟩
    · have := HCL.out; have := HLX.out; rw [HX1.out]; simp [splice]; omega
    · have hl := HLX.out; rw [HX1.out, Nat.mul_one]; simp only [splice, List.take_zero, List.nil_append, Nat.zero_add]; exact List.take_left' (by simpa using hl)

set_option maxHeartbeats 1000000 in
set_option maxRecDepth 100000 in
theorem copyS (A : Option Addr) (n c : Nat) (xs : List ByteArray) (w : World) (hx : Reads w w.heap.size 1 A n (xs.map (Value.string))) (hn : n ≤ 16777216) (hA : A = none → n = 0) :
    Calls Tryf.prog 8 #[.slice A n c] w (copyPost 9 w n (xs.map (Value.string))) := by
  have heq : ∀ (W : World) (a : Option Addr) (l c : Nat), (binOp .eql 23 (.slice a l c) (.slice none 0 0)).run Tryf.prog W = .ok (.bool a.isNone) W := fun W a l c => Lib.run_eql_slice_nil W 23 9 a l c 0 0 Tryf.underlying23
  have HX := Lib.hid hx
  have lx : xs.length = n := by have := hx.1; simpa using this
  have HLX := Lib.hid lx
  clear hx lx
  cases A with
  | none =>
    obtain rfl := hA rfl
    go_enter Tryf.func8, Tryf.ntmps8
    go_wp2
    go_ret
    have : xs = [] := List.eq_nil_of_length_eq_zero HLX.out
    subst this
    exact ⟨none, 0, rfl, World.ownsRow_nil _ _ _ _, Below.refl _ _⟩
  | some ad =>
    obtain ⟨i0, hi, hz0, hz1, hz2⟩ := info_parts strI
    have hmk : ∀ W : World, (Instr.makeSlice 23 (.int .i64 (n : Int)) (.int .i64 (n : Int))).run Tryf.prog W = .ok (.slice (some ⟨W.heap.size, 0, none⟩) n n) (W.alloc (.cells (madeCells #[Value.string ⟨#[]⟩] n) 9)) := fun W => by
      have := run_make (P := Tryf.prog) W 23 9 i0 (.string ⟨#[]⟩) Tryf.underlying23 hi hz0 .i64 .i64 n n (by omega) (by omega) (by rw [hz2]; omega) (by omega)
      simpa [hz1, Value.cells] using this
    have hsz : (Tryf.prog.info? 9).map (·.size) = some 1 := by kernel_rfl
    obtain ⟨X1, hX1⟩ : ∃ X1, X1 = xs.map (Value.string) := ⟨_, rfl⟩
    have HX1 := Lib.hid hX1
    obtain ⟨cur, hcur⟩ : ∃ cur, cur = (madeCells #[Value.string ⟨#[]⟩] n).toList := ⟨_, rfl⟩
    have HCUR := Lib.hid hcur
    have HCL : Hid (cur.length = n) := Lib.hid (by rw [hcur]; simp [madeCells])
    have HG : Hid ((w.alloc (.cells (madeCells #[Value.string ⟨#[]⟩] n) 9)).heap[w.heap.size]? = some (.cells cur.toArray 9 (0, 0))) := Lib.hid (by rw [hcur]; exact heap_alloc_new w _)
    have HSRC : Hid (∀ j v, X1[j]? = some v → (w.alloc (.cells (madeCells #[Value.string ⟨#[]⟩] n) 9)).cell? (ad.add j) = some v) := Lib.hid (by
      intro j v hv
      rw [HX1.out] at hv
      have hj : j < n := by have := (List.getElem?_eq_some_iff.1 hv).1; have := HLX.out; simp at *; omega
      obtain ⟨ad', e, hb, hc⟩ := (HX.out.alloc (Nat.le_refl _) (.cells (madeCells #[Value.string ⟨#[]⟩] n) 9)).2 (by omega)
      obtain rfl := Option.some.inj e
      exact hc j v hv)
    clear hX1 hcur
    go_enter Tryf.func8, Tryf.ntmps8
    go_wp2_with (with_reducible refine wpList_copy_splice (o := ⟨some 11, _, _, _, _, _⟩) rfl _ _ _ _ rfl 9 Tryf.underlying23 hsz (some ⟨w.heap.size, 0, none⟩) (some ad) n n n c rfl rfl w.heap.size 0 cur 9 HG.out X1 ?h1 ?h2 ?h3 ?h4 w.heap.size w ?h5 (Nat.le_refl _) ?_)
    case h1 => rw [HX1.out]; simp [HLX.out]
    case h2 => intro _; first | exact ⟨rfl, ad, rfl, HSRC.out⟩ | exact HSRC.out
    case h3 => have := HCL.out; rw [HX1.out]; simp; have := HLX.out; omega
    case h4 =>
      rw [HX1.out]; intro v hv
      obtain ⟨_, _, rfl⟩ := List.mem_map.1 hv
      rfl
    case h5 => exact (Below.refl _ _).alloc (Nat.le_refl _) _
    intro w2 HG2 hB2
    go_wp2
    go_ret
    refine ⟨_, n, rfl, ⟨by simp [HLX.out], .inr ⟨w.heap.size, n, _, rfl, Nat.le_refl _, HG2.out, Nat.le_refl _, by unfold maxLen; omega, ?_, ?_⟩⟩, hB2⟩
    · have := HCL.out; have := HLX.out; rw [HX1.out]; simp [splice]; omega
    · have hl := HLX.out; rw [HX1.out, Nat.mul_one]; simp only [splice, List.take_zero, List.nil_append, Nat.zero_add]; exact List.take_left' (by simpa using hl)

set_option maxHeartbeats 1000000 in
set_option maxRecDepth 100000 in
theorem copyU (A : Option Addr) (n c : Nat) (xs : List Int) (w : World) (hx : Reads w w.heap.size 1 A n (xs.map (Value.int .u32))) (hn : n ≤ 16777216) (hA : A = none → n = 0) :
    Calls Tryf.prog 9 #[.slice A n c] w (copyPost 25 w n (xs.map (Value.int .u32))) := by
  have heq : ∀ (W : World) (a : Option Addr) (l c : Nat), (binOp .eql 24 (.slice a l c) (.slice none 0 0)).run Tryf.prog W = .ok (.bool a.isNone) W := fun W a l c => Lib.run_eql_slice_nil W 24 25 a l c 0 0 Tryf.underlying24
  have HX := Lib.hid hx
  have lx : xs.length = n := by have := hx.1; simpa using this
  have HLX := Lib.hid lx
  clear hx lx
  cases A with
  | none =>
    obtain rfl := hA rfl
    go_enter Tryf.func9, Tryf.ntmps9
    go_wp2
    go_ret
    have : xs = [] := List.eq_nil_of_length_eq_zero HLX.out
    subst this
    exact ⟨none, 0, rfl, World.ownsRow_nil _ _ _ _, Below.refl _ _⟩
  | some ad =>
    obtain ⟨i0, hi, hz0, hz1, hz2⟩ := info_parts u32I
    have hmk : ∀ W : World, (Instr.makeSlice 24 (.int .i64 (n : Int)) (.int .i64 (n : Int))).run Tryf.prog W = .ok (.slice (some ⟨W.heap.size, 0, none⟩) n n) (W.alloc (.cells (madeCells #[Value.int .u32 0] n) 25)) := fun W => by
      have := run_make (P := Tryf.prog) W 24 25 i0 (.int .u32 0) Tryf.underlying24 hi hz0 .i64 .i64 n n (by omega) (by omega) (by rw [hz2]; omega) (by omega)
      simpa [hz1, Value.cells] using this
    have hsz : (Tryf.prog.info? 25).map (·.size) = some 1 := by kernel_rfl
    obtain ⟨X1, hX1⟩ : ∃ X1, X1 = xs.map (Value.int .u32) := ⟨_, rfl⟩
    have HX1 := Lib.hid hX1
    obtain ⟨cur, hcur⟩ : ∃ cur, cur = (madeCells #[Value.int .u32 0] n).toList := ⟨_, rfl⟩
    have HCUR := Lib.hid hcur
    have HCL : Hid (cur.length = n) := Lib.hid (by rw [hcur]; simp [madeCells])
    have HG : Hid ((w.alloc (.cells (madeCells #[Value.int .u32 0] n) 25)).heap[w.heap.size]? = some (.cells cur.toArray 25 (0, 0))) := Lib.hid (by rw [hcur]; exact heap_alloc_new w _)
    have HSRC : Hid (∀ j v, X1[j]? = some v → (w.alloc (.cells (madeCells #[Value.int .u32 0] n) 25)).cell? (ad.add j) = some v) := Lib.hid (by
      intro j v hv
      rw [HX1.out] at hv
      have hj : j < n := by have := (List.getElem?_eq_some_iff.1 hv).1; have := HLX.out; simp at *; omega
      obtain ⟨ad', e, hb, hc⟩ := (HX.out.alloc (Nat.le_refl _) (.cells (madeCells #[Value.int .u32 0] n) 25)).2 (by omega)
      obtain rfl := Option.some.inj e
      exact hc j v hv)
    clear hX1 hcur
    go_enter Tryf.func9, Tryf.ntmps9
    go_wp2_with (with_reducible refine wpList_copy_splice (o := ⟨some 11, _, _, _, _, _⟩) rfl _ _ _ _ rfl 25 Tryf.underlying24 hsz (some ⟨w.heap.size, 0, none⟩) (some ad) n n n c rfl rfl w.heap.size 0 cur 25 HG.out X1 ?h1 ?h2 ?h3 ?h4 w.heap.size w ?h5 (Nat.le_refl _) ?_)
    case h1 => rw [HX1.out]; simp [HLX.out]
    case h2 => intro _; first | exact ⟨rfl, ad, rfl, HSRC.out⟩ | exact HSRC.out
    case h3 => have := HCL.out; rw [HX1.out]; simp; have := HLX.out; omega
    case h4 =>
      rw [HX1.out]; intro v hv
      obtain ⟨_, _, rfl⟩ := List.mem_map.1 hv
      rfl
    case h5 => exact (Below.refl _ _).alloc (Nat.le_refl _) _
    intro w2 HG2 hB2
    go_wp2
    go_ret
    refine ⟨_, n, rfl, ⟨by simp [HLX.out], .inr ⟨w.heap.size, n, _, rfl, Nat.le_refl _, HG2.out, Nat.le_refl _, by unfold maxLen; omega, ?_, ?_⟩⟩, hB2⟩
    · have := HCL.out; have := HLX.out; rw [HX1.out]; simp [splice]; omega
    · have hl := HLX.out; rw [HX1.out, Nat.mul_one]; simp only [splice, List.take_zero, List.nil_append, Nat.zero_add]; exact List.take_left' (by simpa using hl)

end Go.Proofs.YtmkkocjhbclibaaFmt
