/- Options behind a pointer: the cells that the defaults govern; the repair of unsupported features. -/
import Derived.Test.YtjellcldojmpcaaRows
import Derived.Test.YtjellcldojmpcaaWords
import Derived.WalkKit
import Derived.WalkSpells
import Derived.LoopTactic
import Derived.Outline
import Derived.Laws.BitsAllLaws
import Derived.Laws.AppendOwn
import Derived.Deep.DeepCutAuto
import Derived.Deep.Cut
namespace Go.Proofs.Ytjellcldojmpcaa
open Go.RowKit
set_option linter.unusedVariables false
set_option linter.unusedSimpArgs false

theorem bits64 (x : BitVec 64) : IntKind.u64.wrap (x.toNat : Int) = x.toNat := by
  rw [IntKind.wrap_u64]; have := x.isLt; omega
theorem bits16 (x : BitVec 16) : IntKind.u16.wrap (x.toNat : Int) = x.toNat := by
  rw [IntKind.wrap_u16]; have := x.isLt; omega
theorem nat64 (x : BitVec 64) : BitVec.ofInt 64 (x.toNat : Int) = x := by simp
theorem nat16 (x : BitVec 16) : BitVec.ofInt 16 (x.toNat : Int) = x := by simp
theorem or64 (x y : BitVec 64) : bits BinOp.or IntKind.u64 (x.toNat : Int) (y.toNat : Int) = ((x ||| y).toNat : Int) := by
  have h : bits BinOp.or IntKind.u64 (x.toNat : Int) (y.toNat : Int) = ((BitVec.ofInt 64 (x.toNat : Int) ||| BitVec.ofInt 64 (y.toNat : Int)).toNat : Int) := bits64 _
  rw [h, nat64, nat64]
theorem and64 (x y : BitVec 64) : bits BinOp.and IntKind.u64 (x.toNat : Int) (y.toNat : Int) = ((x &&& y).toNat : Int) := by
  have h : bits BinOp.and IntKind.u64 (x.toNat : Int) (y.toNat : Int) = ((BitVec.ofInt 64 (x.toNat : Int) &&& BitVec.ofInt 64 (y.toNat : Int)).toNat : Int) := bits64 _
  rw [h, nat64, nat64]
theorem or16 (x y : BitVec 16) : bits BinOp.or IntKind.u16 (x.toNat : Int) (y.toNat : Int) = ((x ||| y).toNat : Int) := by
  have h : bits BinOp.or IntKind.u16 (x.toNat : Int) (y.toNat : Int) = ((BitVec.ofInt 16 (x.toNat : Int) ||| BitVec.ofInt 16 (y.toNat : Int)).toNat : Int) := bits16 _
  rw [h, nat16, nat16]
theorem and16 (x y : BitVec 16) : bits BinOp.and IntKind.u16 (x.toNat : Int) (y.toNat : Int) = ((x &&& y).toNat : Int) := by
  have h : bits BinOp.and IntKind.u16 (x.toNat : Int) (y.toNat : Int) = ((BitVec.ofInt 16 (x.toNat : Int) &&& BitVec.ofInt 16 (y.toNat : Int)).toNat : Int) := bits16 _
  rw [h, nat16, nat16]
/-- The test of a set's intersection, as the program makes it. -/
def meets {n : Nat} (x y : BitVec n) : Bool := decide (x &&& y ≠ 0#n)
theorem z0 {n : Nat} (x : BitVec n) : (x.toNat : Int) = 0 ↔ x = 0#n := by
  constructor
  · intro h; apply BitVec.eq_of_toNat_eq; simpa using (by omega : x.toNat = 0)
  · rintro rfl; simp
theorem ne0 {n : Nat} (x y : BitVec n) : (((x &&& y).toNat : Int) != 0) = meets x y := by
  unfold meets
  rw [Bool.eq_iff_iff, bne_iff_ne, decide_eq_true_iff]
  exact not_congr (z0 _)
theorem eq0 {n : Nat} (x y : BitVec n) : (((x &&& y).toNat : Int) == 0) = !(meets x y) := by
  rw [← ne0]; unfold bne; rw [Bool.not_not]

/-- The cells that the defaults govern. -/
structure OptSt where
  js : ByteArray
  css : ByteArray
  M : Value
  E : Value
  C : Value
  A : Value
  f : BitVec 64
  c : BitVec 16
  o : BitVec 64
  m : BitVec 64
  cm : BitVec 16
  mi : Bool
  pr : Bool
  pl : Int
structure OptK (S : OptSt) (K : Array Value) : Prop where
  sz : K.size = 102
  one : K.all (·.oneCell') = true
  k25 : K[25]? = some (.string S.js)
  k26 : K[26]? = some (.string S.css)
  k30 : K[30]? = some (S.M)
  k39 : K[39]? = some (S.E)
  k40 : K[40]? = some (S.C)
  k41 : K[41]? = some (S.A)
  k59 : K[59]? = some (.int .u64 (S.f.toNat : Int))
  k60 : K[60]? = some (.int .u16 (S.c.toNat : Int))
  k61 : K[61]? = some (.int .u64 (S.o.toNat : Int))
  k62 : K[62]? = some (.int .u64 (S.m.toNat : Int))
  k64 : K[64]? = some (.int .u16 (S.cm.toNat : Int))
  k76 : K[76]? = some (.bool S.mi)
  k78 : K[78]? = some (.bool S.pr)
  k97 : K[97]? = some (.int .u8 S.pl)
theorem set_oth {K : Array Value} {i j : Nat} {u v : Value} (h : K[j]? = some u) (hne : i ≠ j) : (K.setIfInBounds i v)[j]? = some u := by
  rw [Array.getElem?_setIfInBounds_ne hne]; exact h
theorem set_same {K : Array Value} {i : Nat} {u v : Value} (h : K[i]? = some u) : (K.setIfInBounds i v)[i]? = some v := by
  have hi := (Array.getElem?_eq_some_iff.1 h).1
  rw [Array.getElem?_setIfInBounds_self_of_lt hi]
theorem one_set {K : Array Value} (h : K.all (·.oneCell') = true) (i : Nat) {v : Value} (hv : v.oneCell' = true) : (K.setIfInBounds i v).all (·.oneCell') = true := by
  rw [Array.all_eq_true_iff_forall_mem] at h ⊢
  intro x hx
  rcases Array.mem_or_eq_of_mem_setIfInBounds hx with h1 | rfl
  · exact h x h1
  · exact hv
theorem OptK.s25 {S : OptSt} {K : Array Value} (h : OptK S K) (x : ByteArray) : OptK { S with js := x } (K.setIfInBounds 25 (.string x)) :=
  ⟨by rw [Array.size_setIfInBounds]; exact h.sz, one_set h.one _ rfl, set_same h.k25, set_oth h.k26 (by decide), set_oth h.k30 (by decide), set_oth h.k39 (by decide), set_oth h.k40 (by decide), set_oth h.k41 (by decide), set_oth h.k59 (by decide), set_oth h.k60 (by decide), set_oth h.k61 (by decide), set_oth h.k62 (by decide), set_oth h.k64 (by decide), set_oth h.k76 (by decide), set_oth h.k78 (by decide), set_oth h.k97 (by decide)⟩
theorem OptK.s26 {S : OptSt} {K : Array Value} (h : OptK S K) (x : ByteArray) : OptK { S with css := x } (K.setIfInBounds 26 (.string x)) :=
  ⟨by rw [Array.size_setIfInBounds]; exact h.sz, one_set h.one _ rfl, set_oth h.k25 (by decide), set_same h.k26, set_oth h.k30 (by decide), set_oth h.k39 (by decide), set_oth h.k40 (by decide), set_oth h.k41 (by decide), set_oth h.k59 (by decide), set_oth h.k60 (by decide), set_oth h.k61 (by decide), set_oth h.k62 (by decide), set_oth h.k64 (by decide), set_oth h.k76 (by decide), set_oth h.k78 (by decide), set_oth h.k97 (by decide)⟩
theorem OptK.s30 {S : OptSt} {K : Array Value} (h : OptK S K) (x : Value) (hx : x.oneCell' = true := by rfl) : OptK { S with M := x } (K.setIfInBounds 30 (x)) :=
  ⟨by rw [Array.size_setIfInBounds]; exact h.sz, one_set h.one _ hx, set_oth h.k25 (by decide), set_oth h.k26 (by decide), set_same h.k30, set_oth h.k39 (by decide), set_oth h.k40 (by decide), set_oth h.k41 (by decide), set_oth h.k59 (by decide), set_oth h.k60 (by decide), set_oth h.k61 (by decide), set_oth h.k62 (by decide), set_oth h.k64 (by decide), set_oth h.k76 (by decide), set_oth h.k78 (by decide), set_oth h.k97 (by decide)⟩
theorem OptK.s39 {S : OptSt} {K : Array Value} (h : OptK S K) (x : Value) (hx : x.oneCell' = true := by rfl) : OptK { S with E := x } (K.setIfInBounds 39 (x)) :=
  ⟨by rw [Array.size_setIfInBounds]; exact h.sz, one_set h.one _ hx, set_oth h.k25 (by decide), set_oth h.k26 (by decide), set_oth h.k30 (by decide), set_same h.k39, set_oth h.k40 (by decide), set_oth h.k41 (by decide), set_oth h.k59 (by decide), set_oth h.k60 (by decide), set_oth h.k61 (by decide), set_oth h.k62 (by decide), set_oth h.k64 (by decide), set_oth h.k76 (by decide), set_oth h.k78 (by decide), set_oth h.k97 (by decide)⟩
theorem OptK.s40 {S : OptSt} {K : Array Value} (h : OptK S K) (x : Value) (hx : x.oneCell' = true := by rfl) : OptK { S with C := x } (K.setIfInBounds 40 (x)) :=
  ⟨by rw [Array.size_setIfInBounds]; exact h.sz, one_set h.one _ hx, set_oth h.k25 (by decide), set_oth h.k26 (by decide), set_oth h.k30 (by decide), set_oth h.k39 (by decide), set_same h.k40, set_oth h.k41 (by decide), set_oth h.k59 (by decide), set_oth h.k60 (by decide), set_oth h.k61 (by decide), set_oth h.k62 (by decide), set_oth h.k64 (by decide), set_oth h.k76 (by decide), set_oth h.k78 (by decide), set_oth h.k97 (by decide)⟩
theorem OptK.s41 {S : OptSt} {K : Array Value} (h : OptK S K) (x : Value) (hx : x.oneCell' = true := by rfl) : OptK { S with A := x } (K.setIfInBounds 41 (x)) :=
  ⟨by rw [Array.size_setIfInBounds]; exact h.sz, one_set h.one _ hx, set_oth h.k25 (by decide), set_oth h.k26 (by decide), set_oth h.k30 (by decide), set_oth h.k39 (by decide), set_oth h.k40 (by decide), set_same h.k41, set_oth h.k59 (by decide), set_oth h.k60 (by decide), set_oth h.k61 (by decide), set_oth h.k62 (by decide), set_oth h.k64 (by decide), set_oth h.k76 (by decide), set_oth h.k78 (by decide), set_oth h.k97 (by decide)⟩
theorem OptK.s59 {S : OptSt} {K : Array Value} (h : OptK S K) (x : BitVec 64) : OptK { S with f := x } (K.setIfInBounds 59 (.int .u64 (x.toNat : Int))) :=
  ⟨by rw [Array.size_setIfInBounds]; exact h.sz, one_set h.one _ rfl, set_oth h.k25 (by decide), set_oth h.k26 (by decide), set_oth h.k30 (by decide), set_oth h.k39 (by decide), set_oth h.k40 (by decide), set_oth h.k41 (by decide), set_same h.k59, set_oth h.k60 (by decide), set_oth h.k61 (by decide), set_oth h.k62 (by decide), set_oth h.k64 (by decide), set_oth h.k76 (by decide), set_oth h.k78 (by decide), set_oth h.k97 (by decide)⟩
theorem OptK.s60 {S : OptSt} {K : Array Value} (h : OptK S K) (x : BitVec 16) : OptK { S with c := x } (K.setIfInBounds 60 (.int .u16 (x.toNat : Int))) :=
  ⟨by rw [Array.size_setIfInBounds]; exact h.sz, one_set h.one _ rfl, set_oth h.k25 (by decide), set_oth h.k26 (by decide), set_oth h.k30 (by decide), set_oth h.k39 (by decide), set_oth h.k40 (by decide), set_oth h.k41 (by decide), set_oth h.k59 (by decide), set_same h.k60, set_oth h.k61 (by decide), set_oth h.k62 (by decide), set_oth h.k64 (by decide), set_oth h.k76 (by decide), set_oth h.k78 (by decide), set_oth h.k97 (by decide)⟩
theorem OptK.s61 {S : OptSt} {K : Array Value} (h : OptK S K) (x : BitVec 64) : OptK { S with o := x } (K.setIfInBounds 61 (.int .u64 (x.toNat : Int))) :=
  ⟨by rw [Array.size_setIfInBounds]; exact h.sz, one_set h.one _ rfl, set_oth h.k25 (by decide), set_oth h.k26 (by decide), set_oth h.k30 (by decide), set_oth h.k39 (by decide), set_oth h.k40 (by decide), set_oth h.k41 (by decide), set_oth h.k59 (by decide), set_oth h.k60 (by decide), set_same h.k61, set_oth h.k62 (by decide), set_oth h.k64 (by decide), set_oth h.k76 (by decide), set_oth h.k78 (by decide), set_oth h.k97 (by decide)⟩
theorem OptK.s62 {S : OptSt} {K : Array Value} (h : OptK S K) (x : BitVec 64) : OptK { S with m := x } (K.setIfInBounds 62 (.int .u64 (x.toNat : Int))) :=
  ⟨by rw [Array.size_setIfInBounds]; exact h.sz, one_set h.one _ rfl, set_oth h.k25 (by decide), set_oth h.k26 (by decide), set_oth h.k30 (by decide), set_oth h.k39 (by decide), set_oth h.k40 (by decide), set_oth h.k41 (by decide), set_oth h.k59 (by decide), set_oth h.k60 (by decide), set_oth h.k61 (by decide), set_same h.k62, set_oth h.k64 (by decide), set_oth h.k76 (by decide), set_oth h.k78 (by decide), set_oth h.k97 (by decide)⟩
theorem OptK.s64 {S : OptSt} {K : Array Value} (h : OptK S K) (x : BitVec 16) : OptK { S with cm := x } (K.setIfInBounds 64 (.int .u16 (x.toNat : Int))) :=
  ⟨by rw [Array.size_setIfInBounds]; exact h.sz, one_set h.one _ rfl, set_oth h.k25 (by decide), set_oth h.k26 (by decide), set_oth h.k30 (by decide), set_oth h.k39 (by decide), set_oth h.k40 (by decide), set_oth h.k41 (by decide), set_oth h.k59 (by decide), set_oth h.k60 (by decide), set_oth h.k61 (by decide), set_oth h.k62 (by decide), set_same h.k64, set_oth h.k76 (by decide), set_oth h.k78 (by decide), set_oth h.k97 (by decide)⟩
theorem OptK.s76 {S : OptSt} {K : Array Value} (h : OptK S K) (x : Bool) : OptK { S with mi := x } (K.setIfInBounds 76 (.bool x)) :=
  ⟨by rw [Array.size_setIfInBounds]; exact h.sz, one_set h.one _ rfl, set_oth h.k25 (by decide), set_oth h.k26 (by decide), set_oth h.k30 (by decide), set_oth h.k39 (by decide), set_oth h.k40 (by decide), set_oth h.k41 (by decide), set_oth h.k59 (by decide), set_oth h.k60 (by decide), set_oth h.k61 (by decide), set_oth h.k62 (by decide), set_oth h.k64 (by decide), set_same h.k76, set_oth h.k78 (by decide), set_oth h.k97 (by decide)⟩
theorem OptK.s78 {S : OptSt} {K : Array Value} (h : OptK S K) (x : Bool) : OptK { S with pr := x } (K.setIfInBounds 78 (.bool x)) :=
  ⟨by rw [Array.size_setIfInBounds]; exact h.sz, one_set h.one _ rfl, set_oth h.k25 (by decide), set_oth h.k26 (by decide), set_oth h.k30 (by decide), set_oth h.k39 (by decide), set_oth h.k40 (by decide), set_oth h.k41 (by decide), set_oth h.k59 (by decide), set_oth h.k60 (by decide), set_oth h.k61 (by decide), set_oth h.k62 (by decide), set_oth h.k64 (by decide), set_oth h.k76 (by decide), set_same h.k78, set_oth h.k97 (by decide)⟩
theorem OptK.s97 {S : OptSt} {K : Array Value} (h : OptK S K) (x : Int) : OptK { S with pl := x } (K.setIfInBounds 97 (.int .u8 x)) :=
  ⟨by rw [Array.size_setIfInBounds]; exact h.sz, one_set h.one _ rfl, set_oth h.k25 (by decide), set_oth h.k26 (by decide), set_oth h.k30 (by decide), set_oth h.k39 (by decide), set_oth h.k40 (by decide), set_oth h.k41 (by decide), set_oth h.k59 (by decide), set_oth h.k60 (by decide), set_oth h.k61 (by decide), set_oth h.k62 (by decide), set_oth h.k64 (by decide), set_oth h.k76 (by decide), set_oth h.k78 (by decide), set_same h.k97⟩
/-- The options lie in the block b. -/
def OptIs (b : Nat) (S : OptSt) (w : World) : Prop := ∃ K : Array Value, Blk w b 79 K ∧ OptK S K
theorem OptIs.lt {b : Nat} {S : OptSt} {w : World} (h : OptIs b S w) : b < w.heap.size := by obtain ⟨K, h1, _⟩ := h; exact h1.lt
theorem OptIs.frozen {b : Nat} {S : OptSt} {w : World} (h : OptIs b S w) (i : Nat) : w.frozen? ⟨b, i, none⟩ = false := by obtain ⟨K, h1, _⟩ := h; exact h1.frozen i
theorem OptIs.alloc {b : Nat} {S : OptSt} {w : World} (h : OptIs b S w) (o : Obj) : OptIs b S (w.alloc o) := by obtain ⟨K, h1, h2⟩ := h; exact ⟨K, h1.alloc o, h2⟩
theorem OptIs.drew {b : Nat} {S : OptSt} {w : World} (h : OptIs b S w) : OptIs b S w.drew := h
theorem OptIs.same {b : Nat} {S : OptSt} {w w' : World} (h : OptIs b S w) (he : w'.heap[b]? = w.heap[b]?) : OptIs b S w' := by obtain ⟨K, h1, h2⟩ := h; exact ⟨K, he.trans h1, h2⟩
theorem OptIs.c25 {b : Nat} {S : OptSt} {w : World} (h : OptIs b S w) : w.cell? ⟨b, 25, none⟩ = some (.string S.js) := by obtain ⟨K, h1, h2⟩ := h; exact (h1.cell 25).trans h2.k25
theorem OptIs.s25 {b : Nat} {S : OptSt} {w : World} (h : OptIs b S w) (x : ByteArray) : OptIs b { S with js := x } (w.setCell ⟨b, 25, none⟩ (.string x)) := by obtain ⟨K, h1, h2⟩ := h; exact ⟨_, h1.set_ 25 _, h2.s25 x⟩
theorem OptIs.c26 {b : Nat} {S : OptSt} {w : World} (h : OptIs b S w) : w.cell? ⟨b, 26, none⟩ = some (.string S.css) := by obtain ⟨K, h1, h2⟩ := h; exact (h1.cell 26).trans h2.k26
theorem OptIs.s26 {b : Nat} {S : OptSt} {w : World} (h : OptIs b S w) (x : ByteArray) : OptIs b { S with css := x } (w.setCell ⟨b, 26, none⟩ (.string x)) := by obtain ⟨K, h1, h2⟩ := h; exact ⟨_, h1.set_ 26 _, h2.s26 x⟩
theorem OptIs.c30 {b : Nat} {S : OptSt} {w : World} (h : OptIs b S w) : w.cell? ⟨b, 30, none⟩ = some (S.M) := by obtain ⟨K, h1, h2⟩ := h; exact (h1.cell 30).trans h2.k30
theorem OptIs.s30 {b : Nat} {S : OptSt} {w : World} (h : OptIs b S w) (x : Value) (hx : x.oneCell' = true := by rfl) : OptIs b { S with M := x } (w.setCell ⟨b, 30, none⟩ (x)) := by obtain ⟨K, h1, h2⟩ := h; exact ⟨_, h1.set_ 30 _, h2.s30 x hx⟩
theorem OptIs.c39 {b : Nat} {S : OptSt} {w : World} (h : OptIs b S w) : w.cell? ⟨b, 39, none⟩ = some (S.E) := by obtain ⟨K, h1, h2⟩ := h; exact (h1.cell 39).trans h2.k39
theorem OptIs.s39 {b : Nat} {S : OptSt} {w : World} (h : OptIs b S w) (x : Value) (hx : x.oneCell' = true := by rfl) : OptIs b { S with E := x } (w.setCell ⟨b, 39, none⟩ (x)) := by obtain ⟨K, h1, h2⟩ := h; exact ⟨_, h1.set_ 39 _, h2.s39 x hx⟩
theorem OptIs.c40 {b : Nat} {S : OptSt} {w : World} (h : OptIs b S w) : w.cell? ⟨b, 40, none⟩ = some (S.C) := by obtain ⟨K, h1, h2⟩ := h; exact (h1.cell 40).trans h2.k40
theorem OptIs.s40 {b : Nat} {S : OptSt} {w : World} (h : OptIs b S w) (x : Value) (hx : x.oneCell' = true := by rfl) : OptIs b { S with C := x } (w.setCell ⟨b, 40, none⟩ (x)) := by obtain ⟨K, h1, h2⟩ := h; exact ⟨_, h1.set_ 40 _, h2.s40 x hx⟩
theorem OptIs.c41 {b : Nat} {S : OptSt} {w : World} (h : OptIs b S w) : w.cell? ⟨b, 41, none⟩ = some (S.A) := by obtain ⟨K, h1, h2⟩ := h; exact (h1.cell 41).trans h2.k41
theorem OptIs.s41 {b : Nat} {S : OptSt} {w : World} (h : OptIs b S w) (x : Value) (hx : x.oneCell' = true := by rfl) : OptIs b { S with A := x } (w.setCell ⟨b, 41, none⟩ (x)) := by obtain ⟨K, h1, h2⟩ := h; exact ⟨_, h1.set_ 41 _, h2.s41 x hx⟩
theorem OptIs.c59 {b : Nat} {S : OptSt} {w : World} (h : OptIs b S w) : w.cell? ⟨b, 59, none⟩ = some (.int .u64 (S.f.toNat : Int)) := by obtain ⟨K, h1, h2⟩ := h; exact (h1.cell 59).trans h2.k59
theorem OptIs.s59 {b : Nat} {S : OptSt} {w : World} (h : OptIs b S w) (x : BitVec 64) : OptIs b { S with f := x } (w.setCell ⟨b, 59, none⟩ (.int .u64 (x.toNat : Int))) := by obtain ⟨K, h1, h2⟩ := h; exact ⟨_, h1.set_ 59 _, h2.s59 x⟩
theorem OptIs.c60 {b : Nat} {S : OptSt} {w : World} (h : OptIs b S w) : w.cell? ⟨b, 60, none⟩ = some (.int .u16 (S.c.toNat : Int)) := by obtain ⟨K, h1, h2⟩ := h; exact (h1.cell 60).trans h2.k60
theorem OptIs.s60 {b : Nat} {S : OptSt} {w : World} (h : OptIs b S w) (x : BitVec 16) : OptIs b { S with c := x } (w.setCell ⟨b, 60, none⟩ (.int .u16 (x.toNat : Int))) := by obtain ⟨K, h1, h2⟩ := h; exact ⟨_, h1.set_ 60 _, h2.s60 x⟩
theorem OptIs.c61 {b : Nat} {S : OptSt} {w : World} (h : OptIs b S w) : w.cell? ⟨b, 61, none⟩ = some (.int .u64 (S.o.toNat : Int)) := by obtain ⟨K, h1, h2⟩ := h; exact (h1.cell 61).trans h2.k61
theorem OptIs.s61 {b : Nat} {S : OptSt} {w : World} (h : OptIs b S w) (x : BitVec 64) : OptIs b { S with o := x } (w.setCell ⟨b, 61, none⟩ (.int .u64 (x.toNat : Int))) := by obtain ⟨K, h1, h2⟩ := h; exact ⟨_, h1.set_ 61 _, h2.s61 x⟩
theorem OptIs.c62 {b : Nat} {S : OptSt} {w : World} (h : OptIs b S w) : w.cell? ⟨b, 62, none⟩ = some (.int .u64 (S.m.toNat : Int)) := by obtain ⟨K, h1, h2⟩ := h; exact (h1.cell 62).trans h2.k62
theorem OptIs.s62 {b : Nat} {S : OptSt} {w : World} (h : OptIs b S w) (x : BitVec 64) : OptIs b { S with m := x } (w.setCell ⟨b, 62, none⟩ (.int .u64 (x.toNat : Int))) := by obtain ⟨K, h1, h2⟩ := h; exact ⟨_, h1.set_ 62 _, h2.s62 x⟩
theorem OptIs.c64 {b : Nat} {S : OptSt} {w : World} (h : OptIs b S w) : w.cell? ⟨b, 64, none⟩ = some (.int .u16 (S.cm.toNat : Int)) := by obtain ⟨K, h1, h2⟩ := h; exact (h1.cell 64).trans h2.k64
theorem OptIs.s64 {b : Nat} {S : OptSt} {w : World} (h : OptIs b S w) (x : BitVec 16) : OptIs b { S with cm := x } (w.setCell ⟨b, 64, none⟩ (.int .u16 (x.toNat : Int))) := by obtain ⟨K, h1, h2⟩ := h; exact ⟨_, h1.set_ 64 _, h2.s64 x⟩
theorem OptIs.c76 {b : Nat} {S : OptSt} {w : World} (h : OptIs b S w) : w.cell? ⟨b, 76, none⟩ = some (.bool S.mi) := by obtain ⟨K, h1, h2⟩ := h; exact (h1.cell 76).trans h2.k76
theorem OptIs.s76 {b : Nat} {S : OptSt} {w : World} (h : OptIs b S w) (x : Bool) : OptIs b { S with mi := x } (w.setCell ⟨b, 76, none⟩ (.bool x)) := by obtain ⟨K, h1, h2⟩ := h; exact ⟨_, h1.set_ 76 _, h2.s76 x⟩
theorem OptIs.c78 {b : Nat} {S : OptSt} {w : World} (h : OptIs b S w) : w.cell? ⟨b, 78, none⟩ = some (.bool S.pr) := by obtain ⟨K, h1, h2⟩ := h; exact (h1.cell 78).trans h2.k78
theorem OptIs.s78 {b : Nat} {S : OptSt} {w : World} (h : OptIs b S w) (x : Bool) : OptIs b { S with pr := x } (w.setCell ⟨b, 78, none⟩ (.bool x)) := by obtain ⟨K, h1, h2⟩ := h; exact ⟨_, h1.set_ 78 _, h2.s78 x⟩
theorem OptIs.c97 {b : Nat} {S : OptSt} {w : World} (h : OptIs b S w) : w.cell? ⟨b, 97, none⟩ = some (.int .u8 S.pl) := by obtain ⟨K, h1, h2⟩ := h; exact (h1.cell 97).trans h2.k97
theorem OptIs.s97 {b : Nat} {S : OptSt} {w : World} (h : OptIs b S w) (x : Int) : OptIs b { S with pl := x } (w.setCell ⟨b, 97, none⟩ (.int .u8 x)) := by obtain ⟨K, h1, h2⟩ := h; exact ⟨_, h1.set_ 97 _, h2.s97 x⟩
/-- What the walk of the defaults may do: write into the options' block, make new memory. -/
abbrev OFr (b : Nat) (w w' : World) : Prop := w.grownBy w' (some b)
theorem OFr.refl (b : Nat) (w : World) : OFr b w w := World.grownBy.refl w _
theorem OFr.trans {b : Nat} {w w1 w2 : World} (h : OFr b w w1) (h1 : OFr b w1 w2) : OFr b w w2 :=
  ⟨h1.os.trans h.os, h1.tape.trans h.tape, h1.output.trans h.output, Nat.le_trans h.size h1.size, fun i hi hne => (h1.block i (Nat.lt_of_lt_of_le hi h.size) hne).trans (h.block i hi hne)⟩
theorem OFr.set {b : Nat} {w w1 : World} (h : OFr b w w1) (i : Nat) (v : Value) : OFr b w (w1.setCell ⟨b, i, none⟩ v) :=
  h.trans ⟨rfl, rfl, rfl, by simp, fun j hj hne => heap_setCell_other _ _ _ _ (fun e => hne (by rw [e]))⟩
theorem OFr.alloc {b : Nat} {w w1 : World} (h : OFr b w w1) (o : Obj) : OFr b w (w1.alloc o) := h.trans (World.grownBy_alloc _ _ _)

def fixB (o a d x : BitVec 64) : BitVec 64 := bif meets o a then x ||| d else x
def OptSt.fix (S : OptSt) (a d : BitVec 64) : OptSt := { S with f := fixB S.o a d S.f, o := fixB S.o a d S.o, m := fixB S.o a d S.m }
set_option maxRecDepth 100000 in
theorem has64 (x y : BitVec 64) (w : World) : Calls Try.prog 20 #[.int .u64 (x.toNat : Int), .int .u64 (y.toNat : Int)] w fun e w' => e = .returned (.bool (meets x y)) ∧ w = w' := by
  go_enter Try.func20, Try.ntmps20
  go_wp2
  go_ret
  exact ⟨ret_bool (by rw [and64, ne0]), rfl⟩
set_option maxRecDepth 100000 in
theorem has16 (x y : BitVec 16) (w : World) : Calls Try.prog 21 #[.int .u16 (x.toNat : Int), .int .u16 (y.toNat : Int)] w fun e w' => e = .returned (.bool (meets x y)) ∧ w = w' := by
  go_enter Try.func21, Try.ntmps21
  go_wp2
  go_ret
  exact ⟨ret_bool (by rw [and16, ne0]), rfl⟩
def FixPost (b : Nat) (S : OptSt) (w : World) (e : Ending) (w' : World) : Prop := e = .returned (.tuple #[]) ∧ OptIs b S w' ∧ OFr b w w'
set_option maxHeartbeats 1000000 in
set_option maxRecDepth 100000 in
theorem fix_any (b : Nat) (S : OptSt) (a d : BitVec 64) (w : World) (h : OptIs b S w) :
    Calls Try.prog 19 #[.pointer (some ⟨b, 0, none⟩), .int .u64 (a.toNat : Int), .int .u64 (d.toNat : Int)] w (FixPost b (S.fix a d) w) := by
  have c59 := h.c59; have c61 := h.c61; have c62 := h.c62
  have z59 := h.frozen 59; have z61 := h.frozen 61; have z62 := h.frozen 62
  have H := Lib.hid h
  clear h
  cases hm : meets S.o a
  · have HM := Lib.hid hm
    clear hm
    go_enter Try.func19, Try.ntmps19
    go_wp2_with (go_at_call 20; refine (has64 S.o a w).mono ?_; rw [HM.out]; rintro e wz ⟨rfl, rfl⟩)
    go_end0
    refine ⟨rfl, ?_, OFr.refl _ _⟩
    have e : S.fix a d = S := by unfold OptSt.fix fixB; rw [HM.out]; rfl
    rw [e]
    exact H.out
  · have HM := Lib.hid hm
    clear hm
    go_enter Try.func19, Try.ntmps19
    go_wp2_with (go_at_call 20; refine (has64 S.o a w).mono ?_; rw [HM.out]; rintro e wz ⟨rfl, rfl⟩)
    go_end0
    refine ⟨rfl, ?_, (((OFr.refl b w).set 59 _).set 61 _).set 62 _⟩
    have e : S.fix a d = { { { S with f := S.f ||| d } with o := S.o ||| d } with m := S.m ||| d } := by unfold OptSt.fix fixB; rw [HM.out]; rfl
    rw [e, or64, or64, or64]
    exact ((H.out.s59 (S.f ||| d)).s61 (S.o ||| d)).s62 (S.m ||| d)
end Go.Proofs.Ytjellcldojmpcaa
