/- n011_276: the law's own copy; the making of the printer; its text. -/
import Derived.Test.YtemefojfnghhoaaFmtNtl
import Derived.Laws.MakeOwn
import Derived.Laws.CopyOwn
namespace Go.Proofs.YtemefojfnghhoaaFmt
open Go.RowKit
set_option linter.unusedVariables false
set_option linter.unusedSimpArgs false
/-- What the copy hands back: a row of its own, with just the bytes. -/
def copyPost (w : World) (n : Nat) (xs : List Value) (e : Ending) (w' : World) : Prop :=
  ∃ A c, e = .returned (.slice A n c) ∧ w'.ownsRow w.heap.size 5 1 (.slice A n c) n xs ∧ Below w.heap.size w w'
set_option maxHeartbeats 1000000 in
set_option maxRecDepth 100000 in
theorem copy_any (A : Option Addr) (n c : Nat) (xs : List Int) (w : World) (hx : Reads w w.heap.size 1 A n (xs.map (Value.int .u8))) (hn : n ≤ 16777216) (hA : A = none → n = 0) :
    Calls Tryf.prog 6 #[.slice A n c] w (copyPost w n (xs.map (Value.int .u8))) := by
  have heq : ∀ (W : World) (a : Option Addr) (l c : Nat), (binOp .eql 22 (.slice a l c) (.slice none 0 0)).run Tryf.prog W = .ok (.bool a.isNone) W := fun W a l c => Lib.run_eql_slice_nil W 22 5 a l c 0 0 Tryf.underlying22
  have HX := Lib.hid hx
  have lx : xs.length = n := by have := hx.1; simpa using this
  have HLX := Lib.hid lx
  clear hx lx
  cases A with
  | none =>
    obtain rfl := hA rfl
    go_enter Tryf.func6, Tryf.ntmps6
    go_wp2
    go_ret
    have : xs = [] := List.eq_nil_of_length_eq_zero HLX.out
    subst this
    exact ⟨none, 0, rfl, World.ownsRow_nil _ _ _ _, Below.refl _ _⟩
  | some ad =>
    obtain ⟨i0, hi, hz0, hz1, hz2⟩ := info_parts u8I
    have hmk : ∀ W : World, (Instr.makeSlice 22 (.int .i64 (n : Int)) (.int .i64 (n : Int))).run Tryf.prog W = .ok (.slice (some ⟨W.heap.size, 0, none⟩) n n) (W.alloc (.cells (madeCells #[.int .u8 0] n) 5)) := fun W => by
      have := run_make (P := Tryf.prog) W 22 5 i0 (.int .u8 0) Tryf.underlying22 hi hz0 .i64 .i64 n n (by omega) (by omega) (by rw [hz2]; omega) (by omega)
      simpa [hz1, Value.cells] using this
    have hsz : (Tryf.prog.info? 5).map (·.size) = some 1 := by kernel_rfl
    obtain ⟨X1, hX1⟩ : ∃ X1, X1 = xs.map (Value.int .u8) := ⟨_, rfl⟩
    have HX1 := Lib.hid hX1
    obtain ⟨cur, hcur⟩ : ∃ cur, cur = (madeCells #[Value.int .u8 0] n).toList := ⟨_, rfl⟩
    have HCUR := Lib.hid hcur
    have HCL : Hid (cur.length = n) := Lib.hid (by rw [hcur]; simp [madeCells])
    have HG : Hid ((w.alloc (.cells (madeCells #[.int .u8 0] n) 5)).heap[w.heap.size]? = some (.cells cur.toArray 5 (0, 0))) := Lib.hid (by rw [hcur]; exact heap_alloc_new w _)
    have HSRC : Hid (∀ j v, X1[j]? = some v → (w.alloc (.cells (madeCells #[.int .u8 0] n) 5)).cell? (ad.add j) = some v) := Lib.hid (by
      intro j v hv
      rw [HX1.out] at hv
      have hj : j < n := by have := (List.getElem?_eq_some_iff.1 hv).1; have := HLX.out; simp at *; omega
      obtain ⟨ad', e, hb, hc⟩ := (HX.out.alloc (Nat.le_refl _) (.cells (madeCells #[.int .u8 0] n) 5)).2 (by omega)
      obtain rfl := Option.some.inj e
      exact hc j v hv)
    clear hX1 hcur
    go_enter Tryf.func6, Tryf.ntmps6
    go_wp2_with (with_reducible refine wpList_copy_splice (o := ⟨some 11, _, _, _, _, _⟩) rfl _ _ _ _ rfl 5 Tryf.underlying22 hsz (some ⟨w.heap.size, 0, none⟩) (some ad) n n n c rfl rfl w.heap.size 0 cur 5 HG.out X1 ?h1 ?h2 ?h3 ?h4 w.heap.size w ?h5 (Nat.le_refl _) ?_)
    case h1 => rw [HX1.out]; simp [HLX.out]
    case h2 => intro _; first | exact ⟨rfl, ad, rfl, HSRC.out⟩ | exact HSRC.out
    case h3 => have := HCL.out; rw [HX1.out]; simp; have := HLX.out; omega
    case h4 =>
      rw [HX1.out]; intro v hv
      obtain ⟨_, _, rfl⟩ := List.mem_map.1 hv
      rfl
    case h5 => exact (Below.refl _ _).alloc (Nat.le_refl _) _
    intro w2 HG2 hB2
    go_wp2
    go_ret
    refine ⟨_, n, rfl, ⟨by simp [HLX.out], .inr ⟨w.heap.size, n, _, rfl, Nat.le_refl _, HG2.out, Nat.le_refl _, by unfold maxLen; omega, ?_, ?_⟩⟩, hB2⟩
    · have := HCL.out; have := HLX.out; rw [HX1.out]; simp [splice]; omega
    · have hl := HLX.out; rw [HX1.out, Nat.mul_one]; simp only [splice, List.take_zero, List.nil_append, Nat.zero_add]; exact List.take_left' (by simpa using hl)

def freshM (mn asc : Bool) (v : Value) : Array Value := #[.pointer none, .slice none 0 0, .map none, .int .i64 0, .int .u32 0, .int .u16 0, .bool mn, .bool asc, .int .u8 0, .bool false, .int .u8 0, .bool false, .int .u8 0, .slice none 0 0, .slice none 0 0, v, .map none, .slice none 0 0, .slice none 0 0, .pointer none, .slice none 0 0, .slice none 0 0, .map none, .slice none 0 0, .string ⟨#[]⟩, .int .i64 0, .int .i64 0, .int .i64 0, .int .i64 0, .int .i64 0, .int .i64 0, .bool false, .int .i64 0, .int .i64 0, .int .i64 0, .int .i32 0, .int .u32 0, .bool false, .bool false, .bool false, .bool false, .int .i64 0, .int .i64 0]
def NewPost (B : Nat) (A : Option Addr) (cap : Nat) (bs : List Value) (mn asc : Bool) (w : World) (e : Ending) (w' : World) : Prop :=
  e = .returned (.pointer (some ⟨w.heap.size, 0, none⟩)) ∧ IsP B w.heap.size (freshM mn asc (.slice A bs.length cap)) A cap bs w' ∧ Below w.heap.size w w'
set_option maxHeartbeats 1000000 in
set_option maxRecDepth 100000 in
theorem new_any (B : Nat) (A : Option Addr) (n c : Nat) (bs : List Value) (mn asc : Bool) (w : World) (hn : bs.length = n) (hown : w.ownsRow B 5 1 (.slice A n c) n bs) (hB : B ≤ w.heap.size) :
    Calls Tryf.prog 11 #[.slice A n c, .bool mn, .bool asc] w (NewPost B A c bs mn asc w) := by
  subst hn
  have HP : Hid (IsP B w.heap.size (freshM mn asc (.slice A bs.length c)) A c bs (w.alloc (.cells (freshM mn asc (.slice A bs.length c)) 65))) := Lib.hid ⟨hB, rfl, Blk.new w _ _, hown.alloc _⟩
  clear hown
  go_enter Tryf.func11, Tryf.ntmps11
  go_wp2
  go_ret
  exact ⟨rfl, HP.out, (Below.refl _ _).alloc (Nat.le_refl _) _⟩
set_option maxHeartbeats 1000000 in
set_option maxRecDepth 100000 in
theorem css_any {B b : Nat} {K : Array Value} {A : Option Addr} {cap : Nat} {bs : List Value} (w : World) (h : IsP B b K A cap bs w) (L : Nat) (hL : bs.length = L) :
    Calls Tryf.prog 15 #[.pointer (some ⟨b, 0, none⟩)] w fun e w' => e = .returned (.slice A L cap) ∧ w = w' := by
  have c15 : w.cell? ⟨b, 15, none⟩ = some (.slice A L cap) := h.css hL
  clear h hL
  go_enter Tryf.func15, Tryf.ntmps15
  go_wp2
  go_ret
  exact ⟨rfl, rfl⟩
end Go.Proofs.YtemefojfnghhoaaFmt
