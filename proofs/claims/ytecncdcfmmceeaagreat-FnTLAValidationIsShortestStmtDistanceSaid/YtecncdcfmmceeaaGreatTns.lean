/- ZZnewScanner, ZZsetJSFile (n011_92): a scanner of empty results; a file is laid. -/
import Derived.Test.YtecncdcfmmceeaaGreatTnk
import Derived.Test.YtecncdcfmmceeaaGreatNlg
import Derived.Test.YtecncdcfmmceeaaGreatApp
import Derived.Deep.AppendLies
import Derived.Deep.MidRow
import Derived.Deep.RegionLaw
namespace Go.Proofs.YtecncdcfmmceeaaGreat
open Go.RowKit
set_option linter.unusedVariables false
set_option linter.unusedSimpArgs false
theorem rec_info : (Tryz.prog.info? 62).map (fun i => (i.zero, i.size, i.bytes)) = some (some (.agg #[.pointer none, .pointer none, .string ⟨#[]⟩, .string ⟨#[]⟩, .string ⟨#[]⟩, .string ⟨#[]⟩, .int .u8 0, .int .i32 0, .int .i32 0, .int .i32 0, .int .u32 0, .int .u32 0, .int .u16 0, .int .u8 0, .int .u8 0]), 15, 112) := by kernel_rfl
theorem below_grown {a b c : World} (h : Below a.heap.size a b) (k : b.grownBy c none) : Below a.heap.size a c := ⟨k.os.trans h.os, k.tape.trans h.tape, k.output.trans h.output, Nat.le_trans h.size k.size, fun i hi => (k.block i (Nat.lt_of_lt_of_le hi h.size) (by simp)).trans (h.block i hi)⟩
theorem below_row {a b c : World} {row : Option Nat} (h : Below a.heap.size a b) (k : b.grownBy c row) (hr : ∀ g, row = some g → a.heap.size ≤ g) : Below a.heap.size a c := ⟨k.os.trans h.os, k.tape.trans h.tape, k.output.trans h.output, Nat.le_trans h.size k.size, fun i hi => (k.block i (Nat.lt_of_lt_of_le hi h.size) (fun e => by have := hr i e.symm; omega)).trans (h.block i hi)⟩
def putL : Array Value → Nat → List Value → Array Value
  | cs, _, [] => cs
  | cs, o, v :: r => putL (cs.setIfInBounds o v) (o + 1) r
theorem putL_size : ∀ (l : List Value) (cs : Array Value) (o : Nat), (putL cs o l).size = cs.size
  | [], _, _ => rfl
  | v :: r, cs, o => by rw [putL, putL_size r]; simp
theorem putL_out : ∀ (l : List Value) (cs : Array Value) (o j : Nat), (j < o ∨ o + l.length ≤ j) → (putL cs o l)[j]? = cs[j]?
  | [], _, _, _, _ => rfl
  | v :: r, cs, o, j, h => by
    rw [List.length_cons] at h
    rw [putL, putL_out r _ _ _ (by omega), Array.getElem?_setIfInBounds_ne (by omega)]
theorem putL_in : ∀ (l : List Value) (cs : Array Value) (o j : Nat), j < l.length → o + l.length ≤ cs.size → (putL cs o l)[o + j]? = l[j]?
  | [], _, _, _, h, _ => absurd h (Nat.not_lt_zero _)
  | v :: r, cs, o, 0, _, hs => by
    rw [List.length_cons] at hs
    rw [putL, putL_out r _ _ _ (by omega), Nat.add_zero, Array.getElem?_setIfInBounds_self_of_lt (by omega)]; rfl
  | v :: r, cs, o, j + 1, h, hs => by
    rw [List.length_cons] at h hs
    have := putL_in r (cs.setIfInBounds o v) (o + 1) j (by omega) (by simpa using (by omega : o + 1 + r.length ≤ cs.size))
    rw [putL, show o + (j + 1) = o + 1 + j by omega, this]; rfl
theorem Blk.setCells : ∀ (l : List Value) (w : World) (g o : Nat) (t : TypeId) (cs : Array Value), Blk w g t cs → Blk (w.setCells g o l) g t (putL cs o l)
  | [], _, _, _, _, _, h => h
  | v :: r, w, g, o, t, cs, h => Blk.setCells r _ g (o + 1) t _ (h.set_ o v)
theorem setCells_grown : ∀ (l : List Value) (w : World) (g o : Nat), w.grownBy (w.setCells g o l) (some g)
  | [], w, _, _ => World.grownBy.refl _ _
  | v :: r, w, g, o => grownBy_acc (only_setCell (World.grownBy.refl w (some g)) (p := ⟨g, o, none⟩) (.inl rfl) v) (setCells_grown r _ g (o + 1))
theorem JsOK.row_ {G : TG} {w w' : World} {b i rb : Nat} {c : Array Value} (h : JsOK G w b i) (hg : w.grownBy w' (some rb)) (hb : Blk w rb 87 c) : JsOK G w' b i := by
  obtain ⟨csj, h1, h2, A, cap, h3, h4⟩ := h
  refine ⟨csj, h1.grown hg (fun e => h1.ne_ hb (by decide) (Option.some.inj e)), h2, A, cap, h3, fun hn => ?_⟩
  obtain ⟨g, cur, e, h5, h6⟩ := h4 hn
  exact ⟨g, cur, e, h5.grown hg (fun e => h5.ne_ hb (by decide) (Option.some.inj e)), h6⟩
theorem JsOK.kept {G : TG} {w w' : World} {b i : Nat} (h : JsOK G w b i) (hg : w.grownBy w' none) : JsOK G w' b i := by
  obtain ⟨csj, h1, h2, A, cap, h3, h4⟩ := h
  refine ⟨csj, h1.grown hg (by simp), h2, A, cap, h3, fun hn => ?_⟩
  obtain ⟨g, cur, e, h5, h6⟩ := h4 hn
  exact ⟨g, cur, e, h5.grown hg (by simp), h6⟩
/-- One file's 27 cells. -/
def prRow (i x : Nat) : List Value := [.slice none 0 0, .map none, .string ⟨#[]⟩, .nilIface, .iface 157 (.pointer (some ⟨x, 0, none⟩)), .pointer none, .slice none 0 0, .string ⟨#[]⟩, .pointer none, .int .u8 0, .string ⟨#[]⟩, .string ⟨#[]⟩, .string ⟨#[]⟩, .string ⟨#[97, 119, 97, 105, 116, 32, 48, 59, 10]⟩, .string ⟨#[]⟩, .string ⟨#[]⟩, .string ⟨#[]⟩, .string ⟨#[]⟩, .int .u8 0, .int .u32 (i : Int), .int .u8 0, .bool false, .int .u32 0, .int .u32 0, .int .u32 0, .int .u32 0, .bool true]
def putRow (w : World) (b o i x : Nat) : World := w.setCells b o (prRow i x)
def zPR : Value := .agg #[.slice none 0 0, .map none, .string ⟨#[]⟩, .nilIface, .nilIface, .pointer none, .slice none 0 0, .string ⟨#[]⟩, .pointer none, .int .u8 0, .string ⟨#[]⟩, .string ⟨#[]⟩, .string ⟨#[]⟩, .string ⟨#[]⟩, .string ⟨#[]⟩, .string ⟨#[]⟩, .string ⟨#[]⟩, .string ⟨#[]⟩, .int .u8 0, .int .u32 0, .int .u8 0, .bool false, .int .u32 0, .int .u32 0, .int .u32 0, .int .u32 0, .bool false]
theorem pr_info : (Tryz.prog.info? 87).map (fun i => (i.zero, i.size, i.bytes)) = some (some zPR, 27, 320) := by kernel_rfl
def mkPR (n : Nat) : Array Value := madeCells zPR.cells (n * 27)
theorem mkPR_size (n : Nat) : (mkPR n).size = n * 27 := by simp [mkPR, madeCells, zPR, Value.cells]
def jsC (al : Int) (A : Option Addr) (len cap : Nat) : Array Value := #[.map none, .map none, .map none, .pointer none, .pointer none, .slice none 0 0, .map none, .slice none 0 0, .int .u32 0, .int .u32 0, .bool false, .int .u8 0, .bool false, .bool false, .bool false, .bool false, .pointer none, .int .i32 0, .int .i32 0, .int .u8 0, .slice none 0 0, .slice none 0 0, .map none, .pointer none, .pointer none, .nilIface, .int .i32 0, .string ⟨#[]⟩, .slice none 0 0, .string ⟨#[]⟩, .map none, .map none, .map none, .map none, .map none, .slice A len cap, .map none, .map none, .slice none 0 0, .string ⟨#[]⟩, .int .i32 0, .int .i32 0, .int .i32 0, .int .i32 0, .int .i32 0, .int .i32 0, .int .i32 0, .int .i32 al, .int .u32 0, .int .u32 0, .int .u32 0, .int .u32 0, .int .u32 0, .int .u32 0, .int .i32 0, .int .u32 0, .int .u32 0, .int .u32 0, .int .u32 0, .bool false, .bool false, .bool false, .int .u8 0, .int .u32 0]
noncomputable def stRun (X Y : Value) (w : World) : Result Next := (execOp (fun o => match o with | .tmp 0 => X | _ => Y) { dst := none, op := .store 87 (.tmp 0) (.tmp 1), type := 0, pos := "", after := #[], guard := none }).run Tryz.prog w
theorem st_step (ρ : Operand → Value) (x y : Operand) (t : TypeId) (p : String) (af : Array Edge) (g : Option (Nat × Bool)) (w : World) : (execOp ρ { dst := none, op := .store 87 x y, type := t, pos := p, after := af, guard := g }).run Tryz.prog w = stRun (ρ x) (ρ y) w := rfl
theorem st_run (w : World) (b o i x : Nat) (ht : w.there b o 27) : stRun (.pointer (some ⟨b, o, none⟩)) (.agg #[.slice none 0 0, .map none, .string ⟨#[]⟩, .nilIface, .iface 157 (.pointer (some ⟨x, 0, none⟩)), .pointer none, .slice none 0 0, .string ⟨#[]⟩, .pointer none, .int .u8 0, .string ⟨#[]⟩, .string ⟨#[]⟩, .string ⟨#[]⟩, .string ⟨#[97, 119, 97, 105, 116, 32, 48, 59, 10]⟩, .string ⟨#[]⟩, .string ⟨#[]⟩, .string ⟨#[]⟩, .string ⟨#[]⟩, .int .u8 0, .int .u32 (i : Int), .int .u8 0, .bool false, .int .u32 0, .int .u32 0, .int .u32 0, .int .u32 0, .bool true]) w = .ok .skip (putRow w b o i x) := by
  unfold stRun execOp
  have h := run_storeAt_mid (P := Tryz.prog) w b o 87 (#[.slice none 0 0, .map none, .string ⟨#[]⟩, .nilIface, .iface 157 (.pointer (some ⟨x, 0, none⟩)), .pointer none, .slice none 0 0, .string ⟨#[]⟩, .pointer none, .int .u8 0, .string ⟨#[]⟩, .string ⟨#[]⟩, .string ⟨#[]⟩, .string ⟨#[97, 119, 97, 105, 116, 32, 48, 59, 10]⟩, .string ⟨#[]⟩, .string ⟨#[]⟩, .string ⟨#[]⟩, .string ⟨#[]⟩, .int .u8 0, .int .u32 (i : Int), .int .u8 0, .bool false, .int .u32 0, .int .u32 0, .int .u32 0, .int .u32 0, .bool true]) ht resI (by kernel_rfl)
  simp only [h, Sem.run_bind, Sem.run_pure, Result.andThen_ok]
  rfl
theorem putRow_grown (w : World) (b o i x : Nat) : w.grownBy (putRow w b o i x) (some b) := setCells_grown _ _ _ _
theorem putRow_blk {w : World} {b o i x : Nat} {cs : Array Value} (h : Blk w b 87 cs) : Blk (putRow w b o i x) b 87 (putL cs o (prRow i x)) := Blk.setCells _ _ _ _ _ _ h
/-- The scanner's cells. -/
noncomputable def scC (a0 a1 a2 a3 a4 a5 s : Value) : Array Value := ((((((Tryz.zeroCells153.setIfInBounds 11 s).setIfInBounds 0 a0).setIfInBounds 1 a1).setIfInBounds 2 a2).setIfInBounds 3 a3).setIfInBounds 4 a4).setIfInBounds 5 a5
set_option maxRecDepth 1000000 in
theorem run_bsc (a0 a1 a2 a3 a4 a5 : Value) (A : Option Addr) (n c : Nat) (w : World) : (Instr.build 153 #[(6, .slice A n c), (0, .agg #[a0, a1, a2, a3, a4, a5])]).run Tryz.prog w = .ok (.agg (scC a0 a1 a2 a3 a4 a5 (.slice A n c))) w := by
  go_simp
  rfl
theorem scC_11 (a0 a1 a2 a3 a4 a5 s : Value) : (scC a0 a1 a2 a3 a4 a5 s)[11]? = some s := by
  have h2 := Tryz.zeroCells153_size
  unfold scC
  rw [Array.getElem?_setIfInBounds_ne (by omega), Array.getElem?_setIfInBounds_ne (by omega), Array.getElem?_setIfInBounds_ne (by omega), Array.getElem?_setIfInBounds_ne (by omega), Array.getElem?_setIfInBounds_ne (by omega), Array.getElem?_setIfInBounds_ne (by omega), Array.getElem?_setIfInBounds_self_of_lt (by omega)]
/-- A file is laid. -/
def SetPost (rb i : Nat) (al : Int) (A : Option Addr) (len cap : Nat) (w : World) (e : Ending) (w' : World) : Prop := ∃ x wa, e = .returned (.tuple #[]) ∧ w.grownBy wa none ∧ Blk wa x 191 (jsC al A len cap) ∧ w' = putRow wa rb (i * 27) i x
set_option maxHeartbeats 4000000 in
set_option maxRecDepth 100000 in
theorem set_any (rb sb n cp i : Nat) (al : Int) (A : Option Addr) (len cap : Nat) (css cs : Array Value) (w : World) (hn : n ≤ 65536) (hi : i < n) (hsb : Blk w sb 153 css) (h11 : css[11]? = some (.slice (some ⟨rb, 0, none⟩) n cp)) (hb : Blk w rb 87 cs) (hsz : cs.size = n * 27) :
    Calls Tryz.prog 19 #[.pointer (some ⟨sb, 0, none⟩), .int .i64 (i : Int), .int .i32 al, .slice A len cap] w (SetPost rb i al A len cap w) := by
  have c11 := (hsb.cell 11).trans h11
  have hii : (i : Int) < (n : Int) := by omega
  have hwi : IntKind.u32.wrap (i : Int) = (i : Int) := by rw [IntKind.wrap_u32']; omega
  have hth : ∀ o : Obj, (w.alloc o).there rb (i * 27) 27 := fun o j hj => by
    have h := hb.alloc o
    refine ⟨?_, h.frozen _⟩
    rw [h.cell, Array.getElem?_eq_getElem (by omega)]; rfl
  have HF : Hid (Blk (w.alloc (.cells (jsC al A len cap) 191)) w.heap.size 191 (jsC al A len cap)) := Lib.hid (Blk.new _ _ _)
  have HG : Hid (w.grownBy (w.alloc (.cells (jsC al A len cap) 191)) none) := Lib.hid (only_alloc (World.grownBy.refl _ _) _)
  clear hsb h11 hb hsz
  go_enter Tryz.func19, Tryz.ntmps19
  go_wp2_with (refine wpList_store_mid rfl 87 (.tmp 26) (.tmp 25) rfl rb (i * 27) (#[.slice none 0 0, .map none, .string ⟨#[]⟩, .nilIface, .iface 157 (.pointer (some ⟨w.heap.size, 0, none⟩)), .pointer none, .slice none 0 0, .string ⟨#[]⟩, .pointer none, .int .u8 0, .string ⟨#[]⟩, .string ⟨#[]⟩, .string ⟨#[]⟩, .string ⟨#[97, 119, 97, 105, 116, 32, 48, 59, 10]⟩, .string ⟨#[]⟩, .string ⟨#[]⟩, .string ⟨#[]⟩, .string ⟨#[]⟩, .int .u8 0, .int .u32 (i : Int), .int .u8 0, .bool false, .int .u32 0, .int .u32 0, .int .u32 0, .int .u32 0, .bool true]) rfl rfl (hth _) resI (by kernel_rfl) ?_)
  go_wp2
  go_end0
  exact ⟨_, _, rfl, HG.out, HF.out, rfl⟩
attribute [local irreducible] putRow
attribute [local go_sem ↓] st_step
attribute [local go_sem] st_run
/-- A new scanner: n empty results. -/
def NewSPost (n : Nat) (w : World) (e : Ending) (w' : World) : Prop := ∃ rb sb css, e = .returned (.pointer (some ⟨sb, 0, none⟩)) ∧ w.heap.size ≤ rb ∧ Blk w' rb 87 (mkPR n) ∧ Blk w' sb 153 css ∧ css[11]? = some (.slice (some ⟨rb, 0, none⟩) n n) ∧ w.grownBy w' none
set_option maxHeartbeats 4000000 in
set_option maxRecDepth 100000 in
theorem news_any (n : Nat) (w : World) (hn : n ≤ 65536) : Calls Tryz.prog 16 #[.int .i64 (n : Int)] w (NewSPost n w) := by
  obtain ⟨k0, hk0, hw0, hw1, hw2⟩ := info_parts pr_info
  have hmk2 : ∀ W : World, (Instr.makeSlice 100 (.int .i64 (n : Int)) (.int .i64 (n : Int))).run Tryz.prog W = .ok (.slice (some ⟨W.heap.size, 0, none⟩) n n) (W.alloc (.cells (mkPR n) 87)) := fun W => by
    have := run_make (P := Tryz.prog) W 100 87 k0 zPR Tryz.underlying100 hk0 hw0 .i64 .i64 n n (by omega) (by omega) (by rw [hw2]; omega) (by omega)
    simp only [Int.toNat_natCast, hw1] at this
    exact this
  have hnd : ∀ W, Calls Tryz.prog 23 #[.int .u8 0, .map none] W (fun e w' => ∃ a0 a1 a2 a3 a4 a5, e = .returned (.agg #[a0, a1, a2, a3, a4, a5]) ∧ W.grownBy w' none) := fun W => (new_any W).mono fun e w' h => ⟨_, _, _, _, _, _, h.1, h.2⟩
  have HND := Lib.hid hnd
  clear hnd
  clear hk0 hw0 hw1 hw2
  go_enter Tryz.func16, Tryz.ntmps16
  go_wp2_with fail
  go_region_law (go_simp; go_at_call 23; (with_reducible refine (HND.out _).mono ?_); rintro e' wg ⟨a0, a1, a2, a3, a4, a5, rfl, hg⟩; have HGR := Lib.hid hg; clear hg; dsimp only; go_simp)
  all_goals
    go_wp2
    go_ret
    first
      | exact ⟨w.heap.size, wg.heap.size, _, rfl, Nat.le_refl _, Blk.alloc (Blk.grown (Blk.new w _ _) (⟨HGR.out.os, HGR.out.tape, HGR.out.output, HGR.out.size, HGR.out.block⟩ : (w.alloc (.cells (mkPR n) 87)).grownBy wg none) (by simp)) _, Blk.new wg _ _, scC_11 _ _ _ _ _ _ _, only_alloc (grownBy_acc (only_alloc (World.grownBy.refl w none) _) (⟨HGR.out.os, HGR.out.tape, HGR.out.output, HGR.out.size, HGR.out.block⟩ : (w.alloc (.cells (mkPR n) 87)).grownBy wg none)) _⟩
      | exact ⟨wg.heap.size, wg.heap.size + 1, _, rfl, HGR.out.size, (Blk.new wg _ _).alloc _, (by
          have e : (wg.alloc (.cells (mkPR n) 87)).heap.size = wg.heap.size + 1 := by simp
          rw [← e]
          exact Blk.new _ _ _), scC_11 _ _ _ _ _ _ _, only_alloc (only_alloc (⟨HGR.out.os, HGR.out.tape, HGR.out.output, HGR.out.size, HGR.out.block⟩ : w.grownBy wg none) _) _⟩
end Go.Proofs.YtecncdcfmmceeaaGreat
