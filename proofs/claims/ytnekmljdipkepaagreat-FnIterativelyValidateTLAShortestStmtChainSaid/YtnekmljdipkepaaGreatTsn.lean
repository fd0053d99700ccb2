/- ZZnewGraphScanner: a scanner whose files are JS modules with their records. -/
import Derived.Test.YtnekmljdipkepaaGreatTsm
import Derived.Test.YtnekmljdipkepaaGreatTli
import Derived.Deep.AppendLies
import Derived.Deep.MidRow
import Derived.Deep.RegionLaw
import Derived.Test.YtnekmljdipkepaaGreatNlg
namespace Go.Proofs.YtnekmljdipkepaaGreat
open Go.RowKit
set_option linter.unusedVariables false
set_option linter.unusedSimpArgs false
theorem rec_info : (Tryz.prog.info? 62).map (fun i => (i.zero, i.size, i.bytes)) = some (some (.agg #[.pointer none, .pointer none, .string ⟨#[]⟩, .string ⟨#[]⟩, .string ⟨#[]⟩, .string ⟨#[]⟩, .int .u8 0, .int .i32 0, .int .i32 0, .int .i32 0, .int .u32 0, .int .u32 0, .int .u16 0, .int .u8 0, .int .u8 0]), 15, 112) := by kernel_rfl
theorem recs_info : (Tryz.prog.info? 42).map (fun i => (i.zero, i.size, i.bytes)) = some (some (.slice none 0 0), 1, 24) := by kernel_rfl
/-- The graph that the columns say. -/
def gr (n : Nat) (ok aw : Nat → Bool) (fr tg kd : Nat → Nat) (m : Nat) : TG := ⟨n, fun j => decide (j < n) && ok j, aw, rlE fr tg kd m⟩
def σ0 : TS := ⟨fun _ => INV, fun _ => INV, fun _ => 0, fun _ => 0⟩
/-- What the columns are. -/
structure Cols (w : World) (n m : Nat) (ok aw : Nat → Bool) (fr tg kd : Nat → Nat) (Ao Aa Af At Ak Ab : Option Addr) : Prop where
  ok_ : Arr w 4 Ao n (fun j => .bool (ok j))
  aw_ : Arr w 4 Aa n (fun j => .bool (aw j))
  fr_ : Arr w 38 Af m (fun j => .int .u32 (fr j : Int))
  to_ : Arr w 38 At m (fun j => .int .u32 (tg j : Int))
  kd_ : Arr w 46 Ak m (fun j => .int .u8 ((kd j + 1 : Nat) : Int))
  bl_ : Arr w 9 Ab n (fun _ => .string ⟨#[]⟩)
theorem Cols.below {w w' : World} {n m : Nat} {ok aw : Nat → Bool} {fr tg kd : Nat → Nat} {Ao Aa Af At Ak Ab : Option Addr} (h : Cols w n m ok aw fr tg kd Ao Aa Af At Ak Ab) (hb : Below w.heap.size w w') : Cols w' n m ok aw fr tg kd Ao Aa Af At Ak Ab :=
  ⟨h.ok_.below hb, h.aw_.below hb, h.fr_.below hb, h.to_.below hb, h.kd_.below hb, h.bl_.below hb⟩
theorem below_grown {a b c : World} (h : Below a.heap.size a b) (k : b.grownBy c none) : Below a.heap.size a c := ⟨k.os.trans h.os, k.tape.trans h.tape, k.output.trans h.output, Nat.le_trans h.size k.size, fun i hi => (k.block i (Nat.lt_of_lt_of_le hi h.size) (by simp)).trans (h.block i hi)⟩
theorem below_row {a b c : World} {row : Option Nat} (h : Below a.heap.size a b) (k : b.grownBy c row) (hr : ∀ g, row = some g → a.heap.size ≤ g) : Below a.heap.size a c := ⟨k.os.trans h.os, k.tape.trans h.tape, k.output.trans h.output, Nat.le_trans h.size k.size, fun i hi => (k.block i (Nat.lt_of_lt_of_le hi h.size) (fun e => by have := hr i e.symm; omega)).trans (h.block i hi)⟩
/-- Loop 1: e edges are laid. -/
structure L1 (w : World) (n : Nat) (fr tg kd : Nat → Nat) (rt e : Nat) (wr : World) : Prop where
  tab : ∃ vs, Tab wr w.heap.size rt n (rlE fr tg kd e) vs
  bel : Below w.heap.size w wr
def putL : Array Value → Nat → List Value → Array Value
  | cs, _, [] => cs
  | cs, o, v :: r => putL (cs.setIfInBounds o v) (o + 1) r
theorem putL_size : ∀ (l : List Value) (cs : Array Value) (o : Nat), (putL cs o l).size = cs.size
  | [], _, _ => rfl
  | v :: r, cs, o => by rw [putL, putL_size r]; simp
theorem putL_out : ∀ (l : List Value) (cs : Array Value) (o j : Nat), (j < o ∨ o + l.length ≤ j) → (putL cs o l)[j]? = cs[j]?
  | [], _, _, _, _ => rfl
  | v :: r, cs, o, j, h => by
    rw [List.length_cons] at h
    rw [putL, putL_out r _ _ _ (by omega), Array.getElem?_setIfInBounds_ne (by omega)]
theorem putL_in : ∀ (l : List Value) (cs : Array Value) (o j : Nat), j < l.length → o + l.length ≤ cs.size → (putL cs o l)[o + j]? = l[j]?
  | [], _, _, _, h, _ => absurd h (Nat.not_lt_zero _)
  | v :: r, cs, o, 0, _, hs => by
    rw [List.length_cons] at hs
    rw [putL, putL_out r _ _ _ (by omega), Nat.add_zero, Array.getElem?_setIfInBounds_self_of_lt (by omega)]; rfl
  | v :: r, cs, o, j + 1, h, hs => by
    rw [List.length_cons] at h hs
    have := putL_in r (cs.setIfInBounds o v) (o + 1) j (by omega) (by simpa using (by omega : o + 1 + r.length ≤ cs.size))
    rw [putL, show o + (j + 1) = o + 1 + j by omega, this]; rfl
theorem Blk.setCells : ∀ (l : List Value) (w : World) (g o : Nat) (t : TypeId) (cs : Array Value), Blk w g t cs → Blk (w.setCells g o l) g t (putL cs o l)
  | [], _, _, _, _, _, h => h
  | v :: r, w, g, o, t, cs, h => Blk.setCells r _ g (o + 1) t _ (h.set_ o v)
theorem setCells_grown : ∀ (l : List Value) (w : World) (g o : Nat), w.grownBy (w.setCells g o l) (some g)
  | [], w, _, _ => World.grownBy.refl _ _
  | v :: r, w, g, o => grownBy_acc (only_setCell (World.grownBy.refl w (some g)) (p := ⟨g, o, none⟩) (.inl rfl) v) (setCells_grown r _ g (o + 1))
theorem Tab.row_ {w w' : World} {base rt n rb : Nat} {rl : Nat → List (Nat × Nat)} {vs : Nat → Value} {c : Array Value} (h : Tab w base rt n rl vs) (hg : w.grownBy w' (some rb)) (hb : Blk w rb 127 c) : Tab w' base rt n rl vs := by
  obtain ⟨⟨cs, h1, h2⟩, h3, h4⟩ := h
  exact ⟨⟨cs, h1.grown hg (fun e => h1.ne_ hb (by decide) (Option.some.inj e)), h2⟩, fun i hi => (h3 i hi).kept hg (.inr (own_blk_ne (h3 i hi) hb (by decide))), h4⟩
theorem JsOK.row_ {G : TG} {w w' : World} {b i rb : Nat} {c : Array Value} (h : JsOK G w b i) (hg : w.grownBy w' (some rb)) (hb : Blk w rb 127 c) : JsOK G w' b i := by
  obtain ⟨csj, h1, h2, A, cap, h3, h4⟩ := h
  refine ⟨csj, h1.grown hg (fun e => h1.ne_ hb (by decide) (Option.some.inj e)), h2, A, cap, h3, fun hn => ?_⟩
  obtain ⟨g, cur, e, h5, h6⟩ := h4 hn
  exact ⟨g, cur, e, h5.grown hg (fun e => h5.ne_ hb (by decide) (Option.some.inj e)), h6⟩
theorem JsOK.kept {G : TG} {w w' : World} {b i : Nat} (h : JsOK G w b i) (hg : w.grownBy w' none) : JsOK G w' b i := by
  obtain ⟨csj, h1, h2, A, cap, h3, h4⟩ := h
  refine ⟨csj, h1.grown hg (by simp), h2, A, cap, h3, fun hn => ?_⟩
  obtain ⟨g, cur, e, h5, h6⟩ := h4 hn
  exact ⟨g, cur, e, h5.grown hg (by simp), h6⟩
/-- One file's 27 cells. -/
def prRow (i : Nat) (b : Bool) (x : Nat) : List Value := [.slice none 0 0, .map none, .string ⟨#[]⟩, .nilIface, .iface 68 (.pointer (some ⟨x, 0, none⟩)), .pointer none, .slice none 0 0, .string ⟨#[]⟩, .pointer none, .int .u8 0, .string ⟨#[]⟩, .string ⟨#[]⟩, .string ⟨#[]⟩, .string ⟨#[]⟩, .string ⟨#[]⟩, .string ⟨#[]⟩, .string ⟨#[]⟩, .string ⟨#[]⟩, .int .u8 0, .int .u32 (i : Int), .int .u8 0, .bool false, .int .u32 0, .int .u32 0, .int .u32 0, .int .u32 0, .bool b]
def putRow (w : World) (b o i : Nat) (k : Bool) (x : Nat) : World := w.setCells b o (prRow i k x)
def Row (jb : Nat → Nat) (ok : Nat → Bool) (cs : Array Value) (i : Nat) : Prop := cs[i * 27 + 4]? = some (.iface 68 (.pointer (some ⟨jb i, 0, none⟩))) ∧ cs[i * 27 + 22]? = some (.int .u32 0) ∧ cs[i * 27 + 23]? = some (.int .u32 0) ∧ cs[i * 27 + 24]? = some (.int .u32 0) ∧ cs[i * 27 + 25]? = some (.int .u32 0) ∧ cs[i * 27 + 26]? = some (.bool (ok i))
/-- Loop 2: k files are laid. -/
structure L2 (w : World) (G : TG) (ok : Nat → Bool) (rt rb k : Nat) (jb : Nat → Nat) (wr : World) : Prop where
  tab : ∃ vs, Tab wr w.heap.size rt G.n G.recs vs
  res : ∃ cs, Blk wr rb 127 cs ∧ cs.size = G.n * 27 ∧ ∀ i, i < k → Row jb ok cs i
  js : ∀ i, i < k → JsOK G wr (jb i) i
  bel : Below w.heap.size w wr
theorem L2.step {w : World} {G : TG} {ok : Nat → Bool} {rt rb k : Nat} {jb : Nat → Nat} {wr : World} (h : L2 w G ok rt rb k jb wr) (hk : k < G.n) (hrb : w.heap.size ≤ rb) {wa : World} {x : Nat} (hg : wr.grownBy wa none) (hj : JsOK G wa x k) : L2 w G ok rt rb (k + 1) (updF jb k x) (putRow wa rb (k * 27) k (ok k) x) := by
  obtain ⟨⟨vs, h1⟩, ⟨cs, h2, h3, h4⟩, h5, h6⟩ := h
  have hb := h2.grown hg (by simp)
  have hgr := setCells_grown (prRow k (ok k) x) wa rb (k * 27)
  have hfit : k * 27 + (prRow k (ok k) x).length ≤ cs.size := by
    rw [h3]; show k * 27 + 27 ≤ _; omega
  refine ⟨⟨vs, (h1.kept hg).row_ hgr hb⟩, ⟨_, Blk.setCells (prRow k (ok k) x) wa rb (k * 27) 127 cs hb, by rw [putL_size]; exact h3, fun i hi => ?_⟩, fun i hi => ?_, below_row (below_grown h6 hg) hgr (fun g e => by injection e with e; omega)⟩
  · rcases Nat.lt_or_ge i k with h7 | h7
    · have ho : ∀ j, j < 27 → (putL cs (k * 27) (prRow k (ok k) x))[i * 27 + j]? = cs[i * 27 + j]? := fun j hj => putL_out _ _ _ _ (.inl (by omega))
      have e : updF jb k x i = jb i := updF_ne _ _ (by omega)
      unfold Row
      rw [ho 4 (by omega), ho 22 (by omega), ho 23 (by omega), ho 24 (by omega), ho 25 (by omega), ho 26 (by omega), e]
      exact h4 i h7
    · obtain rfl : i = k := by omega
      have ho : ∀ j, j < 27 → (putL cs (i * 27) (prRow i (ok i) x))[i * 27 + j]? = (prRow i (ok i) x)[j]? := fun j hj => putL_in _ _ _ _ hj hfit
      unfold Row
      rw [ho 4 (by omega), ho 22 (by omega), ho 23 (by omega), ho 24 (by omega), ho 25 (by omega), ho 26 (by omega), updF_self]
      exact ⟨rfl, rfl, rfl, rfl, rfl, rfl⟩
  · rcases Nat.lt_or_ge i k with h7 | h7
    · rw [updF_ne _ _ (by omega)]; exact ((h5 i h7).kept hg).row_ hgr hb
    · obtain rfl : i = k := by omega
      rw [updF_self]; exact hj.row_ hgr hb
theorem L2.fin {w : World} {G : TG} {ok : Nat → Bool} {rt rb : Nat} {jb : Nat → Nat} {wr : World} (h : L2 w G ok rt rb G.n jb wr) (hok : ∀ i, i < G.n → G.ok i = ok i) {wz : World} (hg : wr.grownBy wz none) {sb cap : Nat} {css : Array Value} (hb : Blk wz sb 187 css) (h11 : css[11]? = some (.slice (some ⟨rb, 0, none⟩) G.n cap)) (hc : G.n ≤ cap) : TW1 G rb sb jb σ0 wz := by
  obtain ⟨_, ⟨cs, h2, h3, h4⟩, h5, _⟩ := h
  refine ⟨⟨cs, h2.grown hg (by simp), h3, fun i hi => ?_⟩, ⟨css, cap, hb, h11, hc⟩, fun i hi _ => (h5 i hi).kept hg⟩
  obtain ⟨r1, r2, r3, r4, r5, r6⟩ := h4 i hi
  have e0 : ((INV - INV : Nat) : Int) = 0 := by rw [Nat.sub_self]; rfl
  refine ⟨fun _ => r1, ?_, ?_, r4, r5, by rw [hok i hi]; exact r6⟩
  · show _ = some (Value.int .u32 ((INV - INV : Nat) : Int)); rw [e0]; exact r2
  · show _ = some (Value.int .u32 ((INV - INV : Nat) : Int)); rw [e0]; exact r3
theorem L2.there {w : World} {G : TG} {ok : Nat → Bool} {rt rb k : Nat} {jb : Nat → Nat} {wr : World} (h : L2 w G ok rt rb k jb wr) (hk : k < G.n) : wr.there rb (k * 27) 27 := by
  obtain ⟨_, ⟨cs, h2, h3, h4⟩, _⟩ := h
  intro j hj
  refine ⟨?_, h2.frozen _⟩
  rw [h2.cell, Array.getElem?_eq_getElem (by omega)]; rfl
def zPR : Value := .agg #[.slice none 0 0, .map none, .string ⟨#[]⟩, .nilIface, .nilIface, .pointer none, .slice none 0 0, .string ⟨#[]⟩, .pointer none, .int .u8 0, .string ⟨#[]⟩, .string ⟨#[]⟩, .string ⟨#[]⟩, .string ⟨#[]⟩, .string ⟨#[]⟩, .string ⟨#[]⟩, .string ⟨#[]⟩, .string ⟨#[]⟩, .int .u8 0, .int .u32 0, .int .u8 0, .bool false, .int .u32 0, .int .u32 0, .int .u32 0, .int .u32 0, .bool false]
theorem pr_info : (Tryz.prog.info? 127).map (fun i => (i.zero, i.size, i.bytes)) = some (some zPR, 27, 320) := by kernel_rfl
def mkPR (n : Nat) : Array Value := madeCells zPR.cells (n * 27)
theorem mkPR_size (n : Nat) : (mkPR n).size = n * 27 := by simp [mkPR, madeCells, zPR, Value.cells]
def jsC (al : Int) (A : Option Addr) (len cap : Nat) : Array Value := #[.map none, .map none, .map none, .pointer none, .pointer none, .slice none 0 0, .map none, .slice none 0 0, .int .u32 0, .int .u32 0, .bool false, .int .u8 0, .bool false, .bool false, .bool false, .bool false, .pointer none, .int .i32 0, .int .i32 0, .int .u8 0, .slice none 0 0, .slice none 0 0, .map none, .pointer none, .pointer none, .nilIface, .int .i32 0, .string ⟨#[]⟩, .slice none 0 0, .string ⟨#[]⟩, .map none, .map none, .map none, .map none, .map none, .slice A len cap, .map none, .map none, .slice none 0 0, .string ⟨#[]⟩, .int .i32 0, .int .i32 0, .int .i32 0, .int .i32 0, .int .i32 0, .int .i32 0, .int .i32 0, .int .i32 al, .int .u32 0, .int .u32 0, .int .u32 0, .int .u32 0, .int .u32 0, .int .u32 0, .int .i32 0, .int .u32 0, .int .u32 0, .int .u32 0, .int .u32 0, .bool false, .bool false, .bool false, .int .u8 0, .int .u32 0]
def ScanPost (n m : Nat) (ok aw : Nat → Bool) (fr tg kd : Nat → Nat) (w : World) (e : Ending) (w' : World) : Prop :=
  ∃ rb sb jb, e = .returned (.pointer (some ⟨sb, 0, none⟩)) ∧ w.heap.size ≤ rb ∧ TW1 (gr n ok aw fr tg kd m) rb sb jb σ0 w' ∧ Below w.heap.size w w'
noncomputable def stRun (X Y : Value) (w : World) : Result Next := (execOp (fun o => match o with | .tmp 0 => X | _ => Y) { dst := none, op := .store 127 (.tmp 0) (.tmp 1), type := 0, pos := "", after := #[], guard := none }).run Tryz.prog w
theorem st_step (ρ : Operand → Value) (x y : Operand) (t : TypeId) (p : String) (af : Array Edge) (g : Option (Nat × Bool)) (w : World) : (execOp ρ { dst := none, op := .store 127 x y, type := t, pos := p, after := af, guard := g }).run Tryz.prog w = stRun (ρ x) (ρ y) w := rfl
theorem st_run (w : World) (b o i : Nat) (k : Bool) (x : Nat) (ht : w.there b o 27) : stRun (.pointer (some ⟨b, o, none⟩)) (.agg #[.slice none 0 0, .map none, .string ⟨#[]⟩, .nilIface, .iface 68 (.pointer (some ⟨x, 0, none⟩)), .pointer none, .slice none 0 0, .string ⟨#[]⟩, .pointer none, .int .u8 0, .string ⟨#[]⟩, .string ⟨#[]⟩, .string ⟨#[]⟩, .string ⟨#[]⟩, .string ⟨#[]⟩, .string ⟨#[]⟩, .string ⟨#[]⟩, .string ⟨#[]⟩, .int .u8 0, .int .u32 (i : Int), .int .u8 0, .bool false, .int .u32 0, .int .u32 0, .int .u32 0, .int .u32 0, .bool k]) w = .ok .skip (putRow w b o i k x) := by
  unfold stRun execOp
  have h := run_storeAt_mid (P := Tryz.prog) w b o 127 (#[.slice none 0 0, .map none, .string ⟨#[]⟩, .nilIface, .iface 68 (.pointer (some ⟨x, 0, none⟩)), .pointer none, .slice none 0 0, .string ⟨#[]⟩, .pointer none, .int .u8 0, .string ⟨#[]⟩, .string ⟨#[]⟩, .string ⟨#[]⟩, .string ⟨#[]⟩, .string ⟨#[]⟩, .string ⟨#[]⟩, .string ⟨#[]⟩, .string ⟨#[]⟩, .int .u8 0, .int .u32 (i : Int), .int .u8 0, .bool false, .int .u32 0, .int .u32 0, .int .u32 0, .int .u32 0, .bool k]) ht resI (by kernel_rfl)
  simp only [h, Sem.run_bind, Sem.run_pure, Result.andThen_ok]
  rfl
theorem putRow_grown (w : World) (b o i : Nat) (k : Bool) (x : Nat) : w.grownBy (putRow w b o i k x) (some b) := setCells_grown _ _ _ _
theorem putRow_blk {w : World} {b o i : Nat} {k : Bool} {x : Nat} {cs : Array Value} (h : Blk w b 127 cs) : ∃ c, Blk (putRow w b o i k x) b 127 c ∧ c.size = cs.size := ⟨_, Blk.setCells _ _ _ _ _ _ h, putL_size _ _ _⟩
noncomputable def scC (a0 a1 a2 a3 a4 a5 s m : Value) : Array Value := (((((((Tryz.zeroCells187.setIfInBounds 0 a0).setIfInBounds 1 a1).setIfInBounds 2 a2).setIfInBounds 3 a3).setIfInBounds 4 a4).setIfInBounds 5 a5).setIfInBounds 11 s).setIfInBounds 12 m
set_option maxRecDepth 1000000 in
theorem run_bsc (a0 a1 a2 a3 a4 a5 : Value) (A : Option Addr) (n c : Nat) (q : Option Nat) (w : World) : (Instr.build 187 #[(0, .agg #[a0, a1, a2, a3, a4, a5]), (6, .slice A n c), (7, .map q)]).run Tryz.prog w = .ok (.agg (scC a0 a1 a2 a3 a4 a5 (.slice A n c) (.map q))) w := by
  go_simp
  rfl
theorem scC_11 (a0 a1 a2 a3 a4 a5 s m : Value) : (scC a0 a1 a2 a3 a4 a5 s m)[11]? = some s := by
  have h2 := Tryz.zeroCells187_size
  unfold scC
  rw [Array.getElem?_setIfInBounds_ne (by omega), Array.getElem?_setIfInBounds_self_of_lt (by simp only [Array.size_setIfInBounds]; omega)]
theorem wpList_build_sc (w : World) {ops : Array Oper} {rest : List Oper} {o : Oper} {a : Act} {Q : Exit → Act → World → Prop} (hgd : o.guard = none) (x y z : Operand) (ho : o.op = .build 187 #[(0, x), (6, y), (7, z)])
    {a0 a1 a2 a3 a4 a5 : Value} {A : Option Addr} {n c : Nat} {q : Option Nat} (hx : a.eval x = .agg #[a0, a1, a2, a3, a4, a5]) (hy : a.eval y = .slice A n c) (hz : a.eval z = .map q)
    (h : wpList Tryz.prog ops Q rest (a.put o.dst (.agg (scC a0 a1 a2 a3 a4 a5 (.slice A n c) (.map q)))) w) : wpList Tryz.prog ops Q (o :: rest) a w :=
  wpList_plain hgd fun _ hK => by
    unfold Oper.wp execOp
    simp only [ho, List.map_toArray, List.map_cons, List.map_nil, hx, hy, hz, Sem.run_bind, Sem.run_pure, Result.andThen_ok, run_bsc]
    exact hK _ _ h
theorem run_box (w : World) (cells : Array Value) : (Instr.box 187 (.agg cells)).run Tryz.prog w = .ok (.pointer (some ⟨w.heap.size, 0, none⟩)) (w.alloc (.cells cells 187)) := rfl
theorem wpList_box_sc (w : World) {ops : Array Oper} {rest : List Oper} {o : Oper} {a : Act} {Q : Exit → Act → World → Prop} (hgd : o.guard = none) (x : Operand) (ho : o.op = .box 187 x)
    {cells : Array Value} (hx : a.eval x = .agg cells)
    (h : wpList Tryz.prog ops Q rest (a.put o.dst (.pointer (some ⟨w.heap.size, 0, none⟩))) (w.alloc (.cells cells 187))) : wpList Tryz.prog ops Q (o :: rest) a w :=
  wpList_plain hgd fun _ hK => by
    unfold Oper.wp execOp
    simp only [ho, hx, Sem.run_bind, Sem.run_pure, Result.andThen_ok, run_box]
    exact hK _ _ h
attribute [local irreducible] scC
attribute [local irreducible] putRow
attribute [local go_sem ↓] st_step
attribute [local go_sem] st_run
set_option maxHeartbeats 8000000 in
set_option maxRecDepth 100000 in
theorem scan_any (n m : Nat) (ok aw : Nat → Bool) (fr tg kd : Nat → Nat) (Ao Aa Af At Ak Ab : Option Addr) (co ca cf ct ck cb : Nat) (w : World) (hc : Cols w n m ok aw fr tg kd Ao Aa Af At Ak Ab) (hn : n ≤ 65536) (hm : m ≤ 65536) (hf : ∀ j, j < m → fr j < n) (ht : ∀ j, j < m → tg j < n) (hk : ∀ j, kd j ≤ 2) :
    Calls Tryz.prog 9 #[.slice Ao n co, .slice Aa n ca, .slice Af m cf, .slice At m ct, .slice Ak m ck, .slice Ab n cb, .slice Ab n cb] w (ScanPost n m ok aw fr tg kd w) := by
  obtain ⟨i0, hi0, hz0, hz1, hz2⟩ := info_parts rec_info
  obtain ⟨j0, hj0, hy0, hy1, hy2⟩ := info_parts recs_info
  have hmk : ∀ W : World, (Instr.makeSlice 41 (.int .i64 (n : Int)) (.int .i64 (n : Int))).run Tryz.prog W = .ok (.slice (some ⟨W.heap.size, 0, none⟩) n n) (W.alloc (.cells (madeCells #[.slice none 0 0] n) 42)) := fun W => by
    have := run_make (P := Tryz.prog) W 41 42 j0 (.slice none 0 0) Tryz.underlying41 hj0 hy0 .i64 .i64 n n (by omega) (by omega) (by rw [hy2]; omega) (by omega)
    simpa [hy1, Value.cells] using this
  obtain ⟨W1, hW1⟩ : ∃ W, W = w.alloc (.cells (madeCells #[Value.slice none 0 0] n) 42) := ⟨_, rfl⟩
  have HL0 : Hid (L1 w n fr tg kd w.heap.size 0 W1) := Lib.hid (by
    rw [hW1]
    refine ⟨⟨_, Tab.zero (Blk.new _ _ _) (by simp [madeCells]) (fun i hi => by simp [madeCells, hi, Nat.mod_one])⟩, (Below.refl _ _).alloc (Nat.le_refl _) _⟩)
  have HC := Lib.hid hc; have HF := Lib.hid hf; have HT := Lib.hid ht; have HK := Lib.hid hk
  clear hc hf ht hk hj0 hy0 hy1 hy2
  go_enter Tryz.func9, Tryz.ntmps9
  go_upto_region 3 with fail
  rw [← hW1]
  clear hW1 hmk
  go_wp2
  go_loopw [17] (fun iv wr => ∃ e : Nat, iv = .int .i64 (e : Int) ∧ e ≤ m ∧ L1 w n fr tg kd w.heap.size e wr) (fun iv _ => m - (intOf iv).toNat)
  case atStart => exact ⟨0, rfl, Nat.zero_le _, HL0.out⟩
  case round =>
    obtain ⟨e, rfl, he, hl1⟩ := hrel
    have HL := Lib.hid hl1
    clear hl1 HL0
    by_cases hlt : e < m
    · have hlt' : (e : Int) < (m : Int) := by omega
      obtain ⟨vs, htab⟩ := HL.out.tab
      have hcw := HC.out.below HL.out.bel
      obtain ⟨gf, rfl, c1⟩ := hcw.fr_.at_ hlt
      obtain ⟨gt, cs2, rfl, b2, x2⟩ := hcw.to_ (by omega)
      obtain ⟨gk, cs3, rfl, b3, x3⟩ := hcw.kd_ (by omega)
      have c2 : wr.cell? ⟨gt, e, none⟩ = some (.int .u32 (tg e : Int)) := (b2.cell e).trans (x2 e hlt)
      have c3 : wr.cell? ⟨gk, e, none⟩ = some (.int .u8 ((kd e + 1 : Nat) : Int)) := (b3.cell e).trans (x3 e hlt)
      have hfn := HF.out e hlt
      obtain ⟨f, hfe⟩ : ∃ f, f = fr e := ⟨_, rfl⟩
      obtain ⟨t, hte⟩ : ∃ t, t = tg e := ⟨_, rfl⟩
      obtain ⟨kc, hke⟩ : ∃ k, k = kd e := ⟨_, rfl⟩
      rw [← hfe] at c1 hfn
      rw [← hte] at c2
      rw [← hke] at c3
      have htI : t ≤ INV := by have := HT.out e hlt; unfold INV; omega
      have hmk := fun W => mkIx t htI W
      have hfi : (f : Int) < (n : Int) := by omega
      have c4 := htab.cell hfn
      have z4 := htab.z f
      have hrl : rlE fr tg kd (e + 1) = fun j => if f = j then rlE fr tg kd e j ++ [(kc, t)] else rlE fr tg kd e j := by
        funext j; rw [rlE_succ, ← hfe, ← hte, ← hke]
      have hln := rlE_len fr tg kd e f
      obtain ⟨wo, hwo⟩ : ∃ x, x = wr := ⟨_, rfl⟩
      subst hwo
      have HSTEP : Hid (∀ (wg w1 : World) (gg cap : Nat), wo.grownBy wg none → w1.ownsRow w.heap.size 62 15 (.slice (some ⟨gg, 0, none⟩) ((rlE fr tg kd e f).length + 1) cap) ((rlE fr tg kd e f).length + 1) (recsC (rlE fr tg kd e f) ++ recC kc t) → wg.grownBy w1 (vs f).ownBlock → ((vs f).ownBlock = some gg ∨ gg = wg.heap.size) →
          L1 w n fr tg kd w.heap.size (e + 1) (w1.setCell ⟨w.heap.size, f, none⟩ (.slice (some ⟨gg, 0, none⟩) ((rlE fr tg kd e f).length + 1) cap))) := Lib.hid (fun wg w1 gg cap h1 h2 h3 h4 => by
        have hstep := (htab.kept h1).step hfn h2 h3 (fun g hg => by
          obtain rfl : gg = g := by simpa [Value.ownBlock] using hg
          rcases h4 with h5 | h5
          · exact .inl h5
          · exact .inr (by omega))
        rw [← hrl] at hstep
        have hbel := below_row (below_grown HL.out.bel h1) h3 (fun g hg => ((htab.own f hfn).lt g hg).1)
        exact ⟨⟨_, hstep⟩, hbel.setCell (p := ⟨w.heap.size, f, none⟩) (Nat.le_refl _) _⟩)
      have HOWN : Hid (∀ wx : World, wo.grownBy wx none → wx.ownsRow w.heap.size 62 15 (vs f) (rlE fr tg kd e f).length (recsC (rlE fr tg kd e f))) := Lib.hid (fun wx h => (htab.kept h).own f hfn)
      have HA : Hid (∀ wx : World, wo.grownBy wx none → wx.cell? ⟨gt, e, none⟩ = some (.int .u32 (t : Int)) ∧ wx.cell? ⟨gk, e, none⟩ = some (.int .u8 ((kc + 1 : Nat) : Int)) ∧ wx.cell? ⟨w.heap.size, f, none⟩ = some (vs f) ∧ wx.frozen? ⟨w.heap.size, f, none⟩ = false) := Lib.hid (fun wx h =>
        ⟨((b2.grown h (by simp)).cell e).trans (by rw [x2 e hlt, hte]), ((b3.grown h (by simp)).cell e).trans (by rw [x3 e hlt, hke]), (htab.kept h).cell hfn, (htab.kept h).z f⟩)
      have HB : Hid (∀ (wx w1 : World) (u : Value), wo.grownBy wx none → wx.grownBy w1 (vs f).ownBlock → (w1.cell? ⟨gt, e, none⟩ = some (.int .u32 (t : Int)) ∧ w1.cell? ⟨gk, e, none⟩ = some (.int .u8 ((kc + 1 : Nat) : Int))) ∧ (w1.cell? ⟨w.heap.size, f, none⟩ = some (vs f) ∧ w1.frozen? ⟨w.heap.size, f, none⟩ = false) ∧ (w1.setCell ⟨w.heap.size, f, none⟩ u).cell? ⟨gt, e, none⟩ = some (.int .u32 (t : Int)) ∧ (w1.setCell ⟨w.heap.size, f, none⟩ u).cell? ⟨gk, e, none⟩ = some (.int .u8 ((kc + 1 : Nat) : Int))) := Lib.hid (fun wx w1 u h h' => by
        have n2 := own_blk_ne ((htab.kept h).own f hfn) (b2.grown h (by simp)) (by decide)
        have n3 := own_blk_ne ((htab.kept h).own f hfn) (b3.grown h (by simp)) (by decide)
        have d2 := (b2.grown h (by simp)).grown h' (fun e => n2 e.symm)
        have d3 := (b3.grown h (by simp)).grown h' (fun e => n3 e.symm)
        obtain ⟨⟨csr, br, _⟩, _⟩ := htab.kept h
        have f2 := d2.far (p := ⟨w.heap.size, f, none⟩) ((b2.grown h (by simp)).ne_ br (by decide)) u
        have f3 := d3.far (p := ⟨w.heap.size, f, none⟩) ((b3.grown h (by simp)).ne_ br (by decide)) u
        refine ⟨⟨(d2.cell e).trans (by rw [x2 e hlt, hte]), (d3.cell e).trans (by rw [x3 e hlt, hke])⟩, (htab.kept h).cell1 hfn h', (f2.cell e).trans (by rw [x2 e hlt, hte]), (f3.cell e).trans (by rw [x3 e hlt, hke])⟩)
      have hgr : w.heap.size < wo.heap.size := World.block_lt_of_cell? wo _ c4
      have hx1 : ∀ u ∈ recC kc t, u.oneCell' = true := recC_one kc t
      have hx0 : (recC kc t).length = 1 * 15 := rfl
      have hxe : recC kc t = [.pointer none, .pointer none, .string ⟨#[]⟩, .string ⟨#[]⟩, .string ⟨#[]⟩, .string ⟨#[]⟩, .int .u8 0, .int .i32 0, .int .i32 0, .int .i32 0, .int .u32 ((INV - t : Nat) : Int), .int .u32 0, .int .u16 0, .int .u8 0, .int .u8 ((kc + 1 : Nat) : Int)] := rfl
      obtain ⟨vt, hvt⟩ : ∃ v : Nat, v = INV - t := ⟨_, rfl⟩
      obtain ⟨vk, hvk⟩ : ∃ v : Nat, v = kc + 1 := ⟨_, rfl⟩
      obtain ⟨xs, hxs⟩ : ∃ x, x = recC kc t := ⟨_, rfl⟩
      rw [← hvt] at hmk hxe
      rw [← hvk] at c3 HA HB hxe
      rw [← hxs] at HSTEP hx1 hx0 hxe
      obtain ⟨ln, hlne⟩ : ∃ x, x = (rlE fr tg kd e f).length := ⟨_, rfl⟩
      obtain ⟨xs0, hxs0⟩ : ∃ x, x = recsC (rlE fr tg kd e f) := ⟨_, rfl⟩
      rw [← hxs0, ← hlne] at HSTEP HOWN
      rw [← hlne] at hln
      obtain ⟨v0, hv0⟩ : ∃ v, v = vs f := ⟨_, rfl⟩
      rw [← hv0] at c4 HA HB HSTEP HOWN
      subst hxe
      have HMK := Lib.hid hmk; have HX1 := Lib.hid hx1; have HX0 := Lib.hid hx0
      have hm1 : ln + 1 ≤ maxLen := by unfold maxLen; omega
      have hm2 : (ln + 1) * 112 ≤ 140737488355328 := by omega
      have hwe : IntKind.i64.wrap ((e : Int) + 1) = (e : Int) + 1 := by rw [IntKind.wrap_i64]; omega
      clear hcw htab hfe hte hke hvt hvk hfn htI hv0 hxs hxs0 hlne hx1 hx0 hrl b2 x2 b3 x3 hmk
      go_upto_region 7 with fail
      go_region_law
        (first
          | (go_simp; go_at_call 14; (with_reducible refine (HMK.out _).mono ?_); rintro e' wg ⟨rfl, hg⟩
             have HG1 := Lib.hid (show wo.grownBy wg none from ⟨hg.os, hg.tape, hg.output, hg.size, hg.block⟩)
             obtain ⟨q1, q2, q3, q4⟩ := HA.out wg HG1.out
             have HQ1 := Lib.hid (show wg.cell? ⟨gt, e, none⟩ = some (.int .u32 (t : Int)) ∧ wg.cell? ⟨gk, e, none⟩ = some (.int .u8 (vk : Int)) from ⟨q1, q2⟩)
             have HG2 := Lib.hid (only_alloc HG1.out (.cells #[.pointer none, .pointer none, .string ⟨#[]⟩, .string ⟨#[]⟩, .string ⟨#[]⟩, .string ⟨#[]⟩, .int .u8 0, .int .i32 0, .int .i32 0, .int .i32 0, .int .u32 (vt : Int), .int .u32 0, .int .u16 0, .int .u8 0, .int .u8 (vk : Int)] 62))
             obtain ⟨r1, r2, r3, r4⟩ := HA.out _ HG2.out
             have HQ2 := Lib.hid (show (wg.alloc (.cells #[.pointer none, .pointer none, .string ⟨#[]⟩, .string ⟨#[]⟩, .string ⟨#[]⟩, .string ⟨#[]⟩, .int .u8 0, .int .i32 0, .int .i32 0, .int .i32 0, .int .u32 (vt : Int), .int .u32 0, .int .u16 0, .int .u8 0, .int .u8 (vk : Int)] 62)).cell? ⟨gt, e, none⟩ = some (.int .u32 (t : Int)) ∧ (wg.alloc (.cells #[.pointer none, .pointer none, .string ⟨#[]⟩, .string ⟨#[]⟩, .string ⟨#[]⟩, .string ⟨#[]⟩, .int .u8 0, .int .i32 0, .int .i32 0, .int .i32 0, .int .u32 (vt : Int), .int .u32 0, .int .u16 0, .int .u8 0, .int .u8 (vk : Int)] 62)).cell? ⟨gk, e, none⟩ = some (.int .u8 (vk : Int)) from ⟨r1, r2⟩)
             have hsz : w.heap.size ≤ wg.heap.size := Nat.le_trans (Nat.le_of_lt hgr) HG1.out.size
             clear hg
             dsimp only
             go_simp)
          | (refine step_append_lies _ (by rfl) _ _ _ (by rfl) w.heap.size 62 i0 _ 15 112 Tryz.underlying42 hi0 hz0 hz1 hz2 rfl (by omega) v0 ln xs0 (by rfl) (HOWN.out _ HG2.out)
               ⟨wg.heap.size, 0, none⟩ 1 1 [.pointer none, .pointer none, .string ⟨#[]⟩, .string ⟨#[]⟩, .string ⟨#[]⟩, .string ⟨#[]⟩, .int .u8 0, .int .i32 0, .int .i32 0, .int .i32 0, .int .u32 (vt : Int), .int .u32 0, .int .u16 0, .int .u8 0, .int .u8 (vk : Int)] (by rfl) (by rfl) (World.news_of_block (cs := #[.pointer none, .pointer none, .string ⟨#[]⟩, .string ⟨#[]⟩, .string ⟨#[]⟩, .string ⟨#[]⟩, .int .u8 0, .int .i32 0, .int .i32 0, .int .i32 0, .int .u32 (vt : Int), .int .u32 0, .int .u16 0, .int .u8 0, .int .u8 (vk : Int)]) (t := 62) (fr := (0, 0)) (heap_alloc_new wg _)) HX1.out (by omega) hm1 hm2 (by simp; omega) (wg.heap.size + 1) (by simp) ?_
             intro gg cap w1 hown1 hgrow hat hlt1
             obtain ⟨p1, ⟨p2, p3⟩, p4, p5⟩ := HB.out _ w1 (.slice (some ⟨gg, 0, none⟩) (ln + 1) cap) HG2.out hgrow
             have HQ3 := Lib.hid p1
             have HQ4 := Lib.hid (And.intro p4 p5)
             have HFIN := Lib.hid (HSTEP.out _ w1 gg cap HG2.out hown1 hgrow (by simpa using hat))
             clear hown1 hgrow hat p1 p4 p5))
      all_goals
        go_wp2
        go_roundw
        case rel => exact ⟨e + 1, by simp, by omega, HFIN.out⟩
        case measure => simp [intOf]; omega
    · obtain rfl : e = m := by omega
      have hlt' : ¬ ((e : Int) < (e : Int)) := by omega
      obtain ⟨k0, hk0, hw0, hw1, hw2⟩ := info_parts pr_info
      have hmk2 : ∀ W : World, (Instr.makeSlice 63 (.int .i64 (n : Int)) (.int .i64 (n : Int))).run Tryz.prog W = .ok (.slice (some ⟨W.heap.size, 0, none⟩) n n) (W.alloc (.cells (mkPR n) 127)) := fun W => by
        have := run_make (P := Tryz.prog) W 63 127 k0 zPR Tryz.underlying63 hk0 hw0 .i64 .i64 n n (by omega) (by omega) (by rw [hw2]; omega) (by omega)
        simp only [Int.toNat_natCast, hw1] at this
        exact this
      obtain ⟨wo, hwo⟩ : ∃ x, x = wr := ⟨_, rfl⟩
      subst hwo
      obtain ⟨W2, hW2⟩ : ∃ W, W = wo.alloc (.cells (mkPR n) 127) := ⟨_, rfl⟩
      have HL2 : Hid (L2 w (gr n ok aw fr tg kd e) ok w.heap.size wo.heap.size 0 (fun _ => 0) W2) := Lib.hid (by
        obtain ⟨⟨vs, h1⟩, h2⟩ := HL.out
        have hg : wo.grownBy W2 none := by rw [hW2]; exact only_alloc (World.grownBy.refl _ _) _
        refine ⟨⟨vs, h1.kept hg⟩, ⟨mkPR n, by rw [hW2]; exact Blk.new _ _ _, mkPR_size n, fun i hi => by omega⟩, fun i hi => by omega, below_grown h2 hg⟩)
      have HRB := Lib.hid (show w.heap.size ≤ wo.heap.size from HL.out.bel.size)
      clear hk0 hw0 hw1 hw2
      go_upto_region 9 with fail
      rw [← hW2]
      clear hW2 hmk2
      go_wp2
      go_loopw [20] (fun iv wr => ∃ (k : Nat) (jb : Nat → Nat), iv = .int .i64 (k : Int) ∧ k ≤ n ∧ L2 w (gr n ok aw fr tg kd e) ok w.heap.size wo.heap.size k jb wr) (fun iv _ => n - (intOf iv).toNat)
      case atStart => exact ⟨0, _, rfl, Nat.zero_le _, HL2.out⟩
      case round =>
        obtain ⟨k, jb, rfl, hk, hl2⟩ := hrel
        have HM := Lib.hid hl2
        clear hl2 HL2
        by_cases hlt : k < n
        · have hlt' : (k : Int) < (n : Int) := by omega
          have hcw := HC.out.below HM.out.bel
          obtain ⟨go, cs1, rfl, d1, x1⟩ := hcw.ok_ (by omega)
          obtain ⟨ga, rfl, c2⟩ := hcw.aw_.at_ hlt
          obtain ⟨gb, cs3, rfl, d3, x3⟩ := hcw.bl_ (by omega)
          have c1 : wr.cell? ⟨go, k, none⟩ = some (.bool (ok k)) := (d1.cell k).trans (x1 k hlt)
          have c3 : wr.cell? ⟨gb, k, none⟩ = some (.string ⟨#[]⟩) := (d3.cell k).trans (x3 k hlt)
          obtain ⟨vs, htab⟩ := HM.out.tab
          obtain ⟨A, cap, hvs, hrow⟩ := htab.row (show k < (gr n ok aw fr tg kd e).n from hlt)
          have c4 := htab.cell (show k < (gr n ok aw fr tg kd e).n from hlt)
          rw [hvs] at c4
          obtain ⟨len, hlen⟩ : ∃ x, x = ((gr n ok aw fr tg kd e).recs k).length := ⟨_, rfl⟩
          rw [← hlen] at c4
          obtain ⟨bo, hbo⟩ : ∃ b, b = ok k := ⟨_, rfl⟩
          rw [← hbo] at c1
          obtain ⟨ba, hba⟩ : ∃ b, b = aw k := ⟨_, rfl⟩
          rw [← hba] at c2
          have hth := HM.out.there (show k < (gr n ok aw fr tg kd e).n from hlt)
          obtain ⟨W, hW⟩ : ∃ x, x = wr := ⟨_, rfl⟩
          subst hW
          have HHT := Lib.hid hth
          have HJ : Hid (∀ (al : Int), al = (if ba then 5 else 0) → JsOK (gr n ok aw fr tg kd e) (W.drew.alloc (.cells (jsC al A len cap) 108)) W.heap.size k) := Lib.hid (fun al hal => by
            refine ⟨_, Blk.new W.drew _ _, ?_, A, cap, ?_, fun hn => ?_⟩
            · show some (Value.int .i32 al) = some (.int .i32 (if aw k then 5 else 0)); rw [hal, hba]
            · rw [← hlen]; rfl
            · obtain ⟨g, cur, e1, h2, h3⟩ := hrow hn
              exact ⟨g, cur, e1, Blk.alloc (w := W.drew) h2 _, h3⟩)
          have HBO := Lib.hid hbo; have HBA := Lib.hid hba
          have hwk : IntKind.u32.wrap (k : Int) = (k : Int) := by rw [IntKind.wrap_u32']; omega
          have hwe : IntKind.i64.wrap ((k : Int) + 1) = (k : Int) + 1 := by rw [IntKind.wrap_i64]; omega
          clear hcw hrow hvs hlen hth hbo hba
          go_upto_if 65 with fail
          go_cut [21] from 62 to 65 (fun v wx => v = .int .i32 (if ba then 5 else 0) ∧ wx = W)
          case first =>
            cases ba with
            | true =>
              go_wp2
              go_meet
              case rel => exact ⟨rfl, rfl⟩
            | false =>
              go_wp2
              go_meet
              case rel => exact ⟨rfl, rfl⟩
          case rest =>
          obtain ⟨rfl, rfl⟩ := hcut
          obtain ⟨al, hal⟩ : ∃ al : Int, al = if ba then 5 else 0 := ⟨_, rfl⟩
          rw [← hal]
          have hJ := HJ.out al hal
          have HFIN := Lib.hid (HM.out.step (show k < (gr n ok aw fr tg kd e).n from hlt) HRB.out (only_alloc (only_drew (World.grownBy.refl wc none)) _) hJ)
          rw [← HBO.out] at HFIN
          obtain ⟨csr, br, hsr, _⟩ := HM.out.res
          obtain ⟨⟨cst, bt, _⟩, _⟩ := htab
          have n1 : go ≠ wo.heap.size := d1.ne_ br (by decide)
          have n3 : gb ≠ wo.heap.size := d3.ne_ br (by decide)
          have n4 : w.heap.size ≠ wo.heap.size := bt.ne_ br (by decide)
          have hS : ∀ (wx : World) (c : Array Value), wc.grownBy wx (some wo.heap.size) → Blk wx wo.heap.size 127 c → c.size = (gr n ok aw fr tg kd e).n * 27 → wx.cell? ⟨go, k, none⟩ = some (.bool bo) ∧ wx.cell? ⟨gb, k, none⟩ = some (.string ⟨#[]⟩) ∧ wx.cell? ⟨w.heap.size, k, none⟩ = some (.slice A len cap) ∧ wx.there wo.heap.size (k * 27) 27 := fun wx c hg hb hs =>
            ⟨hg.cell c1 (fun e => n1 (Option.some.inj e)), hg.cell c3 (fun e => n3 (Option.some.inj e)), hg.cell c4 (fun e => n4 (Option.some.inj e)), fun j hj => ⟨by
              have : (gr n ok aw fr tg kd e).n = n := rfl
              rw [hb.cell, Array.getElem?_eq_getElem (by omega)]; rfl, hb.frozen _⟩⟩
          have HS0 := Lib.hid (hS wc.drew csr (only_drew (World.grownBy.refl wc _)) br hsr)
          have HS1 := Lib.hid (fun o : Obj => hS (wc.drew.alloc o) csr (only_alloc (only_drew (World.grownBy.refl wc _)) o) (Blk.alloc (w := wc.drew) br o) hsr)
          have HS4 : Hid (∀ (o : Obj), (wc.alloc o).drew.cell? ⟨go, k, none⟩ = some (.bool bo) ∧ (wc.alloc o).drew.cell? ⟨gb, k, none⟩ = some (.string ⟨#[]⟩) ∧ (wc.alloc o).drew.cell? ⟨w.heap.size, k, none⟩ = some (.slice A len cap) ∧ (wc.alloc o).drew.there wo.heap.size (k * 27) 27) := Lib.hid (fun o => HS1.out o)
          have HS3 : Hid (∀ (o : Obj) (x : Nat), (putRow (wc.alloc o).drew wo.heap.size (k * 27) k bo x).cell? ⟨go, k, none⟩ = some (.bool bo) ∧ (putRow (wc.alloc o).drew wo.heap.size (k * 27) k bo x).cell? ⟨gb, k, none⟩ = some (.string ⟨#[]⟩) ∧ (putRow (wc.alloc o).drew wo.heap.size (k * 27) k bo x).cell? ⟨w.heap.size, k, none⟩ = some (.slice A len cap) ∧ (putRow (wc.alloc o).drew wo.heap.size (k * 27) k bo x).there wo.heap.size (k * 27) 27) := Lib.hid (fun o x => by
            obtain ⟨c, hc1, hc2⟩ := putRow_blk (o := k * 27) (i := k) (k := bo) (x := x) (Blk.drew (Blk.alloc br o))
            exact hS _ c (grownBy_acc (only_drew (only_alloc (World.grownBy.refl wc _) o)) (putRow_grown _ _ _ _ _ _)) hc1 (hc2.trans hsr))
          have hki0 : (0 : Int) ≤ (k : Int) := Int.natCast_nonneg _
          have hth : ∀ o : Obj, (wc.alloc o).there wo.heap.size (k * 27) 27 := fun o => (HS1.out o).2.2.2
          have HFIN3 : Hid (L2 w (gr n ok aw fr tg kd e) ok w.heap.size wo.heap.size (k + 1) (updF jb k wc.heap.size) (putRow (wc.alloc (.cells (jsC al A len cap) 108)).drew wo.heap.size (k * 27) k bo wc.heap.size)) := Lib.hid HFIN.out
          clear hJ HJ hal hS HHT n1 n3 n4 bt br hsr d1 d3 x1 x3
          go_upto_region 15 with fail
          go_region_held3 (fun w' => w'.cell? ⟨go, k, none⟩ = some (.bool bo) ∧ w'.cell? ⟨gb, k, none⟩ = some (.string ⟨#[]⟩) ∧ w'.cell? ⟨w.heap.size, k, none⟩ = some (.slice A len cap) ∧ w'.there wo.heap.size (k * 27) 27)
            (first | with_reducible exact HS0.out | with_reducible exact HS3.out _ _ | with_reducible exact HS4.out _ | with_reducible exact HS1.out _)
            (fail)
          go_wp2
          go_roundw
          case rel => exact ⟨k + 1, updF jb k wc.heap.size, by simp, by omega, HFIN3.out⟩
          case measure => simp [intOf]; omega
        · obtain rfl : k = n := by omega
          have hlt' : ¬ ((k : Int) < (k : Int)) := by omega
          have hmm := @run_makeMap Tryz.prog
          have HND := Lib.hid (fun W => new_any W)
          go_wp2_with (go_at_call 15; (with_reducible refine (HND.out _).mono ?_))
          rintro e' wg ⟨rfl, hg⟩
          have HGR := Lib.hid hg
          clear hg
          go_wp2_with (first | (refine wpList_build_sc _ rfl (.tmp 103) (.tmp 104) (.tmp 105) rfl rfl rfl rfl ?_) | (refine wpList_box_sc _ rfl (.tmp 106) rfl rfl ?_))
          go_ret
          have hbb : ∀ cs, Blk ((wg.alloc (Obj.map #[] 0)).alloc (.cells cs 187)) (wg.heap.size + 1) 187 cs := fun cs => by
            have h := Blk.new (wg.alloc (Obj.map #[] 0)) 187 cs
            have e : (wg.alloc (Obj.map #[] 0)).heap.size = wg.heap.size + 1 := by simp
            rw [e] at h
            exact h
          refine ⟨wo.heap.size, _, jb, rfl, HRB.out, HM.out.fin (fun i hi => ?_) (only_alloc (only_alloc HGR.out _) _) (hbb _) (scC_11 _ _ _ _ _ _ _ _) (Nat.le_refl _), below_grown HM.out.bel (only_alloc (only_alloc HGR.out _) _)⟩
          show (decide (i < k) && ok i) = ok i
          have : i < k := hi
          simp [this]
end Go.Proofs.YtnekmljdipkepaaGreat
