/- logger.NewDeferLog, its closures AddMsg and Done (n011_151). -/
import Derived.Test.YtoailijfbbdapaaFmtRows
import Derived.Test.YtoailijfbbdapaaFmtWords
import Derived.Test.YtoailijfbbdapaaFmtApp
import Derived.Test.YtoailijfbbdapaaFmtLocks
import Derived.Conc.MuLone
import Derived.WalkKit
import Derived.WalkSpells
import Derived.Defers
import Derived.LoopTactic
import Derived.Outline
import Derived.Deep.DeepCutAuto
import Derived.Deep.Cut
import Derived.IntWalk
import Derived.OneCell
import Derived.Laws.EntriesVeiled
namespace Go.Proofs.YtoailijfbbdapaaFmt
open Go.RowKit Go.MuLone
set_option linter.unusedVariables false
set_option linter.unusedSimpArgs false

def logC (s : Nat) : Array Value := #[.func (.func 7) #[] #[.pointer (some ⟨s, 0, none⟩), .pointer (some ⟨s + 3, 0, none⟩), .pointer (some ⟨s + 4, 0, none⟩), .pointer (some ⟨s + 2, 0, none⟩)], .func (.func 10) #[] #[.pointer (some ⟨s + 3, 0, none⟩), .pointer (some ⟨s + 4, 0, none⟩)], .func (.func 11) #[] #[.pointer (some ⟨s + 3, 0, none⟩), .pointer (some ⟨s + 2, 0, none⟩)], .func (.func 12) #[] #[.pointer (some ⟨s + 3, 0, none⟩), .pointer (some ⟨s + 2, 0, none⟩)], .int .i8 3, .map none]
def logV (s : Nat) : Value := .agg (logC s)
/-- The log's five variables, in the blocks s to s + 4; the messages in a block behind. -/
structure LogS (W : World) (s : Nat) (lk : Int) (h : Bool) (v : Value) (k : Nat) (rows : List Value) : Prop where
  b0 : Blk W s 35 #[.int .u8 0]
  b2 : Blk W (s + 2) 50 #[v]
  b3 : Blk W (s + 3) 57 #[.int .i32 lk, .int .u32 0]
  b4 : Blk W (s + 4) 4 #[.bool h]
  own : W.ownsRow (s + 5) 49 8 v k rows
section
variable {w w' : World} {s k : Nat} {lk : Int} {h : Bool} {v : Value} {rows : List Value}
theorem LogS.grown (x : LogS w s lk h v k rows) (hg : w.grownBy w' none) : LogS w' s lk h v k rows :=
  ⟨x.b0.grown hg (by simp), x.b2.grown hg (by simp), x.b3.grown hg (by simp), x.b4.grown hg (by simp), x.own.kept hg (by cases e : v.ownBlock <;> simp)⟩
theorem LogS.alloc (x : LogS w s lk h v k rows) (o : Obj) : LogS (w.alloc o) s lk h v k rows := x.grown (only_alloc (World.grownBy.refl _ _) _)
theorem LogS.low (x : LogS w s lk h v k rows) {b : Nat} (hb : b < s + 5) : v.ownBlock ≠ some b := fun e => by have := (x.own.lt b e).1; omega
theorem LogS.setLock (x : LogS w s lk h v k rows) (n : Int) : LogS (w.setCell ⟨s + 3, 0, none⟩ (.int .i32 n)) s n h v k rows :=
  ⟨x.b0.far (by simp) _, x.b2.far (by simp) _, x.b3.set_ 0 (.int .i32 n), x.b4.far (by simp) _, ownsRow_setCell_other x.own (x.low (by show s + 3 < s + 5; omega)) _⟩
theorem LogS.setErr (x : LogS w s lk h v k rows) (b : Bool) : LogS (w.setCell ⟨s + 4, 0, none⟩ (.bool b)) s lk b v k rows :=
  ⟨x.b0.far (by simp) _, x.b2.far (by simp) _, x.b3.far (by simp) _, x.b4.set_ 0 (.bool b), ownsRow_setCell_other x.own (x.low (by show s + 4 < s + 5; omega)) _⟩
/-- The messages' row turned, and laid into its variable. -/
theorem LogS.setRow (x : LogS w s lk h v k rows) (hg : w.grownBy w' v.ownBlock) {v' : Value} {k' : Nat} {rows' : List Value} (ho : w'.ownsRow (s + 5) 49 8 v' k' rows') : LogS (w'.setCell ⟨s + 2, 0, none⟩ v') s lk h v' k' rows' := by
  have hl : ∀ b, b < s + 5 → v'.ownBlock ≠ some b := fun b hb e => by have := (ho.lt b e).1; omega
  have n0 := x.low (b := s) (by omega)
  have n2 := x.low (b := s + 2) (by omega)
  have n3 := x.low (b := s + 3) (by omega)
  have n4 := x.low (b := s + 4) (by omega)
  exact ⟨(x.b0.grown hg n0.symm).far (by simp) _, (x.b2.grown hg n2.symm).set_ 0 v', (x.b3.grown hg n3.symm).far (by simp) _, (x.b4.grown hg n4.symm).far (by simp) _, ownsRow_setCell_other ho (hl _ (by show s + 2 < s + 5; omega)) _⟩
end
/-- Every other block is kept. -/
def Keeps (s : Nat) (b : Option Nat) (w w' : World) : Prop := w.heap.size ≤ w'.heap.size ∧ ∀ q, q < w.heap.size → s + 5 ≤ q → b ≠ some q → w'.heap[q]? = w.heap[q]?
section
variable {w w' w2 : World} {s : Nat} {b : Option Nat}
theorem Keeps.refl (s : Nat) (b : Option Nat) (w : World) : Keeps s b w w := ⟨Nat.le_refl _, fun _ _ _ _ => rfl⟩
theorem Keeps.set (h : Keeps s b w w') {p : Addr} (hp : p.block < s + 5) (u : Value) : Keeps s b w (w'.setCell p u) :=
  ⟨by simpa using h.1, fun q hq hs hb => (Below.heap_setCell w' p u q (by omega)).trans (h.2 q hq hs hb)⟩
theorem Keeps.grown (h : Keeps s b w w') (hg : w'.grownBy w2 b) : Keeps s b w w2 :=
  ⟨Nat.le_trans h.1 hg.size, fun q hq hs hb => (hg.block q (Nat.lt_of_lt_of_le hq h.1) (fun e => hb e.symm)).trans (h.2 q hq hs hb)⟩
theorem Keeps.grownN (h : Keeps s b w w') (hg : w'.grownBy w2 none) : Keeps s b w w2 :=
  ⟨Nat.le_trans h.1 hg.size, fun q hq hs hb => (hg.block q (Nat.lt_of_lt_of_le hq h.1) (by simp)).trans (h.2 q hq hs hb)⟩
theorem Keeps.alloc (h : Keeps s b w w') (o : Obj) : Keeps s b w (w'.alloc o) := h.grownN (only_alloc (World.grownBy.refl _ _) _)
theorem Keeps.trans (h : Keeps s b w w') (k : Keeps s b w' w2) : Keeps s b w w2 :=
  ⟨Nat.le_trans h.1 k.1, fun q hq hs hb => (k.2 q (Nat.lt_of_lt_of_le hq h.1) hs hb).trans (h.2 q hq hs hb)⟩
end
theorem log_size : (Tryf.prog.info? 33).map (·.size) = some 6 := by kernel_rfl
def NewPost (w : World) (e : Ending) (w' : World) : Prop := e = .returned (logV w.heap.size) ∧ LogS w' w.heap.size 0 false (.slice none 0 0) 0 [] ∧ Below w.heap.size w w'
set_option maxHeartbeats 1000000 in
set_option maxRecDepth 100000 in
theorem new_any (w : World) : Calls Tryf.prog 5 #[.int .u8 0, .map none] w (NewPost w) := by
  have hmf : ∀ (fn : Fn) (first cap : Array Value) (w : World), (Instr.makeFunc fn first cap).run Tryf.prog w = .ok (.func fn first cap) w := fun _ _ _ _ => rfl
  have HB1 : Hid (∀ o2 o3 o4 : Obj, Blk ((((((w.alloc (.cells #[.int .u8 0] 35)).alloc (.cells (logC w.heap.size) 33)).alloc o2).alloc o3).alloc o4)) (w.heap.size + 1) 33 (logC w.heap.size)) := Lib.hid (fun o2 o3 o4 => by
    have := Blk.new (w.alloc (.cells #[.int .u8 0] 35)) 33 (logC w.heap.size)
    have h2 := ((this.alloc o2).alloc o3).alloc o4
    simpa using h2)
  obtain ⟨X, hX⟩ : ∃ X, X = ((((w.alloc (.cells #[.int .u8 0] 35)).alloc (.cells (logC w.heap.size) 33)).alloc (.cells #[.slice none 0 0] 50)).alloc (.cells #[.int .i32 0, .int .u32 0] 57)).alloc (.cells #[.bool false] 4) := ⟨_, rfl⟩
  have HS : Hid (LogS X w.heap.size 0 false (.slice none 0 0) 0 []) := Lib.hid (by
    rw [hX]
    refine ⟨((((Blk.new w 35 #[.int .u8 0]).alloc _).alloc _).alloc _).alloc _, ?_, ?_, ?_, World.ownsRow_nil _ _ _ _⟩
    · have h := Blk.new ((w.alloc (.cells #[.int .u8 0] 35)).alloc (.cells (logC w.heap.size) 33)) 50 #[.slice none 0 0]
      have h2 := (h.alloc (.cells #[.int .i32 0, .int .u32 0] 57)).alloc (.cells #[.bool false] 4)
      simpa using h2
    · have h := Blk.new (((w.alloc (.cells #[.int .u8 0] 35)).alloc (.cells (logC w.heap.size) 33)).alloc (.cells #[.slice none 0 0] 50)) 57 #[.int .i32 0, .int .u32 0]
      have h2 := h.alloc (.cells #[.bool false] 4)
      simpa using h2
    · have h := Blk.new ((((w.alloc (.cells #[.int .u8 0] 35)).alloc (.cells (logC w.heap.size) 33)).alloc (.cells #[.slice none 0 0] 50)).alloc (.cells #[.int .i32 0, .int .u32 0] 57)) 4 #[.bool false]
      simpa using h)
  have HB : Hid (Below w.heap.size w X) := Lib.hid (by rw [hX]; exact (((((Below.refl _ _).alloc (Nat.le_refl _) _).alloc (by simp) _).alloc (by simp; omega) _).alloc (by simp; omega) _).alloc (by simp; omega) _)
  rw [hX] at HS HB
  clear hX
  go_enter Tryf.func5, Tryf.ntmps5
  go_wp2
  refine bodyPost_ret (results_cell_row rfl _ _ (w.heap.size + 1) _ (logC w.heap.size) (0, 0) _ rfl (HB1.out _ _ _) Tryf.underlying33 rfl log_size) rfl ?_
  exact ⟨rfl, HS.out, HB.out⟩
def zMsg : Value := .agg #[.slice none 0 0, .string ⟨#[]⟩, .nilIface, .pointer none, .string ⟨#[]⟩, .bool false, .int .u8 0, .int .u8 0]
theorem msg_info : (Tryf.prog.info? 49).map (fun i => (i.zero, i.size, i.bytes)) = some (some zMsg, 8, 96) := by kernel_rfl
/-- An error's message. -/
def errC (tx : ByteArray) : Array Value := #[.slice none 0 0, .string ⟨#[]⟩, .nilIface, .pointer none, .string tx, .bool false, .int .u8 0, .int .u8 0]
def AddPost (w : World) (s k : Nat) (b : Option Nat) (rows : List Value) (tx : ByteArray) (e : Ending) (w' : World) : Prop :=
  e = .returned (.tuple #[]) ∧ (∃ v', LogS w' s 0 true v' (k + 1) (rows ++ (errC tx).toList)) ∧ Below s w w' ∧ Keeps s b w w'
set_option maxHeartbeats 2000000 in
set_option maxRecDepth 100000 in
theorem add_any (s k : Nat) (h : Bool) (v : Value) (rows : List Value) (tx : ByteArray) (w : World) (hl : LogS w s 0 h v k rows) (hk : k ≤ 1000) :
    Calls Tryf.prog 7 #[.agg (errC tx), .pointer (some ⟨s, 0, none⟩), .pointer (some ⟨s + 3, 0, none⟩), .pointer (some ⟨s + 4, 0, none⟩), .pointer (some ⟨s + 2, 0, none⟩)] w (AddPost w s k v.ownBlock rows tx) := by
  obtain ⟨X, hX⟩ : ∃ X, X = w.alloc (.cells (errC tx) 49) := ⟨_, rfl⟩
  have HLX : Hid (LogS X s 0 h v k rows) := Lib.hid (by rw [hX]; exact hl.alloc _)
  have HMX : Hid (Blk X w.heap.size 49 (errC tx)) := Lib.hid (by rw [hX]; exact Blk.new _ _ _)
  have hsz := hl.b4.lt
  have HBX : Hid (Below s w X ∧ Keeps s v.ownBlock w X) := Lib.hid (by rw [hX]; exact ⟨(Below.refl _ _).alloc (by omega) _, (Keeps.refl _ _ _).alloc _⟩)
  have HX := Lib.hid hX
  clear hX hl
  have c0 : X.cell? ⟨s, 0, none⟩ = some (.int .u8 0) := HLX.out.b0.cell 0
  have c6 : X.cell? ⟨w.heap.size, 6, none⟩ = some (.int .u8 0) := HMX.out.cell 6
  go_enter_defers Tryf.func7, Tryf.ntmps7
  go_upto_region 1 with fail
  rw [← HX.out]
  clear HX
  go_wp2_with (go_at_call 8; refine (lock_free muLib ⟨s + 3, 0, none⟩ _ (HLX.out.b3.cell 0) (HLX.out.b3.frozen 0)).mono ?_)
  rintro e w1 ⟨rfl, hw1⟩
  have HL1 : Hid (LogS w1 s 1 h v k rows) := Lib.hid (by rw [hw1]; exact HLX.out.setLock 1)
  have HM1 : Hid (Blk w1 w.heap.size 49 (errC tx)) := Lib.hid (by rw [hw1]; exact HMX.out.far (by show w.heap.size ≠ _; simp; omega) _)
  have HB1 : Hid (Below s w w1 ∧ Keeps s v.ownBlock w w1) := Lib.hid (by rw [hw1]; exact ⟨HBX.out.1.setCell (p := ⟨s + 3, 0, none⟩) (by show s ≤ s + 3; omega) _, HBX.out.2.set (p := ⟨s + 3, 0, none⟩) (by show s + 3 < s + 5; omega) _⟩)
  clear hw1 HLX HMX HBX c0 c6
  have c6 : w1.cell? ⟨w.heap.size, 6, none⟩ = some (.int .u8 0) := HM1.out.cell 6
  have c4 : w1.cell? ⟨s + 4, 0, none⟩ = some (.bool h) := HL1.out.b4.cell 0
  have z4 : w1.frozen? ⟨s + 4, 0, none⟩ = false := HL1.out.b4.frozen 0
  obtain ⟨w2, hw2⟩ : ∃ W, W = w1.setCell ⟨s + 4, 0, none⟩ (.bool true) := ⟨_, rfl⟩
  have HL2 : Hid (LogS w2 s 1 true v k rows) := Lib.hid (by rw [hw2]; exact HL1.out.setErr true)
  have HM2 : Hid (Blk w2 w.heap.size 49 (errC tx)) := Lib.hid (by rw [hw2]; exact HM1.out.far (by show w.heap.size ≠ _; simp; omega) _)
  have HB2 : Hid (Below s w w2 ∧ Keeps s v.ownBlock w w2) := Lib.hid (by rw [hw2]; exact ⟨HB1.out.1.setCell (p := ⟨s + 4, 0, none⟩) (by show s ≤ s + 4; omega) _, HB1.out.2.set (p := ⟨s + 4, 0, none⟩) (by show s + 4 < s + 5; omega) _⟩)
  have HW2 := Lib.hid hw2
  clear hw2
  go_upto_region 6 with fail
  rw [← HW2.out]
  clear HW2 HL1 HM1 HB1 c4 c6 z4
  have k2 : w2.cell? ⟨s + 2, 0, none⟩ = some v := HL2.out.b2.cell 0
  have m0 : w2.cell? ⟨w.heap.size, 0, none⟩ = some (.slice none 0 0) := HM2.out.cell 0
  have m1 : w2.cell? ⟨w.heap.size, 1, none⟩ = some (.string ⟨#[]⟩) := HM2.out.cell 1
  have m2 : w2.cell? ⟨w.heap.size, 2, none⟩ = some .nilIface := HM2.out.cell 2
  have m3 : w2.cell? ⟨w.heap.size, 3, none⟩ = some (.pointer none) := HM2.out.cell 3
  have m4 : w2.cell? ⟨w.heap.size, 4, none⟩ = some (.string tx) := HM2.out.cell 4
  have m5 : w2.cell? ⟨w.heap.size, 5, none⟩ = some (.bool false) := HM2.out.cell 5
  have m6 : w2.cell? ⟨w.heap.size, 6, none⟩ = some (.int .u8 0) := HM2.out.cell 6
  have m7 : w2.cell? ⟨w.heap.size, 7, none⟩ = some (.int .u8 0) := HM2.out.cell 7
  obtain ⟨j0, gi, gz0, gz1, gz2⟩ := info_parts msg_info
  have HSRC : Hid (Src Tryf.prog 8 50 (.slice (some ⟨w2.heap.size, 0, none⟩) 1 1) 1 (errC tx).toList (w2.alloc (.cells (errC tx) 49))) := Lib.hid (Src.ofSlice _ Tryf.underlying50 _ 1 1 (errC tx).toList rfl (fun j u hu => by
      rw [← hu]
      have := (Blk.new w2 49 (errC tx)).cell j
      rw [← Array.getElem?_toList] at this
      rw [← this]
      unfold Addr.add
      split
      · rename_i h0; subst h0; rfl
      · show World.cell? _ ⟨w2.heap.size, 0 + j, none⟩ = _
        rw [Nat.zero_add]) (fun u hu => by
      simp only [errC, List.mem_cons, List.not_mem_nil, or_false] at hu
      rcases hu with rfl | rfl | rfl | rfl | rfl | rfl | rfl | rfl <;> rfl))
  have hl2 := HL2.out.b4.lt
  have HFIN : Hid (∀ (v' : Value) (w' : World), w'.ownsRow (s + 5) 49 8 v' (k + 1) (rows ++ (errC tx).toList) → (w2.alloc (.cells (errC tx) 49)).grownBy w' v.ownBlock → w'.cell? ⟨s + 2, 0, none⟩ = some v ∧ w'.frozen? ⟨s + 2, 0, none⟩ = false ∧ LogS (w'.setCell ⟨s + 2, 0, none⟩ v') s 1 true v' (k + 1) (rows ++ (errC tx).toList) ∧ (Below s w (w'.setCell ⟨s + 2, 0, none⟩ v') ∧ Keeps s v.ownBlock w (w'.setCell ⟨s + 2, 0, none⟩ v')) ∧ ∃ A c, v' = .slice A (k + 1) c) := Lib.hid (fun v' w' ho hg => by
    have x := HL2.out.alloc (.cells (errC tx) 49)
    have b := x.b2.grown hg (x.low (b := s + 2) (by omega)).symm
    refine ⟨b.cell 0, b.frozen 0, x.setRow hg ho, ⟨((HB2.out.1.alloc (by omega) _).grown hg (by simp; omega) (fun q hq => by have := (x.own.lt q hq).1; omega)).setCell (p := ⟨s + 2, 0, none⟩) (by show s ≤ s + 2; omega) _, ((HB2.out.2.alloc _).grown hg).set (p := ⟨s + 2, 0, none⟩) (by show s + 2 < s + 5; omega) _⟩, ?_⟩
    rcases ho.2 with ⟨_, h0⟩ | ⟨g, cap, cur, rfl, _⟩
    · omega
    · exact ⟨_, _, rfl⟩)
  go_wp2_with (at_builtin; refine wpList_append_own_src _ rfl (.tmp 22) (.tmp 24) 50 50 rfl (s + 5) 49 j0 zMsg 8 96 Tryf.underlying50 gi gz0 gz1 gz2 rfl v k rows rfl (HL2.out.own.alloc _) _ 1 (errC tx).toList rfl HSRC.out (by unfold maxLen; omega) (by omega) (by simp; omega) ?_; intro v' w' hown hg hv; obtain ⟨f1, f2, f3, f4, A', c', rfl⟩ := HFIN.out v' w' hown hg; have F3 := Lib.hid f3; have F4 := Lib.hid f4; clear hown hg hv f3 f4)
  refine leaves_cons (f := 9) (args := #[.pointer (some ⟨s + 3, 0, none⟩)]) (by simp) (by simp [go_sem]) ?_
  refine (unlock_deferred muLib ⟨s + 3, 0, none⟩ .returning _ (F3.out.b3.cell 0) (F3.out.b3.frozen 0)).mono ?_
  rintro e u' w'' ⟨rfl, rfl, rfl⟩
  exact ⟨_, results_none rfl _ _ _, rfl, ⟨_, F3.out.setLock 0⟩, F4.out.1.setCell (p := ⟨s + 3, 0, none⟩) (by show s ≤ s + 3; omega) _, F4.out.2.set (p := ⟨s + 3, 0, none⟩) (by show s + 3 < s + 5; omega) _⟩
set_option maxRecDepth 100000 in
theorem ins_any (d : Value) (n : Nat) (hn : n ≤ 1) (w : World) : Calls Tryf.prog 29 #[d, .int .i64 0, .int .i64 (n : Int)] w fun e w' => e = .returned (.tuple #[]) ∧ w = w' := by
  go_enter Tryf.func29, Tryf.ntmps29
  go_wp2
  go_loopw [6, 7] (fun i j wr => i = .int .i64 1 ∧ wr = w) (fun _ _ _ => 0)
  case atStart => exact ⟨rfl, rfl⟩
  case round =>
    obtain ⟨rfl, rfl⟩ := hrel
    have h1 : ¬ (1 : Int) < n := by omega
    go_wp2
    go_end0
    exact ⟨rfl, rfl⟩
set_option maxRecDepth 100000 in
theorem stab_any (d : Value) (n : Nat) (hn : n ≤ 1) (w : World) : Calls Tryf.prog 17 #[d, .int .i64 (n : Int)] w fun e w' => e = .returned (.tuple #[]) ∧ w = w' := by
  go_enter Tryf.func17, Tryf.ntmps17
  go_wp2
  go_loopw [5, 6] (fun a b wr => a = .int .i64 0 ∧ b = .int .i64 20 ∧ wr = w) (fun _ _ _ => 0)
  case atStart => exact ⟨rfl, rfl, rfl⟩
  case round =>
    obtain ⟨rfl, rfl, rfl⟩ := hrel
    have h1 : ¬ (20 : Int) ≤ n := by omega
    have h2 : ¬ (20 : Int) < n := by omega
    go_wp2_with (go_at_call 29; refine (ins_any d n hn _).mono ?_; rintro e w1 ⟨rfl, rfl⟩)
    go_loopw [4, 5, 6, 7] (fun bs a b m wy => bs = .int .i64 20 ∧ wy = wr) (fun _ _ _ _ _ => 0)
    case atStart => exact ⟨rfl, rfl⟩
    case round =>
      obtain ⟨rfl, rfl⟩ := hrel
      go_wp2
      go_end0
      exact ⟨rfl, rfl⟩
set_option maxRecDepth 100000 in
theorem len_any (A : Option Addr) (n c : Nat) (w : World) (hn : n ≤ 9223372036854775807) : Calls Tryf.prog 70 #[.slice A n c] w fun e w' => e = .returned (.int .i64 (n : Int)) ∧ w = w' := by
  go_enter Tryf.func70, Tryf.ntmps70
  go_wp2
  go_ret
  exact ⟨rfl, rfl⟩
set_option maxRecDepth 100000 in
theorem stable_any (A : Option Addr) (n c : Nat) (hn : n ≤ 1) (w : World) : Calls Tryf.prog 13 #[.iface 50 (.slice A n c)] w fun e w' => e = .returned (.tuple #[]) ∧ w = w' := by
  have hm : ∀ (v : Value) (w : World), (method 226 50 v "Len").run Tryf.prog w = .ok (70, v) w := fun _ _ => by kernel_rfl
  go_enter Tryf.func13, Tryf.ntmps13
  go_wp2_with (first | (go_at_call 70; refine (len_any A n c _ (by omega)).mono ?_; rintro e w1 ⟨rfl, rfl⟩) | (go_at_call 17; refine (stab_any _ n hn _).mono ?_; rintro e w1 ⟨rfl, rfl⟩))
  go_end0
  exact ⟨rfl, rfl⟩
def DonePost (w : World) (s k : Nat) (h : Bool) (rows : List Value) (e : Ending) (w' : World) : Prop :=
  ∃ v, e = .returned v ∧ LogS w' s 0 h v k rows ∧ Below s w w'
set_option maxHeartbeats 2000000 in
set_option maxRecDepth 100000 in
theorem done_any (s k : Nat) (h : Bool) (v : Value) (rows : List Value) (w : World) (hl : LogS w s 0 h v k rows) (hk : k ≤ 1) :
    Calls Tryf.prog 12 #[.pointer (some ⟨s + 3, 0, none⟩), .pointer (some ⟨s + 2, 0, none⟩)] w (DonePost w s k h rows) := by
  obtain ⟨A, c, rfl⟩ : ∃ A c, v = .slice A k c := by
    rcases hl.own.2 with ⟨rfl, h0⟩ | ⟨g, cap, cur, rfl, _⟩
    · exact ⟨none, 0, by rw [h0]⟩
    · exact ⟨_, _, rfl⟩
  have HL := Lib.hid hl
  clear hl
  go_enter_defers Tryf.func12, Tryf.ntmps12
  go_wp2_with (go_at_call 8; refine (lock_free muLib ⟨s + 3, 0, none⟩ _ (HL.out.b3.cell 0) (HL.out.b3.frozen 0)).mono ?_)
  rintro e w1 ⟨rfl, hw1⟩
  have HL1 : Hid (LogS w1 s 1 h (.slice A k c) k rows) := Lib.hid (by rw [hw1]; exact HL.out.setLock 1)
  have HB1 : Hid (Below s w w1) := Lib.hid (by rw [hw1]; exact (Below.refl _ _).setCell (p := ⟨s + 3, 0, none⟩) (by show s ≤ s + 3; omega) _)
  clear hw1 HL
  have c2 : w1.cell? ⟨s + 2, 0, none⟩ = some (.slice A k c) := HL1.out.b2.cell 0
  go_wp2_with (go_at_call 13; refine (stable_any A k c hk _).mono ?_; rintro e w2 ⟨rfl, rfl⟩)
  refine leaves_cons (f := 9) (args := #[.pointer (some ⟨s + 3, 0, none⟩)]) (by simp) (by simp [go_sem]) ?_
  refine (unlock_deferred muLib ⟨s + 3, 0, none⟩ .returning _ (HL1.out.b3.cell 0) (HL1.out.b3.frozen 0)).mono ?_
  rintro e u' w'' ⟨rfl, rfl, rfl⟩
  exact ⟨_, results_tmp rfl _ _ _, .slice A k c, rfl, HL1.out.setLock 0, HB1.out.setCell (p := ⟨s + 3, 0, none⟩) (by show s ≤ s + 3; omega) _⟩
end Go.Proofs.YtoailijfbbdapaaFmt
