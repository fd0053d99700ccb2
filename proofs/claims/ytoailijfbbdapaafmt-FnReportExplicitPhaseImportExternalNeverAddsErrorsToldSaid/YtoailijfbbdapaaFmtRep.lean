/- AddError, reportExplicitPhaseImport, reportCount (n011_151). -/
import Derived.Test.YtoailijfbbdapaaFmtLog
import Derived.Deep.RegionWith
import Derived.BigQuiet
import Derived.Deep.QuietTactic
import Derived.Stop.Texts
import Derived.Stop.Walk
import Derived.Stop.Walk2
import Derived.Stop.CallBack
import Derived.Stop.IfaceNil
namespace Go.Proofs.YtoailijfbbdapaaFmt
open Go.RowKit Go.MuLone
open Go.Extern.Stop Go.Stop Go.Extern
set_option linter.unusedVariables false
set_option linter.unusedSimpArgs false

theorem grown_set {w w' : World} (h : w.grownBy w' none) {p : Addr} (hp : w.heap.size ≤ p.block) (u : Value) : w.grownBy (w'.setCell p u) none :=
  ⟨h.os, h.tape, h.output, by simpa using h.size, fun i hi hne => (Below.heap_setCell w' p u i (by omega)).trans (h.block i hi hne)⟩
theorem grown_tr {a b c : World} {row : Option Nat} (h : a.grownBy b row) (k : b.grownBy c row) : a.grownBy c row :=
  ⟨k.os.trans h.os, k.tape.trans h.tape, k.output.trans h.output, Nat.le_trans h.size k.size, fun i hi hne => (k.block i (Nat.lt_of_lt_of_le hi h.size) hne).trans (h.block i hi hne)⟩
theorem grown_un {a b c : World} {row : Option Nat} (k : b.grownBy c row) (h : a.grownBy b row) : a.grownBy c row := grown_tr h k
def GP (v : Value) (w : World) (e : Ending) (w' : World) : Prop := e = .returned v ∧ w.grownBy w' none
set_option maxRecDepth 100000 in
theorem loc_any (w : World) : Calls Tryf.prog 40 #[.pointer none, (.agg #[.int .i32 0, .int .i32 0])] w (GP (.pointer none) w) := by
  go_enter Tryf.func40, Tryf.ntmps40
  go_wp2
  go_ret
  exact ⟨rfl, only_alloc (World.grownBy.refl _ _) _⟩
theorem md_size : (Tryf.prog.info? 46).map (·.size) = some 4 := by kernel_rfl
set_option maxHeartbeats 1000000 in
set_option maxRecDepth 100000 in
theorem md_any (tx : ByteArray) (w : World) : Calls Tryf.prog 31 #[.pointer none, (.agg #[.int .i32 0, .int .i32 0]), .string tx] w (GP (.agg #[.nilIface, .pointer none, .string tx, .bool false]) w) := by
  obtain ⟨X, hX⟩ : ∃ X, X = (w.alloc (.cells #[.int .i32 0, .int .i32 0] 40)).alloc (.cells #[.nilIface, .pointer none, .string ⟨#[]⟩, .bool false] 46) := ⟨_, rfl⟩
  have HBX : Hid (Blk X (w.heap.size + 1) 46 #[.nilIface, .pointer none, .string ⟨#[]⟩, .bool false]) := Lib.hid (by
    rw [hX]
    have := Blk.new (w.alloc (.cells #[.int .i32 0, .int .i32 0] 40)) 46 #[.nilIface, .pointer none, .string ⟨#[]⟩, .bool false]
    simpa using this)
  have HGX : Hid (w.grownBy X none) := Lib.hid (by rw [hX]; exact only_alloc (only_alloc (World.grownBy.refl _ _) _) _)
  have kx0 : X.cell? ⟨w.heap.size, 0, none⟩ = some (.int .i32 0) := by
    rw [hX]; have h := (Blk.new w 40 #[.int .i32 0, .int .i32 0]).alloc (.cells #[.nilIface, .pointer none, .string ⟨#[]⟩, .bool false] 46); exact h.cell 0
  have kx1 : X.cell? ⟨w.heap.size, 1, none⟩ = some (.int .i32 0) := by
    rw [hX]; have h := (Blk.new w 40 #[.int .i32 0, .int .i32 0]).alloc (.cells #[.nilIface, .pointer none, .string ⟨#[]⟩, .bool false] 46); exact h.cell 1
  have HX := Lib.hid hX
  clear hX
  go_enter Tryf.func31, Tryf.ntmps31
  go_upto_region 1 with fail
  rw [← HX.out]
  clear HX
  go_wp2_with (go_at_call 40; refine (loc_any _).mono ?_; rintro e w1 ⟨rfl, hg⟩; have hb := HBX.out.grown hg (by simp); have u0 := hb.cell 0; have u1 := hb.cell 1; have u2 := hb.cell 2; have u3 := hb.cell 3; have z0 := hb.frozen 0; have z1 := hb.frozen 1; have z2 := hb.frozen 2; have z3 := hb.frozen 3; have HB := Lib.hid hb; have HG := Lib.hid (grown_tr HGX.out hg); clear hb hg)
  have hb := (((HB.out.set_ 0 .nilIface).set_ 1 (.pointer none)).set_ 2 (.string tx)).set_ 3 (.bool false)
  refine bodyPost_ret (results_cell_row rfl _ _ (w.heap.size + 1) _ #[.nilIface, .pointer none, .string tx, .bool false] (0, 0) _ rfl hb Tryf.underlying46 rfl md_size) rfl ?_
  exact ⟨rfl, grown_set (grown_set (grown_set (grown_set HG.out (by show w.heap.size ≤ w.heap.size + 1; omega) _) (by show w.heap.size ≤ w.heap.size + 1; omega) _) (by show w.heap.size ≤ w.heap.size + 1; omega) _) (by show w.heap.size ≤ w.heap.size + 1; omega) _⟩
def rowsOf (n : Nat) (tx : ByteArray) : List Value := match n with | 0 => [] | _ + 1 => (errC tx).toList
def AddE (w : World) (s : Nat) (b : Option Nat) (tx : ByteArray) (e : Ending) (w' : World) : Prop :=
  e = .returned (.tuple #[]) ∧ (∃ v', LogS w' s 0 true v' 1 (rowsOf 1 tx)) ∧ Below s w w' ∧ Keeps s b w w'
set_option maxHeartbeats 2000000 in
set_option maxRecDepth 100000 in
theorem adde_any (s : Nat) (h : Bool) (v : Value) (tx : ByteArray) (w : World) (hl : LogS w s 0 h v 0 []) :
    Calls Tryf.prog 18 #[logV s, .pointer none, (.agg #[.int .i32 0, .int .i32 0]), .string tx] w (AddE w s v.ownBlock tx) := by
  obtain ⟨X, hX⟩ : ∃ X, X = (w.alloc (.cells (logC s) 33)).alloc (.cells #[.int .i32 0, .int .i32 0] 40) := ⟨_, rfl⟩
  have HGX : Hid (w.grownBy X none) := Lib.hid (by rw [hX]; exact only_alloc (only_alloc (World.grownBy.refl _ _) _) _)
  have kx0 : X.cell? ⟨w.heap.size + 1, 0, none⟩ = some (.int .i32 0) := by
    rw [hX]; have h := Blk.new (w.alloc (.cells (logC s) 33)) 40 #[.int .i32 0, .int .i32 0]; have h2 := h.cell 0; simp
  have kx1 : X.cell? ⟨w.heap.size + 1, 1, none⟩ = some (.int .i32 0) := by
    rw [hX]; have h := Blk.new (w.alloc (.cells (logC s) 33)) 40 #[.int .i32 0, .int .i32 0]; have h2 := h.cell 1; simp
  have kxl : X.cell? ⟨w.heap.size, 0, none⟩ = some (.func (.func 7) #[] #[.pointer (some ⟨s, 0, none⟩), .pointer (some ⟨s + 3, 0, none⟩), .pointer (some ⟨s + 4, 0, none⟩), .pointer (some ⟨s + 2, 0, none⟩)]) := by
    rw [hX]; have h := (Blk.new w 33 (logC s)).alloc (.cells #[.int .i32 0, .int .i32 0] 40); exact h.cell 0
  have HXS : Hid (w.heap.size < X.heap.size) := Lib.hid (by rw [hX]; simp; omega)
  have HADD : Hid (∀ W : World, w.grownBy W none → Calls Tryf.prog 7 #[.agg (errC tx), .pointer (some ⟨s, 0, none⟩), .pointer (some ⟨s + 3, 0, none⟩), .pointer (some ⟨s + 4, 0, none⟩), .pointer (some ⟨s + 2, 0, none⟩)] W (AddPost W s 0 v.ownBlock [] tx)) := Lib.hid (fun W hg => add_any s 0 h v [] tx W (hl.grown hg) (by omega))
  have HBG : Hid (∀ W : World, w.grownBy W none → Below s w W ∧ Keeps s v.ownBlock w W) := Lib.hid (fun W hg => ⟨(Below.refl s w).grown hg (by have := hl.b4.lt; omega) (fun k hk => by cases hk), (Keeps.refl _ _ _).grownN hg⟩)
  have HX := Lib.hid hX
  clear hX hl
  unfold logV
  go_enter Tryf.func18, Tryf.ntmps18
  go_upto_region 1 with fail
  rw [← HX.out]
  clear HX
  go_region_with (first | (go_at_call 31; refine (md_any tx _).mono ?_; rintro e w5 ⟨rfl, hg5⟩; have kxl5 := Eq.trans (World.cell?_of_block (a := ⟨w.heap.size, 0, none⟩) (hg5.block w.heap.size HXS.out (by simp))) kxl; have HG5 := Lib.hid (grown_tr HGX.out (grown_un hg5 ⟨rfl, rfl, rfl, Nat.le_refl _, fun _ _ _ => rfl⟩)); clear hg5) | (go_at_call 7; refine (HADD.out _ (by first | exact HG5.out | exact only_drew HG5.out | exact only_drew (only_drew HG5.out))).mono ?_; rintro e w6 ⟨rfl, ⟨v', hv⟩, hb6, hk6⟩; have HV := Lib.hid hv; have HB6 := Lib.hid (And.intro ((HBG.out _ (by first | exact HG5.out | exact only_drew HG5.out | exact only_drew (only_drew HG5.out))).1.trans hb6) ((HBG.out _ (by first | exact HG5.out | exact only_drew HG5.out | exact only_drew (only_drew HG5.out))).2.trans hk6)); clear hv hb6 hk6))
  all_goals
    go_end0
    exact ⟨rfl, ⟨v', HV.out⟩, HB6.out⟩
theorem spf_call (args : Array Value) (w : World) : (callFunc 19 args).run Tryf.prog w = ((FmtStop.sprintf #[9, 118] #[9] args).run Tryf.prog w).andThen fun v w' => .ok (.value v) w' :=
  run_callFunc_extern Tryf.func19 (by kernel_rfl) (by kernel_rfl) (by kernel_rfl) (by kernel_rfl) args w
theorem spf_guard (name : String) (w : World) : (FmtStop.guard name).run Tryf.prog w = .ok () w := by kernel_rfl
theorem spf_fa : FmtStop.printed? ⟨#[66, 117, 110, 100, 108, 105, 110, 103, 32, 37, 115, 32, 105, 109, 112, 111, 114, 116, 115, 32, 119, 105, 116, 104, 32, 116, 104, 101, 32, 37, 113, 32, 111, 117, 116, 112, 117, 116, 32, 102, 111, 114, 109, 97, 116, 32, 105, 115, 32, 110, 111, 116, 32, 115, 117, 112, 112, 111, 114, 116, 101, 100]⟩ 2 = some [(0, 115, false), (1, 113, false)] := by kernel_rfl
theorem spf_far (w : World) : (FmtDoors.printed ⟨#[66, 117, 110, 100, 108, 105, 110, 103, 32, 37, 115, 32, 105, 109, 112, 111, 114, 116, 115, 32, 119, 105, 116, 104, 32, 116, 104, 101, 32, 37, 113, 32, 111, 117, 116, 112, 117, 116, 32, 102, 111, 114, 109, 97, 116, 32, 105, 115, 32, 110, 111, 116, 32, 115, 117, 112, 112, 111, 114, 116, 101, 100]⟩ 2).run Tryf.prog w = .ok [(0, 115, false), (1, 113, false)] w := by kernel_rfl
theorem spf_fb : FmtStop.printed? ⟨#[66, 117, 110, 100, 108, 105, 110, 103, 32, 119, 105, 116, 104, 32, 37, 115, 32, 105, 109, 112, 111, 114, 116, 115, 32, 105, 115, 32, 110, 111, 116, 32, 115, 117, 112, 112, 111, 114, 116, 101, 100, 32, 117, 110, 108, 101, 115, 115, 32, 116, 104, 101, 121, 32, 97, 114, 101, 32, 101, 120, 116, 101, 114, 110, 97, 108]⟩ 1 = some [(0, 115, false)] := by kernel_rfl
theorem spf_fbr (w : World) : (FmtDoors.printed ⟨#[66, 117, 110, 100, 108, 105, 110, 103, 32, 119, 105, 116, 104, 32, 37, 115, 32, 105, 109, 112, 111, 114, 116, 115, 32, 105, 115, 32, 110, 111, 116, 32, 115, 117, 112, 112, 111, 114, 116, 101, 100, 32, 117, 110, 108, 101, 115, 115, 32, 116, 104, 101, 121, 32, 97, 114, 101, 32, 101, 120, 116, 101, 114, 110, 97, 108]⟩ 1).run Tryf.prog w = .ok [(0, 115, false)] w := by kernel_rfl
def shapeS : List UInt8 := [12, 6, 0, 0, 0, 0, 0, 0, 0, 115, 116, 114, 105, 110, 103]
theorem spf_s (name : String) (x : ByteArray) (w : World) : (FmtStop.operand name false 115 false (.iface 9 (.string x))).run Tryf.prog w = .ok (shapeS, FmtStop.pack x.data.toList) w := by kernel_rfl
theorem spf_q (name : String) (x : ByteArray) (w : World) : (FmtStop.operand name false 113 false (.iface 9 (.string x))).run Tryf.prog w = .ok (shapeS, FmtStop.pack x.data.toList) w := by kernel_rfl
theorem spf_one (F : Interp) (x : ByteArray) (W : World) (b : Nat) (hF : F.answers W.tape) (hc : W.cell? ⟨b, 0, none⟩ = some (.iface 9 (.string x))) :
    (callFunc 19 #[.string ⟨#[66, 117, 110, 100, 108, 105, 110, 103, 32, 119, 105, 116, 104, 32, 37, 115, 32, 105, 109, 112, 111, 114, 116, 115, 32, 105, 115, 32, 110, 111, 116, 32, 115, 117, 112, 112, 111, 114, 116, 101, 100, 32, 117, 110, 108, 101, 115, 115, 32, 116, 104, 101, 121, 32, 97, 114, 101, 32, 101, 120, 116, 101, 114, 110, 97, 108]⟩, .slice (some ⟨b, 0, none⟩) 1 1]).run Tryf.prog W = .ok (.value (.string (FmtStop.textOf (F "fmt.Sprintf" [[66, 117, 110, 100, 108, 105, 110, 103, 32, 119, 105, 116, 104, 32, 37, 115, 32, 105, 109, 112, 111, 114, 116, 115, 32, 105, 115, 32, 110, 111, 116, 32, 115, 117, 112, 112, 111, 114, 116, 101, 100, 32, 117, 110, 108, 101, 115, 115, 32, 116, 104, 101, 121, 32, 97, 114, 101, 32, 101, 120, 116, 101, 114, 110, 97, 108], shapeS, FmtStop.pack x.data.toList] 0)))) W.drew := by
  have hF' := answers_open hF
  rw [spf_call]
  simp [go_sem, hc, spf_guard, spf_fbr, spf_fb, spf_s, hF']
theorem spf_two (F : Interp) (x y : ByteArray) (W : World) (b : Nat) (hF : F.answers W.tape) (hc : W.cell? ⟨b, 0, none⟩ = some (.iface 9 (.string x))) (hd : W.cell? ⟨b, 1, none⟩ = some (.iface 9 (.string y))) :
    (callFunc 19 #[.string ⟨#[66, 117, 110, 100, 108, 105, 110, 103, 32, 37, 115, 32, 105, 109, 112, 111, 114, 116, 115, 32, 119, 105, 116, 104, 32, 116, 104, 101, 32, 37, 113, 32, 111, 117, 116, 112, 117, 116, 32, 102, 111, 114, 109, 97, 116, 32, 105, 115, 32, 110, 111, 116, 32, 115, 117, 112, 112, 111, 114, 116, 101, 100]⟩, .slice (some ⟨b, 0, none⟩) 2 2]).run Tryf.prog W = .ok (.value (.string (FmtStop.textOf (F "fmt.Sprintf" [[66, 117, 110, 100, 108, 105, 110, 103, 32, 37, 115, 32, 105, 109, 112, 111, 114, 116, 115, 32, 119, 105, 116, 104, 32, 116, 104, 101, 32, 37, 113, 32, 111, 117, 116, 112, 117, 116, 32, 102, 111, 114, 109, 97, 116, 32, 105, 115, 32, 110, 111, 116, 32, 115, 117, 112, 112, 111, 114, 116, 101, 100], shapeS, FmtStop.pack x.data.toList, shapeS, FmtStop.pack y.data.toList] 0)))) W.drew := by
  have hF' := answers_open hF
  rw [spf_call]
  simp [go_sem, hc, hd, spf_guard, spf_far, spf_fa, spf_s, spf_q, hF']
def cntR (ph : Int) (ext : Bool) (fm : Int) : Nat := if ph = 1 ∨ ph = 2 then (if fm = 3 then (if ext = true then 0 else 1) else 1) else 0
set_option maxRecDepth 100000 in
theorem fmt_any (fm : Int) : ∃ fs : ByteArray, ∀ w : World, Calls Tryf.prog 20 #[.int .u8 fm] w fun e w' => e = .returned (.string fs) ∧ w = w' := by
  by_cases h1 : (fm == 1) = true
  · refine ⟨⟨#[105, 105, 102, 101]⟩, fun w => ?_⟩
    go_enter Tryf.func20, Tryf.ntmps20
    go_wp2
    go_ret
    exact ⟨rfl, rfl⟩
  rw [Bool.not_eq_true] at h1
  by_cases h2 : (fm == 2) = true
  · refine ⟨⟨#[99, 106, 115]⟩, fun w => ?_⟩
    go_enter Tryf.func20, Tryf.ntmps20
    go_wp2
    go_ret
    exact ⟨rfl, rfl⟩
  rw [Bool.not_eq_true] at h2
  by_cases h3 : (fm == 3) = true
  · refine ⟨⟨#[101, 115, 109]⟩, fun w => ?_⟩
    go_enter Tryf.func20, Tryf.ntmps20
    go_wp2
    go_ret
    exact ⟨rfl, rfl⟩
  rw [Bool.not_eq_true] at h3
  refine ⟨⟨#[]⟩, fun w => ?_⟩
  go_enter Tryf.func20, Tryf.ntmps20
  go_wp2
  go_ret
  exact ⟨rfl, rfl⟩
def RepPost (w : World) (s : Nat) (n : Nat) (e : Ending) (w' : World) : Prop :=
  e = .returned (.tuple #[]) ∧ (∃ h v tx, LogS w' s 0 h v n (rowsOf n tx)) ∧ Below s w w' ∧ Keeps s none w w'
end Go.Proofs.YtoailijfbbdapaaFmt
