/-
  PROVED: FnMultiLineCommaPeriodIgnoresCaseAndOrder: the period does not change when the ASCII letters of the name are upper-cased and the children reversed; it is 0, 1, 2 or 4; for no function it is 0.
-/
import Derived.Test.YtailhcimbpejpaaDoorRows
import Derived.Test.YtailhcimbpejpaaDoorCards
import Derived.Test.YtailhcimbpejpaaDoorTie
import Derived.WalkKit
import Derived.ProofKit
import Derived.OneCell
import Derived.Deep.QuietTactic
import Derived.BigQuiet
import Derived.IntWalk
import Derived.Deep.RegionLaw
import Derived.Deep.RegionWith
import Derived.Outline
import Derived.LoopTactic
import Derived.WalkSpells
import Derived.Deep.Light
import Derived.Test.YtailhcimbpejpaaDoorTac
import Derived.Test.YtailhcimbpejpaaDoorUpl
import Derived.Test.YtailhcimbpejpaaDoorPer
import Derived.OpenShut
import Derived.ShutString
import Derived.ChangeOld
import Derived.Below
import Derived.Carry
import Derived.Handy
import Derived.Lay
import Derived.SevenTiedAt
namespace Go.Proofs.YtailhcimbpejpaaDoor.fnMultiLineCommaPeriodIgnoresCaseAndOrder
open Go.ChangeShapes Go.WideShapes Go.ChangeAt Go.RowKit
open Go.ChangeMaps (open_string shut_string)
set_option linter.unusedVariables false
set_option linter.unusedSimpArgs false

theorem own : ownKnob Tryd.prog.godebug = none := by kernel_rfl
theorem laidOut : laidOutB Tryd.pinned.checked.prog = true := by kernel_rfl

/-- What the walk is told of a slice of integers that came in. -/
def IsRow (k : IntKind) (w : World) (a : Option Addr) (len cap : Nat) (zs : List Int) : Prop :=
  (a = none ∧ len = 0 ∧ cap = 0 ∧ zs = []) ∨
  ∃ x, a = some x ∧ len ≤ cap ∧ cap ≤ maxLen ∧ zs.length = cap ∧ (∀ i, i < zs.length → w.cell? (x.add i) = some (.int k (zs.getD i 0))) ∧ ∀ n ∈ zs, (Lit.int k n).wf = true
theorem isrow_reads {k : IntKind} {w : World} {a : Option Addr} {len cap : Nat} {zs : List Int} (h : IsRow k w a len cap zs) : Reads w w.heap.size 1 a len ((zs.take len).map (Value.int k)) ∧ (a = none → len = 0) ∧ len ≤ maxLen := by
  rcases h with ⟨rfl, rfl, rfl, rfl⟩ | ⟨x, rfl, hl, hm, hz, hc, _⟩
  · exact ⟨Reads.none_, fun _ => rfl, by unfold maxLen; omega⟩
  · refine ⟨⟨by simp; omega, fun hn => ⟨x, rfl, ?_, fun j u hu => ?_⟩⟩, (fun h => by cases h), by omega⟩
    · have := hc 0 (by omega)
      exact World.block_lt_of_cell? w x (by simpa [Addr.add] using this)
    · have hj : j < len := by
        have := (List.getElem?_eq_some_iff.1 hu).1
        simp at this; omega
      rw [hc j (by omega)]
      rw [List.getElem?_map, List.getElem?_take_of_lt hj, List.getElem?_eq_getElem (by omega)] at hu
      rw [List.getD_eq_getElem?_getD, List.getElem?_eq_getElem (by omega)]
      exact hu



def AnyBool (w : World) (e : Ending) (w' : World) : Prop := ∃ b, e = .returned (.bool b) ∧ w = w'
theorem isrow_wf {k : IntKind} {w : World} {a : Option Addr} {len cap : Nat} {zs : List Int} (h : IsRow k w a len cap zs) : ∀ n ∈ zs.take len, (Lit.int k n).wf = true := by
  intro n hn
  rcases h with ⟨_, _, _, rfl⟩ | ⟨_, _, _, _, _, _, hw⟩
  · simp at hn
  · exact hw n (List.mem_of_mem_take hn)
set_option maxRecDepth 100000 in
theorem zb (s : ByteArray) (A : Option Addr) (n c : Nat) (w : World) (hn : n ≤ maxLen) (hs : s.size ≤ maxLen) : Calls Tryd.prog 4 #[.string s, .slice A n c] w (AnyBool w) := by
  unfold maxLen at hn hs
  go_enter Tryd.func4, Tryd.ntmps4
  go_wp2
  all_goals
    go_ret
    exact ⟨_, rfl, rfl⟩
theorem u8I : (Tryd.prog.info? 5).map (fun i => (i.zero, i.size, i.bytes)) = some (some (.int .u8 0), 1, 1) := by kernel_rfl
theorem srcOne (W : World) (x : Value) (hx : x.oneCell' = true) : Src Tryd.prog 1 22 (.slice (some ⟨W.heap.size, 0, none⟩) 1 1) 1 [x] (W.alloc (.cells #[x] 5)) :=
  Src.ofSlice _ Tryd.underlying22 _ 1 1 [x] rfl (fun j u hu => by
    have hj : j < 1 := (List.getElem?_eq_some_iff.1 hu).1
    obtain rfl : j = 0 := by omega
    rw [← hu]
    exact (Blk.new W 5 #[x]).cell 0) (fun u hu => by
    obtain rfl : u = x := by simpa using hu
    exact hx)
def vb (c : UInt8) : Value := .int .u8 (c.toNat : Int)
theorem back (w : World) {B : Nat} {v : Value} {l : List UInt8} {n : Nat} (hl : l.length = n) (h : w.ownsRow B 5 1 v n (l.map vb)) : (convert 22 9 v).run Tryd.prog w = .ok (.string ⟨l.toArray⟩) w := by
  subst hl
  rcases h.2 with ⟨rfl, h0⟩ | ⟨g, cap, cur, rfl, _⟩
  · obtain rfl : l = [] := List.eq_nil_of_length_eq_zero h0
    rw [run_convert_bytes_string w 22 9 5 none 0 0 Tryd.underlying22 Tryd.underlying5 Tryd.underlying9]
    first | rfl | simp [Conv.bytesToString]
  · refine run_convert_bytes_back w _ _ 5 ⟨g, 0, none⟩ cap l Tryd.underlying22 Tryd.underlying5 Tryd.underlying9 (fun j hj => ?_)
    have := h.cells (g := g) rfl j (vb l[j]) (by rw [List.getElem?_map, List.getElem?_eq_getElem hj]; rfl)
    exact this
theorem own_slice {w : World} {base : Nat} {v : Value} {n : Nat} {xs : List Value} (h : w.ownsRow base 35 7 v n xs) : ∃ A c, v = .slice A n c ∧ Reads w w.heap.size 7 A n xs := by
  rcases h.2 with ⟨rfl, h0⟩ | ⟨g, cap, cur, rfl, _⟩
  · refine ⟨none, 0, by rw [h0], ?_⟩
    have h1 := h.1
    have : xs = [] := List.eq_nil_of_length_eq_zero (by rw [h1, h0])
    rw [this, h0]
    exact Reads.none_
  · exact ⟨_, _, rfl, Reads.of_own h⟩
theorem own_below {w w' : World} {B B2 e size n : Nat} {v : Value} {xs : List Value} (h : w.ownsRow B e size v n xs) (hb : Below B2 w w') (hl : ∀ q, v.ownBlock = some q → q < B2) : w'.ownsRow B e size v n xs := by
  refine ⟨h.1, ?_⟩
  rcases h.2 with h0 | ⟨g, cap, cur, rfl, h1, h2, rest⟩
  · exact .inl h0
  · exact .inr ⟨g, cap, cur, rfl, h1, (hb.block g (hl g rfl)).trans h2, rest⟩
theorem rev_at {l : List Nat} {k m n : Nat} (hn : l.length = n) (h : k + 1 + m = n) : ∃ z, l[k]? = some z ∧ l.reverse.take (m + 1) = l.reverse.take m ++ [z] := by
  refine ⟨l[k]'(by omega), List.getElem?_eq_getElem (by omega), ?_⟩
  have hm : m < l.reverse.length := by rw [List.length_reverse]; omega
  rw [List.take_succ_eq_append_getElem hm]
  congr 2
  rw [List.getElem_reverse]
  congr 1
  omega
theorem up_snoc (l : List UInt8) {k : Nat} (h : k < l.length) : upL (l.take (k + 1)) = upL (l.take k) ++ [upB l[k]] := by
  unfold upL
  rw [List.take_succ_eq_append_getElem h, List.map_append]
  rfl
theorem bget (s : ByteArray) (k : Nat) (h : k < s.size) : s.get! k = s.data.toList[k]'(by simpa using h) := by
  show s.data[k]! = _
  rw [getElem!_pos s.data k h]
  simp
section
variable {P : Program} (w : World)
/-- The append as one step of a region that draws its order. -/
theorem step_append_own_src {ops : Array Oper} {o : Oper} {a : Act} {K : Act → World → Prop} {Q : Exit → Act → World → Prop} {E : Prop} (hgd : o.guard = none) (s x : Operand) (t tx : TypeId)
    (ho : o.op = .call { callee := .builtin .append, args := #[s, x], argTypes := #[t, tx] })
    (base : Nat) (e : TypeId) (i : TypeInfo) (z : Value) (size bytes : Nat) (ht : P.underlying t = some (.slice e)) (hi : P.info? e = some i) (hz : i.zero = some z)
    (hsize : i.size = size) (hby : i.bytes = bytes) (hzs : z.cells.size = size)
    (v : Value) (n : Nat) (xs : List Value) (hs : a.eval s = v) (hown : w.ownsRow base e size v n xs)
    (y : Value) (m : Nat) (news : List Value) (hx : a.eval x = y) (hsrc : Src P size tx y m news w)
    (h63 : n + m ≤ maxLen) (hbytes : (n + m) * bytes ≤ 140737488355328) (hbase : base ≤ w.heap.size)
    (h : ∀ v' w', w'.ownsRow base e size v' (n + m) (xs ++ news) → w.grownBy w' v.ownBlock → (v'.ownBlock = v.ownBlock ∨ v'.ownBlock = some w.heap.size) → K (a.put o.dst v') w') :
    if Region.wanted o (yielded ops a.tmps) = true then Oper.wp P o a w K Q else E := by
  have hw : Region.wanted o (yielded ops a.tmps) = true := by simp [Region.wanted, hgd]
  rw [if_pos hw]
  exact wp_append_own_src w s x t tx ho base e i z size bytes ht hi hz hsize hby hzs v n xs hs hown y m news hx hsrc h63 hbytes hbase h
end
/-! ### STEP 1: THE WALK -/
set_option maxHeartbeats 16000000 in
set_option maxRecDepth 100000 in
theorem walk (a0 : ByteArray) (a1 : Option Addr) (len1 cap1 : Nat) (z1 : List Int) (w : World) (w0 : a0.size ≤ maxLen) (w1 : IsRow .u8 w a1 len1 cap1 z1) (hT : Lib.Utf8Tabs 2 3 w) (hV : Lib.CaseVar 0 Lib.caseA w) :
    Calls Tryd.prog 3 #[.string a0, .slice a1 len1 cap1] w fun e w' => e = .returned (.bool true) ∧ Below w.heap.size w w' := by
  obtain ⟨hr1, hA1, hl1⟩ := isrow_reads w1
  have hw1 := isrow_wf w1
  generalize z1.take len1 = x1 at hr1 hw1
  have hb1 : ∀ m ∈ x1, 0 ≤ m ∧ m ≤ 255 := fun m hm => by
    have := hw1 m hm
    simp [Lit.wf, IntKind.min, IntKind.max, IntKind.signed, IntKind.bits] at this
    omega
  have HR1 := Lib.hid hr1; have HA1 := Lib.hid hA1; have HB1 := Lib.hid hb1; have HL1 := Lib.hid hl1
  have l1 : len1 ≤ 9223372036854775807 := hl1
  clear hr1 hA1 hb1 hw1 hl1 w1
  unfold maxLen at w0
  go_enter Tryd.func3, Tryd.ntmps3
  go_wp2_with (go_at_call 4; refine (zb a0 a1 len1 cap1 _ (by unfold maxLen; omega) (by unfold maxLen; omega)).mono ?_)
  rintro e wz ⟨bz, rfl, rfl⟩
  cases bz
  · go_wp2
    go_ret
    exact ⟨rfl, Below.refl _ _⟩
  by_cases hs0 : 65536 < a0.size
  · go_wp2
    go_ret
    exact ⟨rfl, Below.refl _ _⟩
  by_cases hn0 : 65536 < len1
  · go_wp2
    go_ret
    exact ⟨rfl, Below.refl _ _⟩
  have hs : a0.size ≤ 65536 := by omega
  have hn : len1 ≤ 65536 := by omega
  clear w0 l1
  go_wp2_with (go_at_call 5; refine (kids_any a1 len1 cap1 x1 _ HR1.out HB1.out hn).mono ?_)
  rintro e wk ⟨v1, rfl, hown, hbk⟩
  obtain ⟨Z, hZ⟩ : ∃ Z, Z = msOf x1 := ⟨_, rfl⟩
  rw [← hZ] at hown ⊢
  have hzl : Z.length = len1 := by rw [hZ, ms_len]; have := HR1.out.1; simpa using this
  have hv1 : ∀ q, v1.ownBlock = some q → w.heap.size ≤ q ∧ q < wk.heap.size := fun q hq => hown.lt q hq
  obtain ⟨A1, c1, rfl, hrd⟩ := own_slice hown
  have HO1 := Lib.hid hown; have HBK := Lib.hid hbk; have HZL := Lib.hid hzl; have HV1 := Lib.hid hv1
  clear hown hbk hZ hzl hv1 HR1 HA1 HB1 HL1 hrd
  have hwk := HBK.out.size
  obtain ⟨i0, hi, hz0, hz1, hz2⟩ := info_parts tok_info
  have hmk : ∀ W : World, (Instr.makeSlice 24 (.int .i64 0) (.int .i64 (len1 : Int))).run Tryd.prog W = .ok (.slice (some ⟨W.heap.size, 0, none⟩) 0 len1) (W.alloc (.cells (mkT len1) 35)) := fun W => by
    have := run_make (P := Tryd.prog) W 24 35 i0 zTok Tryd.underlying24 hi hz0 .i64 .i64 (0 : Nat) len1 (by omega) (by omega) (by rw [hz2]; omega) (by omega)
    simpa [hz1, mkT] using this
  obtain ⟨X1, hX1⟩ : ∃ X, X = wk.alloc (.cells #[.slice A1 len1 c1] 24) := ⟨_, rfl⟩
  have HX1S : X1.heap.size = wk.heap.size + 1 := by rw [hX1]; simp
  have HX1B : Hid (Blk X1 wk.heap.size 24 #[.slice A1 len1 c1]) := Lib.hid (by rw [hX1]; exact Blk.new _ _ _)
  have kx5 : X1.cell? ⟨wk.heap.size, 0, none⟩ = some (.slice A1 len1 c1) := HX1B.out.cell 0
  have HOX : Hid (X1.ownsRow w.heap.size 35 7 (.slice A1 len1 c1) len1 (row7 Z)) := Lib.hid (by rw [hX1]; exact HO1.out.alloc _)
  have HBX : Hid (Below w.heap.size w X1) := Lib.hid (by rw [hX1]; exact HBK.out.alloc hwk _)
  have HX1 := Lib.hid hX1
  clear hX1
  go_upto_region 8 with fail
  rw [← HX1.out]
  clear HX1
  obtain ⟨W0, hW0⟩ : ∃ W0, W0 = (X1.alloc (.cells (mkT len1) 35)).alloc (.cells #[.slice (some ⟨X1.heap.size, 0, none⟩) 0 len1] 24) := ⟨_, rfl⟩
  have HOR : Hid (W0.ownsRow X1.heap.size 35 7 (.slice (some ⟨X1.heap.size, 0, none⟩) 0 len1) 0 []) := Lib.hid (by
    rw [hW0]
    exact (World.ownsRow_made (base := X1.heap.size) (e := 35) (size := 7) X1 (mkT len1) len1 (Nat.le_refl _) (by unfold maxLen; omega) (mkT_size len1)).alloc _)
  have HB7 : Hid (Blk W0 (X1.heap.size + 1) 24 #[.slice (some ⟨X1.heap.size, 0, none⟩) 0 len1]) := Lib.hid (by
    rw [hW0]
    have := Blk.new (X1.alloc (.cells (mkT len1) 35)) 24 #[.slice (some ⟨X1.heap.size, 0, none⟩) 0 len1]
    simpa using this)
  have HBW : Hid (Below X1.heap.size X1 W0) := Lib.hid (by rw [hW0]; exact ((Below.refl _ _).alloc (Nat.le_refl _) _).alloc (by simp) _)
  have ky5 : W0.cell? ⟨wk.heap.size, 0, none⟩ = some (.slice A1 len1 c1) := (HBW.out.cell (p := ⟨wk.heap.size, 0, none⟩) (by show wk.heap.size < _; omega)).trans kx5
  have HW0 := Lib.hid hW0
  clear hW0
  go_upto_region 9 with fail
  rw [← HX1S, ← HW0.out]
  have HXS := Lib.hid HX1S
  have hx1w : wk.heap.size < X1.heap.size := by omega
  clear HW0 hmk kx5 HX1S
  go_wp2_with fail
  obtain ⟨T7, hT7⟩ : ∃ T, T = X1.heap.size + 1 := ⟨_, rfl⟩
  rw [← hT7]
  rw [← hT7] at HB7
  have HT7 := Lib.hid hT7
  have ht7 : X1.heap.size < T7 := by omega
  clear hT7
  clear ky5
  go_loopw [8] (fun i wr => ∃ (k m : Nat) (v : Value), i = .int .i64 ((k : Int) - 1) ∧ k + m = len1 ∧ wr.ownsRow X1.heap.size 35 7 v m (row7 (Z.reverse.take m)) ∧ Blk wr T7 24 #[v] ∧ Below X1.heap.size X1 wr) (fun i _ => (intOf i + 1).toNat)
  case atStart =>
    refine ⟨len1, 0, _, ?_, by omega, HOR.out, HB7.out, HBW.out⟩
    first | rfl | (rw [IntWalk.i64_in _ (by omega)])
  case round =>
    obtain ⟨k, m, v, rfl, hkm, ho, h7, hb⟩ := hrel
    have HO := Lib.hid ho; have H7 := Lib.hid h7; have HB := Lib.hid hb
    have hbs := hb.size
    have h7l := h7.lt
    have hne7 := own_blk_ne ho h7 (by decide)
    clear ho h7 hb HOR HB7 HBW
    have k7 : wr.cell? ⟨T7, 0, none⟩ = some v := H7.out.cell 0
    have z7 : wr.frozen? ⟨T7, 0, none⟩ = false := H7.out.frozen 0
    have k5 : wr.cell? ⟨wk.heap.size, 0, none⟩ = some (.slice A1 len1 c1) := (HB.out.cell (p := ⟨wk.heap.size, 0, none⟩) (by show wk.heap.size < _; omega)).trans (HX1B.out.cell 0)
    rcases k with _ | k
    · skip
      obtain ⟨iv, hiv⟩ : ∃ iv : Int, iv = ((0 : Nat) : Int) - 1 := ⟨_, rfl⟩
      rw [← hiv]
      have hneg : ¬ 0 ≤ iv := by omega
      obtain rfl : m = len1 := by omega
      obtain ⟨wm, rfl⟩ : ∃ W : World, W = wr := ⟨_, rfl⟩
      have HRV : Hid (Z.reverse.take m = Z.reverse) := Lib.hid (List.take_of_length_le (by rw [List.length_reverse]; have := HZL.out; omega))
      rw [HRV.out] at HO
      clear hiv hne7 HRV
      obtain ⟨A7, c7, rfl, hrd⟩ := own_slice HO.out
      obtain ⟨l, hl⟩ : ∃ l, l = a0.data.toList := ⟨_, rfl⟩
      have hll : l.length = a0.size := by rw [hl]; simp
      obtain ⟨p0, pi, pz0, pz1, pz2⟩ := info_parts u8I
      have hmk2 : ∀ W : World, (Instr.makeSlice 22 (.int .i64 0) (.int .i64 (a0.size : Int))).run Tryd.prog W = .ok (.slice (some ⟨W.heap.size, 0, none⟩) 0 a0.size) (W.alloc (.cells (madeCells #[.int .u8 0] a0.size) 5)) := fun W => by
        have := run_make (P := Tryd.prog) W 22 5 p0 (.int .u8 0) Tryd.underlying22 pi pz0 .i64 .i64 (0 : Nat) a0.size (by omega) (by omega) (by rw [pz2]; omega) (by omega)
        simpa [pz1, Value.cells] using this
      obtain ⟨W3, hW3⟩ : ∃ W, W = wm.alloc (.cells (madeCells #[.int .u8 0] a0.size) 5) := ⟨_, rfl⟩
      have HOU : Hid (W3.ownsRow wm.heap.size 5 1 (.slice (some ⟨wm.heap.size, 0, none⟩) 0 a0.size) 0 []) := Lib.hid (by
        rw [hW3]
        exact World.ownsRow_made (base := wm.heap.size) (e := 5) (size := 1) wm (madeCells #[.int .u8 0] a0.size) a0.size (Nat.le_refl _) (by unfold maxLen; omega) (by simp [madeCells]))
      have HBU : Hid (Below wm.heap.size wm W3) := Lib.hid (by rw [hW3]; exact (Below.refl _ _).alloc (Nat.le_refl _) _)
      have HW3 := Lib.hid hW3; have HL := Lib.hid hl; have HLL := Lib.hid hll
      clear hW3 hl hll pi pz0 pz1 pz2 hrd
      go_upto_region 14 with fail
      rw [← HW3.out]
      clear HW3 hmk2
      go_wp2_with fail
      clear hneg k7 k5 z7
      go_loopw [9, 10, 11] (fun u i c wr => ∃ (k : Nat), i = .int .i64 k ∧ k ≤ a0.size ∧ wr.ownsRow wm.heap.size 5 1 u k ((upL (l.take k)).map vb) ∧ Below wm.heap.size wm wr) (fun u i c _ => a0.size - (intOf i).toNat)
      case atStart => exact ⟨0, rfl, by omega, HOU.out, HBU.out⟩
      case round =>
        obtain ⟨k, rfl, hk, ho, hb⟩ := hrel
        have HO3 := Lib.hid ho; have HB3 := Lib.hid hb
        have hb3s := hb.size
        clear ho hb HOU HBU
        by_cases hlt : k < a0.size
        · have hkl : k < l.length := by rw [HLL.out]; exact hlt
          have HUS : Hid ((upL (l.take (k + 1))).map vb = (upL (l.take k)).map vb ++ [vb (upB l[k])]) := Lib.hid (by rw [up_snoc l hkl, List.map_append]; rfl)
          have hg : a0[k]'hlt = l[k] := by
            show a0.data[k] = _
            simp only [HL.out, Array.getElem_toList]
          obtain ⟨bv, hbv⟩ : ∃ bv, bv = l[k] := ⟨_, rfl⟩
          rw [← hbv] at hg HUS
          have hbn : bv.toNat < 256 := bv.toNat_lt
          have hun := upB_nat bv
          have HSRC : Hid (∀ (W : World) (x : Int), Src Tryd.prog 1 22 (.slice (some ⟨W.heap.size, 0, none⟩) 1 1) 1 [.int .u8 x] (W.alloc (.cells #[.int .u8 x] 5))) := Lib.hid (fun W x => srcOne W _ rfl)
          have HFN : Hid (∀ (x : Int) (v' : Value) (w' : World), x = ((upB bv).toNat : Nat) → w'.ownsRow wm.heap.size 5 1 v' (k + 1) ((upL (l.take k)).map vb ++ [.int .u8 x]) → (wr.alloc (.cells #[.int .u8 x] 5)).grownBy w' u9.ownBlock → w'.ownsRow wm.heap.size 5 1 v' (k + 1) ((upL (l.take (k + 1))).map vb) ∧ Below wm.heap.size wm w') := Lib.hid (fun x v' w' hx hown hg => by
            refine ⟨by rw [HUS.out]; subst hx; exact hown, (HB3.out.alloc HB3.out.size _).grown hg (by simp; omega) (fun q hq => (HO3.out.lt q hq).1)⟩)
          obtain ⟨p0, pi, pz0, pz1, pz2⟩ := info_parts u8I
          clear hbv hkl
          by_cases h97 : 97 ≤ bv.toNat
          · by_cases h122 : bv.toNat ≤ 122
            · skip
              rw [if_pos ⟨h97, h122⟩] at hun
              have i97 : (97 : Int) ≤ (bv.toNat : Nat) := by omega
              have i122 : ((bv.toNat : Nat) : Int) ≤ 122 := by omega
              have hws : IntKind.u8.wrap (((bv.toNat : Nat) : Int) - 32) = ((bv.toNat : Nat) : Int) - 32 := by rw [IntKind.wrap_u8]; omega
              have HUN := Lib.hid hun
              clear hun h97 h122 hbn
              go_wp2_with (at_builtin; refine wpList_append_own_src _ rfl (.tmp 68) (.tmp 70) 22 22 rfl wm.heap.size 5 p0 (.int .u8 0) 1 1 Tryd.underlying22 pi pz0 pz1 pz2 rfl u9 k ((upL (l.take k)).map vb) rfl (HO3.out.alloc _) _ 1 [.int .u8 (((bv.toNat : Nat) : Int) - 32)] rfl (HSRC.out _ _) (by unfold maxLen; omega) (by omega) (by simp; omega) ?_; intro v' w' hown hgr hv; obtain ⟨f1, f2⟩ := HFN.out _ v' w' (by have := HUN.out; omega) hown hgr; have F1 := Lib.hid f1; have F2 := Lib.hid f2; clear hown hgr hv f1 f2)
              go_roundw
              case rel => exact ⟨k + 1, by go_num, by omega, F1.out, F2.out⟩
              case measure => simp [intOf]; omega
            · skip
              rw [if_neg (by omega)] at hun
              have i97 : (97 : Int) ≤ (bv.toNat : Nat) := by omega
              have i122 : ¬ ((bv.toNat : Nat) : Int) ≤ 122 := by omega
              have HUN := Lib.hid hun
              clear hun h97 h122 hbn
              go_wp2_with (at_builtin; refine wpList_append_own_src _ rfl (.tmp 68) (.tmp 70) 22 22 rfl wm.heap.size 5 p0 (.int .u8 0) 1 1 Tryd.underlying22 pi pz0 pz1 pz2 rfl u9 k ((upL (l.take k)).map vb) rfl (HO3.out.alloc _) _ 1 [.int .u8 ((bv.toNat : Nat) : Int)] rfl (HSRC.out _ _) (by unfold maxLen; omega) (by omega) (by simp; omega) ?_; intro v' w' hown hgr hv; obtain ⟨f1, f2⟩ := HFN.out _ v' w' (by rw [HUN.out]) hown hgr; have F1 := Lib.hid f1; have F2 := Lib.hid f2; clear hown hgr hv f1 f2)
              go_roundw
              case rel => exact ⟨k + 1, by go_num, by omega, F1.out, F2.out⟩
              case measure => simp [intOf]; omega
          · skip
            rw [if_neg (by omega)] at hun
            have i97 : ¬ (97 : Int) ≤ (bv.toNat : Nat) := by omega
            have HUN := Lib.hid hun
            clear hun h97 hbn
            go_wp2_with (at_builtin; refine wpList_append_own_src _ rfl (.tmp 68) (.tmp 70) 22 22 rfl wm.heap.size 5 p0 (.int .u8 0) 1 1 Tryd.underlying22 pi pz0 pz1 pz2 rfl u9 k ((upL (l.take k)).map vb) rfl (HO3.out.alloc _) _ 1 [.int .u8 ((bv.toNat : Nat) : Int)] rfl (HSRC.out _ _) (by unfold maxLen; omega) (by omega) (by simp; omega) ?_; intro v' w' hown hgr hv; obtain ⟨f1, f2⟩ := HFN.out _ v' w' (by rw [HUN.out]) hown hgr; have F1 := Lib.hid f1; have F2 := Lib.hid f2; clear hown hgr hv f1 f2)
            go_roundw
            case rel => exact ⟨k + 1, by go_num, by omega, F1.out, F2.out⟩
            case measure => simp [intOf]; omega
        · obtain rfl : k = a0.size := by omega
          have HLT : Hid (l.take a0.size = l) := Lib.hid (List.take_of_length_le (by rw [HLL.out]; omega))
          have HBR : Hid (Below X1.heap.size X1 wr) := Lib.hid (HB.out.trans (HB3.out.mono hbs))
          have hrs := HBR.out.size
          have HBA : Hid (Below w.heap.size w wr) := Lib.hid (HBX.out.trans (HBR.out.mono (by have := HBX.out.size; omega)))
          have HUL : Hid (lowB ⟨(upL l).toArray⟩ = lowB a0) := Lib.hid (by
            unfold lowB
            show (⟨(Lib.toLowerD (upL l).toArray.toList).toArray⟩ : ByteArray) = _
            rw [show (upL l).toArray.toList = upL l from rfl, toLower_up, HL.out])
          have HRE : Hid (cms Z.reverse = cms Z) := Lib.hid (cms_rev Z)
          have HCV : Hid (∀ W : World, Below wr.heap.size wr W → (convert 22 9 u9).run Tryd.prog W = .ok (.string ⟨(upL l).toArray⟩) W) := Lib.hid (fun W hW => by
            have h1 := HO3.out
            rw [HLT.out] at h1
            exact back W (by rw [upL_len, HLL.out]) (own_below h1 hW (fun q hq => (h1.lt q hq).2)))
          have HK : Hid (∀ W : World, Below wr.heap.size wr W → W.cell? ⟨wk.heap.size, 0, none⟩ = some (.slice A1 m c1) ∧ W.cell? ⟨T7, 0, none⟩ = some (.slice A7 m c7) ∧ Reads W W.heap.size 7 A1 m (row7 Z) ∧ Reads W W.heap.size 7 A7 m (row7 Z.reverse) ∧ (∀ q : Addr, q.block < w.heap.size → W.cell? q = w.cell? q)) := Lib.hid (fun W hW => by
            have b1 : Below X1.heap.size X1 W := HBR.out.trans (hW.mono hrs)
            have b2 : Below wm.heap.size wm W := HB3.out.trans (hW.mono hb3s)
            have b3 : Below w.heap.size w W := HBA.out.trans (hW.mono HBA.out.size)
            refine ⟨(b1.cell (p := ⟨wk.heap.size, 0, none⟩) (by show wk.heap.size < _; omega)).trans (HX1B.out.cell 0), (b2.cell (p := ⟨T7, 0, none⟩) (by show T7 < _; have := H7.out.lt; omega)).trans (H7.out.cell 0), ?_, ?_, fun q hq => b3.cell hq⟩
            · exact Reads.of_own (own_below HOX.out b1 (fun q hq => by have := HV1.out q hq; omega))
            · exact Reads.of_own (own_below HO.out b2 (fun q hq => (HO.out.lt q hq).2)))
          have HTT := Lib.hid hT; have HVV := Lib.hid hV
          have HS2 : Hid ((⟨(upL l).toArray⟩ : ByteArray).size ≤ 16777216) := Lib.hid (by show (upL l).toArray.size ≤ _; simp; rw [upL_len, HLL.out]; omega)
          have HC1 : Hid (∀ W : World, Below wr.heap.size wr W → Calls Tryd.prog 6 #[.agg #[.pointer (some ⟨wk.heap.size, 0, none⟩), .string a0, .int .i32 0, .int .u32 0, .int .u16 0, .int .u8 27, .int .u8 0]] W (PerPost (per (cms Z) (lowB a0)) W)) := Lib.hid (fun W hW => by
            obtain ⟨h1, h2, h3, h4, h5⟩ := HK.out W hW
            exact zz_fn _ a0 A1 m c1 Z W h1 h3 hn (by omega) (caseVar_keep HVV.out h5) (utf8Tabs_keep HTT.out h5))
          have HC2 : Hid (∀ W : World, Below wr.heap.size wr W → Calls Tryd.prog 6 #[.agg #[.pointer (some ⟨T7, 0, none⟩), .string ⟨(upL l).toArray⟩, .int .i32 0, .int .u32 0, .int .u16 0, .int .u8 27, .int .u8 0]] W (PerPost (per (cms Z) (lowB a0)) W)) := Lib.hid (fun W hW => by
            obtain ⟨h1, h2, h3, h4, h5⟩ := HK.out W hW
            have := zz_fn _ ⟨(upL l).toArray⟩ A7 m c7 Z.reverse W h2 h4 hn HS2.out (caseVar_keep HVV.out h5) (utf8Tabs_keep HTT.out h5)
            rw [HRE.out, HUL.out] at this
            exact this)
          clear hT hV HTT HVV HK HRE HUL HO3 HLT HB3 HB HBR HO H7 HX1B HOX HV1
          have HP4 := Lib.hid (per_cases (cms Z) (lowB a0))
          generalize per (cms Z) (lowB a0) = r at HC1 HC2 HP4
          rcases HP4.out with h | h | h | h
          all_goals
            subst h
            go_wp2_with (go_at_call 6; refine (HC1.out _ (Below.refl _ _)).mono ?_)
            rintro e w1 ⟨rfl, hb1⟩
            have HB1 := Lib.hid hb1
            clear hb1
            have hcv := HCV.out w1 HB1.out
            go_wp2_with (go_at_call 6; refine (HC2.out _ HB1.out).mono ?_)
            rintro e w2 ⟨rfl, hb2⟩
            have HB2 := Lib.hid (HB1.out.trans (hb2.mono HB1.out.size))
            clear hb2 hcv
            go_wp2_with (go_at_call 6; refine (zz_id wk.heap.size a0 w2).mono ?_)
            rintro e w3 ⟨rfl, hb3⟩
            have HB4 := Lib.hid (HBA.out.trans ((HB2.out.trans (hb3.mono HB2.out.size)).mono HBA.out.size))
            clear hb3
            go_wp2_with fail
            go_ret
            exact ⟨rfl, HB4.out⟩
    · have hiw : ((k + 1 : Nat) : Int) - 1 = (k : Int) := by omega
      rw [hiw]
      clear hiw
      obtain ⟨z, hz, hsn⟩ := rev_at HZL.out (show k + 1 + m = len1 by omega)
      have HSN : Hid (row7 (Z.reverse.take (m + 1)) = row7 (Z.reverse.take m) ++ tok7 z) := Lib.hid (by rw [hsn, row7_snoc])
      have HOk := own_below HOX.out HB.out (fun q hq => by have := HV1.out q hq; omega)
      obtain ⟨b, off, hA, hbb, hcl⟩ := reads7 (Reads.of_own HOk) (show 0 < len1 by omega)
      subst hA
      have key := hcl k z hz
      have q0 : wr.cell? ⟨b, off + k * 7, none⟩ = some (.pointer none) := key 0 _ rfl
      have q1 : wr.cell? ⟨b, off + k * 7 + 1, none⟩ = some (.string (tkS z)) := key 1 _ rfl
      have q2 : wr.cell? ⟨b, off + k * 7 + 2, none⟩ = some (.int .i32 0) := key 2 _ rfl
      have q3 : wr.cell? ⟨b, off + k * 7 + 3, none⟩ = some (.int .u32 0) := key 3 _ rfl
      have q4 : wr.cell? ⟨b, off + k * 7 + 4, none⟩ = some (.int .u16 0) := key 4 _ rfl
      have q5 : wr.cell? ⟨b, off + k * 7 + 5, none⟩ = some (.int .u8 (tkK z)) := key 5 _ rfl
      have q6 : wr.cell? ⟨b, off + k * 7 + 6, none⟩ = some (.int .u8 0) := key 6 _ rfl
      clear key hcl hz hsn HOk
      obtain ⟨j0, gi, gz0, gz1, gz2⟩ := info_parts tok_info
      have HST : Hid (∀ U : World, (wr.alloc (.cells #[.pointer none, .string (tkS z), .int .i32 0, .int .u32 0, .int .u16 0, .int .u8 (tkK z), .int .u8 0] 35)).grownBy U none → X1.heap.size ≤ U.heap.size ∧ U.ownsRow X1.heap.size 35 7 v m (row7 (Z.reverse.take m)) ∧ Src Tryd.prog 7 24 (.slice (some ⟨wr.heap.size, 0, none⟩) 1 1) 1 (tok7 z) U) := Lib.hid (fun U hU => by
        refine ⟨by have := hU.size; simp at this; omega, (HO.out.alloc _).kept hU (own_or _), Src.ofSlice _ Tryd.underlying24 _ 1 1 (tok7 z) rfl (fun j u hu => ?_) (fun u hu => row7_one [z] u (by simpa [row7] using hu))⟩
        rw [← hu]
        have := (Blk.new wr 35 #[.pointer none, .string (tkS z), .int .i32 0, .int .u32 0, .int .u16 0, .int .u8 (tkK z), .int .u8 0]).cell j
        rw [List.getElem?_toArray] at this
        refine Eq.trans ?_ this
        unfold Addr.add
        split
        · rename_i h0; subst h0; exact World.cell?_of_block (hU.block wr.heap.size (by simp) (by simp))
        · rw [Nat.zero_add]; exact World.cell?_of_block (hU.block wr.heap.size (by simp) (by simp)))
      have HFIN : Hid (∀ (U w' : World) (v' : Value), (wr.alloc (.cells #[.pointer none, .string (tkS z), .int .i32 0, .int .u32 0, .int .u16 0, .int .u8 (tkK z), .int .u8 0] 35)).grownBy U none → w'.ownsRow X1.heap.size 35 7 v' (m + 1) (row7 (Z.reverse.take m) ++ tok7 z) → U.grownBy w' v.ownBlock →
          (∃ A' c', v' = .slice A' (m + 1) c') ∧ w'.cell? ⟨T7, 0, none⟩ = some v ∧ w'.frozen? ⟨T7, 0, none⟩ = false ∧ (w'.setCell ⟨T7, 0, none⟩ v').ownsRow X1.heap.size 35 7 v' (m + 1) (row7 (Z.reverse.take (m + 1))) ∧ Blk (w'.setCell ⟨T7, 0, none⟩ v') T7 24 #[v'] ∧ Below X1.heap.size X1 (w'.setCell ⟨T7, 0, none⟩ v')) := Lib.hid (fun U w' v' hU hown hg => by
        have h7w : Blk w' T7 24 #[v] := ((H7.out.alloc _).grown hU (by simp)).grown hg (fun e => hne7 e.symm)
        have hsv : v'.ownBlock ≠ some T7 := own_blk_ne hown h7w (by decide)
        obtain ⟨A', c', he, _⟩ := own_slice hown
        refine ⟨⟨A', c', he⟩, h7w.cell 0, h7w.frozen 0, ?_, h7w.set_ 0 v', ?_⟩
        · rw [HSN.out]; exact ownsRow_setCell_other hown hsv v'
        · refine Below.setCell ?_ (p := ⟨T7, 0, none⟩) (by show X1.heap.size ≤ T7; omega) v'
          exact ((HB.out.alloc HB.out.size _).grown hU (by simp; omega) (fun k hk => by cases hk)).grown hg (HST.out U hU).1 (fun q hq => (HO.out.lt q hq).1))
      have jj0 : (0 : Int) ≤ (k : Int) := by omega
      have jj1 : (k : Int) < (len1 : Int) := by omega
      go_upto_region 12 with fail
      go_region_law (refine step_append_own_src _ rfl (.tmp 41) (.tmp 46) 24 24 rfl X1.heap.size 35 j0 zTok 7 40 Tryd.underlying24 gi gz0 gz1 gz2 rfl v m (row7 (Z.reverse.take m)) (by simp [Act.eval, Act.put]) (by refine (HST.out _ ?_).2.1; exact ⟨rfl, rfl, rfl, Nat.le_refl _, fun _ _ _ => rfl⟩) (.slice (some ⟨wr.heap.size, 0, none⟩) 1 1) 1 (tok7 z) (by simp [Act.eval, Act.put]) (by refine (HST.out _ ?_).2.2; exact ⟨rfl, rfl, rfl, Nat.le_refl _, fun _ _ _ => rfl⟩) (by unfold maxLen; omega) (by omega) (by refine (HST.out _ ?_).1; exact ⟨rfl, rfl, rfl, Nat.le_refl _, fun _ _ _ => rfl⟩) ?_; intro v' w' hown hg hv; obtain ⟨⟨A', c', rfl⟩, f1, f2, f3, f4, f5⟩ := HFIN.out _ w' v' (by exact ⟨rfl, rfl, rfl, Nat.le_refl _, fun _ _ _ => rfl⟩) hown hg;  have F3 := Lib.hid f3; have F4 := Lib.hid f4; have F5 := Lib.hid f5; clear hown hg hv f3 f4 f5)
      all_goals
        go_wp2_with fail
        go_roundw
        case rel => exact ⟨k, m + 1, _, by go_num, by omega, F3.out, F4.out, F5.out⟩
        case measure => simp [intOf] <;> omega

/-! ### THE ROW's STEP -/
set_option maxRecDepth 100000 in
theorem lifted (os : Os) (started : os.Started) (H : Type) (enc : TypeId × Value → H) :
    ReturnsInHanded {} Tryd.checked os 3 .any (fun w args => (Rows.fnMultiLineCommaPeriodIgnoresCaseAndOrderSpec.pre enc Tryd.prog Tryd.f3 [] false w args ∧ laidMetH Tryd.prog Rows.fnMultiLineCommaPeriodIgnoresCaseAndOrderRow.laid w) ∧ sizedMet enc Tryd.prog Tryd.f3 (OpenSpec.ofChange Rows.fnMultiLineCommaPeriodIgnoresCaseAndOrderSpec) false w args)
      (Rows.fnMultiLineCommaPeriodIgnoresCaseAndOrderSpec.post enc Tryd.prog Tryd.f3 false true false false) := by
  refine returnsInHanded_of_change_and (C := Tryd.checked) (X := fun w _ => laidMetH Tryd.prog Rows.fnMultiLineCommaPeriodIgnoresCaseAndOrderRow.laid w) (fun _ _ _ hh h => h.of_heap hh) own started (by kernel_rfl) Tryd.func3
    (ChangeSpec.witness_shaped (enc := enc) (C := Tryd.checked) (os := os) (X := fun w _ => laidMetH Tryd.prog Rows.fnMultiLineCommaPeriodIgnoresCaseAndOrderRow.laid w) false (World.laidAll Tryd.prog os Rows.fnMultiLineCommaPeriodIgnoresCaseAndOrderRow.laid) #[.string ByteArray.empty, .slice none 0 0] 8 (World.laidAll_os _ _ _)
      (World.shaped_of_ZipB (by kernel_rfl) (by kernel_rfl)) (by kernel_rfl) (by kernel_rfl) (by kernel_rfl)
      (by rw [MakeChecks.laidMetH_plain _ _ _ (by kernel_rfl)]; exact laidMet_laidAll _ (by kernel_rfl) (by kernel_rfl))) ?_
  intro W base args ds gs before hval0 hW _ _ hL _
  have hval : ∀ (j : Nat) t v, Tryd.f3.params[j]? = some t → args[j]? = some v → Value.okWide Tryd.prog W .any base t v := hval0
  have hW' := hW
  obtain ⟨p, q, hA0, hV, rfl, hfz, hnd⟩ := hW
  have hA : DataW.TrodAll enc Tryd.prog W 0 (fun _ => true) true Tryd.f3.params.toList args.toList ds p := hA0
  rw [Tryd.params3] at hA hval
  obtain ⟨v0, vs0, d0, ds0, p0, q0, hargs, rfl, rfl, h0, r0⟩ := trodAll_cons hA
  obtain ⟨v1, vs1, d1, ds1, p1, q1, rfl, rfl, rfl, h1, r1⟩ := trodAll_cons r0
  obtain ⟨rfl, rfl, rfl⟩ := trodAll_nil r1
  obtain rfl : args = #[v0, v1] := by cases args; simp_all
  obtain ⟨rfl, rfl⟩ := trodVars_none hV
  have k0 := h0
  have lt0 : ∀ x ∈ p0, x.block < W.heap.size := by obtain ⟨m, hm⟩ := k0; exact DataW.trod_lt m _ _ _ hm
  have k1 := h1
  have lt1 : ∀ x ∈ p1, x.block < W.heap.size := by obtain ⟨m, hm⟩ := k1; exact DataW.trod_lt m _ _ _ hm
  obtain ⟨a0, rfl, rfl, rfl, w0⟩ := open_string Tryd.underlying9 (hval 0 9 v0 rfl rfl) h0
  obtain ⟨a1, len1, cap1, rfl⟩ := okWide_slice Tryd.underlying22 (hval 1 22 v1 rfl rfl)
  obtain ⟨z1, w1⟩ : ∃ zs, IsRow .u8 W a1 len1 cap1 zs := by
    obtain ⟨fuel, hf⟩ := h1
    rcases open_ints Tryd.underlying22 Tryd.underlying5 (by kernel_rfl) hf with ⟨hcs, _⟩ | ⟨x, l, c, zs, hcs, _, hl, hm, hz, _, hcell, hwz⟩
    · simp [Value.cells] at hcs
      obtain ⟨rfl, rfl, rfl⟩ := hcs
      exact ⟨[], .inl ⟨rfl, rfl, rfl, rfl⟩⟩
    · simp [Value.cells] at hcs
      obtain ⟨rfl, rfl, rfl⟩ := hcs
      exact ⟨zs, .inr ⟨_, rfl, hl, hm, by simpa using hz, hcell, hwz⟩⟩
  clear hA0 hval0
  refine (walk a0 a1 len1 cap1 z1 W w0 w1 (tabs_of hL) (case_of hL)).mono fun e W' ⟨he, bel⟩ => ?_
  subst he
  exact ⟨_, rfl, _, _, _, [], _, [], hW', trodAll_mk1 (shut_bool Tryd.underlying4 _), (trodAll_cons_mk (Below.trod laidOut (by kernel_rfl) (of_decide_eq_true (by kernel_rfl)) k0 bel lt0) (trodAll_cons_mk (Below.trod laidOut (by kernel_rfl) (of_decide_eq_true (by kernel_rfl)) k1 bel lt1) trodAll_mk0)), rfl, bel.frame _, fun h => by cases h⟩

theorem over : Rows.fnMultiLineCommaPeriodIgnoresCaseAndOrderRow.holds Tryd.pinned (OpenSpec.ofChange Rows.fnMultiLineCommaPeriodIgnoresCaseAndOrderSpec) :=
  OpenClaim.holds_of_wide 3 Tryd.f3 rfl rfl rfl rfl rfl rfl rfl ⟨rfl, rfl, rfl, rfl, rfl⟩ rfl rfl rfl rfl rfl (by kernel_rfl) Tryd.func3 (by kernel_rfl)
    (of_decide_eq_true (by kernel_rfl)) (by unfold Func.isWrapper; first | (rw [if_pos (by decide +kernel)]; kernel_rfl) | (rw [if_neg (by decide +kernel)]; exact ⟨rfl, rfl⟩))
    (fun os started H enc _ => lifted os started H enc)

theorem proved : Rows.FnMultiLineCommaPeriodIgnoresCaseAndOrderCardSaid :=
  Claim7.holds_tied_plain_at .later [] [.data, .pinned, .pinned] true (true, "b2cced5a10a3273618a8401ff5ec7b05d509b6f0e396e3dddba702cecc6c128f") false over (fun _ h => by cases h) (by kernel_rfl) (fun _ h => by cases h) fnMultiLineCommaPeriodIgnoresCaseAndOrder_row_tie rfl ⟨rfl, rfl⟩ (by kernel_rfl) rfl
    (fun f fn hf hfn => by
      obtain rfl : f = 3 := Option.some.inj ((show Tryd.prog.funcNamed "github.com/evanw/esbuild/n011_165.FnMultiLineCommaPeriodIgnoresCaseAndOrder" = some 3 by kernel_rfl).symm.trans hf) |>.symm
      obtain rfl : fn = Tryd.f3 := (Option.some.inj (Tryd.func3.symm.trans hfn)).symm
      exact ⟨by kernel_rfl, fun j t ht => by
        rw [Tryd.params3] at ht
        have hm : t ∈ [9, 22] := by simpa using Array.mem_of_getElem? ht
        have hall : ([9, 22].all fun u => !Tryd.prog.wantsStandIn u) = true := by kernel_rfl
        exact (show Tryd.prog.wantsStandIn t = false by simpa using List.all_eq_true.1 hall t hm)⟩)
    (by kernel_rfl)
#print axioms proved
end Go.Proofs.YtailhcimbpejpaaDoor.fnMultiLineCommaPeriodIgnoresCaseAndOrder