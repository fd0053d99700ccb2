/-
  PROVED: The decimal text of n after k leading zeros reads back as n and true.
-/
import Derived.Test.YtanhijhhceakjaaDoorRows
import Derived.Test.YtanhijhhceakjaaDoorCards
import Derived.Test.YtanhijhhceakjaaDoorTie
import Derived.WalkKit
import Derived.ProofKit
import Derived.Laws.IdiomStrings
import Derived.Laws.MakeOwn
import Derived.Outline
import Derived.LoopTactic
import Derived.WalkSpells
import Derived.Deep.Light
import Derived.Test.YtanhijhhceakjaaDoorApp
import Derived.Test.YtanhijhhceakjaaDoorErr
import Derived.OpenShut
import Derived.ShutString
import Derived.ChangeOld
import Derived.Below
import Derived.Carry
import Derived.Handy
import Derived.Lay
import Derived.SevenTiedAt
namespace Go.Proofs.YtanhijhhceakjaaDoor.fnPreReleasePartToNumberZeroPaddedRoundTrip
open Go.ChangeShapes Go.WideShapes Go.ChangeAt Go.RowKit
open Go.ChangeMaps (open_string shut_string)
set_option linter.unusedVariables false
set_option linter.unusedSimpArgs false

theorem own : ownKnob Tryd.prog.godebug = none := by kernel_rfl
theorem laidOut : laidOutB Tryd.pinned.checked.prog = true := by kernel_rfl



theorem u8I : (Tryd.prog.info? 5).map (fun i => (i.zero, i.size, i.bytes)) = some (some (.int .u8 0), 1, 1) := by kernel_rfl
theorem srcOne (W : World) (x : Value) (hx : x.oneCell' = true) : Src Tryd.prog 1 32 (.slice (some ⟨W.heap.size, 0, none⟩) 1 1) 1 [x] (W.alloc (.cells #[x] 5)) :=
  Src.ofSlice _ Tryd.underlying32 _ 1 1 [x] rfl (fun j u hu => by
    have hj : j < 1 := (List.getElem?_eq_some_iff.1 hu).1
    obtain rfl : j = 0 := by omega
    rw [← hu]
    exact (Blk.new W 5 #[x]).cell 0) (fun u hu => by
    obtain rfl : u = x := by simpa using hu
    exact hx)
def vb (c : UInt8) : Value := .int .u8 (c.toNat : Int)
theorem back (w : World) {B : Nat} {v : Value} {l : List UInt8} {n : Nat} (hl : l.length = n) (hn : 0 < n) (h : w.ownsRow B 5 1 v n (l.map vb)) : (convert 32 9 v).run Tryd.prog w = .ok (.string ⟨l.toArray⟩) w := by
  subst hl
  rcases h.2 with ⟨_, h0⟩ | ⟨g, cap, cur, rfl, _⟩
  · omega
  · refine run_convert_bytes_back w _ _ 5 ⟨g, 0, none⟩ cap l Tryd.underlying32 Tryd.underlying5 Tryd.underlying9 (fun j hj => ?_)
    have := h.cells (g := g) rfl j (vb l[j]) (by rw [List.getElem?_map, List.getElem?_eq_getElem hj]; rfl)
    exact this
theorem decL_pow (l : List UInt8) : ∀ acc, decL acc l = acc * 10 ^ l.length + decL 0 l := by
  induction l with
  | nil => intro acc; rw [decL_nil, decL_nil]; simp
  | cons c r ih =>
    intro acc
    rw [decL_cons, decL_cons, ih, ih (0 * 10 + (c.toNat - 48)), List.length_cons, Nat.pow_succ, Nat.zero_mul, Nat.zero_add, Nat.add_mul, Nat.mul_assoc, Nat.mul_comm 10, Nat.add_assoc]
theorem decL_zeros (k : Nat) (l : List UInt8) : decL 0 (List.replicate k 48 ++ l) = decL 0 l := by
  rw [decL_append]
  congr 1
  induction k with
  | zero => rfl
  | succ k ih => rw [List.replicate_succ, decL_cons]; exact ih
theorem digL_append (l r : List UInt8) (h : digL l = true) (h' : digL r = true) : digL (l ++ r) = true := by
  unfold digL at *; rw [List.all_append, h, h']; rfl
theorem digL_zeros (k : Nat) : digL (List.replicate k 48) = true := by
  unfold digL; rw [List.all_eq_true]; intro x hx; rw [List.eq_of_mem_replicate hx]; decide
/-- The digits laid so far: the cells from j on are l's. -/
structure Digs (w : World) (G n j m : Nat) (l : List UInt8) : Prop where
  len : l.length + j = 24
  num : n = m * 10 ^ l.length + decL 0 l
  dig : digL l = true
  cells : ∃ cs : Array Value, Blk w G 33 cs ∧ cs.size = 24 ∧ ∀ t (ht : t < l.length), cs[j + t]? = some (vb l[t])
theorem Digs.low {w : World} {G n j m : Nat} {l : List UInt8} (h : Digs w G n j m l) (hn : n < 9223372036854775808) (hm : 0 < m) : l.length < 19 := by
  rcases Nat.lt_or_ge l.length 19 with h1 | h1
  · exact h1
  · have h2 : 10 ^ 19 ≤ 10 ^ l.length := Nat.pow_le_pow_right (by omega) h1
    have h3 : 10 ^ l.length ≤ m * 10 ^ l.length := Nat.le_mul_of_pos_left _ hm
    have := h.num
    have h4 : (10 : Nat) ^ 19 = 10000000000000000000 := by decide
    omega
theorem Digs.put {w : World} {G n j m : Nat} {l : List UInt8} (h : Digs w G n (j + 1) m l) (c : UInt8) (hc : c.toNat = 48 + m % 10) : Digs (w.setCell ⟨G, j, none⟩ (vb c)) G n j (m / 10) (c :: l) := by
  obtain ⟨h1, h2, h3, cs, h4, h5, h6⟩ := h
  refine ⟨by simp; omega, ?_, ?_, cs.setIfInBounds j (vb c), h4.set_ j _, by simpa using h5, fun t ht => ?_⟩
  · rw [h2, decL_cons, decL_pow l (0 * 10 + (c.toNat - 48)), hc, List.length_cons, Nat.pow_succ]
    have e : 0 * 10 + (48 + m % 10 - 48) = m % 10 := by omega
    rw [e, ← Nat.add_assoc]
    congr 1
    have : m = m / 10 * 10 + m % 10 := by omega
    have h5 : m * 10 ^ l.length = (m / 10 * 10 + m % 10) * 10 ^ l.length := by rw [← this]
    rw [h5, Nat.add_mul, Nat.mul_assoc, Nat.mul_comm 10]
  · unfold digL at *
    rw [List.all_cons, h3, Bool.and_true]
    unfold isD; simp; omega
  · rw [Array.getElem?_setIfInBounds]
    cases t with
    | zero => rw [if_pos (by omega), if_pos (by omega)]; rfl
    | succ t =>
      rw [if_neg (by omega)]
      have := h6 t (by simpa using ht)
      rw [show j + (t + 1) = j + 1 + t by omega]
      exact this
theorem Digs.below {w w' : World} {G n j m B : Nat} {l : List UInt8} (h : Digs w G n j m l) (hb : Below B w w') (hg : G < B) : Digs w' G n j m l := by
  obtain ⟨h1, h2, h3, cs, h4, h5⟩ := h
  exact ⟨h1, h2, h3, cs, h4.below hb hg, h5⟩
theorem Digs.grown {w w' : World} {G n j m : Nat} {l : List UInt8} {r : Option Nat} (h : Digs w G n j m l) (hg : w.grownBy w' r) (hne : some G ≠ r) : Digs w' G n j m l := by
  obtain ⟨h1, h2, h3, cs, h4, h5⟩ := h
  exact ⟨h1, h2, h3, cs, h4.grown hg hne, h5⟩
theorem Digs.alloc {w : World} {G n j m : Nat} {l : List UInt8} (h : Digs w G n j m l) (o : Obj) : Digs (w.alloc o) G n j m l := by
  obtain ⟨h1, h2, h3, cs, h4, h5⟩ := h
  exact ⟨h1, h2, h3, cs, h4.alloc o, h5⟩
theorem Digs.ne {w : World} {G n j m B k : Nat} {v : Value} {xs : List Value} {l : List UInt8} (h : Digs w G n j m l) (ho : w.ownsRow B 5 1 v k xs) : v.ownBlock ≠ some G := by
  obtain ⟨h1, h2, h3, cs, h4, h5⟩ := h
  exact own_blk_ne ho h4 (by decide)
theorem Digs.old {w : World} {G n j m : Nat} {l : List UInt8} (h : Digs w G n j m l) {t : Nat} (ht : t < 24) : ∃ v, w.cell? ⟨G, t, none⟩ = some v := by
  obtain ⟨h1, h2, h3, cs, h4, h5, _⟩ := h
  exact ⟨cs[t]'(by omega), by rw [h4.cell, Array.getElem?_eq_getElem]⟩
theorem Digs.frozen {w : World} {G n j m : Nat} {l : List UInt8} (h : Digs w G n j m l) (t : Nat) : w.frozen? ⟨G, t, none⟩ = false := by
  obtain ⟨h1, h2, h3, cs, h4, h5, _⟩ := h
  exact h4.frozen t
theorem Digs.at_ {w : World} {G n j m : Nat} {l : List UInt8} (h : Digs w G n j m l) (t : Nat) (ht : t < l.length) : w.cell? ⟨G, j + t, none⟩ = some (vb l[t]) := by
  obtain ⟨h1, h2, h3, cs, h4, h5, h6⟩ := h
  rw [h4.cell]; exact h6 t ht
theorem own_other {w : World} {B n G : Nat} {v : Value} {xs : List Value} (h : w.ownsRow B 5 1 v n xs) (hne : v.ownBlock ≠ some G) (i : Nat) (u : Value) : (w.setCell ⟨G, i, none⟩ u).ownsRow B 5 1 v n xs := by
  refine ⟨h.1, ?_⟩
  rcases h.2 with h2 | ⟨g, cap2, cur, a, b2, c2, d⟩
  · exact .inl h2
  · refine .inr ⟨g, cap2, cur, a, b2, ?_, d⟩
    rw [Below.heap_setCell _ _ _ _ (show g ≠ G by
      rintro rfl
      exact hne (by rw [a]; rfl))]
    exact c2
def Rel1 (w : World) (k : Nat) (v i : Value) (wr : World) : Prop :=
  ∃ t : Nat, i = .int .i64 t ∧ t ≤ k ∧ wr.ownsRow w.heap.size 5 1 v t ((List.replicate t (48 : UInt8)).map vb) ∧ Below w.heap.size w wr
def Rel2 (w : World) (G k n : Nat) (v : Value) (j m : Value) (wr : World) : Prop :=
  ∃ (jj mm : Nat) (l : List UInt8), j = .int .i64 jj ∧ m = .int .i64 mm ∧ Digs wr G n jj mm l ∧ wr.ownsRow w.heap.size 5 1 v k ((List.replicate k (48 : UInt8)).map vb) ∧ Below w.heap.size w wr ∧ (l = [] → 0 < mm)
def Rel3 (w : World) (G k n : Nat) (j0 : Nat) (l : List UInt8) (v j : Value) (wr : World) : Prop :=
  ∃ t : Nat, j = .int .i64 ((j0 + t : Nat) : Int) ∧ t ≤ l.length ∧ Digs wr G n j0 0 l ∧ wr.ownsRow w.heap.size 5 1 v (k + t) ((List.replicate k (48 : UInt8) ++ l.take t).map vb) ∧ Below w.heap.size w wr
def zer24 : Array Value := #[.int .u8 0, .int .u8 0, .int .u8 0, .int .u8 0, .int .u8 0, .int .u8 0, .int .u8 0, .int .u8 0, .int .u8 0, .int .u8 0, .int .u8 0, .int .u8 0, .int .u8 0, .int .u8 0, .int .u8 0, .int .u8 0, .int .u8 0, .int .u8 0, .int .u8 0, .int .u8 0, .int .u8 0, .int .u8 0, .int .u8 0, .int .u8 0]
def one24 : Array Value := #[.int .u8 0, .int .u8 0, .int .u8 0, .int .u8 0, .int .u8 0, .int .u8 0, .int .u8 0, .int .u8 0, .int .u8 0, .int .u8 0, .int .u8 0, .int .u8 0, .int .u8 0, .int .u8 0, .int .u8 0, .int .u8 0, .int .u8 0, .int .u8 0, .int .u8 0, .int .u8 0, .int .u8 0, .int .u8 0, .int .u8 0, .int .u8 48]
theorem new24 (w : World) (n : Nat) : Digs (w.alloc (.cells zer24 33)) w.heap.size n 24 n [] := ⟨rfl, by simp [decL], rfl, _, Blk.new w _ _, rfl, fun t ht => by simp at ht⟩
theorem new24z (w : World) (n : Nat) (hz : n = 0) : Digs (w.alloc (.cells one24 33)) w.heap.size n 23 n [48] := by
  subst hz
  refine ⟨rfl, rfl, by decide, _, Blk.new w _ _, rfl, fun t ht => ?_⟩
  obtain rfl : t = 0 := by
    have : t < 1 := ht
    omega
  rfl
/-! ### STEP 1: THE WALK -/
set_option maxHeartbeats 2000000 in
set_option maxRecDepth 100000 in
theorem walk (a0 : Int) (a1 : Int) (w : World) (w0 : (Lit.int .i64 a0).wf = true) (w1 : (Lit.int .i64 a1).wf = true) (hE : Errs w) :
    Calls Tryd.prog 5 #[.int .i64 a0, .int .i64 a1] w fun e w' => e = .returned (.bool true) ∧ Below w.heap.size w w' := by
  simp [Lit.wf, IntKind.min, IntKind.max, IntKind.signed, IntKind.bits] at w0 w1
  obtain ⟨i0, hi, hz0, hz1, hz2⟩ := info_parts u8I
  have HE := Lib.hid hE
  clear hE
  by_cases hbad : a0 < 0 ∨ a1 < 0 ∨ 65536 < a1
  · rcases Int.lt_or_le a0 0 with h0 | h0
    · go_enter Tryd.func5, Tryd.ntmps5
      go_wp2
      go_ret
      exact ⟨rfl, Below.refl _ _⟩
    · rcases Int.lt_or_le a1 0 with h1 | h1
      · go_enter Tryd.func5, Tryd.ntmps5
        go_wp2
        go_ret
        exact ⟨rfl, Below.refl _ _⟩
      · have h2 : 65536 < a1 := by omega
        clear hbad
        go_enter Tryd.func5, Tryd.ntmps5
        go_wp2
        go_ret
        exact ⟨rfl, Below.refl _ _⟩
  obtain ⟨n, rfl⟩ : ∃ n : Nat, a0 = n := ⟨a0.toNat, by omega⟩
  obtain ⟨k, rfl⟩ : ∃ k : Nat, a1 = k := ⟨a1.toNat, by omega⟩
  have hn : n < 9223372036854775808 := by omega
  have hk : k ≤ 65536 := by omega
  clear hbad w0 w1
  have hmk : ∀ W : World, (Instr.makeSlice 32 (.int .i64 0) (.int .i64 ((k : Int) + 24))).run Tryd.prog W = .ok (.slice (some ⟨W.heap.size, 0, none⟩) 0 (k + 24)) (W.alloc (.cells (madeCells #[.int .u8 0] (k + 24)) 5)) := fun W => by
    have := run_make (P := Tryd.prog) W 32 5 i0 (.int .u8 0) Tryd.underlying32 hi hz0 .i64 .i64 0 ((k : Int) + 24) (by omega) (by omega) (by rw [hz2]; omega) (by omega)
    have e : ((k : Int) + 24).toNat = k + 24 := by omega
    simpa [hz1, Value.cells, e] using this
  have HO0 : Hid ((w.alloc (.cells (madeCells #[.int .u8 0] (k + 24)) 5)).ownsRow w.heap.size 5 1 (.slice (some ⟨w.heap.size, 0, none⟩) 0 (k + 24)) 0 []) := Lib.hid
    ⟨rfl, .inr ⟨w.heap.size, k + 24, _, rfl, Nat.le_refl _, heap_alloc_new w _, by omega, by unfold maxLen; omega, by simp [madeCells], by simp⟩⟩
  go_enter Tryd.func5, Tryd.ntmps5
  go_wp2
  clear hmk
  go_loopw [5, 6] (fun v i wr => Rel1 w k v i wr) (fun _ i _ => k - (intOf i).toNat)
  case atStart => exact ⟨0, rfl, by omega, HO0.out, (Below.refl _ _).alloc (Nat.le_refl _) _⟩
  case round =>
    obtain ⟨t, rfl, ht, ho, hb⟩ := hrel
    have HO := Lib.hid ho; have HB := Lib.hid hb
    have hs := hb.size
    clear ho hb
    by_cases hlt : t < k
    · go_wp2_with (at_builtin; refine wpList_append_own_src _ rfl (.tmp 30) (.tmp 31) 32 32 rfl w.heap.size 5 i0 (.int .u8 0) 1 1 Tryd.underlying32 hi hz0 hz1 hz2 rfl _ _ _ rfl (HO.out.alloc _) _ 1 [.int .u8 48] rfl (srcOne wr (.int .u8 48) rfl) (by unfold maxLen; omega) (by omega) (by simp; omega) ?_)
      intro v1 w1 hown1 hgrow1 _
      have HO1 : Hid (w1.ownsRow w.heap.size 5 1 v1 (t + 1) ((List.replicate (t + 1) (48 : UInt8)).map vb)) := Lib.hid (by
        have e : (List.replicate (t + 1) (48 : UInt8)).map vb = (List.replicate t (48 : UInt8)).map vb ++ [.int .u8 48] := by
          rw [List.replicate_succ', List.map_append]; rfl
        rw [e, List.map_replicate]; exact hown1)
      have HB1 := Lib.hid ((HB.out.alloc hs _).grown hgrow1 (by simp; omega) (fun k hk => (HO.out.lt k hk).1))
      clear hown1 hgrow1
      go_wp2
      go_roundw
      case rel => exact ⟨t + 1, by go_num, by omega, HO1.out, HB1.out⟩
      case measure => simp [intOf]; omega
    · obtain rfl : t = k := by omega
      obtain ⟨wo, rfl⟩ : ∃ wo : World, wo = wr := ⟨_, rfl⟩
      have hwr : w.heap.size ≤ wo.heap.size := hs
      have HOA := Lib.hid (HO.out.alloc (.cells zer24 33))
      have HBA := Lib.hid (HB.out.alloc hs (.cells zer24 33))
      by_cases hz : n = 0
      · have hz' : ((n : Int) == 0) = true := by simpa using hz
        have HDZ := Lib.hid (new24z wo n hz)
        have HOZ := Lib.hid (HO.out.alloc (.cells one24 33))
        have HBZ := Lib.hid (HB.out.alloc hs (.cells one24 33))
        clear hz
        go_wp2
        go_loopw [8, 9] (fun j m w2 => Rel2 w wo.heap.size t n u5 j m w2) (fun _ m _ => (intOf m).toNat)
        case atStart => exact ⟨23, _, [48], rfl, rfl, HDZ.out, HOZ.out, HBZ.out, fun h => by cases h⟩
        case round =>
          obtain ⟨jj, mm, l, rfl, rfl, hd, ho, hb, hl⟩ := hrel
          by_cases hm : 0 < mm
          · have hlow := hd.low hn hm
            have hlen := hd.len
            obtain ⟨j1, rfl⟩ : ∃ j1, jj = j1 + 1 := ⟨jj - 1, by omega⟩
            obtain ⟨c, hc⟩ : ∃ c : UInt8, c.toNat = 48 + mm % 10 := ⟨UInt8.ofNat (48 + mm % 10), by simp; omega⟩
            obtain ⟨v0, d0⟩ := hd.old (t := j1) (by omega)
            have z0 := hd.frozen j1
            have hvb : vb c = .int .u8 (48 + (mm : Int) % 10) := by unfold vb; rw [hc]; congr 1
            have HD1 := Lib.hid (hd.put c hc)
            have HO1 := Lib.hid (own_other ho (hd.ne ho) j1 (vb c))
            have HB1 := Lib.hid (hb.setCell (p := ⟨wo.heap.size, j1, none⟩) hwr (vb c))
            rw [hvb] at HD1 HO1 HB1
            have hlt24 : j1 < 24 := by omega
            have hmm : mm ≤ 9223372036854775807 := by have := hd.num; have h1 : mm ≤ mm * 10 ^ l.length := Nat.le_mul_of_pos_right _ (Nat.pow_pos (by omega)); omega
            clear hd ho hb hl hlen hc hvb
            go_wp2
            go_roundw
            case rel => exact ⟨j1, mm / 10, c :: l, by go_num, by go_num, HD1.out, HO1.out, HB1.out, fun h => by cases h⟩
            case measure => simp [intOf]; omega
          · obtain rfl : mm = 0 := by omega
            have hlne : l ≠ [] := fun h => by have := hl h; omega
            have HD := Lib.hid hd; have HO2 := Lib.hid ho; have HB2 := Lib.hid hb
            have hlen := hd.len
            have HNUM : Hid (decL 0 l = n) := Lib.hid (by have := hd.num; simpa using this.symm)
            have HDIG := Lib.hid hd.dig
            clear hd ho hb hl hm
            obtain ⟨wp, rfl⟩ : ∃ wp : World, wp = wr := ⟨_, rfl⟩
            go_wp2
            go_loopw [5, 8] (fun v j w3 => Rel3 w wo.heap.size t n jj l v j w3) (fun _ j _ => 24 - (intOf j).toNat)
            case atStart => exact ⟨0, rfl, by omega, HD.out, by simpa using HO2.out, HB2.out⟩
            case round =>
              obtain ⟨q, rfl, hq, hd, ho, hb⟩ := hrel
              have hs3 := hb.size
              by_cases hlt : q < l.length
              · have c0 := hd.at_ q hlt
                obtain ⟨x, hx⟩ : ∃ x, x = l[q] := ⟨_, rfl⟩
                rw [← hx] at c0
                unfold vb at c0
                have HX := Lib.hid hx
                have hj24 : jj + q < 24 := by omega
                have HO3 := Lib.hid ho; have HB3 := Lib.hid hb; have HD3 := Lib.hid hd
                clear hd ho hb hx
                go_wp2_with (at_builtin; refine wpList_append_own_src _ rfl (.tmp 56) (.tmp 60) 32 32 rfl w.heap.size 5 i0 (.int .u8 0) 1 1 Tryd.underlying32 hi hz0 hz1 hz2 rfl _ _ _ rfl (HO3.out.alloc _) _ 1 [.int .u8 (x.toNat : Int)] rfl (srcOne wr (.int .u8 (x.toNat : Int)) rfl) (by unfold maxLen; omega) (by omega) (by simp; omega) ?_)
                intro v1 w1 hown1 hgrow1 _
                have HO4 : Hid (w1.ownsRow w.heap.size 5 1 v1 (t + (q + 1)) ((List.replicate t (48 : UInt8) ++ l.take (q + 1)).map vb)) := Lib.hid (by
                  have e : (List.replicate t (48 : UInt8) ++ l.take (q + 1)).map vb = (List.replicate t (48 : UInt8) ++ l.take q).map vb ++ [.int .u8 (x.toNat : Int)] := by
                    rw [List.take_add_one, List.getElem?_eq_getElem hlt, HX.out, ← List.append_assoc, List.map_append]; rfl
                  rw [e, ← Nat.add_assoc]
                  simpa using hown1)
                have HB4 := Lib.hid ((HB3.out.alloc hs3 _).grown hgrow1 (by simp; omega) (fun k hk => (HO3.out.lt k hk).1))
                have HD4 := Lib.hid ((HD3.out.alloc (.cells #[.int .u8 (x.toNat : Int)] 5)).grown hgrow1 (fun e => HD3.out.ne HO3.out e.symm))
                clear hown1 hgrow1
                go_wp2
                go_roundw
                case rel => first | exact ⟨q + 1, by go_num, by omega, HD4.out, HO4.out, HB4.out⟩ | ((repeat apply Exists.intro); exact ⟨⟨q + 1, by go_num, by omega, HD4.out, HO4.out, HB4.out⟩, rfl⟩)
                case measure => simp [intOf]; omega
              · obtain rfl : q = l.length := by omega
                have hpos : 0 < l.length := by cases l with | nil => exact absurd rfl hlne | cons _ _ => simp
                obtain ⟨S, hS⟩ : ∃ S, S = List.replicate t (48 : UInt8) ++ l := ⟨_, rfl⟩
                have hSL : S.length = t + l.length := by rw [hS]; simp
                have hcv : (convert 32 9 u5).run Tryd.prog wr = .ok (.string ⟨S.toArray⟩) wr := back wr hSL (by omega) (by have := ho; rw [List.take_length, ← hS] at this; exact this)
                have HSS : Hid (prN S = (n : Int) ∧ prB S = true) := Lib.hid (by
                  have h1 : digL S = true := by rw [hS]; exact digL_append _ _ (digL_zeros t) HDIG.out
                  have h2 : decL 0 S = n := by rw [hS, decL_zeros, HNUM.out]
                  have h3 : S ≠ [] := fun e => by rw [e] at hSL; simp at hSL; omega
                  unfold prN prB
                  rw [if_pos ⟨h1, h3⟩, h2, if_pos hn]
                  exact ⟨rfl, by simp [h1, h3, hn]⟩)
                have hsz : (⟨S.toArray⟩ : ByteArray).size ≤ 2097152 := by
                  have : (⟨S.toArray⟩ : ByteArray).size = S.length := rfl
                  omega
                have HB5 := Lib.hid hb
                have HE5 := Lib.hid (HE.out.below hb)
                clear hd ho hb hS hSL
                go_wp2_with (go_at_call 15; refine (zzpre_any ⟨S.toArray⟩ hsz wr HE5.out).mono ?_)
                rintro e w6 ⟨rfl, hb6⟩
                have hto : (⟨S.toArray⟩ : ByteArray).data.toList = S := rfl
                rw [hto, HSS.out.1, HSS.out.2]
                have HB6 := Lib.hid (HB5.out.trans (hb6.mono HB5.out.size))
                clear hb6 hto
                go_wp2
                go_ret
                exact ⟨by simp, HB6.out⟩
      · have hz' : ((n : Int) == 0) = false := by simpa using hz
        have HDN := Lib.hid (new24 wo n)
        have hn0 : 0 < n := by omega
        clear hz
        go_wp2
        go_loopw [8, 9] (fun j m w2 => Rel2 w wo.heap.size t n u5 j m w2) (fun _ m _ => (intOf m).toNat)
        case atStart => exact ⟨24, _, [], rfl, rfl, HDN.out, HOA.out, HBA.out, fun _ => hn0⟩
        case round =>
          obtain ⟨jj, mm, l, rfl, rfl, hd, ho, hb, hl⟩ := hrel
          by_cases hm : 0 < mm
          · have hlow := hd.low hn hm
            have hlen := hd.len
            obtain ⟨j1, rfl⟩ : ∃ j1, jj = j1 + 1 := ⟨jj - 1, by omega⟩
            obtain ⟨c, hc⟩ : ∃ c : UInt8, c.toNat = 48 + mm % 10 := ⟨UInt8.ofNat (48 + mm % 10), by simp; omega⟩
            obtain ⟨v0, d0⟩ := hd.old (t := j1) (by omega)
            have z0 := hd.frozen j1
            have hvb : vb c = .int .u8 (48 + (mm : Int) % 10) := by unfold vb; rw [hc]; congr 1
            have HD1 := Lib.hid (hd.put c hc)
            have HO1 := Lib.hid (own_other ho (hd.ne ho) j1 (vb c))
            have HB1 := Lib.hid (hb.setCell (p := ⟨wo.heap.size, j1, none⟩) hwr (vb c))
            rw [hvb] at HD1 HO1 HB1
            have hlt24 : j1 < 24 := by omega
            have hmm : mm ≤ 9223372036854775807 := by have := hd.num; have h1 : mm ≤ mm * 10 ^ l.length := Nat.le_mul_of_pos_right _ (Nat.pow_pos (by omega)); omega
            clear hd ho hb hl hlen hc hvb
            go_wp2
            go_roundw
            case rel => exact ⟨j1, mm / 10, c :: l, by go_num, by go_num, HD1.out, HO1.out, HB1.out, fun h => by cases h⟩
            case measure => simp [intOf]; omega
          · obtain rfl : mm = 0 := by omega
            have hlne : l ≠ [] := fun h => by have := hl h; omega
            have HD := Lib.hid hd; have HO2 := Lib.hid ho; have HB2 := Lib.hid hb
            have hlen := hd.len
            have HNUM : Hid (decL 0 l = n) := Lib.hid (by have := hd.num; simpa using this.symm)
            have HDIG := Lib.hid hd.dig
            clear hd ho hb hl hm
            obtain ⟨wp, rfl⟩ : ∃ wp : World, wp = wr := ⟨_, rfl⟩
            go_wp2
            go_loopw [5, 8] (fun v j w3 => Rel3 w wo.heap.size t n jj l v j w3) (fun _ j _ => 24 - (intOf j).toNat)
            case atStart => exact ⟨0, rfl, by omega, HD.out, by simpa using HO2.out, HB2.out⟩
            case round =>
              obtain ⟨q, rfl, hq, hd, ho, hb⟩ := hrel
              have hs3 := hb.size
              by_cases hlt : q < l.length
              · have c0 := hd.at_ q hlt
                obtain ⟨x, hx⟩ : ∃ x, x = l[q] := ⟨_, rfl⟩
                rw [← hx] at c0
                unfold vb at c0
                have HX := Lib.hid hx
                have hj24 : jj + q < 24 := by omega
                have HO3 := Lib.hid ho; have HB3 := Lib.hid hb; have HD3 := Lib.hid hd
                clear hd ho hb hx
                go_wp2_with (at_builtin; refine wpList_append_own_src _ rfl (.tmp 56) (.tmp 60) 32 32 rfl w.heap.size 5 i0 (.int .u8 0) 1 1 Tryd.underlying32 hi hz0 hz1 hz2 rfl _ _ _ rfl (HO3.out.alloc _) _ 1 [.int .u8 (x.toNat : Int)] rfl (srcOne wr (.int .u8 (x.toNat : Int)) rfl) (by unfold maxLen; omega) (by omega) (by simp; omega) ?_)
                intro v1 w1 hown1 hgrow1 _
                have HO4 : Hid (w1.ownsRow w.heap.size 5 1 v1 (t + (q + 1)) ((List.replicate t (48 : UInt8) ++ l.take (q + 1)).map vb)) := Lib.hid (by
                  have e : (List.replicate t (48 : UInt8) ++ l.take (q + 1)).map vb = (List.replicate t (48 : UInt8) ++ l.take q).map vb ++ [.int .u8 (x.toNat : Int)] := by
                    rw [List.take_add_one, List.getElem?_eq_getElem hlt, HX.out, ← List.append_assoc, List.map_append]; rfl
                  rw [e, ← Nat.add_assoc]
                  simpa using hown1)
                have HB4 := Lib.hid ((HB3.out.alloc hs3 _).grown hgrow1 (by simp; omega) (fun k hk => (HO3.out.lt k hk).1))
                have HD4 := Lib.hid ((HD3.out.alloc (.cells #[.int .u8 (x.toNat : Int)] 5)).grown hgrow1 (fun e => HD3.out.ne HO3.out e.symm))
                clear hown1 hgrow1
                go_wp2
                go_roundw
                case rel => first | exact ⟨q + 1, by go_num, by omega, HD4.out, HO4.out, HB4.out⟩ | ((repeat apply Exists.intro); exact ⟨⟨q + 1, by go_num, by omega, HD4.out, HO4.out, HB4.out⟩, rfl⟩)
                case measure => simp [intOf]; omega
              · obtain rfl : q = l.length := by omega
                have hpos : 0 < l.length := by cases l with | nil => exact absurd rfl hlne | cons _ _ => simp
                obtain ⟨S, hS⟩ : ∃ S, S = List.replicate t (48 : UInt8) ++ l := ⟨_, rfl⟩
                have hSL : S.length = t + l.length := by rw [hS]; simp
                have hcv : (convert 32 9 u5).run Tryd.prog wr = .ok (.string ⟨S.toArray⟩) wr := back wr hSL (by omega) (by have := ho; rw [List.take_length, ← hS] at this; exact this)
                have HSS : Hid (prN S = (n : Int) ∧ prB S = true) := Lib.hid (by
                  have h1 : digL S = true := by rw [hS]; exact digL_append _ _ (digL_zeros t) HDIG.out
                  have h2 : decL 0 S = n := by rw [hS, decL_zeros, HNUM.out]
                  have h3 : S ≠ [] := fun e => by rw [e] at hSL; simp at hSL; omega
                  unfold prN prB
                  rw [if_pos ⟨h1, h3⟩, h2, if_pos hn]
                  exact ⟨rfl, by simp [h1, h3, hn]⟩)
                have hsz : (⟨S.toArray⟩ : ByteArray).size ≤ 2097152 := by
                  have : (⟨S.toArray⟩ : ByteArray).size = S.length := rfl
                  omega
                have HB5 := Lib.hid hb
                have HE5 := Lib.hid (HE.out.below hb)
                clear hd ho hb hS hSL
                go_wp2_with (go_at_call 15; refine (zzpre_any ⟨S.toArray⟩ hsz wr HE5.out).mono ?_)
                rintro e w6 ⟨rfl, hb6⟩
                have hto : (⟨S.toArray⟩ : ByteArray).data.toList = S := rfl
                rw [hto, HSS.out.1, HSS.out.2]
                have HB6 := Lib.hid (HB5.out.trans (hb6.mono HB5.out.size))
                clear hb6 hto
                go_wp2
                go_ret
                exact ⟨by simp, HB6.out⟩

/-! ### THE ROW's STEP -/
set_option maxRecDepth 100000 in
theorem lifted (os : Os) (started : os.Started) (H : Type) (enc : TypeId × Value → H) :
    ReturnsInHanded {} Tryd.checked os 5 .any (fun w args => (Rows.fnPreReleasePartToNumberZeroPaddedRoundTripSpec.pre enc Tryd.prog Tryd.f5 [] false w args ∧ laidMetH Tryd.prog Rows.fnPreReleasePartToNumberZeroPaddedRoundTripRow.laid w) ∧ sizedMet enc Tryd.prog Tryd.f5 (OpenSpec.ofChange Rows.fnPreReleasePartToNumberZeroPaddedRoundTripSpec) false w args)
      (Rows.fnPreReleasePartToNumberZeroPaddedRoundTripSpec.post enc Tryd.prog Tryd.f5 false true false false) := by
  refine returnsInHanded_of_change_and (C := Tryd.checked) (X := fun w _ => laidMetH Tryd.prog Rows.fnPreReleasePartToNumberZeroPaddedRoundTripRow.laid w) (fun _ _ _ hh h => h.of_heap hh) own started (by kernel_rfl) Tryd.func5
    (ChangeSpec.witness_shaped (enc := enc) (C := Tryd.checked) (os := os) (X := fun w _ => laidMetH Tryd.prog Rows.fnPreReleasePartToNumberZeroPaddedRoundTripRow.laid w) false (World.laidAll Tryd.prog os Rows.fnPreReleasePartToNumberZeroPaddedRoundTripRow.laid) #[.int .i64 0, .int .i64 0] 8 (World.laidAll_os _ _ _)
      (World.shaped_of_ZipB (by kernel_rfl) (by kernel_rfl)) (by kernel_rfl) (by kernel_rfl) (by kernel_rfl)
      (by rw [MakeChecks.laidMetH_plain _ _ _ (by kernel_rfl)]; exact laidMet_laidAll _ (by kernel_rfl) (by kernel_rfl))) ?_
  intro W base args ds gs before hval0 hW _ _ hL _
  have hval : ∀ (j : Nat) t v, Tryd.f5.params[j]? = some t → args[j]? = some v → Value.okWide Tryd.prog W .any base t v := hval0
  have hW' := hW
  obtain ⟨p, q, hA0, hV, rfl, hfz, hnd⟩ := hW
  have hA : DataW.TrodAll enc Tryd.prog W 0 (fun _ => true) true Tryd.f5.params.toList args.toList ds p := hA0
  rw [Tryd.params5] at hA hval
  obtain ⟨v0, vs0, d0, ds0, p0, q0, hargs, rfl, rfl, h0, r0⟩ := trodAll_cons hA
  obtain ⟨v1, vs1, d1, ds1, p1, q1, rfl, rfl, rfl, h1, r1⟩ := trodAll_cons r0
  obtain ⟨rfl, rfl, rfl⟩ := trodAll_nil r1
  obtain rfl : args = #[v0, v1] := by cases args; simp_all
  obtain ⟨rfl, rfl⟩ := trodVars_none hV
  have k0 := h0
  have lt0 : ∀ x ∈ p0, x.block < W.heap.size := by obtain ⟨m, hm⟩ := k0; exact DataW.trod_lt m _ _ _ hm
  have k1 := h1
  have lt1 : ∀ x ∈ p1, x.block < W.heap.size := by obtain ⟨m, hm⟩ := k1; exact DataW.trod_lt m _ _ _ hm
  obtain ⟨a0, rfl, rfl, rfl, w0⟩ := open_int Tryd.underlying3 (hval 0 3 v0 rfl rfl) h0
  obtain ⟨a1, rfl, rfl, rfl, w1⟩ := open_int Tryd.underlying3 (hval 1 3 v1 rfl rfl) h1
  clear hA0 hval0
  refine (walk a0 a1 W w0 w1 (errs_of hL)).mono fun e W' ⟨he, bel⟩ => ?_
  subst he
  exact ⟨_, rfl, _, _, _, [], _, [], hW', trodAll_mk1 (shut_bool Tryd.underlying4 _), (trodAll_cons_mk (Below.trod laidOut (by kernel_rfl) (of_decide_eq_true (by kernel_rfl)) k0 bel lt0) (trodAll_cons_mk (Below.trod laidOut (by kernel_rfl) (of_decide_eq_true (by kernel_rfl)) k1 bel lt1) trodAll_mk0)), rfl, bel.frame _, fun h => by cases h⟩

theorem over : Rows.fnPreReleasePartToNumberZeroPaddedRoundTripRow.holds Tryd.pinned (OpenSpec.ofChange Rows.fnPreReleasePartToNumberZeroPaddedRoundTripSpec) :=
  OpenClaim.holds_of_wide 5 Tryd.f5 rfl rfl rfl rfl rfl rfl rfl ⟨rfl, rfl, rfl, rfl, rfl⟩ rfl rfl rfl rfl rfl (by kernel_rfl) Tryd.func5 (by kernel_rfl)
    (of_decide_eq_true (by kernel_rfl)) (by unfold Func.isWrapper; first | (rw [if_pos (by decide +kernel)]; kernel_rfl) | (rw [if_neg (by decide +kernel)]; exact ⟨rfl, rfl⟩))
    (fun os started H enc _ => lifted os started H enc)

theorem proved : Rows.FnPreReleasePartToNumberZeroPaddedRoundTripCardSaid :=
  Claim7.holds_tied_plain_at .later [] [.data, .data, .data, .sentinel, .sentinel] true (true, "6abbca41a0b07024ba5ab02b48702f68f2ab04d9e0e57b66a6fc50731b6052ac") true over (fun _ h => by cases h) (by kernel_rfl) (fun _ h => by cases h) fnPreReleasePartToNumberZeroPaddedRoundTrip_row_tie rfl ⟨rfl, rfl⟩ (by kernel_rfl) rfl
    (fun f fn hf hfn => by
      obtain rfl : f = 5 := Option.some.inj ((show Tryd.prog.funcNamed "github.com/evanw/esbuild/n011_156.FnPreReleasePartToNumberZeroPaddedRoundTrip" = some 5 by kernel_rfl).symm.trans hf) |>.symm
      obtain rfl : fn = Tryd.f5 := (Option.some.inj (Tryd.func5.symm.trans hfn)).symm
      exact ⟨by kernel_rfl, fun j t ht => by
        rw [Tryd.params5] at ht
        have hm : t ∈ [3] := by simpa using Array.mem_of_getElem? ht
        have hall : ([3].all fun u => !Tryd.prog.wantsStandIn u) = true := by kernel_rfl
        exact (show Tryd.prog.wantsStandIn t = false by simpa using List.all_eq_true.1 hall t hm)⟩)
    (by kernel_rfl)
#print axioms proved
end Go.Proofs.YtanhijhhceakjaaDoor.fnPreReleasePartToNumberZeroPaddedRoundTrip