/- encodeVLQ onto nil: the text of a number in a row of its own. -/
import Derived.Test.YthbmffocgccniaaDoorVdc
import Derived.Test.YthbmffocgccniaaDoorApp
import Derived.Deep.Cut
import Derived.Deep.DeepCutAuto
namespace Go.Proofs.YthbmffocgccniaaDoor
open Go.RowKit
set_option linter.unusedVariables false
set_option linter.unusedSimpArgs false
/-- A block of bytes, whatever is frozen of it. -/
def Blu (w : World) (g : Nat) (cs : Array Value) : Prop := ∃ fr, w.heap[g]? = some (.cells cs 5 fr)
theorem Blu.of {w : World} {g : Nat} {cs : Array Value} (h : Blk w g 5 cs) : Blu w g cs := ⟨_, h⟩
theorem Blu.lt {w : World} {g : Nat} {cs : Array Value} (h : Blu w g cs) : g < w.heap.size := by
  obtain ⟨fr, h⟩ := h
  rcases Nat.lt_or_ge g w.heap.size with hlt | hge
  · exact hlt
  · rw [Array.getElem?_eq_none hge] at h; cases h
theorem Blu.cell {w : World} {g : Nat} {cs : Array Value} (h : Blu w g cs) (i : Nat) : w.cell? ⟨g, i, none⟩ = cs[i]? := by
  obtain ⟨fr, h⟩ := h
  exact cell_of_row w g i cs _ fr h
/-- A row of bytes in a block of bytes. -/
def TxB (w : World) (A : Option Addr) (n : Nat) (T : Bt) : Prop := T.length = n ∧ (0 < n → ∃ g o cs, A = some ⟨g, o, none⟩ ∧ Blu w g cs ∧ ∀ k c, T[k]? = some c → cs[o + k]? = some (u8V c))
theorem TxB.txt {w : World} {A : Option Addr} {n : Nat} {T : Bt} (h : TxB w A n T) : Txt w A n T := by
  obtain ⟨h1, h2⟩ := h
  refine ⟨by simp [h1], fun hn => ?_⟩
  obtain ⟨g, o, cs, rfl, hb, hc⟩ := h2 hn
  refine ⟨_, rfl, hb.lt, fun j u hj => ?_⟩
  rw [List.getElem?_map] at hj
  obtain ⟨c, hc1, rfl⟩ := Option.map_eq_some_iff.1 hj
  have := (hb.cell (o + j)).trans (hc j c hc1)
  unfold Addr.add
  split
  · rename_i h0; subst h0; simpa using this
  · exact this
theorem TxB.keep {w w' : World} {A : Option Addr} {n : Nat} {T : Bt} (h : TxB w A n T) (hk : ∀ i, i < w.heap.size → (∀ cs, ¬ Blu w i cs) ∨ w'.heap[i]? = w.heap[i]?) : TxB w' A n T := by
  obtain ⟨h1, h2⟩ := h
  refine ⟨h1, fun hn => ?_⟩
  obtain ⟨g, o, cs, rfl, hb, hc⟩ := h2 hn
  refine ⟨g, o, cs, rfl, ?_, hc⟩
  rcases hk g hb.lt with h3 | h3
  · exact absurd hb (h3 cs)
  · obtain ⟨fr, hb⟩ := hb
    exact ⟨fr, h3.trans hb⟩
theorem TxB.grown {w w' : World} {A : Option Addr} {n : Nat} {T : Bt} (h : TxB w A n T) (hg : w.grownBy w' none) : TxB w' A n T := h.keep fun i hi => .inr (hg.block i hi (by simp))
theorem TxB.below {w w' : World} {A : Option Addr} {n : Nat} {T : Bt} (h : TxB w A n T) (hb : Below w.heap.size w w') : TxB w' A n T := h.keep fun i hi => .inr (hb.block i hi)
theorem TxB.of_own {w : World} {base n : Nat} {A : Option Addr} {c : Nat} {T : Bt} (h : w.ownsRow base 5 1 (.slice A n c) n (T.map u8V)) : TxB w A n T := by
  have hl : T.length = n := by have := h.1; simpa using this
  refine ⟨hl, fun hn => ?_⟩
  rcases h.2 with ⟨h1, h2⟩ | ⟨g, cap, cur, h1, _, hg, _, _, _, ht⟩
  · omega
  · obtain rfl : A = some ⟨g, 0, none⟩ := by injection h1
    refine ⟨g, 0, cur, rfl, ⟨_, hg⟩, fun k c hk => ?_⟩
    have hkl : k < n := by rw [← hl]; exact (List.getElem?_eq_some_iff.1 hk).1
    have : (T.map u8V)[k]? = some (u8V c) := by rw [List.getElem?_map, hk]; rfl
    rw [← ht, List.getElem?_take_of_lt (by omega)] at this
    rw [Nat.zero_add, ← Array.getElem?_toList]; exact this
theorem own_bslice {w : World} {base n : Nat} {v : Value} {xs : List Value} (h : w.ownsRow base 5 1 v n xs) : ∃ A c, v = .slice A n c ∧ n ≤ c := by
  rcases h.2 with ⟨h1, h2⟩ | ⟨g, cap, cur, h1, _, _, h2, _⟩
  · exact ⟨none, 0, by rw [h1, h2], by omega⟩
  · exact ⟨_, cap, h1, h2⟩
theorem u8_info : (Tryd.prog.info? 5).map (fun i => (i.zero, i.size, i.bytes)) = some (some (.int .u8 0), 1, 1) := by kernel_rfl
theorem srcB (w : World) (x : Value) (hx : x.oneCell' = true) : Src Tryd.prog 1 22 (.slice (some ⟨w.heap.size, 0, none⟩) 1 1) 1 [x] (w.alloc (.cells #[x] 5)) :=
  Src.ofSlice _ Tryd.underlying22 _ 1 1 [x] rfl (fun j u hu => by
    rw [← hu]
    have := (Blk.new w 5 #[x]).cell j
    have e : (#[x])[j]? = [x][j]? := by simp
    rw [e] at this
    rw [← this]
    unfold Addr.add
    split
    · rename_i h0; subst h0; rfl
    · show World.cell? _ ⟨w.heap.size, 0 + j, none⟩ = _
      rw [Nat.zero_add]) (fun u hu => by
    simp only [List.mem_singleton] at hu
    rw [hu]; exact hx)
def EncPost (v : Int) (w : World) (e : Ending) (w' : World) : Prop := ∃ A c, e = .returned (.slice A (put v).length c) ∧ TxB w' A (put v).length (put v) ∧ w.grownBy w' none
/-- What lies in the row stands for the number that is left. -/
structure EnI (v : Int) (w : World) (L : Bt) (u : Nat) (qv : Value) (wr : World) : Prop where
  eq : L ++ putN u = put v
  lt : u < 2 ^ 50
  own : wr.ownsRow w.heap.size 5 1 qv L.length (L.map u8V)
  gr : w.grownBy wr none
theorem EnI.len {v : Int} {w : World} {L : Bt} {u : Nat} {qv : Value} {wr : World} (h : EnI v w L u qv wr) (hv : -1099511627776 ≤ v ∧ v ≤ 1099511627776) : L.length ≤ 9 := by
  have h1 := congrArg List.length h.eq
  rw [List.length_append] at h1
  have := put_len v hv
  omega
theorem own_alloc_grow {w wr w1 : World} {qv : Value} {xs : List Value} {n : Nat} (hg : w.grownBy wr none) (ho : wr.ownsRow w.heap.size 5 1 qv n xs) {o : Obj} (h : (wr.alloc o).grownBy w1 qv.ownBlock) : w.grownBy w1 none := by
  refine ⟨h.os.trans hg.os, h.tape.trans hg.tape, h.output.trans hg.output, Nat.le_trans hg.size (Nat.le_trans (by simp) h.size), fun i hi _ => ?_⟩
  have hne : some i ≠ qv.ownBlock := by
    rcases ho.2 with ⟨h1, _⟩ | ⟨g, cap, cur, h1, hb, _⟩
    · rw [h1]; simp [Value.ownBlock]
    · rw [h1]; simp [Value.ownBlock]; omega
  have hiw : i < wr.heap.size := Nat.lt_of_lt_of_le hi hg.size
  exact (h.block i (by simp; omega) hne).trans ((Below.heap_alloc wr o i hiw).trans (hg.block i hi (by simp)))
theorem EnI.push {v : Int} {w : World} {L : Bt} {u x y : Nat} {qv qv' : Value} {wr w1 : World} {o : Obj} (h : EnI v w L u qv wr) (hx : putN u = digU x :: putN y) (hxl : x < 64) (hy : y < 2 ^ 50)
    (h1 : w1.ownsRow w.heap.size 5 1 qv' (L.length + 1) (L.map u8V ++ [.int .u8 (dig x : Int)])) (h2 : (wr.alloc o).grownBy w1 qv.ownBlock) : EnI v w (L ++ [digU x]) y qv' w1 := by
  refine ⟨by rw [← h.eq, hx]; simp, hy, ?_, own_alloc_grow h.gr h.own h2⟩
  rw [List.length_append, List.map_append]
  have : [digU x].map u8V = [.int .u8 (dig x : Int)] := by simp [u8V, digU_nat x hxl]
  rw [this]; exact h1
theorem EnI.fin {v : Int} {w : World} {L : Bt} {x : Nat} {qv qv' : Value} {wr w1 : World} {o : Obj} {u : Nat} (h : EnI v w L u qv wr) (hx : putN u = [digU x]) (hxl : x < 64)
    (h1 : w1.ownsRow w.heap.size 5 1 qv' (L.length + 1) (L.map u8V ++ [.int .u8 (dig x : Int)])) (h2 : (wr.alloc o).grownBy w1 qv.ownBlock) : EncPost v w (.returned qv') w1 := by
  have he : L ++ [digU x] = put v := by rw [← h.eq, hx]
  have hl : L.length + 1 = (put v).length := by rw [← he, List.length_append]; rfl
  have hm : L.map u8V ++ [.int .u8 (dig x : Int)] = (put v).map u8V := by rw [← he, List.map_append]; simp [u8V, digU_nat x hxl]
  rw [hl, hm] at h1
  obtain ⟨A, c, rfl, hc⟩ := own_bslice h1
  exact ⟨A, c, rfl, TxB.of_own h1, own_alloc_grow h.gr h.own h2⟩
set_option maxHeartbeats 4000000 in
set_option maxRecDepth 100000 in
theorem evlq_any (v : Int) (w : World) (hb : B64 w) (hv : -1099511627776 ≤ v ∧ v ≤ 1099511627776) :
    Calls Tryd.prog 12 #[.slice none 0 0, .int .i64 v] w (EncPost v w) := by
  obtain ⟨i0, hi, hz0, hz1, hz2⟩ := info_parts u8_info
  have hs := sgn_lt v hv
  obtain ⟨g, o, cp, hg, hcs⟩ := hb
  have HCS := Lib.hid hcs; have HGC := Lib.hid hg; have HV := Lib.hid hv
  clear hcs
  by_cases hn : v < 0
  · skip
    have hor : bits BinOp.or IntKind.i64 (-v * 2) 1 = ((sgn v : Nat) : Int) := by
      have := or1_i64 v.natAbs (by omega)
      rw [show (-v * 2 : Int) = ((2 * v.natAbs : Nat) : Int) by omega, this]
      unfold sgn; rw [if_pos hn]
    obtain ⟨sv, hsv⟩ : ∃ s, s = sgn v := ⟨_, rfl⟩
    rw [← hsv] at hor hs
    have HSV := Lib.hid hsv
    clear hsv
    by_cases hsm : sv < 32
    · have hsh : (sv : Int) / 32 = 0 := by omega
      have ha31 := and31_i64 sv (by omega)
      obtain ⟨z, hz⟩ : ∃ z, z = sv % 32 := ⟨_, rfl⟩
      rw [← hz] at ha31
      have hz64 : z < 64 := by omega
      have HPU : Hid (put v = [digU z]) := Lib.hid (by rw [put, ← HSV.out, putN_small hsm, hz, Nat.mod_eq_of_lt hsm])
      have HFIN : Hid (∀ (c : Nat) (W : World) (more : Array Value), w.grownBy W none → Blk W (w.heap.size + 1) 5 (#[.int .u8 (dig z : Int)] ++ more) → EncPost v w (.returned (.slice (some ⟨w.heap.size + 1, 0, none⟩) 1 c)) W) := Lib.hid (fun c W more hg hb => by
        have hl : (put v).length = 1 := by rw [HPU.out]; rfl
        refine ⟨some ⟨w.heap.size + 1, 0, none⟩, c, by rw [hl], ⟨rfl, fun _ => ⟨_, 0, _, rfl, ⟨_, hb⟩, fun k ch hk => ?_⟩⟩, hg⟩
        rw [HPU.out] at hk
        have hk0 : k = 0 := by have := (List.getElem?_eq_some_iff.1 hk).1; simp at this; omega
        subst hk0
        obtain rfl : digU z = ch := by simpa using hk
        rw [Nat.zero_add, Array.getElem?_append_left (by simp)]
        rw [u8V, digU_nat z hz64]; rfl)
      have hcz := HCS.out z hz64
      clear hz hs
      go_enter Tryd.func12, Tryd.ntmps12
      go_wp2
      go_ret
      exact HFIN.out _ _ _ (only_drew (only_alloc (only_alloc (World.grownBy.refl _ _) _) _)) (by
        have := Blk.new (w.alloc (.cells #[.int .u8 (dig z : Int)] 5)) 5 (#[.int .u8 (dig z : Int)] ++ Builtin.zeroCells #[Value.int IntKind.u8 0] ((Question.appendCap 1 0 5).cut (w.tape w.drawn (Question.appendCap 1 0 5)) - 1))
        have h2 := Blk.drew this
        simpa using h2)
    · have hsh : ¬ (sv : Int) / 32 = 0 := by omega
      have hsh2 : ((sv : Int) / 32 == 0) = false := by simp; omega
      have HST : Hid (EnI v w [] sv (.slice none 0 0) w) := Lib.hid ⟨by rw [HSV.out]; rfl, by omega, World.ownsRow_nil _ _ _ _, World.grownBy.refl _ _⟩
      clear hs
      go_enter Tryd.func12, Tryd.ntmps12
      go_wp2
      clear hor hsh hsh2 hg hsm
      go_loopw [0, 5] (fun qv vv wr => ∃ (L : Bt) (u : Nat) (q : Value), qv = q ∧ vv = .int .i64 (u : Int) ∧ EnI v w L u q wr) (fun _ vv _ => (intOf vv).toNat)
      case atStart => exact ⟨[], sv, _, rfl, rfl, HST.out⟩
      case round =>
        obtain ⟨L, u, q, hq, rfl, hen⟩ := hrel
        obtain rfl := hq.symm
        have HEN := Lib.hid hen
        have hul := hen.lt
        have hll := hen.len HV.out
        have HOW := Lib.hid hen.own
        obtain ⟨W0, hW0⟩ : ∃ W, W = wr := ⟨_, rfl⟩
        subst hW0
        have HSZ : Hid (w.heap.size ≤ W0.heap.size + 1) := Lib.hid (Nat.le_succ_of_le hen.gr.size)
        have hcg : W0.cell? ⟨0, 0, none⟩ = some (.slice (some ⟨g, o, none⟩) 64 cp) := (World.cell?_of_block (hen.gr.block 0 (World.block_lt_of_cell? _ _ HGC.out) (by simp))).trans HGC.out
        have hcw : ∀ i, i < 64 → W0.cell? ⟨g, o + i, none⟩ = some (.int .u8 (dig i : Int)) := fun i hi => (World.cell?_of_block (hen.gr.block g (World.block_lt_of_cell? _ _ (HCS.out i hi)) (by simp))).trans (HCS.out i hi)
        have ha31 := and31_i64 u (by omega)
        obtain ⟨x, hx⟩ : ∃ x, x = u % 32 := ⟨_, rfl⟩
        rw [← hx] at ha31
        obtain ⟨y, hy⟩ : ∃ y, y = u / 32 := ⟨_, rfl⟩
        have hsh : (u : Int) / 32 = (y : Int) := by omega
        have hx32 : x < 32 := by omega
        by_cases hy0 : y = 0
        · subst hy0
          have hu32 : u < 32 := by omega
          obtain ⟨z, hz⟩ : ∃ z, z = x := ⟨_, rfl⟩
          subst hz
          have hz64 : z < 64 := by omega
          have hsh' : (u : Int) / 32 = 0 := by omega
          have HFIN : Hid (∀ qv' w1 o, w1.ownsRow w.heap.size 5 1 qv' (L.length + 1) (L.map u8V ++ [.int .u8 (dig z : Int)]) → (W0.alloc o).grownBy w1 q.ownBlock → EncPost v w (.returned qv') w1) := Lib.hid (fun qv' w1 o h1 h2 => HEN.out.fin (by rw [putN_small hu32, hx, Nat.mod_eq_of_lt hu32]) hz64 h1 h2)
          have hcz := hcw z hz64
          clear hx hy hcw hen hsh hu32
          go_wp2_with (at_builtin; refine wpList_append_own_src _ rfl (.tmp 37) (.tmp 42) 22 22 rfl w.heap.size 5 i0 (.int .u8 0) 1 1 Tryd.underlying22 hi hz0 hz1 hz2 rfl _ _ _ rfl (HOW.out.alloc _) _ 1 [.int .u8 (dig z : Int)] rfl (srcB _ _ rfl) (by unfold maxLen; omega) (by omega) (by simp; exact HSZ.out) ?_)
          intro qv' w1 h1 h2 h3
          have HR := Lib.hid (HFIN.out qv' w1 _ h1 h2)
          clear h1 h2 h3
          go_wp2
          go_ret
          exact HR.out
        · have hy1 : ¬ (y : Int) = 0 := by omega
          have hy2 : ((y : Int) != 0) = true := by simp; omega
          have hy3 : ((y : Int) == 0) = false := by simp; omega
          have hor32 := or32_i64 x hx32
          obtain ⟨z, hz⟩ : ∃ z, z = x + 32 := ⟨_, rfl⟩
          rw [← hz] at hor32
          have hz64 : z < 64 := by omega
          have HNX : Hid (∀ qv' w1 o, w1.ownsRow w.heap.size 5 1 qv' (L.length + 1) (L.map u8V ++ [.int .u8 (dig z : Int)]) → (W0.alloc o).grownBy w1 q.ownBlock → EnI v w (L ++ [digU z]) y qv' w1) := Lib.hid (fun qv' w1 o h1 h2 => HEN.out.push (by rw [putN_big (v := u) (by omega), hz, hx, hy]) hz64 (by omega) h1 h2)
          have HLT : Hid (y < u) := Lib.hid (by omega)
          have hcz := hcw z hz64
          clear hx hy hcw hen hz
          go_wp2_with (at_builtin; refine wpList_append_own_src _ rfl (.tmp 37) (.tmp 42) 22 22 rfl w.heap.size 5 i0 (.int .u8 0) 1 1 Tryd.underlying22 hi hz0 hz1 hz2 rfl _ _ _ rfl (HOW.out.alloc _) _ 1 [.int .u8 (dig z : Int)] rfl (srcB _ _ rfl) (by unfold maxLen; omega) (by omega) (by simp; exact HSZ.out) ?_)
          intro qv' w1 h1 h2 h3
          have HR := Lib.hid (HNX.out qv' w1 _ h1 h2)
          clear h1 h2 h3
          go_wp2
          go_roundw
          case rel => exact ⟨_, y, _, rfl, rfl, HR.out⟩
          case measure => simp [intOf]; exact HLT.out
  · skip
    have hor : v * 2 = ((sgn v : Nat) : Int) := by unfold sgn; rw [if_neg hn]; omega
    obtain ⟨sv, hsv⟩ : ∃ s, s = sgn v := ⟨_, rfl⟩
    rw [← hsv] at hor hs
    have HSV := Lib.hid hsv
    clear hsv
    by_cases hsm : sv < 32
    · have hsh : (sv : Int) / 32 = 0 := by omega
      have ha31 := and31_i64 sv (by omega)
      obtain ⟨z, hz⟩ : ∃ z, z = sv % 32 := ⟨_, rfl⟩
      rw [← hz] at ha31
      have hz64 : z < 64 := by omega
      have HPU : Hid (put v = [digU z]) := Lib.hid (by rw [put, ← HSV.out, putN_small hsm, hz, Nat.mod_eq_of_lt hsm])
      have HFIN : Hid (∀ (c : Nat) (W : World) (more : Array Value), w.grownBy W none → Blk W (w.heap.size + 1) 5 (#[.int .u8 (dig z : Int)] ++ more) → EncPost v w (.returned (.slice (some ⟨w.heap.size + 1, 0, none⟩) 1 c)) W) := Lib.hid (fun c W more hg hb => by
        have hl : (put v).length = 1 := by rw [HPU.out]; rfl
        refine ⟨some ⟨w.heap.size + 1, 0, none⟩, c, by rw [hl], ⟨rfl, fun _ => ⟨_, 0, _, rfl, ⟨_, hb⟩, fun k ch hk => ?_⟩⟩, hg⟩
        rw [HPU.out] at hk
        have hk0 : k = 0 := by have := (List.getElem?_eq_some_iff.1 hk).1; simp at this; omega
        subst hk0
        obtain rfl : digU z = ch := by simpa using hk
        rw [Nat.zero_add, Array.getElem?_append_left (by simp)]
        rw [u8V, digU_nat z hz64]; rfl)
      have hcz := HCS.out z hz64
      clear hz hs
      go_enter Tryd.func12, Tryd.ntmps12
      go_wp2
      go_ret
      exact HFIN.out _ _ _ (only_drew (only_alloc (only_alloc (World.grownBy.refl _ _) _) _)) (by
        have := Blk.new (w.alloc (.cells #[.int .u8 (dig z : Int)] 5)) 5 (#[.int .u8 (dig z : Int)] ++ Builtin.zeroCells #[Value.int IntKind.u8 0] ((Question.appendCap 1 0 5).cut (w.tape w.drawn (Question.appendCap 1 0 5)) - 1))
        have h2 := Blk.drew this
        simpa using h2)
    · have hsh : ¬ (sv : Int) / 32 = 0 := by omega
      have hsh2 : ((sv : Int) / 32 == 0) = false := by simp; omega
      have HST : Hid (EnI v w [] sv (.slice none 0 0) w) := Lib.hid ⟨by rw [HSV.out]; rfl, by omega, World.ownsRow_nil _ _ _ _, World.grownBy.refl _ _⟩
      clear hs
      go_enter Tryd.func12, Tryd.ntmps12
      go_wp2
      clear hor hsh hsh2 hg hsm
      go_loopw [0, 5] (fun qv vv wr => ∃ (L : Bt) (u : Nat) (q : Value), qv = q ∧ vv = .int .i64 (u : Int) ∧ EnI v w L u q wr) (fun _ vv _ => (intOf vv).toNat)
      case atStart => exact ⟨[], sv, _, rfl, rfl, HST.out⟩
      case round =>
        obtain ⟨L, u, q, hq, rfl, hen⟩ := hrel
        obtain rfl := hq.symm
        have HEN := Lib.hid hen
        have hul := hen.lt
        have hll := hen.len HV.out
        have HOW := Lib.hid hen.own
        obtain ⟨W0, hW0⟩ : ∃ W, W = wr := ⟨_, rfl⟩
        subst hW0
        have HSZ : Hid (w.heap.size ≤ W0.heap.size + 1) := Lib.hid (Nat.le_succ_of_le hen.gr.size)
        have hcg : W0.cell? ⟨0, 0, none⟩ = some (.slice (some ⟨g, o, none⟩) 64 cp) := (World.cell?_of_block (hen.gr.block 0 (World.block_lt_of_cell? _ _ HGC.out) (by simp))).trans HGC.out
        have hcw : ∀ i, i < 64 → W0.cell? ⟨g, o + i, none⟩ = some (.int .u8 (dig i : Int)) := fun i hi => (World.cell?_of_block (hen.gr.block g (World.block_lt_of_cell? _ _ (HCS.out i hi)) (by simp))).trans (HCS.out i hi)
        have ha31 := and31_i64 u (by omega)
        obtain ⟨x, hx⟩ : ∃ x, x = u % 32 := ⟨_, rfl⟩
        rw [← hx] at ha31
        obtain ⟨y, hy⟩ : ∃ y, y = u / 32 := ⟨_, rfl⟩
        have hsh : (u : Int) / 32 = (y : Int) := by omega
        have hx32 : x < 32 := by omega
        by_cases hy0 : y = 0
        · subst hy0
          have hu32 : u < 32 := by omega
          obtain ⟨z, hz⟩ : ∃ z, z = x := ⟨_, rfl⟩
          subst hz
          have hz64 : z < 64 := by omega
          have hsh' : (u : Int) / 32 = 0 := by omega
          have HFIN : Hid (∀ qv' w1 o, w1.ownsRow w.heap.size 5 1 qv' (L.length + 1) (L.map u8V ++ [.int .u8 (dig z : Int)]) → (W0.alloc o).grownBy w1 q.ownBlock → EncPost v w (.returned qv') w1) := Lib.hid (fun qv' w1 o h1 h2 => HEN.out.fin (by rw [putN_small hu32, hx, Nat.mod_eq_of_lt hu32]) hz64 h1 h2)
          have hcz := hcw z hz64
          clear hx hy hcw hen hsh hu32
          go_wp2_with (at_builtin; refine wpList_append_own_src _ rfl (.tmp 37) (.tmp 42) 22 22 rfl w.heap.size 5 i0 (.int .u8 0) 1 1 Tryd.underlying22 hi hz0 hz1 hz2 rfl _ _ _ rfl (HOW.out.alloc _) _ 1 [.int .u8 (dig z : Int)] rfl (srcB _ _ rfl) (by unfold maxLen; omega) (by omega) (by simp; exact HSZ.out) ?_)
          intro qv' w1 h1 h2 h3
          have HR := Lib.hid (HFIN.out qv' w1 _ h1 h2)
          clear h1 h2 h3
          go_wp2
          go_ret
          exact HR.out
        · have hy1 : ¬ (y : Int) = 0 := by omega
          have hy2 : ((y : Int) != 0) = true := by simp; omega
          have hy3 : ((y : Int) == 0) = false := by simp; omega
          have hor32 := or32_i64 x hx32
          obtain ⟨z, hz⟩ : ∃ z, z = x + 32 := ⟨_, rfl⟩
          rw [← hz] at hor32
          have hz64 : z < 64 := by omega
          have HNX : Hid (∀ qv' w1 o, w1.ownsRow w.heap.size 5 1 qv' (L.length + 1) (L.map u8V ++ [.int .u8 (dig z : Int)]) → (W0.alloc o).grownBy w1 q.ownBlock → EnI v w (L ++ [digU z]) y qv' w1) := Lib.hid (fun qv' w1 o h1 h2 => HEN.out.push (by rw [putN_big (v := u) (by omega), hz, hx, hy]) hz64 (by omega) h1 h2)
          have HLT : Hid (y < u) := Lib.hid (by omega)
          have hcz := hcw z hz64
          clear hx hy hcw hen hz
          go_wp2_with (at_builtin; refine wpList_append_own_src _ rfl (.tmp 37) (.tmp 42) 22 22 rfl w.heap.size 5 i0 (.int .u8 0) 1 1 Tryd.underlying22 hi hz0 hz1 hz2 rfl _ _ _ rfl (HOW.out.alloc _) _ 1 [.int .u8 (dig z : Int)] rfl (srcB _ _ rfl) (by unfold maxLen; omega) (by omega) (by simp; exact HSZ.out) ?_)
          intro qv' w1 h1 h2 h3
          have HR := Lib.hid (HNX.out qv' w1 _ h1 h2)
          clear h1 h2 h3
          go_wp2
          go_roundw
          case rel => exact ⟨_, y, _, rfl, rfl, HR.out⟩
          case measure => simp [intOf]; exact HLT.out
end Go.Proofs.YthbmffocgccniaaDoor
