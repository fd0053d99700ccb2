/- zzDecode: the mappings that were written are read back. -/
import Derived.Test.YthbmffocgccniaaDoorVsg
import Derived.Test.YthbmffocgccniaaDoorVtk
import Derived.Test.YthbmffocgccniaaDoorApp
import Derived.Deep.QuietTactic
import Derived.BigQuiet
import Derived.Deep.Cut
import Derived.Deep.DeepCutAuto
import Derived.Laws.Tables
import Derived.Handy
namespace Go.Proofs.YthbmffocgccniaaDoor
open Go.RowKit
set_option linter.unusedVariables false
set_option linter.unusedSimpArgs false
/-- Lines come in order. -/
def OrdL : Nat → List Sg → Prop
  | _, [] => True
  | l, g :: q => l ≤ g.line ∧ OrdL g.line q
/-- What a reader finds at the head of a text. -/
structure Hd (s : ByteArray) (c : UInt8) (r : Bt) : Prop where
  hl : 0 < s.size
  hc : s[0] = c
  te : s.toList.isEmpty = false
  rest : (s.extract 1 s.size).data.toList = r
theorem hd_of {s : ByteArray} {c : UInt8} {r : Bt} (h : s.data.toList = c :: r) : Hd s c r := by
  have hl : 0 < s.size := by rw [size_list, h]; simp
  refine ⟨hl, (byte_at (pre := []) h rfl).2, by rw [ByteArray.toList_eq, h]; rfl, ?_⟩
  rw [ByteArray.data_extract, Array.toList_extract, List.extract_eq_take_drop, h, size_list, h]
  simp
theorem empty_of {s : ByteArray} (h : s.data.toList = []) : s = ⟨#[]⟩ := by
  apply ByteArray.ext
  apply Array.toList_inj.1
  exact h
theorem beq_nat (c : UInt8) (k : Nat) (b : Bool) (h : b = decide (c.toNat = k)) : ((c.toNat : Int) == (k : Int)) = b := by
  rw [h]
  by_cases e : c.toNat = k
  · rw [e]; simp
  · rw [decide_eq_false e, beq_eq_false_iff_ne]; omega
theorem bne_nat (c : UInt8) (k : Nat) (b : Bool) (h : b = !decide (c.toNat = k)) : ((c.toNat : Int) != (k : Int)) = b := by
  rw [bne, beq_nat c k _ rfl, h]
theorem dig_no (d : Nat) (h : d < 64) : (digU d).toNat ≠ 44 ∧ (digU d).toNat ≠ 59 := by rw [digU_nat d h]; exact dig_ne d h
/-- The numbers behind the column. -/
def nums (p g : Sg) : List Int := if g.f = 1 then [] else if g.f = 5 then [g.src - p.src, g.orig - p.orig, g.oc - p.oc, g.name - p.name] else [g.src - p.src, g.orig - p.orig, g.oc - p.oc]
theorem tail_nums (p g : Sg) : tail p g = (nums p g).flatMap put := by
  unfold tail nums tail4
  split
  · rfl
  · split <;> simp
/-- What lies in the reader's mapping behind k numbers. -/
def stK (p g : Sg) (k : Nat) : Sg := ⟨g.line, g.col, if k = 4 then 5 else if k = 3 then 4 else 1, if 1 ≤ k then g.src else p.src, if 2 ≤ k then g.orig else p.orig, if 3 ≤ k then g.oc else p.oc, if 4 ≤ k then g.name else p.name⟩
theorem stK_end (p g : Sg) (hf : FB g) : stK p g (nums p g).length = nx p g := by
  rcases hf with hf | hf | hf
  · have : nums p g = [] := by unfold nums; rw [if_pos hf]
    rw [this]; unfold stK nx; rw [hf]; simp
  · have : nums p g = [g.src - p.src, g.orig - p.orig, g.oc - p.oc] := by unfold nums; rw [if_neg (by omega), if_neg (by omega)]
    rw [this]; unfold stK nx; rw [hf]; simp
  · have : nums p g = [g.src - p.src, g.orig - p.orig, g.oc - p.oc, g.name - p.name] := by unfold nums; rw [if_neg (by omega), if_pos hf]
    rw [this]; unfold stK nx; rw [hf]; simp
theorem nums_get (p g : Sg) (k : Nat) (h : k < (nums p g).length) : k < 4 ∧ (nums p g)[k]? = some (if k = 0 then g.src - p.src else if k = 1 then g.orig - p.orig else if k = 2 then g.oc - p.oc else g.name - p.name) := by
  unfold nums at h ⊢
  split at h
  · simp at h
  · rename_i h1
    rw [if_neg h1]
    split at h
    · rename_i h2
      rw [if_pos h2]
      have : k = 0 ∨ k = 1 ∨ k = 2 ∨ k = 3 := by simp at h; omega
      rcases this with rfl | rfl | rfl | rfl <;> simp
    · rename_i h2
      rw [if_neg h2]
      have : k = 0 ∨ k = 1 ∨ k = 2 := by simp at h; omega
      rcases this with rfl | rfl | rfl <;> simp
theorem nums_len (p g : Sg) : (nums p g).length ≤ 4 := by unfold nums; split <;> (try split) <;> simp
/-- The reader's memory: its mapping in block x, the row of those that are read. -/
structure DM (w : World) (x : Nat) (p : Sg) (out : List Sg) (qv : Value) (wr : World) : Prop where
  own : wr.ownsRow w.heap.size 30 7 qv out.length (sgsC out)
  blk : Blk wr x 30 (sgC p).toArray
  ne : qv.ownBlock ≠ some x
  hx : w.heap.size ≤ x
  gr : w.grownBy wr none
theorem grow_set {w wr : World} (h : w.grownBy wr none) {x : Nat} (hx : w.heap.size ≤ x) (j : Nat) (u : Value) : w.grownBy (wr.setCell ⟨x, j, none⟩ u) none :=
  ⟨h.os, h.tape, h.output, by rw [size_setCell]; exact h.size, fun i hi hne => (Below.heap_setCell wr ⟨x, j, none⟩ u i (by show i ≠ x; omega)).trans (h.block i hi hne)⟩
theorem DM.set {w : World} {x : Nat} {p p' : Sg} {out : List Sg} {qv : Value} {wr : World} (h : DM w x p out qv wr) (j : Nat) (u : Value) (hp : (sgC p).set j u = sgC p') : DM w x p' out qv (wr.setCell ⟨x, j, none⟩ u) := by
  obtain ⟨h1, h2, h3, h4, h5⟩ := h
  refine ⟨ownsRow_setCell_other h1 h3 _, ?_, h3, h4, grow_set h5 h4 _ _⟩
  have := h2.set_ j u
  rw [← hp]
  simpa using this
theorem DM.grown {w : World} {x : Nat} {p : Sg} {out : List Sg} {qv : Value} {wr wa : World} (h : DM w x p out qv wr) (hg : wr.grownBy wa none) : DM w x p out qv wa := by
  obtain ⟨h1, h2, h3, h4, h5⟩ := h
  exact ⟨h1.kept hg (Classical.em _), h2.grown hg (by simp), h3, h4, ⟨hg.os.trans h5.os, hg.tape.trans h5.tape, hg.output.trans h5.output, Nat.le_trans h5.size hg.size, fun i hi hne => (hg.block i (Nat.lt_of_lt_of_le hi h5.size) hne).trans (h5.block i hi hne)⟩⟩
theorem DM.cell {w : World} {x : Nat} {p : Sg} {out : List Sg} {qv : Value} {wr : World} (h : DM w x p out qv wr) (j : Nat) : wr.cell? ⟨x, j, none⟩ = (sgC p)[j]? ∧ wr.frozen? ⟨x, j, none⟩ = false := by
  refine ⟨?_, h.blk.frozen j⟩
  rw [h.blk.cell j]; simp
theorem own_alloc_grow2 {w wr w1 : World} {E : TypeId} {sz : Nat} {qv : Value} {xs : List Value} {n : Nat} (hg : w.grownBy wr none) (ho : wr.ownsRow w.heap.size E sz qv n xs) {o : Obj} (h : (wr.alloc o).grownBy w1 qv.ownBlock) : w.grownBy w1 none := by
  refine ⟨h.os.trans hg.os, h.tape.trans hg.tape, h.output.trans hg.output, Nat.le_trans hg.size (Nat.le_trans (by simp) h.size), fun i hi _ => ?_⟩
  have hne : some i ≠ qv.ownBlock := by
    rcases ho.2 with ⟨h1, _⟩ | ⟨g, cap, cur, h1, hb, _⟩
    · rw [h1]; simp [Value.ownBlock]
    · rw [h1]; simp [Value.ownBlock]; omega
  have hiw : i < wr.heap.size := Nat.lt_of_lt_of_le hi hg.size
  exact (h.block i (by simp; omega) hne).trans ((Below.heap_alloc wr o i hiw).trans (hg.block i hi (by simp)))
theorem DM.push {w : World} {x : Nat} {p : Sg} {out : List Sg} {qv qv' : Value} {wr w1 : World} {o : Obj} (h : DM w x p out qv wr) (h1 : w1.ownsRow w.heap.size 30 7 qv' (out.length + 1) (sgsC out ++ sgC p)) (h2 : (wr.alloc o).grownBy w1 qv.ownBlock) (h3 : qv'.ownBlock = qv.ownBlock ∨ qv'.ownBlock = some (wr.heap.size + 1)) : DM w x p (out ++ [p]) qv' w1 := by
  obtain ⟨a1, a2, a3, a4, a5⟩ := h
  have hlt := a2.lt
  refine ⟨by rw [List.length_append, sgsC_snoc]; exact h1, ((a2.alloc o).grown h2 (fun e => a3 e.symm)), ?_, a4, own_alloc_grow2 a5 a1 h2⟩
  rcases h3 with e | e
  · rw [e]; exact a3
  · rw [e]; intro e2; injection e2 with e2; omega
theorem srcSg (w : World) (p : Sg) : Src Tryd.prog 7 26 (.slice (some ⟨w.heap.size, 0, none⟩) 1 1) 1 (sgC p) (w.alloc (.cells (sgC p).toArray 30)) :=
  Src.ofSlice _ Tryd.underlying26 _ 1 1 (sgC p) rfl (fun j u hu => by
    rw [← hu]
    have := (Blk.new w 30 (sgC p).toArray).cell j
    have e : ((sgC p).toArray)[j]? = (sgC p)[j]? := by simp
    rw [e] at this
    rw [← this]
    unfold Addr.add
    split
    · rename_i h0; subst h0; rfl
    · show World.cell? _ ⟨w.heap.size, 0 + j, none⟩ = _
      rw [Nat.zero_add]) (fun u hu => by
    simp only [sgC, List.mem_cons, List.not_mem_nil, or_false] at hu
    rcases hu with rfl | rfl | rfl | rfl | rfl | rfl | rfl <;> rfl)
theorem seg_info : (Tryd.prog.info? 30).map (fun i => (i.zero, i.size, i.bytes)) = some (some (.agg #[.int .i64 0, .int .i64 0, .int .i64 0, .int .i64 0, .int .i64 0, .int .i64 0, .int .i64 0]), 7, 56) := by kernel_rfl
theorem own_sslice {w : World} {base n sz : Nat} {E : TypeId} {v : Value} {xs : List Value} (h : w.ownsRow base E sz v n xs) : ∃ A c, v = .slice A n c := by
  rcases h.2 with ⟨h1, h2⟩ | ⟨g, cap, cur, h1, _⟩
  · exact ⟨none, 0, by rw [h1, h2]⟩
  · exact ⟨_, cap, h1⟩
/-- The reader at the head of its loop: what it has read and what is left. -/
structure DT (Q : List Sg) (s : ByteArray) (p : Sg) (q out : List Sg) : Prop where
  txt : s.data.toList = enc false p q
  pb : PB p
  qb : ∀ g ∈ q, PB g ∧ FB g
  ord : OrdL p.line q
  st : out ++ states p q = states zs Q
def DecodePost (R : List Sg) (w : World) (e : Ending) (w' : World) : Prop := ∃ A c, e = .returned (.tuple #[.slice A R.length c, .bool true]) ∧ SgB w' A R.length R ∧ w.grownBy w' none
set_option maxHeartbeats 16000000 in
set_option maxRecDepth 100000 in
theorem decode_any (s : ByteArray) (Q : List Sg) (w : World) (hs : s.data.toList = enc false zs Q) (hn : Q.length ≤ 1000) (hq : ∀ g ∈ Q, PB g ∧ FB g) (ho : OrdL 0 Q) :
    Calls Tryd.prog 7 #[.string s] w (DecodePost (states zs Q) w) := by
  have hsz : s.size ≤ 10046000 := by
    have h1 := enc_len Q false zs PB.zs_ (fun g hg => (hq g hg).1)
    rw [size_list, hs]; omega
  obtain ⟨i0, hi0, hz0, hz1, hz2⟩ := info_parts seg_info
  obtain ⟨x, hx⟩ : ∃ x, x = w.heap.size := ⟨_, rfl⟩
  obtain ⟨W0, hW0⟩ : ∃ W, W = w.alloc (.cells #[.int .i64 0, .int .i64 0, .int .i64 0, .int .i64 0, .int .i64 0, .int .i64 0, .int .i64 0] 30) := ⟨_, rfl⟩
  have HD0 : Hid (DM w x zs [] (.slice none 0 0) W0) := Lib.hid ⟨World.ownsRow_nil _ _ _ _, by rw [hW0, hx]; exact Blk.new _ _ _, by simp [Value.ownBlock], by omega, by rw [hW0]; exact only_alloc (World.grownBy.refl _ _) _⟩
  have HT0 : Hid (DT Q s zs Q []) := Lib.hid ⟨hs, PB.zs_, hq, ho, rfl⟩
  have HN := Lib.hid hn
  have HLEN : Hid (∀ out p q, out ++ states p q = states zs Q → out.length ≤ 1000) := Lib.hid (fun out p q h => by
    have h1 := congrArg List.length h
    rw [List.length_append, states_len, states_len] at h1
    omega)
  clear hq ho hs hn
  go_enter Tryd.func7, Tryd.ntmps7
  go_upto_region 3 with fail
  first | rw [← hW0] | skip
  first | rw [← hx] | skip
  clear hW0 hx
  go_loopw [0, 4] (fun sv qv wr => ∃ (s' : ByteArray) (p : Sg) (q out : List Sg) (v : Value), sv = .string s' ∧ qv = v ∧ s'.size ≤ 10046000 ∧ DT Q s' p q out ∧ DM w x p out v wr) (fun sv _ _ => match sv with | .string s' => s'.size | _ => 0)
  case atStart => exact ⟨s, zs, Q, [], _, rfl, rfl, hsz, HT0.out, HD0.out⟩
  case round =>
    obtain ⟨s', ⟨pl, pc, pf, ps, po, pq, pn⟩, q, out, v, rfl, hv, hsz', hdt, hdm⟩ := hrel
    obtain rfl := hv.symm
    clear hv
    obtain ⟨w0, hw0⟩ : ∃ W, W = wr := ⟨_, rfl⟩
    subst hw0
    have HD := Lib.hid hdm
    obtain ⟨h1, h2, h3, h4, h5⟩ := hdt
    have HPB := Lib.hid h2; have HQB0 := Lib.hid h3; have HOR0 := Lib.hid h4; have HST0 := Lib.hid h5
    have hol := HLEN.out _ _ _ h5
    clear HT0 HD0 hdm h2 h3 h4 h5
    cases q with
    | nil =>
      obtain rfl : s' = ⟨#[]⟩ := empty_of (by rw [h1]; exact enc_nil _ _)
      obtain ⟨A, c, rfl⟩ := own_sslice HD.out.own
      have HFIN : Hid (DecodePost (states zs Q) w (.returned (.tuple #[.slice A out.length c, .bool true])) w0) := Lib.hid (by
        have e : out = states zs Q := by have := HST0.out; rwa [states, List.append_nil] at this
        rw [← e]
        exact ⟨A, c, rfl, SgB.of_own HD.out.own, HD.out.gr⟩)
      clear h1
      go_wp2
      go_returns
      exact HFIN.out
    | cons g q =>
      obtain ⟨hgb, hgf⟩ := HQB0.out g (by simp)
      have HQB : Hid (∀ y ∈ q, PB y ∧ FB y) := Lib.hid (fun y hy => HQB0.out y (by simp [hy]))
      have HPN := Lib.hid (HPB.out.nx_ hgb)
      obtain ⟨gl, gc, gf, gs, go, gq, gn⟩ := g
      have hle : pl ≤ gl := HOR0.out.1
      have HOR2 : Hid (OrdL gl q) := Lib.hid HOR0.out.2
      obtain ⟨b1, b2, b3, b4, b5, b6⟩ := hgb
      obtain ⟨a1, a2, a3, a4, a5, a6⟩ := HPB.out
      dsimp only at a1 a2 a3 a4 a5 a6 b1 b2 b3 b4 b5 b6
      have HGF := Lib.hid hgf
      by_cases hll : pl < gl
      · rw [enc_down _ _ _ _ hll] at h1
        have HH := hd_of h1
        have hl1 := HH.hl; have te1 := HH.te
        have q1 : (((s'[0]'hl1).toNat : Int) == 59) = true := by rw [HH.hc]; rfl
        have HDW : Hid (DT Q (s'.extract 1 s'.size) (down ⟨pl, pc, pf, ps, po, pq, pn⟩) (⟨gl, gc, gf, gs, go, gq, gn⟩ :: q) out) := Lib.hid ⟨HH.rest, ⟨by show pl + 1 ≤ 10000; omega, ⟨by show (-1000000 : Int) ≤ 0; omega, by show (0 : Int) ≤ 1000000; omega⟩, a3, a4, a5, a6⟩, HQB0.out, ⟨by show pl + 1 ≤ gl; omega, HOR2.out⟩, by rw [states_down]; exact HST0.out⟩
        obtain ⟨m0, z0⟩ := HD.out.cell 0
        obtain ⟨m1, z1⟩ := HD.out.cell 1
        have c0 : w0.cell? ⟨x, 0, none⟩ = some (.int .i64 (pl : Int)) := m0
        have c1 : w0.cell? ⟨x, 1, none⟩ = some (.int .i64 pc) := m1
        clear m0 m1
        have hwl : IntKind.i64.wrap ((pl : Int) + 1) = (pl : Int) + 1 := by rw [IntKind.wrap_i64]; omega
        have HDN : Hid (DM w x (down ⟨pl, pc, pf, ps, po, pq, pn⟩) out v ((w0.setCell ⟨x, 0, none⟩ (.int .i64 ((pl : Int) + 1))).setCell ⟨x, 1, none⟩ (.int .i64 0))) := Lib.hid ((HD.out.set 0 (.int .i64 ((pl : Int) + 1)) (p' := ⟨pl + 1, pc, pf, ps, po, pq, pn⟩) (by unfold sgC; simp)).set 1 (.int .i64 0) (p' := down ⟨pl, pc, pf, ps, po, pq, pn⟩) (by unfold sgC down; simp))
        have hszx : (s'.extract 1 s'.size).size = s'.size - 1 := by simp
        have HSX : Hid ((s'.extract 1 s'.size).size ≤ 10046000) := Lib.hid (by rw [hszx]; omega)
        have HMS : Hid (s'.size - 1 < s'.size) := Lib.hid (by omega)
        clear h1 HH hszx
        go_wp2
        go_roundw
        case rel => exact ⟨_, _, _, _, _, rfl, rfl, HSX.out, HDW.out, HDN.out⟩
        case measure => simp; exact HMS.out
      · obtain rfl : pl = gl := by omega
        have hep := enc_put ⟨pl, pc, pf, ps, po, pq, pn⟩ ⟨pl, gc, gf, gs, go, gq, gn⟩ q rfl
        rw [hep] at h1
        clear hep
        dsimp only at h1
        obtain ⟨d, hd⟩ : ∃ d, d = gc - pc := ⟨_, rfl⟩
        rw [← hd] at h1
        have HTK := Lib.hid (ztake_any d s' _ w0 h1 (sgn_small _ (by omega)) (by omega))
        have HLEN1 : Hid (∀ s3 : ByteArray, s3.data.toList = tail ⟨pl, pc, pf, ps, po, pq, pn⟩ ⟨pl, gc, gf, gs, go, gq, gn⟩ ++ enc true (nx ⟨pl, pc, pf, ps, po, pq, pn⟩ ⟨pl, gc, gf, gs, go, gq, gn⟩) q → s3.size < s'.size) := Lib.hid (fun s3 h => by
          rw [size_list s3, h, size_list s', h1]
          obtain ⟨dd, tt, _, hput⟩ := put_head d
          rw [hput]; simp; omega)
        obtain ⟨dd, tt, hdd, hput⟩ := put_head d
        rw [hput] at h1
        have HH := Lib.hid (hd_of h1)
        have hl1 := HH.out.hl; have te1 := HH.out.te
        have q1 : (((s'[0]'hl1).toNat : Int) == 59) = false := by rw [HH.out.hc]; exact beq_nat _ 59 _ (by simp [(dig_no dd hdd).2])
        have hwd : IntKind.i64.wrap (pc + d) = gc := by rw [IntKind.wrap_i64]; omega
        clear h1 hd hput
        go_wp2_with (go_at_call 14; (with_reducible refine (HTK.out).mono ?_))
        rintro e wt ⟨s1, rfl, hs1, hgt⟩
        have hs1s := HLEN1.out s1 hs1
        rw [tail_nums] at hs1
        have HS1 := Lib.hid hs1
        have HDA := Lib.hid (HD.out.grown hgt)
        obtain ⟨m1, z1⟩ := HDA.out.cell 1
        obtain ⟨m2, z2⟩ := HDA.out.cell 2
        have c1 : wt.cell? ⟨x, 1, none⟩ = some (.int .i64 pc) := m1
        have c2 : wt.cell? ⟨x, 2, none⟩ = some (.int .i64 pf) := m2
        clear m1 m2
        obtain ⟨w2, hw2⟩ : ∃ W, W = (wt.setCell ⟨x, 1, none⟩ (.int .i64 gc)).setCell ⟨x, 2, none⟩ (.int .i64 1) := ⟨_, rfl⟩
        have HD2 : Hid (DM w x (stK ⟨pl, pc, pf, ps, po, pq, pn⟩ ⟨pl, gc, gf, gs, go, gq, gn⟩ 0) out v w2) := Lib.hid (by
          rw [hw2]
          exact (HDA.out.set 1 (.int .i64 gc) (p' := ⟨pl, gc, pf, ps, po, pq, pn⟩) rfl).set 2 (.int .i64 1) rfl)
        clear hs1 hgt HTK
        go_upto_region 14 with fail
        first | rw [← hw2] | skip
        clear hw2 c1 c2 z1 z2
        obtain ⟨gl, hgl0⟩ : ∃ g, g = pl := ⟨_, rfl⟩
        subst hgl0
        go_wp2
        go_loopw [0, 9] (fun sv kv wr => ∃ (k : Nat) (s2 : ByteArray), sv = .string s2 ∧ kv = .int .i64 (k : Int) ∧ k ≤ (nums ⟨gl, pc, pf, ps, po, pq, pn⟩ ⟨gl, gc, gf, gs, go, gq, gn⟩).length ∧ s2.size < s'.size ∧ s2.data.toList = ((nums ⟨gl, pc, pf, ps, po, pq, pn⟩ ⟨gl, gc, gf, gs, go, gq, gn⟩).drop k).flatMap put ++ enc true (nx ⟨gl, pc, pf, ps, po, pq, pn⟩ ⟨gl, gc, gf, gs, go, gq, gn⟩) q ∧ DM w x (stK ⟨gl, pc, pf, ps, po, pq, pn⟩ ⟨gl, gc, gf, gs, go, gq, gn⟩ k) out v wr) (fun _ kv _ => 4 - (intOf kv).toNat)
        case atStart => exact ⟨0, s1, rfl, rfl, Nat.zero_le _, hs1s, HS1.out, HD2.out⟩
        case round =>
          obtain ⟨k, s2, rfl, rfl, hk, hs2s, hs2t, hdk⟩ := hrel
          have HT2 := Lib.hid hs2t; have HDK := Lib.hid hdk; have HM2 := Lib.hid hs2s
          have hs2 : s2.size ≤ 10046000 := by omega
          have hnl := nums_len ⟨gl, pc, pf, ps, po, pq, pn⟩ ⟨gl, gc, gf, gs, go, gq, gn⟩
          have hwk : IntKind.i64.wrap ((k : Int) + 1) = (k : Int) + 1 := by rw [IntKind.wrap_i64]; omega
          clear hs2t hdk
          by_cases hkl : k < (nums ⟨gl, pc, pf, ps, po, pq, pn⟩ ⟨gl, gc, gf, gs, go, gq, gn⟩).length
          · have hk4 : (k : Int) < 4 := by omega
            have hkc : k = 0 ∨ k = 1 ∨ k = 2 ∨ k = 3 := by omega
            rcases hkc with hkk | hkk | hkk | hkk
            · skip
              obtain ⟨d, hd⟩ : ∃ d, d = gs - ps := ⟨_, rfl⟩
              have hwd : IntKind.i64.wrap (ps + d) = gs := by rw [IntKind.wrap_i64]; omega
              have hgets : (nums ⟨gl, pc, pf, ps, po, pq, pn⟩ ⟨gl, gc, gf, gs, go, gq, gn⟩).drop k = d :: (nums ⟨gl, pc, pf, ps, po, pq, pn⟩ ⟨gl, gc, gf, gs, go, gq, gn⟩).drop (k + 1) := by
                obtain ⟨_, h2⟩ := nums_get _ _ k hkl
                obtain ⟨h3, h4⟩ := List.getElem?_eq_some_iff.1 h2
                rw [List.drop_eq_getElem_cons h3, h4, hd, hkk]; rfl
              have hs3 := HT2.out
              rw [hgets, List.flatMap_cons, List.append_assoc] at hs3
              have HTK := Lib.hid (ztake_any d s2 _ wr hs3 (sgn_small _ (by omega)) (by omega))
              obtain ⟨dd, tt, hdd, hput⟩ := put_head d
              rw [hput] at hs3
              have HH2 := hd_of hs3
              have hl2 := HH2.hl; have te2 := HH2.te
              have q1 : (((s2[0]'hl2).toNat : Int) == 44) = false := by rw [HH2.hc]; exact beq_nat _ 44 _ (by simp [(dig_no dd hdd).1])
              have q2' : (((s2[0]'hl2).toNat : Int) != 44) = true := by rw [HH2.hc]; exact bne_nat _ 44 _ (by simp [(dig_no dd hdd).1])
              have q3 : (((s2[0]'hl2).toNat : Int) == 59) = false := by rw [HH2.hc]; exact beq_nat _ 59 _ (by simp [(dig_no dd hdd).2])
              have q4 : (((s2[0]'hl2).toNat : Int) != 59) = true := by rw [HH2.hc]; exact bne_nat _ 59 _ (by simp [(dig_no dd hdd).2])
              have hDM : DM w x ⟨gl, gc, 1, ps, po, pq, pn⟩ out v wr := by have := HDK.out; rw [hkk] at this; exact this
              have HDM := Lib.hid hDM
              have kb0 : ((k : Int) == 0) = true := by rw [hkk]; rfl
              have kb1 : ((k : Int) == 1) = false := by rw [hkk]; rfl
              have kb2 : ((k : Int) == 2) = false := by rw [hkk]; rfl
              have HKK := Lib.hid hkk
              have HLS : Hid (∀ s3 : ByteArray, s3.data.toList = ((nums ⟨gl, pc, pf, ps, po, pq, pn⟩ ⟨gl, gc, gf, gs, go, gq, gn⟩).drop (k + 1)).flatMap put ++ enc true (nx ⟨gl, pc, pf, ps, po, pq, pn⟩ ⟨gl, gc, gf, gs, go, gq, gn⟩) q → s3.size ≤ s2.size) := Lib.hid (fun s3 h => by
                rw [size_list s3, h, size_list s2, hs3]
                simp; omega)
              clear hd hgets hs3 HH2 hput hDM hkk
              go_wp2_with (go_at_call 14; (with_reducible refine (HTK.out).mono ?_))
              rintro e wt ⟨s3, rfl, hs3, hgt⟩
              have HS3 := Lib.hid hs3
              have HDA := Lib.hid (HDM.out.grown hgt)
              obtain ⟨m3, z3⟩ := HDA.out.cell 3
              have c3 : wt.cell? ⟨x, 3, none⟩ = some (.int .i64 ps) := m3
              clear m3
              have HDN := Lib.hid (HDA.out.set 3 (.int .i64 gs) (p' := ⟨gl, gc, 1, gs, po, pq, pn⟩) rfl)
              have hs3s := HLS.out s3 hs3
              clear hs3 hgt HTK
              go_wp2
              go_roundw
              case rel => exact ⟨k + 1, s3, rfl, by simp, by omega, by omega, HS3.out, by have h := HDN.out; have e := HKK.out; subst e; exact h⟩
              case measure => simp [intOf]; omega
            · skip
              obtain ⟨d, hd⟩ : ∃ d, d = go - po := ⟨_, rfl⟩
              have hwd : IntKind.i64.wrap (po + d) = go := by rw [IntKind.wrap_i64]; omega
              have hgets : (nums ⟨gl, pc, pf, ps, po, pq, pn⟩ ⟨gl, gc, gf, gs, go, gq, gn⟩).drop k = d :: (nums ⟨gl, pc, pf, ps, po, pq, pn⟩ ⟨gl, gc, gf, gs, go, gq, gn⟩).drop (k + 1) := by
                obtain ⟨_, h2⟩ := nums_get _ _ k hkl
                obtain ⟨h3, h4⟩ := List.getElem?_eq_some_iff.1 h2
                rw [List.drop_eq_getElem_cons h3, h4, hd, hkk]; rfl
              have hs3 := HT2.out
              rw [hgets, List.flatMap_cons, List.append_assoc] at hs3
              have HTK := Lib.hid (ztake_any d s2 _ wr hs3 (sgn_small _ (by omega)) (by omega))
              obtain ⟨dd, tt, hdd, hput⟩ := put_head d
              rw [hput] at hs3
              have HH2 := hd_of hs3
              have hl2 := HH2.hl; have te2 := HH2.te
              have q1 : (((s2[0]'hl2).toNat : Int) == 44) = false := by rw [HH2.hc]; exact beq_nat _ 44 _ (by simp [(dig_no dd hdd).1])
              have q2' : (((s2[0]'hl2).toNat : Int) != 44) = true := by rw [HH2.hc]; exact bne_nat _ 44 _ (by simp [(dig_no dd hdd).1])
              have q3 : (((s2[0]'hl2).toNat : Int) == 59) = false := by rw [HH2.hc]; exact beq_nat _ 59 _ (by simp [(dig_no dd hdd).2])
              have q4 : (((s2[0]'hl2).toNat : Int) != 59) = true := by rw [HH2.hc]; exact bne_nat _ 59 _ (by simp [(dig_no dd hdd).2])
              have hDM : DM w x ⟨gl, gc, 1, gs, po, pq, pn⟩ out v wr := by have := HDK.out; rw [hkk] at this; exact this
              have HDM := Lib.hid hDM
              have kb0 : ((k : Int) == 0) = false := by rw [hkk]; rfl
              have kb1 : ((k : Int) == 1) = true := by rw [hkk]; rfl
              have kb2 : ((k : Int) == 2) = false := by rw [hkk]; rfl
              have HKK := Lib.hid hkk
              have HLS : Hid (∀ s3 : ByteArray, s3.data.toList = ((nums ⟨gl, pc, pf, ps, po, pq, pn⟩ ⟨gl, gc, gf, gs, go, gq, gn⟩).drop (k + 1)).flatMap put ++ enc true (nx ⟨gl, pc, pf, ps, po, pq, pn⟩ ⟨gl, gc, gf, gs, go, gq, gn⟩) q → s3.size ≤ s2.size) := Lib.hid (fun s3 h => by
                rw [size_list s3, h, size_list s2, hs3]
                simp; omega)
              clear hd hgets hs3 HH2 hput hDM hkk
              go_wp2_with (go_at_call 14; (with_reducible refine (HTK.out).mono ?_))
              rintro e wt ⟨s3, rfl, hs3, hgt⟩
              have HS3 := Lib.hid hs3
              have HDA := Lib.hid (HDM.out.grown hgt)
              obtain ⟨m3, z3⟩ := HDA.out.cell 4
              have c3 : wt.cell? ⟨x, 4, none⟩ = some (.int .i64 po) := m3
              clear m3
              have HDN := Lib.hid (HDA.out.set 4 (.int .i64 go) (p' := ⟨gl, gc, 1, gs, go, pq, pn⟩) rfl)
              have hs3s := HLS.out s3 hs3
              clear hs3 hgt HTK
              go_wp2
              go_roundw
              case rel => exact ⟨k + 1, s3, rfl, by simp, by omega, by omega, HS3.out, by have h := HDN.out; have e := HKK.out; subst e; exact h⟩
              case measure => simp [intOf]; omega
            · skip
              obtain ⟨d, hd⟩ : ∃ d, d = gq - pq := ⟨_, rfl⟩
              have hwd : IntKind.i64.wrap (pq + d) = gq := by rw [IntKind.wrap_i64]; omega
              have hgets : (nums ⟨gl, pc, pf, ps, po, pq, pn⟩ ⟨gl, gc, gf, gs, go, gq, gn⟩).drop k = d :: (nums ⟨gl, pc, pf, ps, po, pq, pn⟩ ⟨gl, gc, gf, gs, go, gq, gn⟩).drop (k + 1) := by
                obtain ⟨_, h2⟩ := nums_get _ _ k hkl
                obtain ⟨h3, h4⟩ := List.getElem?_eq_some_iff.1 h2
                rw [List.drop_eq_getElem_cons h3, h4, hd, hkk]; rfl
              have hs3 := HT2.out
              rw [hgets, List.flatMap_cons, List.append_assoc] at hs3
              have HTK := Lib.hid (ztake_any d s2 _ wr hs3 (sgn_small _ (by omega)) (by omega))
              obtain ⟨dd, tt, hdd, hput⟩ := put_head d
              rw [hput] at hs3
              have HH2 := hd_of hs3
              have hl2 := HH2.hl; have te2 := HH2.te
              have q1 : (((s2[0]'hl2).toNat : Int) == 44) = false := by rw [HH2.hc]; exact beq_nat _ 44 _ (by simp [(dig_no dd hdd).1])
              have q2' : (((s2[0]'hl2).toNat : Int) != 44) = true := by rw [HH2.hc]; exact bne_nat _ 44 _ (by simp [(dig_no dd hdd).1])
              have q3 : (((s2[0]'hl2).toNat : Int) == 59) = false := by rw [HH2.hc]; exact beq_nat _ 59 _ (by simp [(dig_no dd hdd).2])
              have q4 : (((s2[0]'hl2).toNat : Int) != 59) = true := by rw [HH2.hc]; exact bne_nat _ 59 _ (by simp [(dig_no dd hdd).2])
              have hDM : DM w x ⟨gl, gc, 1, gs, go, pq, pn⟩ out v wr := by have := HDK.out; rw [hkk] at this; exact this
              have HDM := Lib.hid hDM
              have kb0 : ((k : Int) == 0) = false := by rw [hkk]; rfl
              have kb1 : ((k : Int) == 1) = false := by rw [hkk]; rfl
              have kb2 : ((k : Int) == 2) = true := by rw [hkk]; rfl
              have HKK := Lib.hid hkk
              have HLS : Hid (∀ s3 : ByteArray, s3.data.toList = ((nums ⟨gl, pc, pf, ps, po, pq, pn⟩ ⟨gl, gc, gf, gs, go, gq, gn⟩).drop (k + 1)).flatMap put ++ enc true (nx ⟨gl, pc, pf, ps, po, pq, pn⟩ ⟨gl, gc, gf, gs, go, gq, gn⟩) q → s3.size ≤ s2.size) := Lib.hid (fun s3 h => by
                rw [size_list s3, h, size_list s2, hs3]
                simp; omega)
              clear hd hgets hs3 HH2 hput hDM hkk
              go_wp2_with (go_at_call 14; (with_reducible refine (HTK.out).mono ?_))
              rintro e wt ⟨s3, rfl, hs3, hgt⟩
              have HS3 := Lib.hid hs3
              have HDA := Lib.hid (HDM.out.grown hgt)
              obtain ⟨m3, z3⟩ := HDA.out.cell 5
              have c3 : wt.cell? ⟨x, 5, none⟩ = some (.int .i64 pq) := m3
              clear m3
              obtain ⟨m2, z2⟩ := HDA.out.cell 2
              have c2 : wt.cell? ⟨x, 2, none⟩ = some (.int .i64 1) := m2
              clear m2
              have HDN := Lib.hid ((HDA.out.set 5 (.int .i64 gq) (p' := ⟨gl, gc, 1, gs, go, gq, pn⟩) rfl).set 2 (.int .i64 4) (p' := ⟨gl, gc, 4, gs, go, gq, pn⟩) rfl)
              have hs3s := HLS.out s3 hs3
              clear hs3 hgt HTK
              go_wp2
              go_roundw
              case rel => exact ⟨k + 1, s3, rfl, by simp, by omega, by omega, HS3.out, by have h := HDN.out; have e := HKK.out; subst e; exact h⟩
              case measure => simp [intOf]; omega
            · skip
              obtain ⟨d, hd⟩ : ∃ d, d = gn - pn := ⟨_, rfl⟩
              have hwd : IntKind.i64.wrap (pn + d) = gn := by rw [IntKind.wrap_i64]; omega
              have hgets : (nums ⟨gl, pc, pf, ps, po, pq, pn⟩ ⟨gl, gc, gf, gs, go, gq, gn⟩).drop k = d :: (nums ⟨gl, pc, pf, ps, po, pq, pn⟩ ⟨gl, gc, gf, gs, go, gq, gn⟩).drop (k + 1) := by
                obtain ⟨_, h2⟩ := nums_get _ _ k hkl
                obtain ⟨h3, h4⟩ := List.getElem?_eq_some_iff.1 h2
                rw [List.drop_eq_getElem_cons h3, h4, hd, hkk]; rfl
              have hs3 := HT2.out
              rw [hgets, List.flatMap_cons, List.append_assoc] at hs3
              have HTK := Lib.hid (ztake_any d s2 _ wr hs3 (sgn_small _ (by omega)) (by omega))
              obtain ⟨dd, tt, hdd, hput⟩ := put_head d
              rw [hput] at hs3
              have HH2 := hd_of hs3
              have hl2 := HH2.hl; have te2 := HH2.te
              have q1 : (((s2[0]'hl2).toNat : Int) == 44) = false := by rw [HH2.hc]; exact beq_nat _ 44 _ (by simp [(dig_no dd hdd).1])
              have q2' : (((s2[0]'hl2).toNat : Int) != 44) = true := by rw [HH2.hc]; exact bne_nat _ 44 _ (by simp [(dig_no dd hdd).1])
              have q3 : (((s2[0]'hl2).toNat : Int) == 59) = false := by rw [HH2.hc]; exact beq_nat _ 59 _ (by simp [(dig_no dd hdd).2])
              have q4 : (((s2[0]'hl2).toNat : Int) != 59) = true := by rw [HH2.hc]; exact bne_nat _ 59 _ (by simp [(dig_no dd hdd).2])
              have hDM : DM w x ⟨gl, gc, 4, gs, go, gq, pn⟩ out v wr := by have := HDK.out; rw [hkk] at this; exact this
              have HDM := Lib.hid hDM
              have kb0 : ((k : Int) == 0) = false := by rw [hkk]; rfl
              have kb1 : ((k : Int) == 1) = false := by rw [hkk]; rfl
              have kb2 : ((k : Int) == 2) = false := by rw [hkk]; rfl
              have HKK := Lib.hid hkk
              have HLS : Hid (∀ s3 : ByteArray, s3.data.toList = ((nums ⟨gl, pc, pf, ps, po, pq, pn⟩ ⟨gl, gc, gf, gs, go, gq, gn⟩).drop (k + 1)).flatMap put ++ enc true (nx ⟨gl, pc, pf, ps, po, pq, pn⟩ ⟨gl, gc, gf, gs, go, gq, gn⟩) q → s3.size ≤ s2.size) := Lib.hid (fun s3 h => by
                rw [size_list s3, h, size_list s2, hs3]
                simp; omega)
              clear hd hgets hs3 HH2 hput hDM hkk
              go_wp2_with (go_at_call 14; (with_reducible refine (HTK.out).mono ?_))
              rintro e wt ⟨s3, rfl, hs3, hgt⟩
              have HS3 := Lib.hid hs3
              have HDA := Lib.hid (HDM.out.grown hgt)
              obtain ⟨m3, z3⟩ := HDA.out.cell 6
              have c3 : wt.cell? ⟨x, 6, none⟩ = some (.int .i64 pn) := m3
              clear m3
              obtain ⟨m2, z2⟩ := HDA.out.cell 2
              have c2 : wt.cell? ⟨x, 2, none⟩ = some (.int .i64 4) := m2
              clear m2
              have HDN := Lib.hid ((HDA.out.set 6 (.int .i64 gn) (p' := ⟨gl, gc, 4, gs, go, gq, gn⟩) rfl).set 2 (.int .i64 5) (p' := ⟨gl, gc, 5, gs, go, gq, gn⟩) rfl)
              have hs3s := HLS.out s3 hs3
              clear hs3 hgt HTK
              go_wp2
              go_roundw
              case rel => exact ⟨k + 1, s3, rfl, by simp, by omega, by omega, HS3.out, by have h := HDN.out; have e := HKK.out; subst e; exact h⟩
              case measure => simp [intOf]; omega
          · obtain ⟨nl, hnl2⟩ : ∃ m, m = (nums ⟨gl, pc, pf, ps, po, pq, pn⟩ ⟨gl, gc, gf, gs, go, gq, gn⟩).length := ⟨_, rfl⟩
            rw [← hnl2] at hk hnl hkl
            obtain rfl : k = nl := by omega
            have HDE : Hid (DM w x (nx ⟨gl, pc, pf, ps, po, pq, pn⟩ ⟨gl, gc, gf, gs, go, gq, gn⟩) out v wr) := Lib.hid (by
              have := HDK.out
              rw [hnl2, stK_end _ _ HGF.out] at this; exact this)
            have HT2 : Hid (s2.data.toList = enc true (nx ⟨gl, pc, pf, ps, po, pq, pn⟩ ⟨gl, gc, gf, gs, go, gq, gn⟩) q) := Lib.hid (by
              rw [HT2.out, hnl2, List.drop_length]; rfl)
            have HST : Hid ((out ++ [nx ⟨gl, pc, pf, ps, po, pq, pn⟩ ⟨gl, gc, gf, gs, go, gq, gn⟩]) ++ states (nx ⟨gl, pc, pf, ps, po, pq, pn⟩ ⟨gl, gc, gf, gs, go, gq, gn⟩) q = states zs Q) := Lib.hid (by
              rw [List.append_assoc]; exact HST0.out)
            obtain ⟨wk, hwk0⟩ : ∃ W, W = wr := ⟨_, rfl⟩
            subst hwk0
            obtain ⟨ol, hol2⟩ : ∃ m, m = out.length := ⟨_, rfl⟩
            obtain ⟨oxs, hoxs⟩ : ∃ m, m = sgsC out := ⟨_, rfl⟩
            have HOW := Lib.hid HDE.out.own
            rw [← hol2, ← hoxs] at HOW
            rw [← hol2] at hol
            have HSZ : Hid (w.heap.size ≤ wk.heap.size + 1) := Lib.hid (Nat.le_succ_of_le HDE.out.gr.size)
            obtain ⟨yf, ys, yo, yq, yn, hy⟩ : ∃ yf ys yo yq yn, nx ⟨gl, pc, pf, ps, po, pq, pn⟩ ⟨gl, gc, gf, gs, go, gq, gn⟩ = ⟨gl, gc, yf, ys, yo, yq, yn⟩ := ⟨_, _, _, _, _, rfl⟩
            have HSRC : Hid (Src Tryd.prog 7 26 (.slice (some ⟨wk.heap.size, 0, none⟩) 1 1) 1 [.int .i64 (gl : Int), .int .i64 gc, .int .i64 yf, .int .i64 ys, .int .i64 yo, .int .i64 yq, .int .i64 yn] (wk.alloc (.cells #[.int .i64 (gl : Int), .int .i64 gc, .int .i64 yf, .int .i64 ys, .int .i64 yo, .int .i64 yq, .int .i64 yn] 30))) := Lib.hid (srcSg wk ⟨gl, gc, yf, ys, yo, yq, yn⟩)
            have HPU : Hid (∀ (qv' : Value) (w5 : World), w5.ownsRow w.heap.size 30 7 qv' (ol + 1) (oxs ++ [.int .i64 (gl : Int), .int .i64 gc, .int .i64 yf, .int .i64 ys, .int .i64 yo, .int .i64 yq, .int .i64 yn]) → (wk.alloc (.cells #[.int .i64 (gl : Int), .int .i64 gc, .int .i64 yf, .int .i64 ys, .int .i64 yo, .int .i64 yq, .int .i64 yn] 30)).grownBy w5 v.ownBlock → (qv'.ownBlock = v.ownBlock ∨ qv'.ownBlock = some (wk.heap.size + 1)) → DM w x (nx ⟨gl, pc, pf, ps, po, pq, pn⟩ ⟨gl, gc, gf, gs, go, gq, gn⟩) (out ++ [nx ⟨gl, pc, pf, ps, po, pq, pn⟩ ⟨gl, gc, gf, gs, go, gq, gn⟩]) qv' w5) := Lib.hid (fun qv' w5 h1 h2 h3 => HDE.out.push (by rw [hy, ← hol2, ← hoxs]; exact h1) h2 h3)
            have e0 : wk.cell? ⟨x, 0, none⟩ = some (.int .i64 (gl : Int)) := by have := (HDE.out.cell 0).1; rw [hy] at this; exact this
            have e1 : wk.cell? ⟨x, 1, none⟩ = some (.int .i64 gc) := by have := (HDE.out.cell 1).1; rw [hy] at this; exact this
            have e2 : wk.cell? ⟨x, 2, none⟩ = some (.int .i64 yf) := by have := (HDE.out.cell 2).1; rw [hy] at this; exact this
            have e3 : wk.cell? ⟨x, 3, none⟩ = some (.int .i64 ys) := by have := (HDE.out.cell 3).1; rw [hy] at this; exact this
            have e4 : wk.cell? ⟨x, 4, none⟩ = some (.int .i64 yo) := by have := (HDE.out.cell 4).1; rw [hy] at this; exact this
            have e5 : wk.cell? ⟨x, 5, none⟩ = some (.int .i64 yq) := by have := (HDE.out.cell 5).1; rw [hy] at this; exact this
            have e6 : wk.cell? ⟨x, 6, none⟩ = some (.int .i64 yn) := by have := (HDE.out.cell 6).1; rw [hy] at this; exact this
            clear hy hol2 hoxs hnl2 hk hkl hs1s hs2s hle hll
            by_cases hk4 : (k : Int) < 4
            · skip
              cases q with
              | nil =>
                obtain rfl : s2 = ⟨#[]⟩ := empty_of (by rw [HT2.out]; exact enc_nil _ _)
                have HMS : Hid (0 < s'.size) := Lib.hid HH.out.hl
                clear hs2
                go_upto_region 31 with fail
                go_wp2_with (at_builtin; refine wpList_append_own_src _ rfl (.tmp 97) (.tmp 99) 26 26 rfl w.heap.size 30 i0 _ 7 56 Tryd.underlying26 hi0 hz0 hz1 hz2 rfl v ol oxs rfl (HOW.out.alloc _) _ 1 _ rfl HSRC.out (by unfold maxLen; omega) (by omega) (by simp; exact HSZ.out) ?_)
                intro qv' w5 h1 h2 h3
                have HD5 := Lib.hid (HPU.out qv' w5 h1 h2 (by simpa using h3))
                clear h1 h2 h3
                go_wp2
                go_roundw
                case rel => exact ⟨⟨#[]⟩, _, [], _, _, rfl, rfl, by decide, ⟨rfl, HPN.out, fun g hg => by simp at hg, trivial, HST.out⟩, HD5.out⟩
                case measure => simp; exact HMS.out
              | cons g2 q2 =>
                obtain ⟨hg2, hg2f⟩ := HQB.out g2 (by simp)
                by_cases hgl : gl = g2.line
                · have h44 := HT2.out
                  rw [enc_comma (nx ⟨gl, pc, pf, ps, po, pq, pn⟩ ⟨gl, gc, gf, gs, go, gq, gn⟩) g2 q2 hgl] at h44
                  have HH2 := hd_of h44
                  obtain ⟨dd, tt, hdd, hput⟩ := put_head (g2.col - (nx ⟨gl, pc, pf, ps, po, pq, pn⟩ ⟨gl, gc, gf, gs, go, gq, gn⟩).col)
                  have h45 := HH2.rest
                  have HTX := Lib.hid h45
                  rw [enc_put (nx ⟨gl, pc, pf, ps, po, pq, pn⟩ ⟨gl, gc, gf, gs, go, gq, gn⟩) g2 q2 hgl, hput] at h45
                  have HH3 := hd_of h45
                  have hl2 := HH2.hl; have hl3 := HH3.hl; have te2 := HH2.te; have te3 := HH3.te
                  have q1 : (((s2[0]'hl2).toNat : Int) == 44) = true := by rw [HH2.hc]; rfl
                  have q2' : (((s2[0]'hl2).toNat : Int) != 44) = false := by rw [HH2.hc]; rfl
                  have q3 : ((((s2.extract 1 s2.size)[0]'hl3).toNat : Int) == 44) = false := by rw [HH3.hc]; exact beq_nat _ 44 _ (by simp [(dig_no dd hdd).1])
                  have q4 : ((((s2.extract 1 s2.size)[0]'hl3).toNat : Int) == 59) = false := by rw [HH3.hc]; exact beq_nat _ 59 _ (by simp [(dig_no dd hdd).2])
                  have q5 : ((((s2.extract 1 s2.size)[0]'hl3).toNat : Int) != 59) = true := by rw [HH3.hc]; exact bne_nat _ 59 _ (by simp [(dig_no dd hdd).2])
                  have hszx : (s2.extract 1 s2.size).size = s2.size - 1 := by simp
                  have hl4 : 1 < s2.size := by rw [hszx] at hl3; omega
                  have HSX : Hid ((s2.extract 1 s2.size).size ≤ 10046000) := Lib.hid (by rw [hszx]; omega)
                  have HMS : Hid (s2.size - 1 < s'.size) := Lib.hid (by have := HM2.out; omega)
                  have HOR := Lib.hid HOR2.out
                  clear h44 h45 HH2 HH3 hput hszx hgl
                  go_upto_region 31 with fail
                  go_wp2_with (at_builtin; refine wpList_append_own_src _ rfl (.tmp 97) (.tmp 99) 26 26 rfl w.heap.size 30 i0 _ 7 56 Tryd.underlying26 hi0 hz0 hz1 hz2 rfl v ol oxs rfl (HOW.out.alloc _) _ 1 _ rfl HSRC.out (by unfold maxLen; omega) (by omega) (by simp; exact HSZ.out) ?_)
                  intro qv' w5 h1 h2 h3
                  have HD5 := Lib.hid (HPU.out qv' w5 h1 h2 (by simpa using h3))
                  clear h1 h2 h3
                  go_wp2
                  go_roundw
                  case rel => exact ⟨_, _, _, _, _, rfl, rfl, HSX.out, ⟨HTX.out, HPN.out, HQB.out, HOR.out, HST.out⟩, HD5.out⟩
                  case measure => simp; exact HMS.out
                · have hgl2 : (nx ⟨gl, pc, pf, ps, po, pq, pn⟩ ⟨gl, gc, gf, gs, go, gq, gn⟩).line < g2.line := by have := HOR2.out.1; have e : (nx ⟨gl, pc, pf, ps, po, pq, pn⟩ ⟨gl, gc, gf, gs, go, gq, gn⟩).line = gl := rfl; omega
                  have h44 := HT2.out
                  have HTX : Hid (s2.data.toList = enc false (nx ⟨gl, pc, pf, ps, po, pq, pn⟩ ⟨gl, gc, gf, gs, go, gq, gn⟩) (g2 :: q2)) := Lib.hid (by rw [h44, enc_down true (nx ⟨gl, pc, pf, ps, po, pq, pn⟩ ⟨gl, gc, gf, gs, go, gq, gn⟩) g2 q2 hgl2, enc_down false (nx ⟨gl, pc, pf, ps, po, pq, pn⟩ ⟨gl, gc, gf, gs, go, gq, gn⟩) g2 q2 hgl2])
                  rw [enc_down true (nx ⟨gl, pc, pf, ps, po, pq, pn⟩ ⟨gl, gc, gf, gs, go, gq, gn⟩) g2 q2 hgl2] at h44
                  have HH2 := hd_of h44
                  have hl2 := HH2.hl; have te2 := HH2.te
                  have q1 : (((s2[0]'hl2).toNat : Int) == 44) = false := by rw [HH2.hc]; rfl
                  have q2' : (((s2[0]'hl2).toNat : Int) != 44) = true := by rw [HH2.hc]; rfl
                  have q3 : (((s2[0]'hl2).toNat : Int) == 59) = true := by rw [HH2.hc]; rfl
                  have q4 : (((s2[0]'hl2).toNat : Int) != 59) = false := by rw [HH2.hc]; rfl
                  have HMS : Hid (s2.size < s'.size) := Lib.hid HM2.out
                  have HOR := Lib.hid HOR2.out
                  clear h44 HH2 hgl hgl2
                  go_upto_region 31 with fail
                  go_wp2_with (at_builtin; refine wpList_append_own_src _ rfl (.tmp 97) (.tmp 99) 26 26 rfl w.heap.size 30 i0 _ 7 56 Tryd.underlying26 hi0 hz0 hz1 hz2 rfl v ol oxs rfl (HOW.out.alloc _) _ 1 _ rfl HSRC.out (by unfold maxLen; omega) (by omega) (by simp; exact HSZ.out) ?_)
                  intro qv' w5 h1 h2 h3
                  have HD5 := Lib.hid (HPU.out qv' w5 h1 h2 (by simpa using h3))
                  clear h1 h2 h3
                  go_wp2
                  go_roundw
                  case rel => exact ⟨s2, _, _, _, _, rfl, rfl, hs2, ⟨HTX.out, HPN.out, HQB.out, HOR.out, HST.out⟩, HD5.out⟩
                  case measure => simp; exact HMS.out
            · skip
              cases q with
              | nil =>
                obtain rfl : s2 = ⟨#[]⟩ := empty_of (by rw [HT2.out]; exact enc_nil _ _)
                have HMS : Hid (0 < s'.size) := Lib.hid HH.out.hl
                clear hs2
                go_upto_region 31 with fail
                go_wp2_with (at_builtin; refine wpList_append_own_src _ rfl (.tmp 97) (.tmp 99) 26 26 rfl w.heap.size 30 i0 _ 7 56 Tryd.underlying26 hi0 hz0 hz1 hz2 rfl v ol oxs rfl (HOW.out.alloc _) _ 1 _ rfl HSRC.out (by unfold maxLen; omega) (by omega) (by simp; exact HSZ.out) ?_)
                intro qv' w5 h1 h2 h3
                have HD5 := Lib.hid (HPU.out qv' w5 h1 h2 (by simpa using h3))
                clear h1 h2 h3
                go_wp2
                go_roundw
                case rel => exact ⟨⟨#[]⟩, _, [], _, _, rfl, rfl, by decide, ⟨rfl, HPN.out, fun g hg => by simp at hg, trivial, HST.out⟩, HD5.out⟩
                case measure => simp; exact HMS.out
              | cons g2 q2 =>
                obtain ⟨hg2, hg2f⟩ := HQB.out g2 (by simp)
                by_cases hgl : gl = g2.line
                · have h44 := HT2.out
                  rw [enc_comma (nx ⟨gl, pc, pf, ps, po, pq, pn⟩ ⟨gl, gc, gf, gs, go, gq, gn⟩) g2 q2 hgl] at h44
                  have HH2 := hd_of h44
                  obtain ⟨dd, tt, hdd, hput⟩ := put_head (g2.col - (nx ⟨gl, pc, pf, ps, po, pq, pn⟩ ⟨gl, gc, gf, gs, go, gq, gn⟩).col)
                  have h45 := HH2.rest
                  have HTX := Lib.hid h45
                  rw [enc_put (nx ⟨gl, pc, pf, ps, po, pq, pn⟩ ⟨gl, gc, gf, gs, go, gq, gn⟩) g2 q2 hgl, hput] at h45
                  have HH3 := hd_of h45
                  have hl2 := HH2.hl; have hl3 := HH3.hl; have te2 := HH2.te; have te3 := HH3.te
                  have q1 : (((s2[0]'hl2).toNat : Int) == 44) = true := by rw [HH2.hc]; rfl
                  have q2' : (((s2[0]'hl2).toNat : Int) != 44) = false := by rw [HH2.hc]; rfl
                  have q3 : ((((s2.extract 1 s2.size)[0]'hl3).toNat : Int) == 44) = false := by rw [HH3.hc]; exact beq_nat _ 44 _ (by simp [(dig_no dd hdd).1])
                  have q4 : ((((s2.extract 1 s2.size)[0]'hl3).toNat : Int) == 59) = false := by rw [HH3.hc]; exact beq_nat _ 59 _ (by simp [(dig_no dd hdd).2])
                  have q5 : ((((s2.extract 1 s2.size)[0]'hl3).toNat : Int) != 59) = true := by rw [HH3.hc]; exact bne_nat _ 59 _ (by simp [(dig_no dd hdd).2])
                  have hszx : (s2.extract 1 s2.size).size = s2.size - 1 := by simp
                  have hl4 : 1 < s2.size := by rw [hszx] at hl3; omega
                  have HSX : Hid ((s2.extract 1 s2.size).size ≤ 10046000) := Lib.hid (by rw [hszx]; omega)
                  have HMS : Hid (s2.size - 1 < s'.size) := Lib.hid (by have := HM2.out; omega)
                  have HOR := Lib.hid HOR2.out
                  clear h44 h45 HH2 HH3 hput hszx hgl
                  go_upto_region 31 with fail
                  go_wp2_with (at_builtin; refine wpList_append_own_src _ rfl (.tmp 97) (.tmp 99) 26 26 rfl w.heap.size 30 i0 _ 7 56 Tryd.underlying26 hi0 hz0 hz1 hz2 rfl v ol oxs rfl (HOW.out.alloc _) _ 1 _ rfl HSRC.out (by unfold maxLen; omega) (by omega) (by simp; exact HSZ.out) ?_)
                  intro qv' w5 h1 h2 h3
                  have HD5 := Lib.hid (HPU.out qv' w5 h1 h2 (by simpa using h3))
                  clear h1 h2 h3
                  go_wp2
                  go_roundw
                  case rel => exact ⟨_, _, _, _, _, rfl, rfl, HSX.out, ⟨HTX.out, HPN.out, HQB.out, HOR.out, HST.out⟩, HD5.out⟩
                  case measure => simp; exact HMS.out
                · have hgl2 : (nx ⟨gl, pc, pf, ps, po, pq, pn⟩ ⟨gl, gc, gf, gs, go, gq, gn⟩).line < g2.line := by have := HOR2.out.1; have e : (nx ⟨gl, pc, pf, ps, po, pq, pn⟩ ⟨gl, gc, gf, gs, go, gq, gn⟩).line = gl := rfl; omega
                  have h44 := HT2.out
                  have HTX : Hid (s2.data.toList = enc false (nx ⟨gl, pc, pf, ps, po, pq, pn⟩ ⟨gl, gc, gf, gs, go, gq, gn⟩) (g2 :: q2)) := Lib.hid (by rw [h44, enc_down true (nx ⟨gl, pc, pf, ps, po, pq, pn⟩ ⟨gl, gc, gf, gs, go, gq, gn⟩) g2 q2 hgl2, enc_down false (nx ⟨gl, pc, pf, ps, po, pq, pn⟩ ⟨gl, gc, gf, gs, go, gq, gn⟩) g2 q2 hgl2])
                  rw [enc_down true (nx ⟨gl, pc, pf, ps, po, pq, pn⟩ ⟨gl, gc, gf, gs, go, gq, gn⟩) g2 q2 hgl2] at h44
                  have HH2 := hd_of h44
                  have hl2 := HH2.hl; have te2 := HH2.te
                  have q1 : (((s2[0]'hl2).toNat : Int) == 44) = false := by rw [HH2.hc]; rfl
                  have q2' : (((s2[0]'hl2).toNat : Int) != 44) = true := by rw [HH2.hc]; rfl
                  have q3 : (((s2[0]'hl2).toNat : Int) == 59) = true := by rw [HH2.hc]; rfl
                  have q4 : (((s2[0]'hl2).toNat : Int) != 59) = false := by rw [HH2.hc]; rfl
                  have HMS : Hid (s2.size < s'.size) := Lib.hid HM2.out
                  have HOR := Lib.hid HOR2.out
                  clear h44 HH2 hgl hgl2
                  go_upto_region 31 with fail
                  go_wp2_with (at_builtin; refine wpList_append_own_src _ rfl (.tmp 97) (.tmp 99) 26 26 rfl w.heap.size 30 i0 _ 7 56 Tryd.underlying26 hi0 hz0 hz1 hz2 rfl v ol oxs rfl (HOW.out.alloc _) _ 1 _ rfl HSRC.out (by unfold maxLen; omega) (by omega) (by simp; exact HSZ.out) ?_)
                  intro qv' w5 h1 h2 h3
                  have HD5 := Lib.hid (HPU.out qv' w5 h1 h2 (by simpa using h3))
                  clear h1 h2 h3
                  go_wp2
                  go_roundw
                  case rel => exact ⟨s2, _, _, _, _, rfl, rfl, hs2, ⟨HTX.out, HPN.out, HQB.out, HOR.out, HST.out⟩, HD5.out⟩
                  case measure => simp; exact HMS.out
end Go.Proofs.YthbmffocgccniaaDoor
