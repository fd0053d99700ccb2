/- n011_254: scanner.allocateGlobSourceIndex: the table of results grows to the index handed out. -/
import Derived.Test.YtlkicobpfbgloaaGlo
import Derived.Test.YtlkicobpfbgloaaApp
import Derived.Deep.RegionLaw
import Derived.Laws.MakeOwn
namespace Go.Proofs.Ytlkicobpfbgloaa
open Go.RowKit Go.MuLone Go.Maps Go.WideMaps
set_option linter.unusedVariables false
set_option linter.unusedSimpArgs false

section
variable {P : Program} (w : World)
/-- append onto an empty slice with room, as one step of a region that draws. -/
theorem step_append_fit {ops : Array Oper} {o : Oper} {a : Act} {K : Act → World → Prop} {Q : Exit → Act → World → Prop} {E : Prop} (hgd : o.guard = none) (s x : Operand) (t tx : TypeId)
    (ho : o.op = .call { callee := .builtin .append, args := #[s, x], argTypes := #[t, tx] })
    (e : TypeId) (i : TypeInfo) (size : Nat) (ht : P.underlying t = some (.slice e)) (hi : P.info? e = some i) (hsize : i.size = size)
    (g cap : Nat) (cur : Array Value) (hs : a.eval s = .slice (some ⟨g, 0, none⟩) 0 cap) (hb : Blk w g e cur) (hcs : cur.size = cap * size)
    (y : Value) (m : Nat) (news : List Value) (hx : a.eval x = y) (hsrc : Src P size tx y m news w) (hroom : m ≤ cap)
    (h : K (a.put o.dst (.slice (some ⟨g, 0, none⟩) m cap)) (w.setRow g (news ++ cur.toList.drop news.length).toArray)) :
    if Region.wanted o (yielded ops a.tmps) = true then Oper.wp P o a w K Q else E := by
  have hw : Region.wanted o (yielded ops a.tmps) = true := by simp [Region.wanted, hgd]
  rw [if_pos hw]
  subst hsize
  have hl := hsrc.newsLen
  have hfit : news.length ≤ cur.size := by rw [hl, hcs]; exact Nat.mul_le_mul_right _ hroom
  have hst := run_storeCells_at P g 0 e news 0 cur w hb (by simpa using hfit) hsrc.one
  simp only [Nat.add_zero, Nat.zero_add, List.take_zero, List.nil_append] at hst
  have hr : (Builtin.append_ #[t, tx] o.type #[.slice (some ⟨g, 0, none⟩) 0 cap, y]).run P w = .ok (.slice (some ⟨g, 0, none⟩) m cap) (w.setRow g (news ++ cur.toList.drop news.length).toArray) := by
    rcases hsrc.kind with ⟨e', hk⟩ | hk <;> simp [Builtin.append_, run_underlying ht, run_underlying hk, sizeOf, typeInfo, hi, hsrc.len, hroom, hsrc.cells, hst, Addr.add]
  unfold Oper.wp execOp
  simp only [ho, resolve, invoke, builtin, Sem.run_bind, Sem.run_pure, Result.andThen_ok, List.map_toArray, List.map_cons, List.map_nil, hs, hx, hr]
  exact h
end
def prOk (i : TypeInfo) : Bool := match i.zero with
  | some z => z.cells.size == i.size && z.cells.all (·.oneCell') && decide (i.bytes ≤ 100000) && decide (1 ≤ i.size)
  | none => false
theorem pr_info : (Try.prog.info? 218).map prOk = some true := by kernel_rfl
theorem pr_parts : ∃ (i : TypeInfo) (z : Value), Try.prog.info? 218 = some i ∧ i.zero = some z ∧ z.cells.size = i.size ∧ (∀ u ∈ z.cells.toList, u.oneCell' = true) ∧ i.bytes ≤ 100000 ∧ 1 ≤ i.size := by
  have h := pr_info
  cases hi : Try.prog.info? 218 with
  | none => rw [hi] at h; cases h
  | some i =>
    rw [hi] at h
    simp only [Option.map_some, Option.some.injEq] at h
    unfold prOk at h
    split at h
    · rename_i z hz
      simp only [Bool.and_eq_true, decide_eq_true_eq, beq_iff_eq, Array.all_eq_true] at h
      obtain ⟨⟨⟨h1, h2⟩, h3⟩, h4⟩ := h
      refine ⟨i, z, rfl, hz, h1, fun u hu => ?_, h3, h4⟩
      obtain ⟨k, hk, rfl⟩ := List.mem_iff_getElem.1 hu
      have := h2 k (by simpa using hk)
      simpa using this
    · cases h
/-- The scanner: its caches, its results. -/
def SS (w : World) (sb cb : Nat) (v : Value) : Prop := ∃ cs, Blk w sb 105 cs ∧ 12 ≤ cs.size ∧ cs[8]? = some (.pointer (some ⟨cb, 0, none⟩)) ∧ cs[11]? = some v
section
variable {w w' : World} {sb cb : Nat} {v : Value}
theorem SS.c8 (h : SS w sb cb v) : w.cell? ⟨sb, 8, none⟩ = some (.pointer (some ⟨cb, 0, none⟩)) := by obtain ⟨cs, h1, _, h2, _⟩ := h; exact (h1.cell 8).trans h2
theorem SS.c11 (h : SS w sb cb v) : w.cell? ⟨sb, 11, none⟩ = some v := by obtain ⟨cs, h1, _, _, h2⟩ := h; exact (h1.cell 11).trans h2
theorem SS.z (h : SS w sb cb v) (i : Nat) : w.frozen? ⟨sb, i, none⟩ = false := by obtain ⟨cs, h1, _⟩ := h; exact h1.frozen i
theorem SS.lt (h : SS w sb cb v) : sb < w.heap.size := by obtain ⟨cs, h1, _⟩ := h; exact h1.lt
theorem SS.set (h : SS w sb cb v) (u : Value) : SS (w.setCell ⟨sb, 11, none⟩ u) sb cb u := by
  obtain ⟨cs, h1, h2, h3, h4⟩ := h
  exact ⟨_, h1.set_ 11 _, by simpa using h2, by rw [Array.getElem?_setIfInBounds_ne (by omega)]; exact h3, by rw [Array.getElem?_setIfInBounds_self_of_lt (by omega)]⟩
theorem SS.turned {S : Nat → Prop} (h : SS w sb cb v) (ht : Turned S w w') (hn : ¬ S sb) : SS w' sb cb v := by
  obtain ⟨cs, h1, h2⟩ := h
  exact ⟨cs, ht.blk h1 hn, h2⟩
theorem SS.grown {row : Option Nat} (h : SS w sb cb v) (hg : w.grownBy w' row) (hn : some sb ≠ row) : SS w' sb cb v := by
  obtain ⟨cs, h1, h2⟩ := h
  exact ⟨cs, h1.grown hg hn, h2⟩
end
/-- The results: nil, or a block of the scanner's own. -/
def RB (w : World) (B sz : Nat) (v : Value) (len cap : Nat) : Prop :=
  (v = .slice none 0 0 ∧ len = 0 ∧ cap = 0) ∨ ∃ g cur, v = .slice (some ⟨g, 0, none⟩) len cap ∧ B ≤ g ∧ Blk w g 218 cur ∧ len ≤ cap ∧ cap ≤ 1000000 ∧ cur.size = cap * sz ∧ ∀ u ∈ cur.toList, u.oneCell' = true
theorem RB.form {w : World} {B sz : Nat} {v : Value} {len cap : Nat} (h : RB w B sz v len cap) : ∃ A, v = .slice A len cap := by
  rcases h with ⟨rfl, rfl, rfl⟩ | ⟨g, cur, rfl, _⟩
  · exact ⟨_, rfl⟩
  · exact ⟨_, rfl⟩
theorem RB.turned {S : Nat → Prop} {w w' : World} {B sz : Nat} {v : Value} {len cap : Nat} (h : RB w B sz v len cap) (ht : Turned S w w') (hn : ∀ g cur, Blk w g 218 cur → ¬ S g) : RB w' B sz v len cap := by
  rcases h with h | ⟨g, cur, h1, h2, h3, h4⟩
  · exact .inl h
  · exact .inr ⟨g, cur, h1, h2, ht.blk h3 (hn g cur h3), h4⟩
/-- The whole state. -/
structure GS (w : World) (B sb cb mb sz c n : Nat) (D : DataW Unit) (v : Value) (len cap : Nat) : Prop where
  ss : SS w sb cb v
  cs : CS w cb mb 0 ((c + 1 : Nat) : Int)
  mp : MapIs w mb n D
  inc : InC D c
  rb : RB w B sz v len cap
  lo : B ≤ sb ∧ B ≤ cb ∧ B ≤ mb
theorem gs_set {w : World} {B sb cb mb sz c n : Nat} {D : DataW Unit} {v u : Value} {len cap : Nat} (hss : SS w sb cb v) (hcs : CS w cb mb 0 ((c + 1 : Nat) : Int)) (hmp : MapIs w mb n D) (hic : InC D c) (hrb : RB w B sz u len cap) (hlo : B ≤ sb ∧ B ≤ cb ∧ B ≤ mb) :
    GS (w.setCell ⟨sb, 11, none⟩ u) B sb cb mb sz c n D u len cap := by
  obtain ⟨cs0, h0, h0'⟩ := hss
  obtain ⟨cs1, h1, h1'⟩ := hcs
  refine ⟨SS.set ⟨cs0, h0, h0'⟩ u, CS.far ⟨cs1, h1, h1'⟩ (h1.ne_ h0 (by decide)) u, hmp.set h0 11 u, hic, ?_, hlo⟩
  rcases hrb with h | ⟨g, cur, k1, k2, k3, k4⟩
  · exact .inl h
  · exact .inr ⟨g, cur, k1, k2, k3.far (k3.ne_ h0 (by decide)) u, k4⟩
set_option maxRecDepth 100000 in
theorem len_any (B sb cb mb sz c n : Nat) (D : DataW Unit) (v : Value) (len cap : Nat) (w : World) (h : GS w B sb cb mb sz c n D v len cap) :
    Calls Try.prog 8 #[.pointer (some ⟨sb, 0, none⟩)] w fun e w' => e = .returned (.int .i64 (len : Int)) ∧ w = w' := by
  obtain ⟨A, rfl⟩ := h.rb.form
  have k11 := h.ss.c11
  clear h
  go_enter Try.func8, Try.ntmps8
  go_wp2
  go_ret
  exact ⟨rfl, rfl⟩
def AlPost (B sb cb mb sz c n len : Nat) (w : World) (e : Ending) (w' : World) : Prop :=
  ∃ (v c' n' : Nat) (D' : DataW Unit) (u' : Value) (len' cap' : Nat), e = .returned (.int .u32 (v : Int)) ∧ GS w' B sb cb mb sz c' n' D' u' len' cap' ∧ n' ≤ n + 1 ∧ ((c' = c ∧ 1 ≤ v ∧ v ≤ c) ∨ (c' = c + 1 ∧ v = c + 1)) ∧ len' = (if len < v + 1 then v + 1 else len) ∧ Below B w w'
set_option maxHeartbeats 4000000 in
set_option maxRecDepth 100000 in
theorem al_any (B sb cb mb sz c n : Nat) (D : DataW Unit) (u : Value) (len cap : Nat) (p g : Int) (w : World) (hp : 0 ≤ p ∧ p ≤ 4294967295) (hg : 0 ≤ g ∧ g ≤ 4294967295) (hs : GS w B sb cb mb sz c n D u len cap)
    (hsz : ∃ i, Try.prog.info? 218 = some i ∧ i.size = sz) (hn : n ≤ 100000) (hcn : c ≤ 100000) (hB : B ≤ w.heap.size) (hlen : len ≤ 100001) :
    Calls Try.prog 11 #[.pointer (some ⟨sb, 0, none⟩), .int .u32 p, .int .u32 g] w (AlPost B sb cb mb sz c n len w) := by
  obtain ⟨A, rfl⟩ := hs.rb.form
  have HS := Lib.hid hs
  have k8 := hs.ss.c8
  clear hs
  go_enter Try.func11, Try.ntmps11
  go_wp2_with (go_at_call 12; refine (get_any cb mb c n p g D _ hp hg HS.out.cs HS.out.mp HS.out.inc (by omega) (by omega)).mono ?_)
  rintro e w1 ⟨v, c', n', D', rfl, hcs, hmp, hic, hn', hcv, htu⟩
  have hne1 : ¬ (sb = cb ∨ sb = mb) := by
    obtain ⟨cs0, h0, _⟩ := HS.out.ss
    obtain ⟨cs1, h1, _⟩ := HS.out.cs
    rintro (e | e)
    · exact (h0.ne_ h1 (by decide)) e
    · exact (HS.out.mp.not_cells h0) e.symm
  have HSS : Hid (SS w1 sb cb (.slice A len cap)) := Lib.hid (HS.out.ss.turned htu hne1)
  have HRB : Hid (RB w1 B sz (.slice A len cap) len cap) := Lib.hid (HS.out.rb.turned htu (fun g cur hb => by
    obtain ⟨cs1, h1, _⟩ := HS.out.cs
    rintro (e | e)
    · exact (hb.ne_ h1 (by decide)) e
    · exact (HS.out.mp.not_cells hb) e.symm))
  have HBW : Hid (Below B w w1) := Lib.hid (htu.below (fun i _ hi => by rcases hi with rfl | rfl; exact HS.out.lo.2.1; exact HS.out.lo.2.2) hB)
  have HCS := Lib.hid hcs; have HMP := Lib.hid hmp; have HIC := Lib.hid hic; have HLO := Lib.hid HS.out.lo; have HCV := Lib.hid hcv
  have hvb : v ≤ 100001 := by omega
  clear hcs hmp hic htu hcv k8 HS
  have k11 := HSS.out.c11
  have z11 := HSS.out.z 11
  have hvw : IntKind.i64.wrap (v : Int) = v := IntWalk.i64_in _ (by omega)
  by_cases hl : len < v + 1
  · obtain ⟨nl, hnl⟩ : ∃ nl, nl = v + 1 := ⟨_, rfl⟩
    have hvp : (v : Int) + 1 = (nl : Int) := by omega
    have hl2 : (len : Int) < (nl : Int) := by omega
    have hnb : nl ≤ 100002 := by omega
    have HNL : Hid ((if len < v + 1 then v + 1 else len) = nl) := Lib.hid (by rw [if_pos hl, hnl])
    have hln : len < nl := by omega
    clear hl hnl
    by_cases hcap : cap < nl
    · have hc2 : (cap : Int) < (nl : Int) := by omega
      obtain ⟨i0, z0, gi, gz, gzs, gone, gby, gpos⟩ := pr_parts
      have hszi : i0.size = sz := by obtain ⟨i1, h1, h2⟩ := hsz; rw [gi] at h1; obtain rfl := Option.some.inj h1; exact h2
      have hmk : ∀ W : World, (Instr.makeSlice 45 (.int .i64 0) (.int .i64 (2 * (nl : Int)))).run Try.prog W = .ok (.slice (some ⟨W.heap.size, 0, none⟩) 0 (2 * nl)) (W.alloc (.cells (madeCells z0.cells (2 * nl * sz)) 218)) := fun W => by
        have := run_make (P := Try.prog) W 45 218 i0 z0 Try.underlying45 gi gz .i64 .i64 (0 : Nat) (2 * nl) (by omega) (by omega) (by have h : i0.bytes * (2 * nl) ≤ 100000 * 200004 := Nat.mul_le_mul gby (by omega); have h2 : ((i0.bytes * (2 * nl) : Nat) : Int) ≤ 281474976710656 := (by omega); rw [Int.natCast_mul, Int.natCast_mul] at h2; exact h2) (by omega)
        have e2 : (2 * (nl : Int)).toNat = 2 * nl := by omega
        rw [hszi] at this
        simpa [e2] using this
      have hw2 : IntKind.i64.wrap (2 * (nl : Int)) = 2 * (nl : Int) := IntWalk.i64_in _ (by omega)
      obtain ⟨mk, hmkd⟩ : ∃ mk, mk = madeCells z0.cells (2 * nl * sz) := ⟨_, rfl⟩
      have hmks : mk.size = 2 * nl * sz := by rw [hmkd]; simp [madeCells]
      have hmko : ∀ u ∈ mk.toList, u.oneCell' = true := fun u hu => by
        rw [hmkd] at hu
        obtain ⟨k, hk, rfl⟩ := List.mem_iff_getElem.1 hu
        simp only [Array.length_toList] at hk
        have hz : 0 < z0.cells.size := by omega
        have hlt : k % z0.cells.size < z0.cells.size := Nat.mod_lt _ hz
        have e : (madeCells z0.cells (2 * nl * sz)).toList[k] = z0.cells[k % z0.cells.size] := by
          rw [← getElem!_pos z0.cells _ hlt]
          simp [madeCells]
        rw [e]
        exact gone _ (by simp)
      rw [← hmkd] at hmk
      have HMK := Lib.hid (And.intro hmks hmko)
      clear hmkd hmks hmko gz gzs gone gby gpos
      have hsb : sb ≠ w1.heap.size := by have := HSS.out.lt; omega
      have hBs : B ≤ w1.heap.size := Nat.le_trans hB HBW.out.size
      have HSRC : Hid (∃ news : List Value, (∀ u ∈ news, u.oneCell' = true) ∧ news.length = len * sz ∧ ∀ U : World, (w1.alloc (.cells mk 218)).grownBy U none → Src Try.prog sz 45 (.slice A len cap) len news U) := Lib.hid (by
        rcases HRB.out with ⟨h1, h2, h3⟩ | ⟨gg, cur, h1, h2, h3, h4, h5, h6, h7⟩
        · subst h2; subst h3
          obtain rfl : A = none := by injection h1
          exact ⟨[], fun u hu => by simp at hu, by simp, fun U _ => Src.ofNil U Try.underlying45 0⟩
        · obtain rfl : A = some ⟨gg, 0, none⟩ := by injection h1
          have hlen : (cur.toList.take (len * sz)).length = len * sz := by
            rw [List.length_take, Array.length_toList, h6]
            exact Nat.min_eq_left (Nat.mul_le_mul_right _ h4)
          refine ⟨cur.toList.take (len * sz), fun u hu => h7 u (List.mem_of_mem_take hu), hlen, fun U hU => Src.ofSlice U Try.underlying45 ⟨gg, 0, none⟩ len cap _ hlen (fun j u hu => ?_) (fun u hu => h7 u (List.mem_of_mem_take hu))⟩
          have hb := (h3.alloc (.cells mk 218)).grown hU (by simp)
          have hj : j < len * sz := by have := (List.getElem?_eq_some_iff.1 hu).1; omega
          rw [List.getElem?_take_of_lt hj, Array.getElem?_toList] at hu
          rw [← hu, ← hb.cell j]
          unfold Addr.add
          split
          · rename_i h0; subst h0; rfl
          · rw [Nat.zero_add])
      obtain ⟨news, hnone, hnlen, hsrc⟩ := HSRC.out
      have HSR := Lib.hid hsrc
      have HFIN : Hid (∀ U : World, (w1.alloc (.cells mk 218)).grownBy U none → Blk U w1.heap.size 218 mk ∧ SS (U.setRow w1.heap.size (news ++ mk.toList.drop news.length).toArray) sb cb (.slice A len cap) ∧ CS (U.setRow w1.heap.size (news ++ mk.toList.drop news.length).toArray) cb mb 0 ((c' + 1 : Nat) : Int) ∧ MapIs (U.setRow w1.heap.size (news ++ mk.toList.drop news.length).toArray) mb n' D' ∧
          RB (U.setRow w1.heap.size (news ++ mk.toList.drop news.length).toArray) B sz (.slice (some ⟨w1.heap.size, 0, none⟩) len (2 * nl)) len (2 * nl) ∧ Below B w (U.setRow w1.heap.size (news ++ mk.toList.drop news.length).toArray)) := Lib.hid (fun U hU => by
        obtain ⟨hmks, hmko⟩ := HMK.out
        have hbk := (Blk.new w1 218 mk).grown hU (by simp)
        have hgr : w1.grownBy (U.setRow w1.heap.size (news ++ mk.toList.drop news.length).toArray) none := by
          have h0 : w1.grownBy U none := ⟨hU.os, hU.tape, hU.output, by have := hU.size; simp at this; omega, fun k hk hne => (hU.block k (by simp; omega) (by simp)).trans (Below.heap_alloc w1 _ k hk)⟩
          exact ⟨h0.os, h0.tape, h0.output, by simpa using h0.size, fun k hk hne => (setRow_other U w1.heap.size k _ (by omega)).trans (h0.block k hk (by simp))⟩
        have hrow : Blk (U.setRow w1.heap.size (news ++ mk.toList.drop news.length).toArray) w1.heap.size 218 (news ++ mk.toList.drop news.length).toArray := setRow_heap U w1.heap.size mk _ 218 _ hbk
        refine ⟨hbk, HSS.out.grown hgr (by simp), HCS.out.grown hgr (by simp), HMP.out.kept hgr (by simp), .inr ⟨w1.heap.size, _, rfl, hBs, hrow, by omega, by omega, ?_, ?_⟩, HBW.out.trans ((Below.refl B w1).grown hgr hBs (fun k hk => by cases hk))⟩
        · have hle : news.length ≤ mk.size := by rw [hnlen, hmks]; exact Nat.mul_le_mul_right _ (by omega)
          simp only [List.size_toArray, List.length_append, List.length_drop, Array.length_toList]
          omega
        · intro u hu
          simp only [List.mem_append] at hu
          rcases hu with hu | hu
          · exact hnone u hu
          · exact hmko u (List.mem_of_mem_drop hu))
      have hsz' : mk.size = 2 * nl * sz := HMK.out.1
      have HGEN : Hid (∀ (U : World) (Q : World → Prop), (w1.alloc (.cells mk 218)).grownBy U none → (∀ Y : World, SS Y sb cb (.slice A len cap) ∧ CS Y cb mb 0 ((c' + 1 : Nat) : Int) ∧ MapIs Y mb n' D' ∧ RB Y B sz (.slice (some ⟨w1.heap.size, 0, none⟩) len (2 * nl)) len (2 * nl) ∧ Below B w Y → Q Y) → Q (U.setRow w1.heap.size (news ++ mk.toList.drop news.length).toArray)) := Lib.hid (fun U Q hU hq => hq _ (HFIN.out U hU).2)
      have HBK : Hid (∀ U : World, (w1.alloc (.cells mk 218)).grownBy U none → Blk U w1.heap.size 218 mk) := Lib.hid (fun U hU => (HFIN.out U hU).1)
      obtain ⟨g2, hg2⟩ : ∃ g2, g2 = w1.heap.size := ⟨_, rfl⟩
      have kX : (w1.alloc (.cells mk 218)).cell? ⟨sb, 11, none⟩ = some (.slice A len cap) := (World.cell?_alloc_lt w1 _ ⟨sb, 11, none⟩ HSS.out.lt).trans k11
      clear HSRC hsrc HMK hnone hnlen HFIN hg2
      go_upto_region 5 with fail
      go_region_law (refine step_append_fit _ rfl (.tmp 38) (.tmp 42) 45 45 rfl 218 i0 sz Try.underlying45 gi hszi w1.heap.size (2 * nl) mk (by simp [Act.eval, Act.put]) (by refine HBK.out _ ?_; exact ⟨rfl, rfl, rfl, Nat.le_refl _, fun _ _ _ => rfl⟩) hsz' (.slice A len cap) len news (by simp [Act.eval, Act.put]) (by refine HSR.out _ ?_; exact ⟨rfl, rfl, rfl, Nat.le_refl _, fun _ _ _ => rfl⟩) (by omega) ?_; refine HGEN.out _ _ ⟨rfl, rfl, rfl, Nat.le_refl _, fun _ _ _ => rfl⟩ ?_; rintro Y ⟨y1, y2, y3, y4, y5⟩; have kY := y1.c11; have zY := y1.z 11; have Y1 := Lib.hid y1; have Y2 := Lib.hid y2; have Y3 := Lib.hid y3; have Y4 := Lib.hid y4; have Y5 := Lib.hid y5; clear y1 y2 y3 y4 y5)
      all_goals
        have hG := gs_set Y1.out Y2.out Y3.out HIC.out Y4.out HLO.out
        have hBZ : Below B w (Y.setCell ⟨sb, 11, none⟩ (.slice (some ⟨w1.heap.size, 0, none⟩) len (2 * nl))) := Y5.out.setCell (p := ⟨sb, 11, none⟩) HLO.out.1 _
        clear kY zY Y1 Y2 Y3 Y4 Y5 kX k11 z11
        generalize Y.setCell ⟨sb, 11, none⟩ (.slice (some ⟨w1.heap.size, 0, none⟩) len (2 * nl)) = Z at hG hBZ ⊢
        have kZ := hG.ss.c11
        have zZ := hG.ss.z 11
        have HRZ : Hid (RB Z B sz (.slice (some ⟨w1.heap.size, 0, none⟩) nl (2 * nl)) nl (2 * nl)) := Lib.hid (by
          rcases hG.rb with ⟨_, _, h0⟩ | ⟨gg, cur, h1, h2, h3, h4, h5, h6, h7⟩
          · omega
          · have e : gg = w1.heap.size := by injection h1 with h1 _ _; injection h1 with h1; injection h1 with h1 _ _; exact h1.symm
            subst e
            exact .inr ⟨_, cur, rfl, h2, h3, by omega, h5, h6, h7⟩)
        have HGZ := Lib.hid hG
        have HBZ := Lib.hid hBZ
        clear hG hBZ
        have hc3 : (nl : Int) ≤ ((2 * nl : Nat) : Int) := by omega
        go_wp2_with fail
        go_ret
        exact ⟨v, c', n', D', _, nl, 2 * nl, rfl, gs_set HGZ.out.ss HGZ.out.cs HGZ.out.mp HIC.out HRZ.out HLO.out, hn', HCV.out, by rw [HNL.out], HBZ.out.setCell (p := ⟨sb, 11, none⟩) HLO.out.1 _⟩
    · have hc2 : ¬ (cap : Int) < (nl : Int) := by omega
      obtain ⟨gg, cur, hA, hBg, hbg, hlc, hcm, hcs, hone⟩ : ∃ gg cur, A = some ⟨gg, 0, none⟩ ∧ B ≤ gg ∧ Blk w1 gg 218 cur ∧ len ≤ cap ∧ cap ≤ 1000000 ∧ cur.size = cap * sz ∧ ∀ u ∈ cur.toList, u.oneCell' = true := by
        rcases HRB.out with ⟨_, _, h0⟩ | ⟨gg, cur, h1, h2⟩
        · omega
        · exact ⟨gg, cur, by injection h1, h2⟩
      subst hA
      have HRN : Hid (RB w1 B sz (.slice (some ⟨gg, 0, none⟩) nl cap) nl cap) := Lib.hid (.inr ⟨gg, cur, rfl, hBg, hbg, by omega, hcm, hcs, hone⟩)
      clear hbg hcs hone HRB
      have hc3 : (nl : Int) ≤ (cap : Int) := by omega
      go_wp2_with fail
      go_ret
      exact ⟨v, c', n', D', _, nl, cap, rfl, gs_set HSS.out HCS.out HMP.out HIC.out HRN.out HLO.out, hn', HCV.out, by rw [HNL.out], HBW.out.setCell (p := ⟨sb, 11, none⟩) HLO.out.1 _⟩
  · have hl2 : ¬ (len : Int) < (v : Int) + 1 := by omega
    go_wp2_with fail
    go_ret
    exact ⟨v, c', n', D', _, len, cap, rfl, ⟨HSS.out, HCS.out, HMP.out, HIC.out, HRB.out, HLO.out⟩, hn', HCV.out, by rw [if_neg hl], HBW.out⟩
set_option maxHeartbeats 1000000 in
set_option maxRecDepth 100000 in
theorem za_any (B sb cb mb sz c n : Nat) (D : DataW Unit) (u : Value) (len cap : Nat) (p g : Int) (w : World) (hp : 0 ≤ p ∧ p ≤ 4294967295) (hg : 0 ≤ g ∧ g ≤ 4294967295) (hs : GS w B sb cb mb sz c n D u len cap)
    (hsz : ∃ i, Try.prog.info? 218 = some i ∧ i.size = sz) (hn : n ≤ 100000) (hcn : c ≤ 100000) (hB : B ≤ w.heap.size) (hlen : len ≤ 100001) :
    Calls Try.prog 9 #[.pointer (some ⟨sb, 0, none⟩), .int .u32 p, .int .u32 g] w (AlPost B sb cb mb sz c n len w) := by
  have HC := Lib.hid (al_any B sb cb mb sz c n D u len cap p g w hp hg hs hsz hn hcn hB hlen)
  clear hs hsz
  go_enter Try.func9, Try.ntmps9
  go_wp2_with (go_at_call 11; refine HC.out.mono ?_)
  rintro e w' ⟨v, c', n', D', u', len', cap', rfl, h⟩
  go_wp2
  go_ret
  exact ⟨v, c', n', D', u', len', cap', rfl, h⟩
end Go.Proofs.Ytlkicobpfbgloaa
