/- AllocateTopLevelSymbolSlots: a fold over its entries. -/
import Derived.Test.YtlpmkbdglpnjhaaAlm
import Derived.Test.YtlpmkbdglpnjhaaMsn
import Derived.Test.YtlpmkbdglpnjhaaApp
import Derived.Deep.RegionLaw
import Derived.Deep.WholeRow
import Derived.Laws.Tables
namespace Go.Proofs.Ytlpmkbdglpnjhaa
open Go.RowKit Go.Maps Go.WideMaps
set_option linter.unusedVariables false
set_option linter.unusedSimpArgs false
def InT (vs0 : Nat → Value) (br gm : Nat) (b : Nat) : Prop := b = br ∨ b = gm ∨ ∃ j, j < 4 ∧ (vs0 j).ownBlock = some b
/-- The entries. -/
def EntR (w : World) (SA : Option Addr) (es : List (Nat × Int)) : Prop := ∀ m e, es[m]? = some e → ∃ ga off cs a, SA = some ⟨ga, off, none⟩ ∧ Blk w ga 43 cs ∧ cs[off + m * 4]? = some (.int .u32 a) ∧ cs[off + m * 4 + 1]? = some (.int .u32 0) ∧ cs[off + m * 4 + 2]? = some (.int .u32 e.1) ∧ cs[off + m * 4 + 3]? = some (.int .u32 e.2)
def EntOk (S : Nat → SymR) (n : Nat) (e : Nat × Int) : Prop := e.1 < n ∧ ((S e.1).kd = 27 ∨ (S e.1).kd = 18) ∧ bits .and .u16 (S e.1).fl 1 = 0 ∧ 0 ≤ e.2 ∧ e.2 ≤ 4294967295
/-- What stands between two entries. -/
structure AlSt (w W : World) (B o : Nat) (mo : Option Nat) (br gm : Nat) (vs0 vs : Nat → Value) (g n : Nat) (S : Nat → SymR) (N M : Nat) (t : TS) : Prop where
  ren : TRen B o mo br gm vs g n S N t W
  ok : TOk S M t
  tur : Turned (InT vs0 br gm) w W
  fresh : ∀ j, j < 4 → ∀ q, (vs j).ownBlock = some q → (vs0 j).ownBlock = some q ∨ w.heap.size ≤ q
def AlPost (w : World) (B o : Nat) (mo : Option Nat) (br gm : Nat) (vs0 : Nat → Value) (g n : Nat) (S : Nat → SymR) (N M : Nat) (t : TS) (e : Ending) (w' : World) : Prop :=
  e = .returned (.tuple #[]) ∧ ∃ vs, AlSt w w' B o mo br gm vs0 vs g n S N M t
section
variable {w W W' : World} {B o : Nat} {mo : Option Nat} {br gm : Nat} {vs0 vs : Nat → Value} {g n : Nat} {S : Nat → SymR} {N M : Nat} {t : TS}
theorem AlSt.grown (h : AlSt w W B o mo br gm vs0 vs g n S N M t) (hg : W.grownBy W' none) : AlSt w W' B o mo br gm vs0 vs g n S N M t :=
  ⟨h.ren.grown hg, h.ok, h.tur.trans (Turned.of_grown hg (fun _ e => by cases e)), h.fresh⟩
theorem AlSt.cell1 (h : AlSt w W B o mo br gm vs0 vs g n S N M t) {j : Nat} (hj : j < 4) {b cap i : Nat} {u : Value} {l' : List (Int × Int)} (hv : vs j = .slice (some ⟨b, 0, none⟩) (t.sl j).length cap) (hl : l'.length = (t.sl j).length) (hs : (slC (t.sl j)).set i u = slC l') :
    AlSt w (W.setCell ⟨b, i, none⟩ u) B o mo br gm vs0 vs g n S N M ⟨updL t.sl j l', t.tm⟩ := by
  have hlen : ∀ m, (updL t.sl j l' m).length = (t.sl m).length := fun m => by
    by_cases c : m = j
    · rw [c, updL_at, hl]
    · rw [updL_ne c]
  refine ⟨h.ren.cell1 hj hv hl hs, ⟨fun i k hk => by rw [hlen]; exact h.ok.inn i k hk, fun m => by rw [hlen]; exact h.ok.len m⟩, h.tur.setCell (p := ⟨b, i, none⟩) ?_ u, h.fresh⟩
  rcases h.fresh j hj b (by rw [hv]; rfl) with e | e
  · exact .inl (.inr (.inr ⟨j, hj, e⟩))
  · exact .inr e
theorem AlSt.more (h : AlSt w W B o mo br gm vs0 vs g n S N M t) {N' M' : Nat} (hN : N ≤ N') (hM : M ≤ M') : AlSt w W B o mo br gm vs0 vs g n S N' M' t := ⟨h.ren.more hN, ⟨h.ok.inn, fun j => Nat.le_trans (h.ok.len j) hM⟩, h.tur, h.fresh⟩
theorem trans_in {T T' : Nat → Prop} {w1 w2 w3 : World} (h : Turned T w1 w2) (k : Turned T' w2 w3) (hS : ∀ i, i < w1.heap.size → T' i → T i) : Turned T w1 w3 :=
  ⟨k.os.trans h.os, k.tape.trans h.tape, k.output.trans h.output, Nat.le_trans h.size k.size, fun i hi hn => (k.block i (Nat.lt_of_lt_of_le hi h.size) (fun e => hn (hS i hi e))).trans (h.block i hi hn)⟩
theorem AlSt.app (h : AlSt w W B o mo br gm vs0 vs g n S N M t) {j : Nat} (hj : j < 4) {w2 : World} {v' : Value} {c pc : Int} (hgrow : W.grownBy w2 (vs j).ownBlock) (hown : w2.ownsRow B 83 3 v' ((t.sl j).length + 1) (slC (t.sl j) ++ [.string ⟨#[]⟩, .int .u32 c, .int .u32 pc]))
    (hat : v'.ownBlock = (vs j).ownBlock ∨ v'.ownBlock = some W.heap.size) (hok : TOk S M ⟨updL t.sl j (t.sl j ++ [(c, pc)]), t.tm⟩) :
    w2.cell? ⟨br, 1 + j, none⟩ = some (vs j) ∧ w2.frozen? ⟨br, 1 + j, none⟩ = false ∧ AlSt w (w2.setCell ⟨br, 1 + j, none⟩ v') B o mo br gm vs0 (updV vs j v') g n S N M ⟨updL t.sl j (t.sl j ++ [(c, pc)]), t.tm⟩ := by
  have hbr := h.ren.blk
  have hb2 : Blk w2 br 76 _ := hbr.grown hgrow (fun e => own_blk_ne (h.ren.own j hj) hbr (by decide) e.symm)
  have hcell : w2.cell? ⟨br, 1 + j, none⟩ = some (vs j) := by rw [hb2.cell, ← hbr.cell]; exact h.ren.slotCell hj
  have hf : ∀ q, v'.ownBlock = some q → (vs j).ownBlock = some q ∨ W.heap.size ≤ q := fun q hq => by
    rcases hat with e | e
    · exact .inl (by rw [← e]; exact hq)
    · rw [hq] at e; have := Option.some.inj e; exact .inr (by omega)
  have ht : Turned (fun b => b = br ∨ (vs j).ownBlock = some b) W (w2.setCell ⟨br, 1 + j, none⟩ v') :=
    (Turned.of_grown (S := fun b => b = br ∨ (vs j).ownBlock = some b) hgrow (fun _ e => .inr e)).setCell (p := ⟨br, 1 + j, none⟩) (.inl (.inl rfl)) _
  have hblk : Blk (w2.setCell ⟨br, 1 + j, none⟩ v') br 76 (renCells o mo (updV vs j v' 0) (updV vs j v' 1) (updV vs j v' 2) (updV vs j v' 3) (.map (some gm))) := by
    have := hb2.set_ (1 + j) v'
    rcases (by omega : j = 0 ∨ j = 1 ∨ j = 2 ∨ j = 3) with rfl | rfl | rfl | rfl <;> exact this
  have hown2 : (w2.setCell ⟨br, 1 + j, none⟩ v').ownsRow B 83 3 v' (t.sl j ++ [(c, pc)]).length (slC (t.sl j ++ [(c, pc)])) := by
    rw [slC_app, List.length_append]
    exact own_keep hown (fun k hk _ => Below.heap_setCell _ _ _ _ (by
      rintro rfl
      exact own_blk_ne hown hb2 (by decide) hk))
  refine ⟨hcell, hb2.frozen _, h.ren.repl hj hblk hown2 ht hf, hok, trans_in h.tur ht (fun i hi hs => ?_), fun i hi q hq => ?_⟩
  · rcases hs with rfl | e
    · exact .inl rfl
    · rcases h.fresh j hj i e with e' | e'
      · exact .inr (.inr ⟨j, hj, e'⟩)
      · omega
  · by_cases e : i = j
    · subst e
      rw [updV_at] at hq
      rcases hf q hq with e | e
      · exact h.fresh i hi q e
      · exact .inr (Nat.le_trans h.tur.size e)
    · rw [updV_ne e] at hq
      exact h.fresh i hi q hq
theorem AlSt.slotAt (h : AlSt w W B o mo br gm vs0 vs g n S N M t) {j v : Nat} (hj : j < 4) {p : Int × Int} (hp : (t.sl j)[v]? = some p) :
    ∃ b cap, vs j = .slice (some ⟨b, 0, none⟩) (t.sl j).length cap ∧ b < W.heap.size ∧ W.cell? ⟨br, 1 + j, none⟩ = some (.slice (some ⟨b, 0, none⟩) (t.sl j).length cap) ∧ W.cell? ⟨b, v * 3 + 1, none⟩ = some (.int .u32 p.1) ∧ W.cell? ⟨b, v * 3 + 2, none⟩ = some (.int .u32 p.2) ∧ (∀ i, W.frozen? ⟨b, i, none⟩ = false) := by
  have hv : v < (t.sl j).length := (List.getElem?_eq_some_iff.1 hp).1
  have ho := h.ren.own j hj
  rcases ho.2 with ⟨_, h0⟩ | ⟨b, cap, cur, hvj, _, hb, _⟩
  · omega
  · refine ⟨b, cap, hvj, Blk.lt hb, ?_, ?_⟩
    · have := h.ren.slotCell hj; rwa [hvj] at this
    · rw [hvj] at ho
      obtain ⟨_, h1, h2⟩ := slC_at _ _ _ hp
      exact ⟨(ho.cellAt _ (by omega)).trans h1, (ho.cellAt _ (by omega)).trans h2, fun i => ho.frozenAt i⟩
end
theorem srcOne3 (W W' : World) {p : Nat} (hp : p = W.heap.size) (s : ByteArray) (x1 x2 : Int) (hW : W'.heap = (W.alloc (.cells #[.string s, .int .u32 x1, .int .u32 x2] 83)).heap) : Src Try.prog 3 72 (.slice (some ⟨p, 0, none⟩) 1 1) 1 [.string s, .int .u32 x1, .int .u32 x2] W' :=
  Src.ofSlice _ Try.underlying72 _ 1 1 _ rfl (fun j u hu => by
    subst hp
    have hB : Blk W' W.heap.size 83 #[.string s, .int .u32 x1, .int .u32 x2] := by
      have := Blk.new W 83 #[.string s, .int .u32 x1, .int .u32 x2]
      unfold Blk at this ⊢
      rw [hW]; exact this
    rw [← hu]
    have hc := hB.cell j
    rcases (by have := (List.getElem?_eq_some_iff.1 hu).1; simp at this; omega : j = 0 ∨ j = 1 ∨ j = 2) with rfl | rfl | rfl <;> exact hc) (fun u hu => by
    simp only [List.mem_cons, List.not_mem_nil, or_false] at hu
    rcases hu with rfl | rfl | rfl <;> rfl)
section
variable {P : Program} (w : World)
/-- The append as one step of a region that draws its order. -/
theorem step_append_own_src {ops : Array Oper} {o : Oper} {a : Act} {K : Act → World → Prop} {Q : Exit → Act → World → Prop} {E : Prop} (hgd : o.guard = none) (s x : Operand) (t tx : TypeId)
    (ho : o.op = .call { callee := .builtin .append, args := #[s, x], argTypes := #[t, tx] })
    (base : Nat) (e : TypeId) (i : TypeInfo) (z : Value) (size bytes : Nat) (ht : P.underlying t = some (.slice e)) (hi : P.info? e = some i) (hz : i.zero = some z)
    (hsize : i.size = size) (hby : i.bytes = bytes) (hzs : z.cells.size = size)
    (v : Value) (n : Nat) (xs : List Value) (hs : a.eval s = v) (hown : w.ownsRow base e size v n xs)
    (y : Value) (m : Nat) (news : List Value) (hx : a.eval x = y) (hsrc : Src P size tx y m news w)
    (h63 : n + m ≤ maxLen) (hbytes : (n + m) * bytes ≤ 140737488355328) (hbase : base ≤ w.heap.size)
    (h : ∀ v' w', w'.ownsRow base e size v' (n + m) (xs ++ news) → w.grownBy w' v.ownBlock → (v'.ownBlock = v.ownBlock ∨ v'.ownBlock = some w.heap.size) → K (a.put o.dst v') w') :
    if Region.wanted o (yielded ops a.tmps) = true then Oper.wp P o a w K Q else E := by
  have hw : Region.wanted o (yielded ops a.tmps) = true := by simp [Region.wanted, hgd]
  rw [if_pos hw]
  exact wp_append_own_src w s x t tx ho base e i z size bytes ht hi hz hsize hby hzs v n xs hs hown y m news hx hsrc h63 hbytes hbase h
end
theorem own_form {w : World} {B e s n : Nat} {v : Value} {xs : List Value} (h : w.ownsRow B e s v (n + 1) xs) : ∃ q cap, v = .slice (some ⟨q, 0, none⟩) (n + 1) cap := by
  rcases h.2 with ⟨_, h0⟩ | ⟨g, cap2, cur, hv, _⟩
  · omega
  · exact ⟨g, cap2, hv⟩
theorem has_any (fl m q : Int) (b : Bool) (h : bits .and .u16 fl m = q) (hb : (q != 0) = b) (w : World) : Calls Try.prog 26 #[.int .u16 fl, .int .u16 m] w fun e w' => e = .returned (.bool b) ∧ w = w' := by
  have HB := Lib.hid hb
  clear hb
  go_enter Try.func26, Try.ntmps26
  go_wp2
  go_ret
  exact ⟨ret_bool HB.out, rfl⟩
theorem nsJ_U (kd : Int) : nsU kd = (nsJ kd : Int) := by unfold nsU nsJ; split <;> rfl
set_option maxHeartbeats 16000000 in
set_option maxRecDepth 100000 in
theorem alloc_any (B o : Nat) (mo : Option Nat) (br gm : Nat) (vs0 : Nat → Value) (g n : Nat) (S : Nat → SymR) (N M : Nat) (t : TS) (SA : Option Addr) (L cap : Nat) (es : List (Nat × Int)) (w : World)
    (hst : AlSt w w B o mo br gm vs0 vs0 g n S N M t) (he : EntR w SA es) (hl : es.length = L) (hok : ∀ e ∈ es, EntOk S n e) (hn : n ≤ 65536) (hL : L ≤ 16777216) (hM : M + L ≤ 16777216) (hN : N + L ≤ 16777216) (hB : B ≤ w.heap.size) :
    Calls Try.prog 12 #[.pointer (some ⟨br, 0, none⟩), .slice SA L cap] w (AlPost w B o mo br gm vs0 g n S (N + L) (M + L) (es.foldl (tStep S) t)) := by
  have HST := Lib.hid hst; have HE := Lib.hid he; have HL := Lib.hid hl; have HOK := Lib.hid hok
  clear hst he hl hok
  go_enter Try.func12, Try.ntmps12
  go_wp2_with fail
  go_loopw [14, 5, 6, 7, 8, 9, 10, 11] (fun a s1 s2 s3 s4 s5 s6 s7 wr => ∃ (k : Nat) (vs : Nat → Value), a = .int .i64 k ∧ k ≤ L ∧ AlSt w wr B o mo br gm vs0 vs g n S (N + k) (M + k) ((es.take k).foldl (tStep S) t)) (fun a s1 s2 s3 s4 s5 s6 s7 _ => L - (intOf a).toNat)
  case atStart => exact ⟨0, vs0, rfl, by omega, by simpa using HST.out⟩
  case round =>
    obtain ⟨k, vs, rfl, hk, hst⟩ := hrel
    have HS0 := Lib.hid hst
    clear hst
    by_cases hlt : k < L
    · obtain ⟨⟨i, c⟩, hek⟩ : ∃ e, es[k]? = some e := ⟨_, List.getElem?_eq_getElem (by have := HL.out; omega)⟩
      obtain ⟨ga, off, cs, a, rfl, hba, c0, c1, c2, c3⟩ := HE.out k _ hek
      obtain ⟨hin, hkd, hfl, hc0, hc4⟩ := HOK.out _ (List.mem_of_getElem? hek)
      simp only at hin hkd hfl hc0 hc4 c2 c3
      have hga : ¬ InT vs0 br gm ga := by
        rintro (e | e | ⟨j', hj', e⟩)
        · exact Blk.ne_ hba HST.out.ren.blk (by decide) e
        · obtain ⟨_, _, _, hm, _⟩ := HST.out.ren.map
          exact hm.ne hba e
        · exact own_blk_ne (HST.out.ren.own j' hj') hba (by decide) e
      have hba1 := HS0.out.tur.blk hba hga
      have d0 := (hba1.cell _).trans c0; have d1 := (hba1.cell _).trans c1; have d2 := (hba1.cell _).trans c2; have d3 := (hba1.cell _).trans c3
      obtain ⟨j, hj⟩ : ∃ j, j = nsJ (S i).kd := ⟨_, rfl⟩
      have hj4 : j < 4 := by rw [hj]; exact nsJ_lt _
      have HJ := Lib.hid hj
      have HEK := Lib.hid hek; have HKD := Lib.hid hkd; have HFL := Lib.hid hfl
      obtain ⟨T, hT⟩ : ∃ T, T = (es.take k).foldl (tStep S) t := ⟨_, rfl⟩
      rw [← hT] at HS0
      have HNX : Hid ((es.take (k + 1)).foldl (tStep S) t = tStep S T (i, c)) := Lib.hid (by
        rw [hT, List.take_add_one, hek, List.foldl_append]; rfl)
      obtain ⟨W2, hW2⟩ : ∃ W2, W2 = wr.alloc (.cells #[.int .u32 a, .int .u32 0, .int .u32 (i : Nat), .int .u32 c] 43) := ⟨_, rfl⟩
      obtain ⟨x, hx⟩ : ∃ x, x = wr.heap.size := ⟨_, rfl⟩
      have HS2 : Hid (AlSt w W2 B o mo br gm vs0 vs g n S (N + k) (M + k) T) := Lib.hid (by rw [hW2]; exact HS0.out.grown (only_alloc (World.grownBy.refl _ _) _))
      have HBX : Hid (Blk W2 x 43 #[.int .u32 a, .int .u32 0, .int .u32 (i : Nat), .int .u32 c]) := Lib.hid (by rw [hW2, hx]; exact Blk.new _ _ _)
      have HXW : Hid (w.heap.size ≤ x) := Lib.hid (by rw [hx]; exact HS0.out.tur.size)
      have HW2 := Lib.hid hW2; have HX := Lib.hid hx
      clear hba hba1 c0 c1 c2 c3 hj hek hkd hfl hT hW2 hx hga
      go_upto_region 3 with fail
      rw [← HW2.out, ← HX.out]
      clear HW2 HX HS0 d0 d1 d2 d3
      have k6 : W2.cell? ⟨br, 6, none⟩ = some (.slice (some ⟨o, 0, none⟩) 1 1) := HS2.out.ren.blk.cell 6
      have r1 : W2.cell? ⟨x, 1, none⟩ = some (.int .u32 0) := HBX.out.cell 1
      have r2 : W2.cell? ⟨x, 2, none⟩ = some (.int .u32 (i : Nat)) := HBX.out.cell 2
      have HSB : Hid (∀ W : World, (W = W2 ∨ W = W2.drew ∨ W = W2.drew.drew) → Out1 W o g n) := Lib.hid (fun W hW => by
        rcases hW with rfl | rfl | rfl <;> exact HS2.out.ren.out)
      have HSC : Hid (∀ W w7 : World, (W = W2 ∨ W = W2.drew ∨ W = W2.drew.drew) → W.grownBy w7 none → W2.grownBy w7 none) := Lib.hid (fun W w7 hW hg => by
        rcases hW with rfl | rfl | rfl <;> exact ⟨hg.os, hg.tape, hg.output, hg.size, hg.block⟩)
      go_cut [6] (fun p wx => p = .pointer (some ⟨g, i * 10, none⟩) ∧ W2.grownBy wx none)
      case first =>
        go_region_with (go_at_call 24; refine (getS o g n i _ (HSB.out _ (by first | exact Or.inl rfl | exact Or.inr (Or.inl rfl) | exact Or.inr (Or.inr rfl))) hin (by omega)).mono ?_; rintro e w7 ⟨rfl, hg7⟩; have HG7 := Lib.hid (HSC.out _ w7 (by first | exact Or.inl rfl | exact Or.inr (Or.inl rfl) | exact Or.inr (Or.inr rfl)) hg7); clear hg7)
        all_goals
          go_wp2_with fail
          go_meet
          exact ⟨rfl, HG7.out⟩
      case rest =>
      obtain ⟨rfl, hgd⟩ := hcut
      obtain ⟨wb, rfl⟩ : ∃ wb : World, wb = wc := ⟨_, rfl⟩
      have HS3 := Lib.hid (HS2.out.grown hgd)
      have HBX3 := Lib.hid (HBX.out.grown hgd (by simp))
      clear hgd HS2 HBX HSB HSC k6 r1 r2
      have HCW : Hid (∀ W : World, (W = wb ∨ W = wb.drew ∨ W = wb.drew.drew) → W.cell? ⟨g, i * 10 + 7, none⟩ = some (.int .u16 (S i).fl) ∧ W.cell? ⟨g, i * 10 + 8, none⟩ = some (.int .u8 (S i).kd)) := Lib.hid (fun W hW => by
        rcases hW with rfl | rfl | rfl <;> exact ⟨HS3.out.ren.tab.flags hin, HS3.out.ren.tab.kind hin⟩)
      have HSC : Hid (∀ W w7 : World, (W = wb ∨ W = wb.drew ∨ W = wb.drew.drew) → W.grownBy w7 none → wb.grownBy w7 none) := Lib.hid (fun W w7 hW hg => by
        rcases hW with rfl | rfl | rfl <;> exact ⟨hg.os, hg.tape, hg.output, hg.size, hg.block⟩)
      have hnu : nsU (S i).kd = (j : Int) := by rw [nsJ_U, HJ.out]
      go_upto_region 4 with fail
      go_cut [7] (fun p wx => p = .pointer (some ⟨br, 1 + j, none⟩) ∧ wb.grownBy wx none)
      case first =>
        go_region_with (go_at_call 25; refine (slotns_not g i _ _ HKD.out HFL.out _ (HCW.out _ (by first | exact Or.inl rfl | exact Or.inr (Or.inl rfl) | exact Or.inr (Or.inr rfl))).1 (HCW.out _ (by first | exact Or.inl rfl | exact Or.inr (Or.inl rfl) | exact Or.inr (Or.inr rfl))).2).mono ?_; rw [hnu]; rintro e w7 ⟨rfl, hg7⟩; have HG7 := Lib.hid (HSC.out _ w7 (by first | exact Or.inl rfl | exact Or.inr (Or.inl rfl) | exact Or.inr (Or.inr rfl)) hg7); clear hg7)
        all_goals
          go_wp2_with fail
          go_meet
          exact ⟨rfl, HG7.out⟩
      case rest =>
      obtain ⟨rfl, hgd⟩ := hcut
      obtain ⟨wd, rfl⟩ : ∃ wd : World, wd = wc := ⟨_, rfl⟩
      have HS4 := Lib.hid (HS3.out.grown hgd)
      have HBX4 := Lib.hid (HBX3.out.grown hgd (by simp))
      clear hgd HS3 HBX3 HCW HSC hnu
      obtain ⟨mk, D, hmk, hm, hti⟩ := HS4.out.ren.map
      obtain ⟨hh, hat⟩ := hti.1 i (by omega)
      have hz : (zeroValue 24).run Try.prog wd.drew = .ok (.int .u32 0) wd.drew := by kernel_rfl
      have hmd : TMap wd.drew gm mk D := hm
      obtain ⟨lv, ps, hrun, hlv⟩ := World.ownsMap.look_ok hmd lawR Try.underlying74 hz (plainElem_int (H := Unit) Try.underlying24 (by decide)) (refK_key i (by omega))
      obtain ⟨lw, rfl, hlw, _⟩ := plainElem_int_inv Try.underlying24 hlv
      simp only [Prod.mk.injEq] at hlw
      rw [hh] at hrun
      have b5 : wd.cell? ⟨br, 5, none⟩ = some (.map (some gm)) := HS4.out.ren.blk.cell 5
      have r1 : wd.cell? ⟨x, 1, none⟩ = some (.int .u32 0) := HBX4.out.cell 1
      have r2 : wd.cell? ⟨x, 2, none⟩ = some (.int .u32 (i : Nat)) := HBX4.out.cell 2
      clear hz hh hmd hm hti hmk
      go_upto_region 5 with fail
      cases htm : T.tm i with
      | some v =>
        rw [htm] at hrun
        have e1 : D.atKey (refK i) (.lit (.int .u32 0)) = .lit (.int .u32 (v : Int)) := by have h := hat; rw [htm] at h; exact h
        have e2 : lw = (v : Int) := by
          have := hlw.1.symm.trans e1
          injection this with h1
          injection h1
        subst e2
        have HTM := Lib.hid htm
        clear hlv hlw hat e1 htm
        go_cut [8, 9] (fun y z wx => y = .int .u32 (v : Nat) ∧ z = .bool true ∧ wx = wd.drew)
        case first =>
          go_region
          all_goals
            go_wp2_with fail
            go_meet
            exact ⟨rfl, rfl, rfl⟩
        case rest =>
        obtain ⟨rfl, rfl, rfl⟩ := hcut
        have hvl : v < (T.sl j).length := by rw [HJ.out]; exact HS4.out.ok.inn i v HTM.out
        obtain ⟨⟨p1, p2⟩, hp⟩ : ∃ p, (T.sl j)[v]? = some p := ⟨_, List.getElem?_eq_getElem hvl⟩
        obtain ⟨wn, hwn⟩ : ∃ wn : World, wn = wd.drew := ⟨_, rfl⟩
        have HS5 : Hid (AlSt w wn B o mo br gm vs0 vs g n S (N + k) (M + k) T) := Lib.hid (by rw [hwn]; exact HS4.out.grown (only_drew (World.grownBy.refl _ _)))
        have HBX5 : Hid (Blk wn x 43 #[.int .u32 a, .int .u32 0, .int .u32 (i : Nat), .int .u32 c]) := Lib.hid (by rw [hwn]; exact HBX4.out.drew)
        rw [← hwn]
        have hll : (T.sl j).length ≤ 16777216 := Nat.le_trans (HS4.out.ok.len j) (by omega)
        clear hwn HS4 HBX4 hrun b5 r1 r2
        obtain ⟨b, cp, hvj, hbl, m0, m1, m2, mf⟩ := HS5.out.slotAt hj4 hp
        simp only at m1 m2
        obtain ⟨ln, hln⟩ : ∃ ln, ln = (T.sl j).length := ⟨_, rfl⟩
        rw [← hln] at m0 hvl hll
        obtain ⟨sm, hsm⟩ : ∃ sm, sm = (p1 + c) % 4294967296 := ⟨_, rfl⟩
        have HSM : Hid (IntKind.u32.wrap (p1 + c) = sm) := Lib.hid (by rw [hsm, IntKind.wrap_u32])
        have HSET : Hid (∀ W : World, (W = wn ∨ W = wn.drew ∨ W = wn.drew.drew) → AlSt w (W.setCell ⟨b, v * 3 + 1, none⟩ (.int .u32 sm)) B o mo br gm vs0 vs g n S (N + k) (M + k) ⟨updL T.sl j ((T.sl j).set v (sm, p2)), T.tm⟩) := Lib.hid (fun W hW => by
          have h : AlSt w W B o mo br gm vs0 vs g n S (N + k) (M + k) T := by
            rcases hW with rfl | rfl | rfl
            · exact HS5.out
            · exact HS5.out.grown (only_drew (World.grownBy.refl _ _))
            · exact HS5.out.grown (only_drew (only_drew (World.grownBy.refl _ _)))
          exact h.cell1 hj4 hvj (by simp) (slC_cnt _ _ _ _ hp))
        have HVJ := Lib.hid hvj; have HP := Lib.hid hp; have HLN := Lib.hid hln
        have b3 : wn.cell? ⟨x, 3, none⟩ = some (.int .u32 c) := HBX5.out.cell 3
        have mf1 := mf (v * 3 + 1)
        have hw1 : IntKind.i64.wrap (v : Int) = v := IntWalk.i64_in _ (by omega)
        have hvl2 : (v : Int) < (ln : Int) := by omega
        clear hvj hp hln mf
        go_upto_region 8 with fail
        go_cut [] (fun wx => AlSt w wx B o mo br gm vs0 vs g n S (N + k) (M + k) ⟨updL T.sl j ((T.sl j).set v (sm, p2)), T.tm⟩)
        case first =>
          go_region
          all_goals
            go_wp2_with fail
            go_meet
            rw [← hsm]
            first | exact HSET.out _ (by first | exact Or.inl rfl | exact Or.inr (Or.inl rfl) | exact Or.inr (Or.inr rfl)) | exact (HSET.out wn (Or.inl rfl)).grown (only_drew (World.grownBy.refl _ _)) | exact (HSET.out wn.drew (Or.inr (Or.inl rfl))).grown (only_drew (World.grownBy.refl _ _))
        case rest =>
        obtain ⟨we, rfl⟩ : ∃ we : World, we = wc := ⟨_, rfl⟩
        have HS6 := Lib.hid hcut
        clear hcut HSET HS5 m0 m1 m2 b3 mf1 hsm
        have hget : (T.sl j).getD v (0, 0) = (p1, p2) := by rw [List.getD_eq_getElem?_getD, HP.out]; rfl
        have HTS : Hid (tStep S T (i, c) = ⟨updL T.sl j ((T.sl j).set v (sm, if bits .and .u16 (S i).fl 2 = 0 then p2 else 1)), T.tm⟩) := Lib.hid (by
          unfold tStep
          simp only [HTM.out, ← HJ.out, hget, HSM.out])
        have f7 : we.cell? ⟨g, i * 10 + 7, none⟩ = some (.int .u16 (S i).fl) := HS6.out.ren.tab.flags hin
        obtain ⟨q2, hq2⟩ : ∃ q2, q2 = bits .and .u16 (S i).fl 2 := ⟨_, rfl⟩
        have hq2' := hq2.symm
        rw [← hq2] at HTS
        clear hget hq2
        by_cases h0 : q2 = 0
        · have t0 : (q2 != 0) = false := by rw [h0]; rfl
          have HFIN : Hid (AlSt w we B o mo br gm vs0 vs g n S (N + (k + 1)) (M + (k + 1)) ((es.take (k + 1)).foldl (tStep S) t)) := Lib.hid (by
            rw [HNX.out, HTS.out, if_pos h0]
            exact HS6.out.more (by omega) (by omega))
          clear h0
          go_wp2_with (go_at_call 26; refine (has_any _ _ _ _ hq2' t0 _).mono ?_; rintro e wz ⟨rfl, rfl⟩)
          go_roundw
          case rel => exact ⟨k + 1, vs, by go_num, by omega, HFIN.out⟩
          case measure => simp [intOf]; omega
        · have t0 : (q2 != 0) = true := by rw [bne_iff_ne]; exact h0
          have hp6 : (updL T.sl j ((T.sl j).set v (sm, p2)) j)[v]? = some (sm, p2) := by
            rw [updL_at, List.getElem?_set_self (by rw [← HLN.out]; exact hvl)]
          obtain ⟨b', cp', hvj', hbl', m0', m1', m2', mf'⟩ := HS6.out.slotAt hj4 hp6
          have hbb : b' = b := by
            have := hvj'.symm.trans HVJ.out
            injection this with h1
            injection h1 with h2
            injection h2
          subst hbb
          have HFIN : Hid (AlSt w (we.setCell ⟨b', v * 3 + 2, none⟩ (.int .u32 1)) B o mo br gm vs0 vs g n S (N + (k + 1)) (M + (k + 1)) ((es.take (k + 1)).foldl (tStep S) t)) := Lib.hid (by
            rw [HNX.out, HTS.out, if_neg h0]
            have h := (HS6.out.cell1 hj4 hvj' (u := .int .u32 1) (i := v * 3 + 2) (l' := ((T.sl j).set v (sm, 1))) (by simp only [updL_at, List.length_set]) (by rw [slC_cap _ _ _ _ hp6, updL_at, List.set_set])).more (N' := N + (k + 1)) (M' := M + (k + 1)) (by omega) (by omega)
            have e : updL (updL T.sl j ((T.sl j).set v (sm, p2))) j ((T.sl j).set v (sm, 1)) = updL T.sl j ((T.sl j).set v (sm, 1)) := by
              funext m; unfold updL; split <;> rfl
            rw [e] at h
            exact h)
          have mf1 := mf' (v * 3 + 2)
          clear h0 m0' m1' mf' hvj' hp6
          go_wp2_with (go_at_call 26; refine (has_any _ _ _ _ hq2' t0 _).mono ?_; rintro e wz ⟨rfl, rfl⟩)
          go_roundw
          case rel => exact ⟨k + 1, vs, by go_num, by omega, HFIN.out⟩
          case measure => simp [intOf]; omega
      | none =>
        rw [htm] at hrun
        have HTM := Lib.hid htm
        clear hlv hlw hat htm
        go_cut [8, 9] (fun y z wx => y = .int .u32 lw ∧ z = .bool false ∧ wx = wd.drew)
        case first =>
          go_region
          all_goals
            go_wp2_with fail
            go_meet
            exact ⟨rfl, rfl, rfl⟩
        case rest =>
        obtain ⟨rfl, rfl, rfl⟩ := hcut
        obtain ⟨wn, hwn⟩ : ∃ wn : World, wn = wd.drew := ⟨_, rfl⟩
        have HS5 : Hid (AlSt w wn B o mo br gm vs0 vs g n S (N + k) (M + k) T) := Lib.hid (by rw [hwn]; exact HS4.out.grown (only_drew (World.grownBy.refl _ _)))
        have HBX5 : Hid (Blk wn x 43 #[.int .u32 a, .int .u32 0, .int .u32 (i : Nat), .int .u32 c]) := Lib.hid (by rw [hwn]; exact HBX4.out.drew)
        rw [← hwn]
        have hll : (T.sl j).length ≤ 16777216 := Nat.le_trans (HS4.out.ok.len j) (by omega)
        clear hwn HS4 HBX4 hrun b5 r1 r2
        obtain ⟨vA, vc, hvj⟩ : ∃ vA vc, vs j = .slice vA (T.sl j).length vc := by
          rcases (HS5.out.ren.own j hj4).2 with ⟨hv, h0⟩ | ⟨b, cap, cur, hv, _⟩
          · exact ⟨none, 0, by rw [hv, h0]⟩
          · exact ⟨_, _, hv⟩
        have m0 : wn.cell? ⟨br, 1 + j, none⟩ = some (.slice vA (T.sl j).length vc) := by rw [← hvj]; exact HS5.out.ren.slotCell hj4
        obtain ⟨ln, hln⟩ : ∃ ln, ln = (T.sl j).length := ⟨_, rfl⟩
        have f7 : wn.cell? ⟨g, i * 10 + 7, none⟩ = some (.int .u16 (S i).fl) := HS5.out.ren.tab.flags hin
        obtain ⟨q2, hq2⟩ : ∃ q2, q2 = bits .and .u16 (S i).fl 2 := ⟨_, rfl⟩
        have hq2' := hq2.symm
        obtain ⟨pc, hpc⟩ : ∃ pc : Int, pc = if q2 = 0 then 0 else 1 := ⟨_, rfl⟩
        have HTS : Hid (tStep S T (i, c) = ⟨updL T.sl j (T.sl j ++ [(c, pc)]), fun m => if m = i then some (T.sl j).length else T.tm m⟩) := Lib.hid (by
          unfold tStep
          simp only [HTM.out, ← HJ.out, ← hq2, ← hpc])
        have HLN := Lib.hid hln; have HVJ := Lib.hid hvj; have HPC := Lib.hid hpc
        rw [← hln] at m0 hll
        clear hq2 hln hvj hpc
        go_upto_if 68 with (go_at_call 26; refine (has_any _ _ _ _ hq2' rfl _).mono ?_; rintro e wz ⟨rfl, rfl⟩)
        go_cut [11] (fun y wx => y = .int .u32 pc ∧ wx = wn)
        case first =>
          by_cases h0 : q2 = 0
          · have t0 : (q2 != 0) = false := by rw [h0]; rfl
            have HH := Lib.hid h0
            clear h0
            go_wp2_with fail
            go_meet
            exact ⟨by rw [HPC.out, if_pos HH.out], rfl⟩
          · have t0 : (q2 != 0) = true := by rw [bne_iff_ne]; exact h0
            have HH := Lib.hid h0
            clear h0
            go_wp2_with fail
            go_meet
            exact ⟨by rw [HPC.out, if_neg HH.out], rfl⟩
        case rest =>
        obtain ⟨rfl, hwc⟩ := hcut
        subst hwc
        obtain ⟨wn, rfl⟩ : ∃ W : World, W = wc := ⟨_, rfl⟩
        have b3 : wn.cell? ⟨x, 3, none⟩ = some (.int .u32 c) := HBX5.out.cell 3
        have hwl : IntKind.u32.wrap (ln : Int) = ln := by rw [IntKind.wrap_u32]; omega
        go_upto_region 15 with fail
        obtain ⟨NEW, hNEW⟩ : ∃ NEW, NEW = Obj.cells #[.string ⟨#[]⟩, .int .u32 c, .int .u32 pc] 83 := ⟨_, rfl⟩
        have HWY : Hid (∀ W : World, (W = (wn.alloc NEW).drew ∨ W = wn.drew.alloc NEW ∨ W = wn.alloc NEW) → W.ownsRow B 83 3 (.slice vA ln vc) ln (slC (T.sl j)) ∧ B ≤ W.heap.size ∧ wn.grownBy W none ∧ Src Try.prog 3 72 (.slice (some ⟨wn.heap.size, 0, none⟩) 1 1) 1 [.string ⟨#[]⟩, .int .u32 c, .int .u32 pc] W) := Lib.hid (fun W hW => by
          have ho : wn.ownsRow B 83 3 (.slice vA ln vc) ln (slC (T.sl j)) := by
            have := HS5.out.ren.own j hj4
            rw [HVJ.out, ← HLN.out] at this
            exact this
          have hB5 : B ≤ wn.heap.size := Nat.le_trans hB HS5.out.tur.size
          subst hNEW
          rcases hW with rfl | rfl | rfl
          · exact ⟨(ho.alloc _).drew, by simp; omega, only_drew (only_alloc (World.grownBy.refl _ _) _), srcOne3 wn _ rfl _ _ _ rfl⟩
          · exact ⟨ho.drew.alloc _, by simp; omega, only_alloc (only_drew (World.grownBy.refl _ _)) _, srcOne3 wn _ rfl _ _ _ rfl⟩
          · exact ⟨ho.alloc _, by simp; omega, only_alloc (World.grownBy.refl _ _) _, srcOne3 wn _ rfl _ _ _ rfl⟩)
        subst hNEW
        have hok1 : TOk S (M + (k + 1)) ⟨updL T.sl j (T.sl j ++ [(c, pc)]), T.tm⟩ := by
          refine ⟨fun i' k' hk' => ?_, fun m => ?_⟩
          · have := HS5.out.ok.inn i' k' hk'
            by_cases e : nsJ (S i').kd = j
            · rw [e] at this ⊢; simp only [updL_at, List.length_append, List.length_singleton]; omega
            · simp only [updL_ne e]; exact this
          · have := HS5.out.ok.len m
            by_cases e : m = j
            · subst e; simp only [updL_at, List.length_append, List.length_singleton]; omega
            · simp only [updL_ne e]; omega
        have HFIN : Hid (∀ (W w2 : World) (v' : Value), wn.grownBy W none → w2.ownsRow B 83 3 v' (ln + 1) (slC (T.sl j) ++ [.string ⟨#[]⟩, .int .u32 c, .int .u32 pc]) → W.grownBy w2 (Value.ownBlock (.slice vA ln vc)) → (v'.ownBlock = Value.ownBlock (.slice vA ln vc) ∨ v'.ownBlock = some W.heap.size) → w2.cell? ⟨br, 1 + j, none⟩ = some (.slice vA ln vc) ∧ w2.frozen? ⟨br, 1 + j, none⟩ = false ∧ AlSt w (w2.setCell ⟨br, 1 + j, none⟩ v') B o mo br gm vs0 (updV vs j v') g n S (N + k) (M + (k + 1)) ⟨updL T.sl j (T.sl j ++ [(c, pc)]), T.tm⟩ ∧ Blk (w2.setCell ⟨br, 1 + j, none⟩ v') x 43 #[.int .u32 a, .int .u32 0, .int .u32 (i : Nat), .int .u32 c]) := Lib.hid (fun W w2 v' h1 h2 h3 h4 => by
          have hs := (HS5.out.grown h1).more (N' := N + k) (M' := M + (k + 1)) (Nat.le_refl _) (by omega)
          have e := HVJ.out
          rw [← HLN.out] at e
          rw [HLN.out] at h2
          rw [← e] at h3 h4 ⊢
          obtain ⟨r1, r2, r3⟩ := hs.app hj4 h3 h2 h4 hok1
          have hbx := (HBX5.out.grown h1 (by simp)).grown h3 (fun e2 => own_blk_ne (hs.ren.own j hj4) (HBX5.out.grown h1 (by simp)) (by decide) e2.symm)
          exact ⟨r1, r2, r3, hbx.far (p := ⟨br, 1 + j, none⟩) (fun e2 => Blk.ne_ HBX5.out HS5.out.ren.blk (by decide) e2) _⟩)
        obtain ⟨i0, hi0, hz0, hz1, hz2⟩ := info_parts slot_info
        have hxs : x < wn.heap.size := HBX5.out.lt
        have hbs : br < wn.heap.size := HS5.out.ren.blk.lt
        clear hok1
        go_cut [] (fun wx => ∃ v' : Value, AlSt w wx B o mo br gm vs0 (updV vs j v') g n S (N + k) (M + (k + 1)) ⟨updL T.sl j (T.sl j ++ [(c, pc)]), T.tm⟩ ∧ Blk wx x 43 #[.int .u32 a, .int .u32 0, .int .u32 (i : Nat), .int .u32 c])
        case first =>
          go_region_law (refine step_append_own_src _ rfl (.tmp 77) (.tmp 82) 72 72 rfl B 83 i0 zSlot 3 24 Try.underlying72 hi0 hz0 hz1 hz2 rfl (.slice vA ln vc) ln (slC (T.sl j)) (by simp [Act.eval, Act.put]) (HWY.out _ (by first | exact Or.inl rfl | exact Or.inr (Or.inl rfl) | exact Or.inr (Or.inr rfl))).1 (.slice (some ⟨wn.heap.size, 0, none⟩) 1 1) 1 [.string ⟨#[]⟩, .int .u32 c, .int .u32 pc] (by simp [Act.eval, Act.put]) (HWY.out _ (by first | exact Or.inl rfl | exact Or.inr (Or.inl rfl) | exact Or.inr (Or.inr rfl))).2.2.2 (by unfold maxLen; omega) (by omega) (HWY.out _ (by first | exact Or.inl rfl | exact Or.inr (Or.inl rfl) | exact Or.inr (Or.inr rfl))).2.1 ?_; intro v' w2 hown' hgrow hat; obtain ⟨d0, z0, hfin, hbx⟩ := HFIN.out _ w2 v' (HWY.out _ (by first | exact Or.inl rfl | exact Or.inr (Or.inl rfl) | exact Or.inr (Or.inr rfl))).2.2.1 hown' hgrow hat; obtain ⟨sq, scap, hv⟩ := own_form hown'; subst hv; have HEND := Lib.hid hfin; have HEBX := Lib.hid hbx; clear hown' hgrow hat hfin hbx)
          all_goals
            go_wp2_with fail
            go_meet
            exact ⟨_, HEND.out, HEBX.out⟩
        case rest =>
        obtain ⟨v', hs7, hbx7⟩ := hcut
        obtain ⟨wf, rfl⟩ : ∃ W : World, W = wc := ⟨_, rfl⟩
        have HS7 := Lib.hid hs7; have HBX7 := Lib.hid hbx7
        clear hs7 hbx7 HFIN HWY HS5 HBX5 m0 f7 b3 hxs hbs
        obtain ⟨mk, D2, hmk, hm, hti⟩ := HS7.out.ren.map
        have hmd : TMap wf.drew gm mk D2 := hm
        obtain ⟨w1, hrun, hown1, hturn⟩ := World.ownsMap.store hmd lawR Try.underlying74 (by unfold maxLen; omega) (refK_key i (by omega)) (plainElem_int (H := Unit) Try.underlying24 (u32wf (i := (ln : Int)) (by omega) (by omega)))
        have hgrow1 : wf.grownBy w1 (some gm) := by
          have h := hturn.grown
          exact ⟨h.os, h.tape, h.output, h.size, h.block⟩
        have HFN : Hid (AlSt w w1 B o mo br gm vs0 (updV vs j v') g n S (N + (k + 1)) (M + (k + 1)) ((es.take (k + 1)).foldl (tStep S) t)) := Lib.hid (by
          rw [HNX.out, HTS.out, ← HLN.out]
          have h1 := HS7.out.ren.put (q := i) (v := ln) (by omega) hmk hm hti hown1 hgrow1
          refine ⟨h1, ?_, trans_in HS7.out.tur (Turned.of_grown (S := fun b => b = gm) hgrow1 (fun _ e => (Option.some.inj e).symm)) (fun _ _ e => .inr (.inl e)), HS7.out.fresh⟩
          have := HS7.out.ok
          refine ⟨fun i' k' hk' => ?_, this.len⟩
          simp only at hk' ⊢
          by_cases e : i' = i
          · rw [if_pos e] at hk'
            have e2 := Option.some.inj hk'
            rw [e, ← HJ.out, updL_at, List.length_append, List.length_singleton, ← HLN.out]
            omega
          · rw [if_neg e] at hk'
            exact this.inn i' k' hk')
        have b5 : wf.cell? ⟨br, 5, none⟩ = some (.map (some gm)) := HS7.out.ren.blk.cell 5
        have r1 : wf.cell? ⟨x, 1, none⟩ = some (.int .u32 0) := HBX7.out.cell 1
        have r2 : wf.cell? ⟨x, 2, none⟩ = some (.int .u32 (i : Nat)) := HBX7.out.cell 2
        clear hmd hm hti hown1 hturn hgrow1 hmk
        go_upto_region 16 with fail
        go_region
        all_goals
          go_wp2_with fail
          go_roundw
          case rel => exact ⟨k + 1, _, by go_num, by omega, HFN.out⟩
          case measure => simp [intOf]; omega
    · obtain rfl : k = L := by omega
      have HF := Lib.hid (show AlPost w B o mo br gm vs0 g n S (N + k) (M + k) (es.foldl (tStep S) t) (.returned (.tuple #[])) wr from ⟨rfl, vs, by have h := HS0.out; rwa [List.take_of_length_le (by have := HL.out; omega)] at h⟩)
      go_wp2
      (try refine bodyPost_ret (results_none rfl _ _ _) rfl ?_)
      (try go_end0)
      exact HF.out
end Go.Proofs.Ytlpmkbdglpnjhaa
