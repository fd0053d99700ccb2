/- zzDist: breadth-first search (n011_92). -/
import Derived.Test.YtecncdcfmmceeaaGreatTnk
import Derived.Test.YtecncdcfmmceeaaGreatBfs
namespace Go.Proofs.YtecncdcfmmceeaaGreat
open Go.RowKit
set_option linter.unusedVariables false
set_option linter.unusedSimpArgs false
theorem int_info : (Tryz.prog.info? 3).map (fun i => (i.zero, i.size, i.bytes)) = some (some (.int .i64 0), 1, 8) := by kernel_rfl
def qC (q : List Nat) : List Value := q.map fun x : Nat => Value.int .i64 (x : Int)
theorem qC_len (q : List Nat) : (qC q).length = q.length := by unfold qC; simp
theorem qC_snoc (q : List Nat) (x : Nat) : qC (q ++ [x]) = qC q ++ [.int .i64 (x : Int)] := by unfold qC; simp
/-- The distances' block (below i filled), the queue. -/
structure DQ (w : World) (n db i : Nat) (d : Nat → Nat) (q : List Nat) (qv : Value) (wr : World) : Prop where
  dist : ∃ cs, Blk wr db 3 cs ∧ cs.size = n ∧ ∀ u, u < i → cs[u]? = some (.int .i64 ((d u : Int) - 1))
  own : wr.ownsRow w.heap.size 3 1 qv q.length (qC q)
  ne : qv.ownBlock ≠ some db
  dw : db = w.heap.size
  gr : w.grownBy wr none
  le : ∀ u, d u ≤ q.length
theorem DQ.cell {w : World} {n db i : Nat} {d : Nat → Nat} {q : List Nat} {qv : Value} {wr : World} (h : DQ w n db i d q qv wr) {u : Nat} (hu : u < i) : wr.cell? ⟨db, u, none⟩ = some (.int .i64 ((d u : Int) - 1)) := by
  obtain ⟨⟨cs, h1, h2, h3⟩, _⟩ := h
  exact (h1.cell u).trans (h3 u hu)
theorem DQ.some_ {w : World} {n db i : Nat} {d : Nat → Nat} {q : List Nat} {qv : Value} {wr : World} (h : DQ w n db i d q qv wr) {u : Nat} (hu : u < n) : (∃ v, wr.cell? ⟨db, u, none⟩ = some v) ∧ wr.frozen? ⟨db, u, none⟩ = false := by
  obtain ⟨⟨cs, h1, h2, h3⟩, _⟩ := h
  exact ⟨⟨_, (h1.cell u).trans (Array.getElem?_eq_getElem (by omega))⟩, h1.frozen u⟩
/-- A distance is stored. -/
theorem DQ.store {w : World} {n db i : Nat} {d : Nat → Nat} {q : List Nat} {qv : Value} {wr : World} (h : DQ w n db i d q qv wr) {u : Nat} (hu : u < n) {d' : Nat → Nat} {i' : Nat} (v : Value) (hv : v = .int .i64 ((d' u : Int) - 1)) (hi : ∀ x, x < i' → x = u ∨ (x < i ∧ d' x = d x)) (hle : ∀ x, d' x ≤ q.length) : DQ w n db i' d' q qv (wr.setCell ⟨db, u, none⟩ v) := by
  obtain ⟨⟨cs, h1, h2, h3⟩, h4, h5, h6, h7, _⟩ := h
  refine ⟨⟨_, h1.set_ u v, by simpa using h2, fun x hx => ?_⟩, ownsRow_setCell_other h4 h5 _, h5, h6, ?_, hle⟩
  · by_cases e : x = u
    · subst e; rw [Array.getElem?_setIfInBounds_self_of_lt (by omega), hv]
    · rw [Array.getElem?_setIfInBounds_ne (fun e' => e e'.symm)]
      rcases hi x hx with h8 | ⟨h8, h9⟩
      · exact absurd h8 e
      · rw [h9]; exact h3 x h8
  · exact ⟨h7.os, h7.tape, h7.output, by simp [World.setCell]; exact h7.size, fun j hj _ => (Below.heap_setCell wr _ v j (by show j ≠ db; omega)).trans (h7.block j hj (by simp))⟩
/-- The queue grows. -/
theorem DQ.push {w : World} {n db i : Nat} {d : Nat → Nat} {q : List Nat} {qv qv' : Value} {wr wa w1 : World} {x : Nat} (h : DQ w n db i d q qv wr) (ha : wr.grownBy wa none) (ho : w1.ownsRow w.heap.size 3 1 qv' (q.length + 1) (qC q ++ [.int .i64 (x : Int)])) (hg : wa.grownBy w1 qv.ownBlock) (hat : qv'.ownBlock = qv.ownBlock ∨ qv'.ownBlock = some wa.heap.size) : DQ w n db i d (q ++ [x]) qv' w1 := by
  obtain ⟨⟨cs, h1, h2, h3⟩, h4, h5, h6, h7, h8⟩ := h
  have hb := h1.grown ha (by simp)
  refine ⟨⟨cs, hb.grown hg (fun e => h5 e.symm), h2, h3⟩, by rw [List.length_append, qC_snoc]; exact ho, ?_, h6, ?_, fun u => by rw [List.length_append]; exact Nat.le_trans (h8 u) (Nat.le_add_right _ _)⟩
  · rcases hat with e | e
    · rw [e]; exact h5
    · rw [e]; intro e'; injection e' with e'; have := hb.lt; omega
  · have h9 := grownBy_acc h7 ha
    refine ⟨hg.os.trans h9.os, hg.tape.trans h9.tape, hg.output.trans h9.output, Nat.le_trans h9.size hg.size, fun j hj _ => (hg.block j (Nat.lt_of_lt_of_le hj h9.size) (fun e => ?_)).trans (h9.block j hj (by simp))⟩
    have := (h4.lt j e.symm).1; omega
/-- A distance is stored and the file queued. -/
theorem DQ.add {w : World} {n db i : Nat} {d : Nat → Nat} {q : List Nat} {qv qv' : Value} {W2 W3 w1 : World} (h : DQ w n db i d q qv W2) {u z : Nat} (hu : u < n) (v : Value) (hv : v = .int .i64 ((z : Int) - 1)) (hz : z ≤ q.length + 1) (hW3 : W3 = W2.setCell ⟨db, u, none⟩ v)
    (h1 : w1.ownsRow w.heap.size 3 1 qv' (q.length + 1) (qC q ++ [.int .i64 (u : Int)])) (h2 : (W3.alloc (.cells #[.int .i64 (u : Int)] 3)).grownBy w1 qv.ownBlock) (h3 : qv'.ownBlock = qv.ownBlock ∨ qv'.ownBlock = some (W3.heap.size + 1)) : DQ w n db i (updF d u z) (q ++ [u]) qv' w1 := by
  have how := h.own
  obtain ⟨⟨cs, q1, q2, q3⟩, _, q5, q6, q7, q8⟩ := h
  have hb3 : Blk W3 db 3 (cs.setIfInBounds u v) := by rw [hW3]; exact q1.set_ u _
  have hg3 : w.grownBy W3 none := by
    rw [hW3]
    exact ⟨q7.os, q7.tape, q7.output, by simp [World.setCell]; exact q7.size, fun j hj _ => (Below.heap_setCell W2 _ _ j (by show j ≠ db; omega)).trans (q7.block j hj (by simp))⟩
  have hal := only_alloc (World.grownBy.refl W3 none) (.cells #[.int .i64 (u : Int)] 3)
  have hb4 := (hb3.grown hal (by simp)).grown h2 (fun e => q5 e.symm)
  refine ⟨⟨_, hb4, by simpa using q2, fun x hx => ?_⟩, by rw [List.length_append, qC_snoc]; exact h1, ?_, q6, ?_, fun x => ?_⟩
  · by_cases e : x = u
    · subst e; rw [Array.getElem?_setIfInBounds_self_of_lt (by omega), updF_self, hv]
    · rw [Array.getElem?_setIfInBounds_ne (fun e' => e e'.symm), updF_ne _ _ e]; exact q3 x hx
  · rcases h3 with e | e
    · rw [e]; exact q5
    · rw [e]; intro e'; injection e' with e'
      have := hb3.lt; omega
  · have h9 := grownBy_acc hg3 hal
    refine ⟨h2.os.trans h9.os, h2.tape.trans h9.tape, h2.output.trans h9.output, Nat.le_trans h9.size h2.size, fun j hj _ => (h2.block j (Nat.lt_of_lt_of_le hj h9.size) (fun e => ?_)).trans (h9.block j hj (by simp))⟩
    have := (how.lt j e.symm).1; omega
  · rw [List.length_append]
    by_cases e : x = u
    · subst e; rw [updF_self]; simpa using hz
    · rw [updF_ne _ _ e]; exact Nat.le_trans (q8 x) (Nat.le_add_right _ _)
theorem DQ.form {w : World} {n db i : Nat} {d : Nat → Nat} {q : List Nat} {qv : Value} {wr : World} (h : DQ w n db i d q qv wr) : ∃ A c, qv = .slice A q.length c ∧ ∀ (j x : Nat), q[j]? = some x → ∃ g, A = some ⟨g, 0, none⟩ ∧ wr.cell? ⟨g, j, none⟩ = some (.int .i64 (x : Int)) := by
  have ho := h.own
  rcases ho.2 with ⟨h1, h2⟩ | ⟨g, cap, cur, h1, _, hg, _, _, _, _⟩
  · refine ⟨none, 0, by rw [h1, h2], fun j x hx => ?_⟩
    have := (List.getElem?_eq_some_iff.1 hx).1; omega
  · refine ⟨some ⟨g, 0, none⟩, cap, h1, fun j x hx => ⟨g, rfl, ?_⟩⟩
    have hj := (List.getElem?_eq_some_iff.1 hx).1
    have := World.ownsRow.cellAt (h1 ▸ ho) j (by omega)
    rw [this]
    unfold qC
    rw [List.getElem?_map, hx]; rfl
theorem grownBy_acc2 {a b c : World} {row : Option Nat} (h : a.grownBy b row) (k : b.grownBy c row) : a.grownBy c row := grownBy_acc h k
def DistPost (n m : Nat) (ok aw : Nat → Bool) (fr tg kb : Nat → Nat) (w : World) (e : Ending) (w' : World) : Prop :=
  ∃ g d q h, e = .returned (.slice (some ⟨g, 0, none⟩) n n) ∧ Arr w' 3 (some ⟨g, 0, none⟩) n (fun j => .int .i64 ((d j : Int) - 1)) ∧ BInv n ok aw (edg m fr tg kb) d q h ∧ q.length ≤ h ∧ (∀ u, d u ≤ n) ∧ w.grownBy w' none
theorem src1 (w : World) (x : Nat) : Src Tryz.prog 1 33 (.slice (some ⟨w.heap.size, 0, none⟩) 1 1) 1 [.int .i64 (x : Int)] (w.alloc (.cells #[.int .i64 (x : Int)] 3)) :=
  Src.ofSlice _ Tryz.underlying33 _ 1 1 [.int .i64 (x : Int)] rfl (fun j u hu => by
    rw [← hu]
    have := (Blk.new w 3 #[Value.int .i64 (x : Int)]).cell j
    have e : (#[Value.int .i64 (x : Int)])[j]? = [Value.int .i64 (x : Int)][j]? := by simp
    rw [e] at this
    rw [← this]
    unfold Addr.add
    split
    · rename_i h0; subst h0; rfl
    · show World.cell? _ ⟨w.heap.size, 0 + j, none⟩ = _
      rw [Nat.zero_add]) (fun u hu => by
    simp only [List.mem_singleton] at hu
    rw [hu]; rfl)
set_option maxHeartbeats 8000000 in
set_option maxRecDepth 100000 in
theorem dist_any (n m lg n2 n3 n4 : Nat) (gf aw : Nat → Bool) (fr tg kb : Nat → Nat) (Aa Ag Af At Ak : Option Addr) (ca cg cf ct ck : Nat) (w : World) (ha : Arr w 4 Aa n (fun j => .bool (aw j))) (ho : Arr w 4 Ag lg (fun j => .bool (gf j))) (hf : Arr w 40 Af n2 (fun j => .int .u16 (fr j : Int))) (ht : Arr w 40 At n3 (fun j => .int .u16 (tg j : Int))) (hk : Arr w 5 Ak n4 (fun j => .int .u8 (kb j : Int)))
    (hn : n ≤ 65536) (hm : m ≤ 65536) (hmm : m = min (min n2 n3) n4) (hfb : ∀ j, fr j ≤ 65535) (htb : ∀ j, tg j ≤ 65535) (hkb : ∀ j, kb j ≤ 255) :
    Calls Tryz.prog 12 #[.slice Aa n ca, .slice Ag lg cg, .slice Af n2 cf, .slice At n3 ct, .slice Ak n4 ck] w (DistPost n m (fun j => decide (j < n) && okN lg gf j) aw fr tg kb w) := by
  obtain ⟨i0, hi, hz0, hz1, hz2⟩ := info_parts int_info
  have hmk : ∀ W : World, (Instr.makeSlice 33 (.int .i64 (n : Int)) (.int .i64 (n : Int))).run Tryz.prog W = .ok (.slice (some ⟨W.heap.size, 0, none⟩) n n) (W.alloc (.cells (madeCells #[.int .i64 0] n) 3)) := fun W => by
    have := run_make (P := Tryz.prog) W 33 3 i0 (.int .i64 0) Tryz.underlying33 hi hz0 .i64 .i64 n n (by omega) (by omega) (by rw [hz2]; omega) (by omega)
    simpa [hz1, Value.cells] using this
  have hmk0 : ∀ W : World, (Instr.makeSlice 33 (.int .i64 0) (.int .i64 (n : Int))).run Tryz.prog W = .ok (.slice (some ⟨W.heap.size, 0, none⟩) 0 n) (W.alloc (.cells (madeCells #[.int .i64 0] n) 3)) := fun W => by
    have := run_make (P := Tryz.prog) W 33 3 i0 (.int .i64 0) Tryz.underlying33 hi hz0 .i64 .i64 0 n (by omega) (by omega) (by rw [hz2]; omega) (by omega)
    simpa [hz1, Value.cells] using this
  obtain ⟨W1, hW1⟩ : ∃ W, W = (w.alloc (.cells (madeCells #[Value.int .i64 0] n) 3)).alloc (.cells (madeCells #[Value.int .i64 0] n) 3) := ⟨_, rfl⟩
  have HD0 : Hid (DQ w n w.heap.size 0 (fun _ => 0) [] (.slice (some ⟨w.heap.size + 1, 0, none⟩) 0 n) W1) := Lib.hid (by
    have hb : Blk W1 w.heap.size 3 (madeCells #[Value.int .i64 0] n) := by rw [hW1]; exact (Blk.new w _ _).alloc _
    have hb2 : Blk W1 (w.heap.size + 1) 3 (madeCells #[Value.int .i64 0] n) := by
      rw [hW1]
      have := Blk.new (w.alloc (.cells (madeCells #[Value.int .i64 0] n) 3)) 3 (madeCells #[Value.int .i64 0] n)
      simpa using this
    refine ⟨⟨_, hb, by simp [madeCells], fun u hu => by omega⟩, ⟨rfl, .inr ⟨w.heap.size + 1, n, _, rfl, by omega, hb2, Nat.zero_le _, by unfold maxLen; omega, by simp [madeCells], by simp [qC]⟩⟩, by simp [Value.ownBlock], rfl, by rw [hW1]; exact only_alloc (only_alloc (World.grownBy.refl _ _) _) _, fun u => Nat.le_refl _⟩)
  have HO := Lib.hid ho; have HA := Lib.hid ha; have HF := Lib.hid hf; have HT := Lib.hid ht; have HK := Lib.hid hk
  have HFB := Lib.hid hfb; have HTB := Lib.hid htb; have HKB := Lib.hid hkb
  have HCN := Lib.hid (cnt_any Af At Ak n2 n3 n4 cf ct ck m w hmm)
  have hm2 : m ≤ n2 := by omega
  have hm3 : m ≤ n3 := by omega
  have hm4 : m ≤ n4 := by omega
  clear ho ha hf ht hk hfb htb hkb hmm
  go_enter Tryz.func12, Tryz.ntmps12
  go_wp2_with (go_at_call 9; (with_reducible refine (HCN.out).mono ?_))
  rintro e w' ⟨rfl, rfl⟩
  clear HCN
  go_upto_region 5 with fail
  first | rw [← hW1] | skip
  clear hW1 hmk hmk0
  go_wp2
  go_loopw [14, 15] (fun q0 iv wr => ∃ (i : Nat) (d : Nat → Nat) (q : List Nat) (qv : Value), q0 = qv ∧ iv = .int .i64 (i : Int) ∧ i ≤ n ∧ BIn0 n (fun j => decide (j < n) && okN lg gf j) aw d q i ∧ DQ w n w.heap.size i d q qv wr) (fun _ iv _ => n - (intOf iv).toNat)
  case atStart => exact ⟨0, _, [], _, rfl, rfl, Nat.zero_le _, BIn0.zero _ _ _, HD0.out⟩
  case round =>
    obtain ⟨i, d, q, qv, hqv, rfl, hi2, hb0, hdq⟩ := hrel
    obtain rfl := hqv.symm
    have HB := Lib.hid hb0; have HQ := Lib.hid hdq
    clear hb0 hdq HD0
    by_cases hlt : i < n
    · have hlt' : (i : Int) < (n : Int) := by omega
      obtain ⟨ga, rfl, c2⟩ := (HA.out.grown HQ.out.gr).at_ hlt
      obtain ⟨⟨v0, c3⟩, z3⟩ := HQ.out.some_ hlt
      have hd0 : d i = 0 := by rw [HB.out.j2 i, if_neg (by omega)]
      have HS1 := Lib.hid (HQ.out.store (i' := i + 1) (d' := d) hlt (.int .i64 (-1)) (by rw [hd0]; rfl) (fun x hx => by
        rcases Nat.lt_or_ge x i with h | h
        · exact .inr ⟨h, rfl⟩
        · exact .inl (by omega)) HQ.out.le)
      obtain ⟨bo, hbo⟩ : ∃ b, b = okN lg gf i := ⟨_, rfl⟩
      obtain ⟨ba, hba⟩ : ∃ b, b = aw i := ⟨_, rfl⟩
      rw [← hba] at c2
      obtain ⟨wo, hwo⟩ : ∃ x, x = wr := ⟨_, rfl⟩
      subst hwo
      obtain ⟨W2, hW2⟩ : ∃ W, W = wo.setCell ⟨w.heap.size, i, none⟩ (.int .i64 (-1)) := ⟨_, rfl⟩
      rw [← hW2] at HS1
      have HFL := Lib.hid (file_any lg gf Ag cg i W2 (HO.out.grown HS1.out.gr))
      rw [← hbo] at HFL
      have HBG : Hid ((decide (i < n) && okN lg gf i) = bo) := Lib.hid (by rw [hbo]; simp [hlt])
      have k2 : W2.cell? ⟨ga, i, none⟩ = some (.bool ba) := by
        obtain ⟨g', e', c'⟩ := (HA.out.grown HS1.out.gr).at_ hlt
        obtain rfl : ga = g' := by injection e' with e'; injection e'
        rw [hba]; exact c'
      have HBO := Lib.hid hbo; have HBA := Lib.hid hba
      have hwe : IntKind.i64.wrap ((i : Int) + 1) = (i : Int) + 1 := by rw [IntKind.wrap_i64]; omega
      clear hd0 hbo hba
      go_upto_region 9 with fail
      first | rw [← hW2] | skip
      clear hW2 c2 c3 z3
      go_wp2_with (go_at_call 13; (with_reducible refine (HFL.out).mono ?_))
      rintro e w' ⟨rfl, rfl⟩
      by_cases hboth : bo = true ∧ ba = true
      · obtain ⟨rfl, rfl⟩ := hboth
        have hyes := HB.out.yes hlt HBG.out HBA.out.symm
        obtain ⟨⟨v1, c4⟩, z4⟩ := HS1.out.some_ hlt
        have HS2 : Hid (DQ w n w.heap.size (i + 1) d q qv W2) := HS1
        have hown2 : ∀ u : Value, (W2.setCell ⟨w.heap.size, i, none⟩ u).ownsRow w.heap.size 3 1 qv q.length (qC q) := fun u => ownsRow_setCell_other HS1.out.own HS1.out.ne _
        have HOW := Lib.hid (hown2 (.int .i64 0))
        obtain ⟨W3, hW3⟩ : ∃ W, W = W2.setCell ⟨w.heap.size, i, none⟩ (.int .i64 0) := ⟨_, rfl⟩
        rw [← hW3] at HOW
        have HSR := Lib.hid (src1 W3 i)
        have hql : q.length ≤ n := by have := HB.out.j3; omega
        have hszW : w.heap.size ≤ W3.heap.size := by rw [hW3]; simp [World.setCell]; exact HS1.out.gr.size
        have HP : Hid (∀ (qv' : Value) (w1 : World), w1.ownsRow w.heap.size 3 1 qv' (q.length + 1) (qC q ++ [.int .i64 (i : Int)]) → (W3.alloc (.cells #[.int .i64 (i : Int)] 3)).grownBy w1 qv.ownBlock → (qv'.ownBlock = qv.ownBlock ∨ qv'.ownBlock = some (W3.heap.size + 1)) → DQ w n w.heap.size (i + 1) (updF d i 1) (q ++ [i]) qv' w1) := Lib.hid (fun qv' w1 h1 h2 h3 => HS1.out.add hlt (.int .i64 0) rfl (by omega) hW3 h1 h2 h3)
        clear hown2
        go_upto_region 11 with fail
        first | rw [← hW3] | skip
        clear hW3 c4 z4
        go_wp2_with (at_builtin; refine wpList_append_own_src _ rfl (.tmp 50) (.tmp 52) 33 33 rfl w.heap.size 3 i0 (.int .i64 0) 1 8 Tryz.underlying33 hi hz0 hz1 hz2 rfl qv q.length (qC q) rfl (HOW.out.alloc _) _ 1 [.int .i64 (i : Int)] rfl HSR.out (by unfold maxLen; omega) (by omega) (by simp; omega) ?_)
        intro qv' w1 h1 h2 h3
        have HFIN := Lib.hid (HP.out qv' w1 h1 h2 (by simpa using h3))
        have HYES := Lib.hid hyes
        clear h1 h2 h3 hyes
        go_wp2
        go_roundw
        case rel => exact ⟨i + 1, _, _, _, rfl, by simp, by omega, HYES.out, HFIN.out⟩
        case measure => simp [intOf]; omega
      · have HNO := Lib.hid (HB.out.no (fun h => hboth ⟨HBG.out.symm.trans h.1, HBA.out.trans h.2⟩))
        cases bo with
        | false =>
          go_wp2
          go_roundw
          case rel => exact ⟨i + 1, _, _, _, rfl, by simp, by omega, HNO.out, HS1.out⟩
          case measure => simp [intOf]; omega
        | true =>
          have hba2 : ba = false := by cases ba <;> simp_all
          subst hba2
          go_wp2
          go_roundw
          case rel => exact ⟨i + 1, _, _, _, rfl, by simp, by omega, HNO.out, HS1.out⟩
          case measure => simp [intOf]; omega
    · obtain rfl : i = n := by omega
      have hlt' : ¬ ((i : Int) < (i : Int)) := by omega
      have HBI := Lib.hid (HB.out.inv (ed := edg m fr tg kb))
      clear HB
      go_wp2
      go_loopw [14, 16] (fun q0 hv wr => ∃ (h : Nat) (d : Nat → Nat) (q : List Nat) (qv : Value), q0 = qv ∧ hv = .int .i64 (h : Int) ∧ BInv i (fun j => decide (j < i) && okN lg gf j) aw (edg m fr tg kb) d q h ∧ DQ w i w.heap.size i d q qv wr) (fun _ hv _ => i - (intOf hv).toNat)
      case atStart => exact ⟨0, d, q, qv, rfl, rfl, HBI.out, HQ.out⟩
      case round =>
        clear HBI HQ
        obtain ⟨h, d, q, qv, hqv, rfl, hbi, hdq⟩ := hrel
        obtain rfl := hqv.symm
        obtain ⟨A, c, rfl, hqf⟩ := hdq.form
        have HB := Lib.hid hbi; have HQ := Lib.hid hdq
        have hql := hbi.len
        clear hbi hdq
        by_cases hlt : h < q.length
        · obtain ⟨v, hv⟩ : ∃ v, q[h]? = some v := ⟨_, List.getElem?_eq_getElem hlt⟩
          obtain ⟨g, rfl, c1⟩ := hqf h v hv
          have hlt2 : (h : Int) < (q.length : Int) := by omega
          have hvn := (HB.out.i1 v (List.mem_of_getElem? hv)).1
          have HV := Lib.hid hv
          have hwh : IntKind.i64.wrap ((h : Int) + 1) = (h : Int) + 1 := by rw [IntKind.wrap_i64]; omega
          clear hv hqf
          go_wp2
          go_loopw [14, 18] (fun q0 ev wr => ∃ (e : Nat) (d : Nat → Nat) (q : List Nat) (qv : Value), q0 = qv ∧ ev = .int .i64 (e : Int) ∧ e ≤ m ∧ BInv i (fun j => decide (j < i) && okN lg gf j) aw (edg m fr tg kb) d q h ∧ q[h]? = some v ∧ (∀ x, x < e → kb x % 3 = 0 → tg x = v → (decide (fr x < i) && okN lg gf (fr x)) = true → d (fr x) ≠ 0 ∧ d (fr x) ≤ d v + 1) ∧ DQ w i w.heap.size i d q qv wr) (fun _ ev _ => m - (intOf ev).toNat)
          case atStart => exact ⟨0, d, q, _, rfl, rfl, Nat.zero_le _, HB.out, HV.out, fun x hx => by omega, HQ.out⟩
          case round =>
            clear HB HQ HV c1 hlt2 hlt hql
            obtain ⟨e, d, q, qv, hqv, rfl, hem, hbi, hv, hall, hdq⟩ := hrel
            obtain rfl := hqv.symm
            have HB := Lib.hid hbi; have HQ := Lib.hid hdq; have HV := Lib.hid hv; have HALL := Lib.hid hall
            have hql := hbi.len
            clear hbi hdq hv hall
            by_cases hlt : e < m
            · have hlt2 : (e : Int) < (m : Int) := by omega
              obtain ⟨bf, rfl, c1⟩ := (HF.out.grown HQ.out.gr).at_ (Nat.lt_of_lt_of_le hlt hm2)
              obtain ⟨bt, rfl, c2⟩ := (HT.out.grown HQ.out.gr).at_ (Nat.lt_of_lt_of_le hlt hm3)
              obtain ⟨bk, rfl, c3⟩ := (HK.out.grown HQ.out.gr).at_ (Nat.lt_of_lt_of_le hlt hm4)
              have hl2 : (e : Int) < (n2 : Int) := by omega
              have hl3 : (e : Int) < (n3 : Int) := by omega
              have hl4 : (e : Int) < (n4 : Int) := by omega
              have hub := HFB.out e
              have hkb := HKB.out e
              have htn := HTB.out e
              obtain ⟨u, hu⟩ : ∃ u, u = fr e := ⟨_, rfl⟩
              obtain ⟨t, ht⟩ : ∃ t, t = tg e := ⟨_, rfl⟩
              obtain ⟨x, hx⟩ : ∃ x, x = kb e := ⟨_, rfl⟩
              rw [← hu] at c1 hub
              rw [← ht] at c2 htn
              rw [← hx] at c3 hkb
              have hmod : (x : Int).tmod 3 = ((x % 3 : Nat) : Int) := by rw [Int.tmod_eq_emod_of_nonneg (by omega)]; omega
              have HU := Lib.hid hu; have HTE := Lib.hid ht; have HX := Lib.hid hx
              have hwe : IntKind.i64.wrap ((e : Int) + 1) = (e : Int) + 1 := by rw [IntKind.wrap_i64]; omega
              have hw1 : IntKind.i64.wrap (u : Int) = (u : Int) := by rw [IntKind.wrap_i64]; omega
              have hw2 : IntKind.i64.wrap (t : Int) = (t : Int) := by rw [IntKind.wrap_i64]; omega
              obtain ⟨r, hr⟩ : ∃ r, r = x % 3 := ⟨_, rfl⟩
              have hr3 : r < 3 := by omega
              rw [← hr] at hmod
              have HR := Lib.hid hr
              have hwr : IntKind.u8.wrap (r : Int) = (r : Int) := by rw [IntKind.wrap_u8']; omega
              have HSK : Hid (∀ (hs : kb e % 3 = 0 → tg e = v → (decide (fr e < i) && okN lg gf (fr e)) = true → d (fr e) ≠ 0 ∧ d (fr e) ≤ d v + 1), ∀ x, x < e + 1 → kb x % 3 = 0 → tg x = v → (decide (fr x < i) && okN lg gf (fr x)) = true → d (fr x) ≠ 0 ∧ d (fr x) ≤ d v + 1) := Lib.hid (fun hs x hx => by
                rcases Nat.lt_or_ge x e with h1 | h1
                · exact HALL.out x h1
                · obtain rfl : x = e := by omega
                  exact hs)
              clear hu ht hx hr hkb htn
              by_cases hr0 : r = 0
              · subst hr0
                by_cases htv : t = v
                · subst htv
                  have hti : (t : Int) < (i : Int) := by omega
                  by_cases hun : u < i
                  case neg =>
                    have hui : ¬ (u : Int) < (i : Int) := by omega
                    have HN := Lib.hid (HSK.out (fun _ _ h3 => by
                      rw [← HU.out] at h3
                      rw [Bool.and_eq_true] at h3
                      exact absurd (of_decide_eq_true h3.1) hun))
                    go_wp2
                    go_roundw
                    case rel => exact ⟨e + 1, d, q, qv, rfl, by simp, by omega, HB.out, HV.out, HN.out, HQ.out⟩
                    case measure => simp [intOf]; omega
                  have hui : (u : Int) < (i : Int) := by omega
                  have HFL := Lib.hid (file_any lg gf Ag cg u wr (HO.out.grown HQ.out.gr))
                  obtain ⟨bo, hbo⟩ : ∃ b, b = okN lg gf u := ⟨_, rfl⟩
                  rw [← hbo] at HFL
                  have HBO : Hid (bo = (decide (u < i) && okN lg gf u)) := Lib.hid (by rw [hbo]; simp [hun])
                  clear hbo
                  go_wp2_with (go_at_call 13; (with_reducible refine (HFL.out).mono ?_))
                  rintro e9 w' ⟨rfl, rfl⟩
                  cases bo with
                  | false =>
                    have HN := Lib.hid (HSK.out (fun _ _ h3 => by rw [← HU.out, ← HBO.out] at h3; cases h3))
                    go_wp2
                    go_roundw
                    case rel => exact ⟨e + 1, d, q, qv, rfl, by simp, by omega, HB.out, HV.out, HN.out, HQ.out⟩
                    case measure => simp [intOf]; omega
                  | true =>
                    have c5 := HQ.out.cell hun
                    by_cases hd0 : d u = 0
                    · rw [hd0] at c5
                      have c5' : wr.cell? ⟨w.heap.size, u, none⟩ = some (.int .i64 (-1)) := c5
                      have c6 := HQ.out.cell hvn
                      have z5 := (HQ.out.some_ hun).2
                      have hfind := HB.out.find HV.out (u := u) ⟨e, hlt, by rw [← HX.out]; exact HR.out.symm, HU.out.symm, HTE.out.symm⟩ hun HBO.out.symm hd0
                      have hdv := (HB.out.i1 t (List.mem_of_getElem? HV.out)).2
                      have htu : t ≠ u := fun e => by rw [e] at hdv; exact hdv hd0
                      obtain ⟨dv, hdve⟩ : ∃ x, x = d t := ⟨_, rfl⟩
                      rw [← hdve] at c6
                      have hdvl : dv ≤ q.length := by rw [hdve]; exact HQ.out.le t
                      have hwd : IntKind.i64.wrap ((dv : Int) - 1 + 1) = (dv : Int) := by rw [IntKind.wrap_i64]; omega
                      obtain ⟨zv, hzv⟩ : ∃ z : Int, z = (dv : Int) - 1 := ⟨_, rfl⟩
                      rw [← hzv] at c6 hwd
                      obtain ⟨wo, hwo⟩ : ∃ x, x = wr := ⟨_, rfl⟩
                      subst hwo
                      obtain ⟨W3, hW3⟩ : ∃ W, W = wo.setCell ⟨w.heap.size, u, none⟩ (.int .i64 (dv : Int)) := ⟨_, rfl⟩
                      have HOW : Hid (W3.ownsRow w.heap.size 3 1 qv q.length (qC q)) := Lib.hid (by rw [hW3]; exact ownsRow_setCell_other HQ.out.own HQ.out.ne _)
                      have HSR := Lib.hid (src1 W3 u)
                      have hszW : w.heap.size ≤ W3.heap.size := by rw [hW3]; simp [World.setCell]; exact HQ.out.gr.size
                      have HP : Hid (∀ (qv' : Value) (w1 : World), w1.ownsRow w.heap.size 3 1 qv' (q.length + 1) (qC q ++ [.int .i64 (u : Int)]) → (W3.alloc (.cells #[.int .i64 (u : Int)] 3)).grownBy w1 qv.ownBlock → (qv'.ownBlock = qv.ownBlock ∨ qv'.ownBlock = some (W3.heap.size + 1)) → DQ w i w.heap.size i (updF d u (d t + 1)) (q ++ [u]) qv' w1) := Lib.hid (fun qv' w1 h1 h2 h3 => HQ.out.add hun (.int .i64 (dv : Int)) (by rw [hdve]; congr 1; omega) (by omega) hW3 h1 h2 h3)
                      have HFD := Lib.hid hfind.1
                      have HV2 : Hid ((q ++ [u])[h]? = some t) := Lib.hid (by rw [List.getElem?_append_left (List.getElem?_eq_some_iff.1 HV.out).1]; exact HV.out)
                      have HN : Hid (∀ x, x < e + 1 → kb x % 3 = 0 → tg x = t → (decide (fr x < i) && okN lg gf (fr x)) = true → updF d u (d t + 1) (fr x) ≠ 0 ∧ updF d u (d t + 1) (fr x) ≤ updF d u (d t + 1) t + 1) := Lib.hid (fun x hx h1 h2 h3 => by
                        rw [updF_ne d _ htu]
                        by_cases e1 : fr x = u
                        · rw [e1, updF_self]; omega
                        · rw [updF_ne _ _ e1]
                          rcases Nat.lt_or_ge x e with h4 | h4
                          · exact HALL.out x h4 h1 h2 h3
                          · obtain rfl : x = e := by omega
                            exact absurd HU.out.symm e1)
                      clear hdve hdvl hzv hfind hdv htu c5
                      go_upto_region 23 with fail
                      first | rw [← hW3] | skip
                      clear hW3 c1 c2 c3 c5' c6 z5
                      go_wp2_with (at_builtin; refine wpList_append_own_src _ rfl (.tmp 117) (.tmp 119) 33 33 rfl w.heap.size 3 i0 (.int .i64 0) 1 8 Tryz.underlying33 hi hz0 hz1 hz2 rfl qv q.length (qC q) rfl (HOW.out.alloc _) _ 1 [.int .i64 (u : Int)] rfl HSR.out (by unfold maxLen; omega) (by omega) (by simp; omega) ?_)
                      intro qv' w1 h1 h2 h3
                      have HFIN := Lib.hid (HP.out qv' w1 h1 h2 (by simpa using h3))
                      clear h1 h2 h3
                      go_wp2
                      go_roundw
                      case rel => exact ⟨e + 1, _, _, _, rfl, by simp, by omega, HFD.out, HV2.out, HN.out, HFIN.out⟩
                      case measure => simp [intOf]; omega
                    · have HN := Lib.hid (HSK.out (fun _ _ _ => by
                        rw [← HU.out]
                        exact ⟨hd0, HB.out.i4 u t (HB.out.i2 u hd0) HV.out⟩))
                      obtain ⟨z, hz⟩ : ∃ z : Int, z = (d u : Int) - 1 := ⟨_, rfl⟩
                      rw [← hz] at c5
                      have hz0' : ¬ z < 0 := by omega
                      have hz1' : 0 ≤ z := by omega
                      clear hz hd0
                      go_wp2
                      go_roundw
                      case rel => exact ⟨e + 1, d, q, qv, rfl, by simp, by omega, HB.out, HV.out, HN.out, HQ.out⟩
                      case measure => simp [intOf]; omega
                · have HN := Lib.hid (HSK.out (fun _ h2 _ => absurd (HTE.out.trans h2) htv))
                  have htv1 : ((t : Int) != (v : Int)) = true := by simp; omega
                  have htv2 : (t != v) = true := by simp; omega
                  go_wp2
                  go_roundw
                  case rel => exact ⟨e + 1, d, q, qv, rfl, by simp, by omega, HB.out, HV.out, HN.out, HQ.out⟩
                  case measure => simp [intOf]; omega
              · have HN := Lib.hid (HSK.out (fun h1 _ _ => absurd (HR.out.trans (by rw [HX.out]; exact h1)) hr0))
                have hr1 : ((r : Int) != 0) = true := by simp; omega
                have hr2 : (r != 0) = true := by simp; omega
                go_wp2
                go_roundw
                case rel => exact ⟨e + 1, d, q, qv, rfl, by simp, by omega, HB.out, HV.out, HN.out, HQ.out⟩
                case measure => simp [intOf]; omega
            · obtain rfl : e = m := by omega
              have hlt2 : ¬ ((e : Int) < (e : Int)) := by omega
              have HNEXT := Lib.hid (HB.out.next HV.out (fun u hed hok => by
                obtain ⟨x, h1, h2, h3, h4⟩ := hed
                have := HALL.out x h1 h2 h4 (by rw [h3]; exact hok)
                rw [h3] at this; exact this))
              have hhl : h < q.length := (List.getElem?_eq_some_iff.1 HV.out).1
              go_wp2
              go_roundw
              case rel => exact ⟨h + 1, d, q, qv, rfl, by simp, HNEXT.out, HQ.out⟩
              case measure => simp [intOf]; omega
        · have hlt2 : ¬ ((h : Int) < (q.length : Int)) := by omega
          have HARR : Hid (Arr wr 3 (some ⟨w.heap.size, 0, none⟩) i (fun j => .int .i64 ((d j : Int) - 1))) := Lib.hid (by
            obtain ⟨⟨cs, h1, h2, h3⟩, _⟩ := HQ.out
            exact Arr.of_blk h1 h3)
          clear hqf
          go_wp2
          go_ret
          exact ⟨w.heap.size, d, q, h, rfl, HARR.out, HB.out, by omega, fun u => Nat.le_trans (HQ.out.le u) hql, HQ.out.gr⟩
end Go.Proofs.YtecncdcfmmceeaaGreat
