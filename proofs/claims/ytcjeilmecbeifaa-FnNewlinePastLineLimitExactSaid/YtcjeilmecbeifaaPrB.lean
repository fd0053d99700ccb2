/- The law file's helpers over rows of bytes: copy, equality, prefix, all spaces. -/
import Derived.Test.YtcjeilmecbeifaaRows
import Derived.Test.YtcjeilmecbeifaaWords
import Derived.WalkKit
import Derived.WalkSpells
import Derived.LoopTactic
import Derived.Laws.MakeOwn
import Derived.Laws.CopyOwn
import Derived.Deep.Light
import Derived.BigRegion
import Derived.Outline
namespace Go.Proofs.Ytcjeilmecbeifaa
open Go.RowKit
set_option linter.unusedVariables false
set_option linter.unusedSimpArgs false

theorem reads_cell {k : IntKind} {w : World} {B : Nat} {A : Option Addr} {n : Nat} {zs : List Int} (h : Reads w B 1 A n (zs.map (Value.int k))) (hn : 0 < n) :
    ∃ b off, A = some ⟨b, off, none⟩ ∧ b < B ∧ ∀ i, i < n → w.cell? ⟨b, off + i, none⟩ = some (.int k (zs.getD i 0)) := by
  have hlen : zs.length = n := by have := h.1; simpa using this
  obtain ⟨ad, u, rfl, hb, _, hc⟩ := h.at_ hn
  obtain ⟨b, off, spot⟩ := ad
  have hs : spot = none := World.cell?_spot (show w.cell? ⟨b, off, spot⟩ = some u from hc)
  subst hs
  refine ⟨b, off, rfl, hb, fun i hi => ?_⟩
  obtain ⟨ad', u', e1, _, hx, hc'⟩ := h.at_ hi
  obtain rfl := Option.some.inj e1
  rw [List.getElem?_map, List.getElem?_eq_getElem (by omega)] at hx
  rw [List.getD_eq_getElem?_getD, List.getElem?_eq_getElem (by omega)]
  have hu := Option.some.inj hx
  rw [Option.getD_some, show (Value.int k zs[i]) = u' from hu, ← hc']
  unfold Addr.add
  split
  · rename_i h0; subst h0; rfl
  · rfl
theorem eq_of_getD (xs ys : List Int) (hl : xs.length = ys.length) (h : ∀ j, j < xs.length → xs.getD j 0 = ys.getD j 0) : xs = ys := by
  apply List.ext_getElem hl
  intro i h1 h2
  have := h i h1
  rwa [List.getD_eq_getElem?_getD, List.getD_eq_getElem?_getD, List.getElem?_eq_getElem h1, List.getElem?_eq_getElem h2] at this
theorem u8Info : (Try.prog.info? 5).map (fun i => (i.zero, i.size, i.bytes)) = some (some (.int .u8 0), 1, 1) := by kernel_rfl

set_option maxHeartbeats 1000000 in
set_option maxRecDepth 100000 in
theorem eq_any (A : Option Addr) (n c : Nat) (xs : List Int) (A' : Option Addr) (n' c' : Nat) (ys : List Int) (w : World) (hx : Reads w w.heap.size 1 A n (xs.map (Value.int .u8))) (hy : Reads w w.heap.size 1 A' n' (ys.map (Value.int .u8))) (hn : n ≤ 16777216) (hn' : n' ≤ 16777216) :
    Calls Try.prog 11 #[.slice A n c, .slice A' n' c'] w fun e w' => e = .returned (.bool (decide (xs = ys))) ∧ Below w.heap.size w w' := by
  have lx : xs.length = n := by have := hx.1; simpa using this
  have ly : ys.length = n' := by have := hy.1; simpa using this
  have HLX := Lib.hid lx; have HLY := Lib.hid ly; have HX := Lib.hid hx; have HY := Lib.hid hy
  clear lx ly hx hy
  by_cases e : n = n'
  · subst e
    go_enter Try.func11, Try.ntmps11
    go_wp2
    go_loopw [5] (fun i wr => ∃ k : Nat, i = .int .i64 k ∧ k ≤ n ∧ (∀ j, j < k → xs.getD j 0 = ys.getD j 0) ∧ Below w.heap.size w wr) (fun i _ => n - (intOf i).toNat)
    case atStart => exact ⟨0, rfl, by omega, fun j hj => by omega, Below.refl _ _⟩
    case round =>
      obtain ⟨k, rfl, hk, hall, hbw⟩ := hrel
      have HALL := Lib.hid hall
      clear hall
      by_cases hlt : k < n
      · obtain ⟨b, off, rfl, hb, hc⟩ := reads_cell (HX.out.below hbw) (by omega)
        obtain ⟨b', off', rfl, hb', hc'⟩ := reads_cell (HY.out.below hbw) (by omega)
        have ck := hc k hlt
        have ck' := hc' k hlt
        generalize ex : xs.getD k 0 = x at ck
        generalize ey : ys.getD k 0 = y at ck'
        have EX := Lib.hid ex; have EY := Lib.hid ey
        clear hc hc' ex ey
        by_cases hxy : x = y
        · subst hxy
          go_wp2
          go_region
          all_goals
            go_wp2
            go_roundw
            case rel =>
              refine ⟨k + 1, by go_num, by omega, fun j hj => ?_, by repeat (first | exact hbw | apply Below.drew | apply below_drewN)⟩
              by_cases e : j = k
              · rw [e, EX.out, EY.out]
              · exact HALL.out j (by omega)
            case measure => simp [intOf]; omega
        · have hd : (x != y) = true := by simpa using hxy
          have HF : Hid (decide (xs = ys) = false) := Lib.hid (by
            rw [decide_eq_false_iff_not]; rintro rfl; exact hxy (EX.out.symm.trans EY.out))
          go_wp2
          go_region
          all_goals
            go_wp2
            go_ret
            exact ⟨ret_bool HF.out.symm, by repeat (first | exact hbw | apply Below.drew | apply below_drewN)⟩
      · obtain rfl : k = n := by omega
        have HF : Hid (decide (xs = ys) = true) := Lib.hid (by
          rw [decide_eq_true_iff]; exact eq_of_getD xs ys (by rw [HLX.out, HLY.out]) (fun j hj => HALL.out j (by have := HLX.out; omega)))
        have d1 : decide ((k : Int) < k) = false := by simp
        go_wp2
        go_ret
        exact ⟨ret_bool HF.out.symm, by first | exact hbw | exact Below.refl _ _⟩
  · have hd : ((n : Int) != n') = true := by simpa using (by omega : ¬ (n : Int) = n')
    have HF : Hid (decide (xs = ys) = false) := Lib.hid (by
      rw [decide_eq_false_iff_not]; rintro rfl; exact e (HLX.out.symm.trans HLY.out))
    go_enter Try.func11, Try.ntmps11
    go_wp2
    go_ret
    exact ⟨ret_bool HF.out.symm, by first | exact hbw | exact Below.refl _ _⟩

def sp (xs : List Int) : Bool := xs.all (· == 32)
set_option maxHeartbeats 1000000 in
set_option maxRecDepth 100000 in
theorem spaces_any (A : Option Addr) (n c : Nat) (xs : List Int) (B : Nat) (w : World) (hx : Reads w B 1 A n (xs.map (Value.int .u8))) (hn : n ≤ 16777216) :
    Calls Try.prog 14 #[.slice A n c] w fun e w' => e = .returned (.bool (sp xs)) ∧ w = w' := by
  have lx : xs.length = n := by have := hx.1; simpa using this
  have HLX := Lib.hid lx; have HX := Lib.hid hx
  clear lx hx
  go_enter Try.func14, Try.ntmps14
  go_wp2
  go_loop [3] (fun i => ∃ k : Nat, i = .int .i64 k ∧ k ≤ n ∧ ∀ j, j < k → xs.getD j 0 = 32) (fun i => n - (intOf i).toNat)
  case atStart => exact ⟨0, rfl, by omega, fun j hj => by omega⟩
  case round =>
    obtain ⟨k, rfl, hk, hall⟩ := hrel
    have HALL := Lib.hid hall
    clear hall
    by_cases hlt : k < n
    · obtain ⟨b, off, rfl, hb, hc⟩ := reads_cell HX.out (by omega)
      have ck := hc k hlt
      generalize ex : xs.getD k 0 = x at ck
      have EX := Lib.hid ex
      clear hc ex
      by_cases hxy : x = 32
      · subst hxy
        go_wp2
        go_round
        case rel =>
          refine ⟨k + 1, by go_num, by omega, fun j hj => ?_⟩
          by_cases e : j = k
          · rw [e, EX.out]
          · exact HALL.out j (by omega)
        case measure => simp [intOf]; omega
      · have hd : (x != 32) = true := by simpa using hxy
        have HF : Hid (sp xs = false) := Lib.hid (by
          unfold sp
          rw [List.all_eq_false]
          have hkl : k < xs.length := by have := HLX.out; omega
          refine ⟨xs[k], List.getElem_mem hkl, ?_⟩
          have := EX.out
          rw [List.getD_eq_getElem?_getD, List.getElem?_eq_getElem hkl] at this
          simpa [show xs[k] = x from this] using hxy)
        go_wp2
        go_ret
        exact ⟨ret_bool HF.out.symm, rfl⟩
    · obtain rfl : k = n := by omega
      have HF : Hid (sp xs = true) := Lib.hid (by
        unfold sp
        rw [List.all_eq_true]
        intro u hu
        obtain ⟨j, hj, rfl⟩ := List.getElem_of_mem hu
        have := HALL.out j (by have := HLX.out; omega)
        rw [List.getD_eq_getElem?_getD, List.getElem?_eq_getElem hj] at this
        simpa using this)
      have d1 : decide ((k : Int) < k) = false := by simp
      go_wp2
      go_ret
      exact ⟨ret_bool HF.out.symm, rfl⟩

theorem Reads.take {w : World} {B n : Nat} {A : Option Addr} {xs : List Int} {k : IntKind} (h : Reads w B 1 A n (xs.map (Value.int k))) {m : Nat} (hm : m ≤ n) : Reads w B 1 A m ((xs.take m).map (Value.int k)) := by
  have lx : xs.length = n := by have := h.1; simpa using this
  refine ⟨by simp; omega, fun hm0 => ?_⟩
  obtain ⟨ad, e, hb, hc⟩ := h.2 (by omega)
  refine ⟨ad, e, hb, fun j u hu => hc j u ?_⟩
  have hj : j < m := by
    have := (List.getElem?_eq_some_iff.1 hu).1
    simp at this; omega
  rw [List.getElem?_map, List.getElem?_take_of_lt hj] at hu
  rw [List.getElem?_map]; exact hu
set_option maxHeartbeats 1000000 in
set_option maxRecDepth 100000 in
theorem prefix_any (A : Option Addr) (n c : Nat) (xs : List Int) (A' : Option Addr) (n' c' : Nat) (ys : List Int) (w : World) (hx : Reads w w.heap.size 1 A n (xs.map (Value.int .u8))) (hy : Reads w w.heap.size 1 A' n' (ys.map (Value.int .u8))) (hn : n ≤ 16777216) (hn' : n' ≤ n) (hc : n ≤ c) (hA : A = none → n = 0 ∧ c = 0) (hcm : c ≤ maxLen) :
    Calls Try.prog 13 #[.slice A n c, .slice A' n' c'] w fun e w' => e = .returned (.bool (decide (xs.take n' = ys))) ∧ Below w.heap.size w w' := by
  have d1 : decide ((n : Int) < n') = false := by simp; omega
  have HX := Lib.hid hx; have HY := Lib.hid hy
  clear hx hy
  unfold maxLen at hcm
  cases A with
  | none =>
    obtain ⟨rfl, rfl⟩ := hA rfl
    obtain rfl : n' = 0 := by omega
    clear d1
    go_enter Try.func13, Try.ntmps13
    go_wp2_with (go_at_call 11; refine (eq_any none 0 0 (xs.take 0) A' 0 c' ys _ (HX.out.take (by omega)) HY.out (by omega) (by omega)).mono ?_; rintro e w1 ⟨rfl, hb1⟩)
    go_ret
    exact ⟨ret_bool (by rw [List.take_zero, decide_eq_decide]; exact eq_comm), hb1⟩
  | some ad =>
    go_enter Try.func13, Try.ntmps13
    go_wp2_with (go_at_call 11; refine (eq_any (some ad) n' _ (xs.take n') _ n' _ ys _ (HX.out.take (by omega)) HY.out (by omega) (by omega)).mono ?_)
    rintro e w1 ⟨rfl, hb1⟩
    go_wp2
    go_ret
    exact ⟨rfl, hb1⟩

/-- What the copy hands back: a row of its own, with just the bytes. -/
def copyPost (w : World) (n : Nat) (xs : List Value) (e : Ending) (w' : World) : Prop :=
  ∃ A c, e = .returned (.slice A n c) ∧ w'.ownsRow w.heap.size 5 1 (.slice A n c) n xs ∧ Below w.heap.size w w'
set_option maxHeartbeats 1000000 in
set_option maxRecDepth 100000 in
theorem copy_any (A : Option Addr) (n c : Nat) (xs : List Int) (w : World) (hx : Reads w w.heap.size 1 A n (xs.map (Value.int .u8))) (hn : n ≤ 16777216) (hA : A = none → n = 0) :
    Calls Try.prog 6 #[.slice A n c] w (copyPost w n (xs.map (Value.int .u8))) := by
  have heq : ∀ (W : World) (a : Option Addr) (l c : Nat), (binOp .eql 22 (.slice a l c) (.slice none 0 0)).run Try.prog W = .ok (.bool a.isNone) W := fun W a l c => Lib.run_eql_slice_nil W 22 5 a l c 0 0 Try.underlying22
  have HX := Lib.hid hx
  have lx : xs.length = n := by have := hx.1; simpa using this
  have HLX := Lib.hid lx
  clear hx lx
  cases A with
  | none =>
    obtain rfl := hA rfl
    go_enter Try.func6, Try.ntmps6
    go_wp2
    go_ret
    have : xs = [] := List.eq_nil_of_length_eq_zero HLX.out
    subst this
    exact ⟨none, 0, rfl, World.ownsRow_nil _ _ _ _, Below.refl _ _⟩
  | some ad =>
    obtain ⟨i0, hi, hz0, hz1, hz2⟩ := info_parts u8Info
    have hmk : ∀ W : World, (Instr.makeSlice 22 (.int .i64 (n : Int)) (.int .i64 (n : Int))).run Try.prog W = .ok (.slice (some ⟨W.heap.size, 0, none⟩) n n) (W.alloc (.cells (madeCells #[.int .u8 0] n) 5)) := fun W => by
      have := run_make (P := Try.prog) W 22 5 i0 (.int .u8 0) Try.underlying22 hi hz0 .i64 .i64 n n (by omega) (by omega) (by rw [hz2]; omega) (by omega)
      simpa [hz1, Value.cells] using this
    have hsz : (Try.prog.info? 5).map (·.size) = some 1 := by kernel_rfl
    obtain ⟨X1, hX1⟩ : ∃ X1, X1 = xs.map (Value.int .u8) := ⟨_, rfl⟩
    have HX1 := Lib.hid hX1
    obtain ⟨cur, hcur⟩ : ∃ cur, cur = (madeCells #[Value.int .u8 0] n).toList := ⟨_, rfl⟩
    have HCUR := Lib.hid hcur
    have HCL : Hid (cur.length = n) := Lib.hid (by rw [hcur]; simp [madeCells])
    have HG : Hid ((w.alloc (.cells (madeCells #[.int .u8 0] n) 5)).heap[w.heap.size]? = some (.cells cur.toArray 5 (0, 0))) := Lib.hid (by rw [hcur]; exact heap_alloc_new w _)
    have HSRC : Hid (∀ j v, X1[j]? = some v → (w.alloc (.cells (madeCells #[.int .u8 0] n) 5)).cell? (ad.add j) = some v) := Lib.hid (by
      intro j v hv
      rw [HX1.out] at hv
      have hj : j < n := by have := (List.getElem?_eq_some_iff.1 hv).1; have := HLX.out; simp at *; omega
      obtain ⟨ad', e, hb, hc⟩ := (HX.out.alloc (Nat.le_refl _) (.cells (madeCells #[.int .u8 0] n) 5)).2 (by omega)
      obtain rfl := Option.some.inj e
      exact hc j v hv)
    clear hX1 hcur
    go_enter Try.func6, Try.ntmps6
    go_wp2_with (with_reducible refine wpList_copy_splice (o := ⟨some 11, _, _, _, _, _⟩) rfl _ _ _ _ rfl 5 Try.underlying22 hsz (some ⟨w.heap.size, 0, none⟩) (some ad) n n n c rfl rfl w.heap.size 0 cur 5 HG.out X1 ?h1 ?h2 ?h3 ?h4 w.heap.size w ?h5 (Nat.le_refl _) ?_)
    case h1 => rw [HX1.out]; simp [HLX.out]
    case h2 => intro _; first | exact ⟨rfl, ad, rfl, HSRC.out⟩ | exact HSRC.out
    case h3 => have := HCL.out; rw [HX1.out]; simp; have := HLX.out; omega
    case h4 =>
      rw [HX1.out]; intro v hv
      obtain ⟨_, _, rfl⟩ := List.mem_map.1 hv
      rfl
    case h5 => exact (Below.refl _ _).alloc (Nat.le_refl _) _
    intro w2 HG2 hB2
    go_wp2
    go_ret
    refine ⟨_, n, rfl, ⟨by simp [HLX.out], .inr ⟨w.heap.size, n, _, rfl, Nat.le_refl _, HG2.out, Nat.le_refl _, by unfold maxLen; omega, ?_, ?_⟩⟩, hB2⟩
    · have := HCL.out; have := HLX.out; rw [HX1.out]; simp [splice]; omega
    · have hl := HLX.out; rw [HX1.out, Nat.mul_one]; simp only [splice, List.take_zero, List.nil_append, Nat.zero_add]; exact List.take_left' (by simpa using hl)
end Go.Proofs.Ytcjeilmecbeifaa
