/- The helpers of the model of the order of versions: strip, digits, number, part, pieces. -/
import Derived.Test.YtanhijhhceakjaaDoorSeH
import Derived.Test.YtanhijhhceakjaaDoorSmQ
import Derived.Test.YtanhijhhceakjaaDoorApp
import Derived.Deep.Light
namespace Go.Proofs.YtanhijhhceakjaaDoor
open Go.RowKit
set_option linter.unusedVariables false
set_option linter.unusedSimpArgs false
def IntPost (v : Int) (w : World) (e : Ending) (w' : World) : Prop := e = .returned (.int .i64 v) ∧ w = w'
def BoolPost (v : Bool) (w : World) (e : Ending) (w' : World) : Prop := e = .returned (.bool v) ∧ w = w'
theorem byte_list (s : ByteArray) (i : Nat) (h : i < s.size) : s.data.toList[i]? = some (s[i]'h) := by
  rw [List.getElem?_eq_getElem (by simpa using h)]; rfl
set_option maxRecDepth 100000 in
theorem strip_any (s : ByteArray) (hs : s.size ≤ 1048576) (w : World) : Calls Tryd.prog 19 #[.string s] w (TrimPost s w) := by
  by_cases h0 : 0 < s.size
  · have HT : Hid (s.data.toList.take 1 = [s[0]]) := Lib.hid (by
      have := byte_list s 0 h0
      cases e : s.data.toList with
      | nil => rw [e] at this; simp at this
      | cons c r => rw [e] at this; simp at this; simp [this])
    by_cases hc : s[0].toNat = 45
    · have t1 : ((s[0].toNat : Int) == 45) = true := by simp; omega
      have HS : Hid (stripP s.data.toList = s.data.toList.drop 1) := Lib.hid (by
        rw [strip_take, if_pos]; rw [HT.out]; congr 1; exact UInt8.toNat_inj.1 hc)
      clear hc
      go_enter Tryd.func19, Tryd.ntmps19
      go_wp2
      go_ret
      exact ⟨s.extract 1 s.size, rfl, by rw [HS.out, Lib.extract_data]; simp [List.take_of_length_le], by simp, rfl⟩
    · have t1 : ((s[0].toNat : Int) == 45) = false := by simp; omega
      have HS : Hid (stripP s.data.toList = s.data.toList) := Lib.hid (by
        rw [strip_take, if_neg]; rw [HT.out]; intro q; apply hc; rw [List.cons.inj q |>.1]; rfl)
      clear hc
      go_enter Tryd.func19, Tryd.ntmps19
      go_wp2
      go_ret
      exact ⟨s, rfl, HS.out.symm, Nat.le_refl _, rfl⟩
  · have HS : Hid (stripP s.data.toList = s.data.toList) := Lib.hid (by
      have : s.data.toList = [] := List.eq_nil_of_length_eq_zero (by rw [size_list]; omega)
      rw [this]; rfl)
    go_enter Tryd.func19, Tryd.ntmps19
    go_wp2
    go_ret
    exact ⟨s, rfl, HS.out.symm, Nat.le_refl _, rfl⟩
set_option maxHeartbeats 1000000 in
set_option maxRecDepth 100000 in
theorem adig_any (s : ByteArray) (hs : s.size ≤ 1048576) (w : World) : Calls Tryd.prog 20 #[.string s] w (BoolPost (dgB s.data.toList) w) := by
  by_cases h0 : s.size = 0
  · have HF : Hid (dgB s.data.toList = false) := Lib.hid (by
      have : s.data.toList = [] := List.eq_nil_of_length_eq_zero (by rw [size_list]; omega)
      rw [this]; rfl)
    have e0 : ((s.size : Int) == 0) = true := by simpa using h0
    go_enter Tryd.func20, Tryd.ntmps20
    go_wp2
    go_ret
    exact ⟨ret_bool HF.out.symm, rfl⟩
  have e0 : ((s.size : Int) == 0) = false := by simpa using h0
  have HNE := Lib.hid (show s.data.toList ≠ [] from fun e => h0 (by rw [← size_list, e]; rfl))
  clear h0
  go_enter Tryd.func20, Tryd.ntmps20
  go_wp2
  go_loop [3] (fun i => ∃ k : Nat, i = .int .i64 k ∧ k ≤ s.size ∧ ∀ j, j < k → dgAt s j) (fun i => s.size - (intOf i).toNat)
  case atStart => exact ⟨0, rfl, by omega, fun j hj => by omega⟩
  case round =>
    obtain ⟨k, rfl, hk, hall⟩ := hrel
    have HALL := Lib.hid hall
    clear hall
    by_cases hlt : k < s.size
    · have hq := byteAt_eq s k hlt
      by_cases hc : dgAt s k
      · have HC := Lib.hid hc
        unfold dgAt at hc
        have h3 : decide (((s[k]).toNat : Int) < 48) = false := by simp; omega
        have h4 : decide ((57 : Int) < ((s[k]).toNat : Int)) = false := by simp; omega
        clear hq hc
        go_wp2
        go_round
        case rel =>
          refine ⟨k + 1, by go_num, by omega, fun j hj => ?_⟩
          by_cases e : j = k
          · subst e; exact HC.out
          · exact HALL.out j (by omega)
        case measure => simp [intOf]; omega
      · have HF : Hid (dgB s.data.toList = false) := Lib.hid (by unfold dgB; rw [dig_not s k hlt hc]; rfl)
        unfold dgAt at hc
        by_cases h5 : ((s[k]).toNat : Int) < 48
        · have h3 : decide (((s[k]).toNat : Int) < 48) = true := by simp; omega
          clear hq hc
          go_wp2
          go_ret
          exact ⟨ret_bool HF.out.symm, rfl⟩
        · have h3 : decide (((s[k]).toNat : Int) < 48) = false := by simp; omega
          have h4 : decide ((57 : Int) < ((s[k]).toNat : Int)) = true := by simp; omega
          clear hq hc
          go_wp2
          go_ret
          exact ⟨ret_bool HF.out.symm, rfl⟩
    · have HF : Hid (dgB s.data.toList = true) := Lib.hid ((dgB_iff _).2 ⟨dig_of s (fun j hj => HALL.out j (by omega)), HNE.out⟩)
      go_wp2
      go_ret
      exact ⟨ret_bool HF.out.symm, rfl⟩
def NV (s : ByteArray) (k : Nat) : Nat := decL 0 (s.data.toList.take k)
theorem NV_succ (s : ByteArray) (k : Nat) (hk : k < s.size) : NV s (k + 1) = NV s k * 10 + (byteAt s k - 48) := by
  unfold NV
  have hl : k < s.data.toList.length := by simpa using hk
  rw [List.take_add_one, List.getElem?_eq_getElem hl, Option.toList_some, decL_snoc, byteAt_eq s k hk]
  rfl
theorem NV_all (s : ByteArray) : NV s s.size = decL 0 s.data.toList := by
  unfold NV; rw [List.take_of_length_le (by simp)]
theorem NV_lt (s : ByteArray) (k : Nat) (hs : s.size ≤ 9) (hd : digL s.data.toList = true) : NV s k < 1000000000 := by
  unfold NV
  have h1 := decL_lt (s.data.toList.take k) 0 (by
    unfold digL at *; rw [List.all_eq_true] at *; intro x hx; exact hd x (List.mem_of_mem_take hx))
  have h2 : (s.data.toList.take k).length ≤ 9 := by rw [List.length_take, size_list]; omega
  have h4 : 10 ^ (s.data.toList.take k).length ≤ 10 ^ 9 := Nat.pow_le_pow_right (by omega) h2
  have h5 : (10 : Nat) ^ 9 = 1000000000 := by decide
  omega
theorem dig_at (s : ByteArray) (hd : digL s.data.toList = true) (k : Nat) (hk : k < s.size) : dgAt s k := by
  by_cases h : dgAt s k
  · exact h
  · have := dig_not s k hk h
    rw [hd] at this; cases this
set_option maxHeartbeats 1000000 in
set_option maxRecDepth 100000 in
theorem num_any (s : ByteArray) (hs : s.size ≤ 9) (hd : digL s.data.toList = true) (w : World) : Calls Tryd.prog 25 #[.string s] w (IntPost (decL 0 s.data.toList) w) := by
  have HD := Lib.hid hd
  clear hd
  go_enter Tryd.func25, Tryd.ntmps25
  go_wp2
  go_loop [3, 4] (fun v i => ∃ k : Nat, i = .int .i64 k ∧ k ≤ s.size ∧ v = .int .i64 (NV s k)) (fun _ i => s.size - (intOf i).toNat)
  case atStart => exact ⟨0, rfl, by omega, rfl⟩
  case round =>
    obtain ⟨k, rfl, hk, rfl⟩ := hrel
    have hb := NV_lt s k hs HD.out
    by_cases hlt : k < s.size
    · have hq := byteAt_eq s k hlt
      have hdg := dig_at s HD.out k hlt
      unfold dgAt at hdg
      have HS := Lib.hid (NV_succ s k hlt)
      have HQ := Lib.hid hq
      have hx1 : (48 : Int) ≤ ((s[k]).toNat : Int) := by omega
      have hx2 : ((s[k]).toNat : Int) ≤ 57 := by omega
      clear hq hdg
      go_wp2
      go_round
      case rel => exact ⟨k + 1, by go_num, by omega, by rw [HS.out, HQ.out]; congr 1; omega⟩
      case measure => simp [intOf]; omega
    · obtain rfl : k = s.size := by omega
      go_wp2
      go_ret
      exact ⟨ret_int (by rw [NV_all]), rfl⟩
set_option maxRecDepth 100000 in
theorem part_any (A : Option Addr) (n cap : Nat) (zs : List Int) (k : Nat) (w : World) (hr : Reads w w.heap.size 1 A n (zs.map (Value.int .i64))) (hn : n ≤ 16777216) (hk : k ≤ 16777216) :
    Calls Tryd.prog 24 #[.slice A n cap, .int .i64 k] w (IntPost (zs.getD k 0) w) := by
  have HLEN := Lib.hid (show zs.length = n by have := hr.1; simpa using this)
  have HR := Lib.hid hr
  clear hr
  by_cases hlt : k < n
  · obtain ⟨b, off, rfl, hb, hc⟩ := reads_cell HR.out (by omega)
    have hck := hc k hlt
    clear hc
    go_enter Tryd.func24, Tryd.ntmps24
    go_wp2
    go_ret
    exact ⟨rfl, rfl⟩
  · have HP := Lib.hid (getD_past zs k (by have := HLEN.out; omega))
    go_enter Tryd.func24, Tryd.ntmps24
    go_wp2
    go_ret
    exact ⟨ret_int HP.out.symm, rfl⟩
/-- A piece as the program's string. -/
def strV (l : Bs) : Value := .string ⟨l.toArray⟩
theorem strI : (Tryd.prog.info? 9).map (fun i => (i.zero, i.size, i.bytes)) = some (some (.string ⟨#[]⟩), 1, 16) := by kernel_rfl
theorem srcStr (W : World) (x : Value) (hx : x.oneCell' = true) : Src Tryd.prog 1 38 (.slice (some ⟨W.heap.size, 0, none⟩) 1 1) 1 [x] (W.alloc (.cells #[x] 9)) :=
  Src.ofSlice _ Tryd.underlying38 _ 1 1 [x] rfl (fun j u hu => by
    have hj : j < 1 := (List.getElem?_eq_some_iff.1 hu).1
    obtain rfl : j = 0 := by omega
    rw [← hu]
    exact (Blk.new W 9 #[x]).cell 0) (fun u hu => by
    obtain rfl : u = x := by simpa using hu
    exact hx)
theorem extract_eq (s : ByteArray) (i j : Nat) : Value.string (s.extract i j) = strV ((s.data.toList.take j).drop i) := by
  unfold strV
  congr 1
  apply ByteArray.ext
  apply Array.ext'
  rw [Lib.extract_data]
  show _ = List.drop i (List.take j s.data.toList)
  rw [List.drop_take]
theorem drop_take_eq (L : Bs) (st i : Nat) : (L.take i).drop st = (L.drop st).take (i - st) := by rw [List.drop_take]
/-- The loop's state: the pieces laid so far, the start of the next. -/
structure Cut (L : Bs) (st i : Nat) (out : List Bs) : Prop where
  le : st ≤ i
  num : out.length ≤ st
  eq : idl L = out ++ idl (L.drop st)
  no : ∀ c ∈ (L.take i).drop st, c ≠ 46
theorem Cut.zero (L : Bs) : Cut L 0 0 [] := ⟨Nat.le_refl _, Nat.le_refl _, by simp, by simp⟩
theorem Cut.dot {L : Bs} {st i : Nat} {out : List Bs} (h : Cut L st i out) (hi : L[i]? = some 46) : Cut L (i + 1) (i + 1) (out ++ [(L.take i).drop st]) := by
  obtain ⟨hl, hv⟩ := List.getElem?_eq_some_iff.1 hi
  have e : L.drop st = (L.take i).drop st ++ 46 :: L.drop (i + 1) := by
    have h1 : L.drop i = 46 :: L.drop (i + 1) := by rw [← hv]; exact List.drop_eq_getElem_cons hl
    rw [← h1, ← List.drop_append_of_le_length (by rw [List.length_take]; have := h.le; omega), List.take_append_drop]
  have hs := hd_some _ (L.drop (i + 1)) h.no
  rw [← e] at hs
  refine ⟨Nat.le_refl _, by have := h.num; have := h.le; simp; omega, ?_, by simp⟩
  rw [h.eq, idl_cons (L.drop st) (by rw [e]; simp), hs.1, hs.2, List.append_assoc]; rfl
theorem Cut.next {L : Bs} {st i : Nat} {out : List Bs} (h : Cut L st i out) {c : UInt8} (hi : L[i]? = some c) (hc : c ≠ 46) : Cut L st (i + 1) out := by
  refine ⟨by have := h.le; omega, h.num, h.eq, fun x hx => ?_⟩
  obtain ⟨hl, hv⟩ := List.getElem?_eq_some_iff.1 hi
  rw [List.take_add_one, hi, Option.toList_some, List.drop_append_of_le_length (by rw [List.length_take]; have := h.le; omega)] at hx
  rcases List.mem_append.1 hx with h1 | h1
  · exact h.no x h1
  · rw [List.mem_singleton.1 h1]; exact hc
theorem Cut.last {L : Bs} {st : Nat} {out : List Bs} (h : Cut L st L.length out) (hne : L.drop st ≠ []) : idl L = out ++ [L.drop st] := by
  have hn := hd_none (L.drop st) (by have := h.no; rwa [List.take_length] at this)
  rw [h.eq, idl_cons _ hne, hn.1, hn.2, idl_nil]
theorem Cut.end_ {L : Bs} {st : Nat} {out : List Bs} (h : Cut L st L.length out) (hne : L.drop st = []) : idl L = out := by
  rw [h.eq, hne, idl_nil, List.append_nil]
def IdPost (l : Bs) (w : World) (e : Ending) (w' : World) : Prop :=
  ∃ A c, e = .returned (.slice A (idl l).length c) ∧ Reads w' w'.heap.size 1 A (idl l).length ((idl l).map strV) ∧ Below w.heap.size w w'
theorem idpost_of {l : Bs} {w w' : World} {B : Nat} {v : Value} {xs : List Bs} (h : w'.ownsRow B 9 1 v xs.length (xs.map strV)) (e : idl l = xs) (hb : Below w.heap.size w w') : IdPost l w (.returned v) w' := by
  subst e
  rcases h.2 with ⟨hv, h0⟩ | ⟨g, cap, cur, hv, _⟩
  · refine ⟨none, 0, by rw [hv, h0], ?_, hb⟩
    have : (idl l).map strV = [] := List.eq_nil_of_length_eq_zero (by rw [List.length_map]; exact h0)
    rw [this, h0]; exact Reads.none_
  · subst hv
    exact ⟨_, _, rfl, Reads.of_own h, hb⟩
def IdRel (s : ByteArray) (w : World) (v st i : Value) (wr : World) : Prop :=
  ∃ (a k : Nat) (out : List Bs), st = .int .i64 a ∧ i = .int .i64 k ∧ k ≤ s.size ∧ Cut s.data.toList a k out ∧ wr.ownsRow w.heap.size 9 1 v out.length (out.map strV) ∧ Below w.heap.size w wr
set_option maxHeartbeats 2000000 in
set_option maxRecDepth 100000 in
theorem ids_any (s : ByteArray) (hs : s.size ≤ 1048576) (w : World) : Calls Tryd.prog 18 #[.string s] w (IdPost s.data.toList w) := by
  obtain ⟨i0, hi, hz0, hz1, hz2⟩ := info_parts strI
  go_enter Tryd.func18, Tryd.ntmps18
  go_wp2
  go_loopw [3, 4, 5] (fun v st i wr => IdRel s w v st i wr) (fun _ _ i _ => s.size - (intOf i).toNat)
  case atStart => exact ⟨0, 0, [], rfl, rfl, by omega, Cut.zero _, World.ownsRow_nil _ _ _ _, Below.refl _ _⟩
  case round =>
    obtain ⟨a, k, out, rfl, rfl, hk, hcut, hown, hb⟩ := hrel
    have hak := hcut.le
    have hon := hcut.num
    have hs1 := hb.size
    have HC := Lib.hid hcut; have HO := Lib.hid hown; have HB := Lib.hid hb
    clear hcut hown hb
    by_cases hlt : k < s.size
    · have HQ := Lib.hid (byte_list s k hlt)
      by_cases hc : s[k].toNat = 46
      · have t1 : ((s[k].toNat : Int) == 46) = true := by simp; omega
        have HC1 := Lib.hid (HC.out.dot (by rw [HQ.out]; congr 1; exact UInt8.toNat_inj.1 hc))
        clear hc
        go_wp2_with (at_builtin; refine wpList_append_own_src _ rfl (.tmp 17) (.tmp 22) 38 38 rfl w.heap.size 9 i0 (.string ⟨#[]⟩) 1 16 Tryd.underlying38 hi hz0 hz1 hz2 rfl _ _ _ rfl (HO.out.alloc _) _ 1 [.string (s.extract a k)] rfl (srcStr wr (.string (s.extract a k)) rfl) (by unfold maxLen; omega) (by omega) (by simp; omega) ?_)
        intro v1 w1 hown1 hgrow1 _
        have HO1 : Hid (w1.ownsRow w.heap.size 9 1 v1 (out ++ [(s.data.toList.take k).drop a]).length ((out ++ [(s.data.toList.take k).drop a]).map strV)) := Lib.hid (by
          rw [List.map_append, List.length_append, List.map_cons, List.map_nil, ← extract_eq]; exact hown1)
        have HB1 := Lib.hid ((HB.out.alloc hs1 _).grown hgrow1 (by simp; omega) (fun k hk => (HO.out.lt k hk).1))
        clear hown1 hgrow1
        go_wp2
        go_roundw
        case rel => exact ⟨k + 1, k + 1, _, by go_num, by go_num, by omega, HC1.out, HO1.out, HB1.out⟩
        case measure => simp [intOf]; omega
      · have t1 : ((s[k].toNat : Int) == 46) = false := by simp; omega
        have HC1 := Lib.hid (HC.out.next HQ.out (fun q => hc (by rw [q]; rfl)))
        clear hc
        go_wp2
        go_roundw
        case rel => exact ⟨a, k + 1, _, rfl, by go_num, by omega, HC1.out, HO.out, HB.out⟩
        case measure => simp [intOf]; omega
    · obtain rfl : k = s.size := by omega
      have HC' : Hid (Cut s.data.toList a s.data.toList.length out) := Lib.hid (by rw [size_list]; exact HC.out)
      have HX : Hid (Value.string (s.extract a s.size) = strV (s.data.toList.drop a)) := Lib.hid (by
        rw [extract_eq, List.take_of_length_le (by rw [size_list]; exact Nat.le_refl _)])
      by_cases he : a = s.size
      · have HI := Lib.hid (HC'.out.end_ (by rw [List.drop_eq_nil_iff, size_list]; omega))
        have t1 : (s.extract a s.size).toList.isEmpty = true := by
          rw [ByteArray.toList_eq, Lib.extract_data]; simp; omega
        go_wp2
        go_ret
        exact idpost_of HO.out HI.out HB.out
      · have HI := Lib.hid (HC'.out.last (by rw [Ne, List.drop_eq_nil_iff, size_list]; omega))
        have t1 : (s.extract a s.size).toList.isEmpty = false := by
          rw [ByteArray.toList_eq, Lib.extract_data]; simp; omega
        go_wp2_with (at_builtin; refine wpList_append_own_src _ rfl (.tmp 31) (.tmp 33) 38 38 rfl w.heap.size 9 i0 (.string ⟨#[]⟩) 1 16 Tryd.underlying38 hi hz0 hz1 hz2 rfl _ _ _ rfl (HO.out.alloc _) _ 1 [.string (s.extract a s.size)] rfl (srcStr wr (.string (s.extract a s.size)) rfl) (by unfold maxLen; omega) (by omega) (by simp; omega) ?_)
        intro v1 w1 hown1 hgrow1 _
        have HO1 : Hid (w1.ownsRow w.heap.size 9 1 v1 (out ++ [s.data.toList.drop a]).length ((out ++ [s.data.toList.drop a]).map strV)) := Lib.hid (by
          rw [List.map_append, List.length_append, List.map_cons, List.map_nil, ← HX.out]; exact hown1)
        have HB1 := Lib.hid ((HB.out.alloc hs1 _).grown hgrow1 (by simp; omega) (fun k hk => (HO.out.lt k hk).1))
        clear hown1 hgrow1
        go_wp2
        go_ret
        exact idpost_of HO1.out HI.out HB1.out
end Go.Proofs.YtanhijhhceakjaaDoor
