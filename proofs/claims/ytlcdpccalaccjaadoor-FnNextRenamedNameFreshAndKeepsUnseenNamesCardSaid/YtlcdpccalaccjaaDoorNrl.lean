/- n011_64: the law's helpers over lists of names. -/
import Derived.Test.YtlcdpccalaccjaaDoorNrn
import Derived.Lib.LaidTab
import Derived.Stop.LaidErr
import Derived.Handy
import Derived.Lay
import Derived.SevenTiedAt
namespace Go.Proofs.YtlcdpccalaccjaaDoor
open Go.RowKit Go.Maps Go.WideMaps
set_option linter.unusedVariables false
set_option linter.unusedSimpArgs false
theorem pow_eq : (Rows.laid_internal_strconv_uint64pow10 : DataW Unit) = Lib.tabData .u64 Lib.pow10Tab := by kernel_rfl
theorem tab_of {w : World} (h : laidMetH Tryd.prog Rows.fnNextRenamedNameFreshAndKeepsUnseenNamesRow.laid w) : Tab w := by
  rw [MakeChecks.laidMetH_plain _ _ _ (by kernel_rfl)] at h
  have h1 : laidMet Tryd.prog [("internal/strconv.uint64pow10", Rows.laid_internal_strconv_uint64pow10)] w := laidMet.tail (laidMet.tail h)
  rw [pow_eq] at h1
  exact Lib.tabIs_of_head (g := 0) (by kernel_rfl) (by kernel_rfl) Tryd.underlying45 Tryd.underlying37 (by kernel_rfl) (by kernel_rfl) h1
theorem reads_any {α : Type} {f : α → Value} {w : World} {B : Nat} {A : Option Addr} {n : Nat} {L : List α} (h : Reads w B 1 A n (L.map f)) (hn : 0 < n) :
    ∃ b off, A = some ⟨b, off, none⟩ ∧ b < B ∧ ∀ i l, L[i]? = some l → w.cell? ⟨b, off + i, none⟩ = some (f l) := by
  have hlen : L.length = n := by have := h.1; simpa using this
  obtain ⟨ad, u, rfl, hb, _, hc⟩ := h.at_ hn
  obtain ⟨b, off, spot⟩ := ad
  have hs : spot = none := World.cell?_spot (show w.cell? ⟨b, off, spot⟩ = some u from hc)
  subst hs
  refine ⟨b, off, rfl, hb, fun i l hl => ?_⟩
  obtain ⟨ad', e1, _, hc'⟩ := h.2 hn
  obtain rfl := Option.some.inj e1
  have := hc' i (f l) (by rw [List.getElem?_map, hl]; rfl)
  rw [← this]
  unfold Addr.add
  split
  · rename_i h0; subst h0; rfl
  · rfl
def ZbPost (ss : List ByteArray) (w : World) (e : Ending) (w' : World) : Prop := ∃ b, e = .returned (.bool b) ∧ (b = true → ∀ s ∈ ss, s.size ≤ 1048576) ∧ w = w'
def BoolB (b : Bool) (w : World) (e : Ending) (w' : World) : Prop := e = .returned (.bool b) ∧ w = w'
set_option maxHeartbeats 1000000 in
set_option maxRecDepth 100000 in
theorem zbytes (A : Option Addr) (n c : Nat) (ss : List ByteArray) (w : World) (h : Reads w w.heap.size 1 A n (ss.map Value.string)) (hn : n ≤ 9223372036854775807) (hs : ∀ s ∈ ss, s.size ≤ 9223372036854775807) :
    Calls Tryd.prog 4 #[.slice A n c] w (ZbPost ss w) := by
  have hlen : ss.length = n := by have := h.1; simpa using this
  have H := Lib.hid h; have HS := Lib.hid hs; have HL := Lib.hid hlen
  clear h hs hlen
  by_cases hbig : 1048576 < n
  · go_enter Tryd.func4, Tryd.ntmps4
    go_wp2
    go_ret
    exact ⟨_, rfl, (fun h => by cases h), rfl⟩
  go_enter Tryd.func4, Tryd.ntmps4
  go_wp2
  go_loopw [3, 4] (fun z t wr => ∃ k m : Nat, z = .int .i64 m ∧ m ≤ 1048576 ∧ t = .int .i64 k ∧ k ≤ n ∧ (∀ j s, j < k → ss[j]? = some s → s.size ≤ 1048576) ∧ w = wr) (fun z t _ => n - (intOf t).toNat)
  case atStart => exact ⟨0, n, rfl, by omega, rfl, by omega, fun j s hj => by omega, rfl⟩
  case round =>
    obtain ⟨k, m, rfl, hm, rfl, hk, hall, rfl⟩ := hrel
    have HA := Lib.hid hall
    clear hall
    by_cases hlt : k < n
    · obtain ⟨b2, off2, rfl, _, hc2⟩ := reads_any H.out (show 0 < n by omega)
      obtain ⟨x, hx⟩ : ∃ x, ss[k]? = some x := ⟨_, List.getElem?_eq_getElem (by have := HL.out; omega)⟩
      have c2 := hc2 k x hx
      have hxs := HS.out x (List.mem_of_getElem? hx)
      have HX := Lib.hid hx
      clear hc2 hx
      by_cases h1 : 1048576 < x.size
      · go_wp2
        go_ret
        exact ⟨_, rfl, (fun h => by cases h), rfl⟩
      · by_cases h2 : 1048576 < m + x.size
        · go_wp2
          go_ret
          exact ⟨_, rfl, (fun h => by cases h), rfl⟩
        · go_wp2
          go_roundw
          case rel => exact ⟨k + 1, m + x.size, by go_num, by omega, by go_num, by omega, fun j s hj hjs => by
            rcases Nat.lt_or_ge j k with h | h
            · exact HA.out j s h hjs
            · obtain rfl : j = k := by omega
              have := HX.out
              rw [hjs] at this
              obtain rfl := Option.some.inj this
              omega, by first | rfl | trivial⟩
          case measure => simp [intOf]; omega
    · obtain rfl : n = k := by omega
      go_wp2
      go_ret
      exact ⟨_, rfl, (fun _ s hs => by
        obtain ⟨j, hj, rfl⟩ := List.getElem_of_mem hs
        exact HA.out j _ (by have := HL.out; omega) (List.getElem?_eq_getElem hj)), rfl⟩
def SumPost (ss : List ByteArray) (w : World) (e : Ending) (w' : World) : Prop := ∃ r : Int, e = .returned (.int .i64 r) ∧ (r ≤ 1048576 → ∀ s ∈ ss, s.size ≤ 1048576) ∧ w = w'
set_option maxHeartbeats 1000000 in
set_option maxRecDepth 100000 in
theorem zsum (A : Option Addr) (n c : Nat) (ss : List ByteArray) (w : World) (h : Reads w w.heap.size 1 A n (ss.map Value.string)) (hn : n ≤ 1024) (hs : ∀ s ∈ ss, s.size ≤ 9000000000000000000) :
    Calls Tryd.prog 5 #[.slice A n c] w (SumPost ss w) := by
  have hlen : ss.length = n := by have := h.1; simpa using this
  have H := Lib.hid h; have HS := Lib.hid hs; have HL := Lib.hid hlen
  clear h hs hlen
  go_enter Tryd.func5, Tryd.ntmps5
  go_wp2
  go_loopw [3, 4] (fun z t wr => ∃ k m : Nat, z = .int .i64 m ∧ m ≤ 2097152 ∧ t = .int .i64 k ∧ k ≤ n ∧ (∀ j s, j < k → ss[j]? = some s → s.size ≤ m) ∧ w = wr) (fun z t _ => n - (intOf t).toNat)
  case atStart => exact ⟨0, 24, rfl, by omega, rfl, by omega, fun j s hj => by omega, rfl⟩
  case round =>
    obtain ⟨k, m, rfl, hm, rfl, hk, hall, rfl⟩ := hrel
    have HA := Lib.hid hall
    clear hall
    by_cases hlt : k < n
    · obtain ⟨b2, off2, rfl, _, hc2⟩ := reads_any H.out (show 0 < n by omega)
      obtain ⟨x, hx⟩ : ∃ x, ss[k]? = some x := ⟨_, List.getElem?_eq_getElem (by have := HL.out; omega)⟩
      have c2 := hc2 k x hx
      have hxs := HS.out x (List.mem_of_getElem? hx)
      have HX := Lib.hid hx
      clear hc2 hx
      by_cases h1 : 2097152 < m + (16 + x.size)
      · go_wp2
        go_ret
        exact ⟨_, rfl, fun h => by omega, rfl⟩
      · go_wp2
        go_roundw
        case rel => exact ⟨k + 1, m + (16 + x.size), by go_num, by omega, by go_num, by omega, fun j s hj hjs => by
          rcases Nat.lt_or_ge j k with h | h
          · have := HA.out j s h hjs; omega
          · obtain rfl : j = k := by omega
            have := HX.out
            rw [hjs] at this
            obtain rfl := Option.some.inj this
            omega, by first | rfl | trivial⟩
        case measure => simp [intOf]; omega
    · obtain rfl : n = k := by omega
      go_wp2
      go_ret
      refine ⟨_, rfl, fun h s hs => ?_, rfl⟩
      obtain ⟨j, hj, rfl⟩ := List.getElem_of_mem hs
      have := HA.out j _ (by have := HL.out; omega) (List.getElem?_eq_getElem hj)
      omega
theorem mem_take_no {s x : ByteArray} {ss : List ByteArray} {k : Nat} (h : s ∉ ss.take k) (hx : ss[k]? = some x) (hne : x ≠ s) : s ∉ ss.take (k + 1) := by
  rw [List.take_add_one, hx, List.mem_append]
  rintro (h1 | h1)
  · exact h h1
  · simp at h1; exact hne h1.symm
theorem ne_list {a b : ByteArray} (h : a ≠ b) : (a.toList == b.toList) = false := by
  rw [beq_eq_false_iff_ne, ByteArray.toList_eq, ByteArray.toList_eq]
  exact fun e => h (ba_ext e)
set_option maxHeartbeats 1000000 in
set_option maxRecDepth 100000 in
theorem zin (A : Option Addr) (n c : Nat) (ss : List ByteArray) (s : ByteArray) (w : World) (h : Reads w w.heap.size 1 A n (ss.map Value.string)) (hn : n ≤ 9223372036854775807) (r : Bool) (hr : hasS s ss = r) :
    Calls Tryd.prog 7 #[.slice A n c, .string s] w (BoolB r w) := by
  subst hr
  have hlen : ss.length = n := by have := h.1; simpa using this
  have H := Lib.hid h; have HL := Lib.hid hlen
  clear h hlen
  go_enter Tryd.func7, Tryd.ntmps7
  go_wp2
  go_loopw [5] (fun t wr => ∃ k : Nat, t = .int .i64 k ∧ k ≤ n ∧ s ∉ ss.take k ∧ w = wr) (fun t _ => n - (intOf t).toNat)
  case atStart => exact ⟨0, rfl, by omega, by simp, rfl⟩
  case round =>
    obtain ⟨k, rfl, hk, hno, rfl⟩ := hrel
    have HNO := Lib.hid hno
    clear hno
    by_cases hlt : k < n
    · obtain ⟨b2, off2, rfl, _, hc2⟩ := reads_any H.out (show 0 < n by omega)
      obtain ⟨x, hx⟩ : ∃ x, ss[k]? = some x := ⟨_, List.getElem?_eq_getElem (by have := HL.out; omega)⟩
      have c2 := hc2 k x hx
      have HX := Lib.hid hx
      clear hc2 hx
      by_cases he : x = s
      · have HT := Lib.hid (show hasS s ss = true from hasS_iff.2 (List.mem_of_getElem? (he ▸ HX.out)))
        subst he
        go_wp2
        go_ret
        exact ⟨ret_bool HT.out.symm, rfl⟩
      · have HN := Lib.hid (mem_take_no HNO.out HX.out he)
        have hb := ne_list he
        go_wp2
        go_roundw
        case rel => exact ⟨k + 1, by go_num, by omega, HN.out, by first | rfl | trivial⟩
        case measure => simp [intOf]; omega
    · obtain rfl : n = k := by omega
      have HT := Lib.hid (show hasS s ss = false from hasS_no (by have := HNO.out; rwa [List.take_of_length_le (by have := HL.out; omega)] at this))
      go_wp2
      go_ret
      exact ⟨ret_bool HT.out.symm, rfl⟩
theorem byte_get (s : ByteArray) (k : Nat) (h : k < s.size) : s[k] = s.data.toList.getD k 0 := by
  rw [List.getD_eq_getElem?_getD, List.getElem?_eq_getElem (by simpa using h)]; rfl
set_option maxHeartbeats 1000000 in
set_option maxRecDepth 100000 in
theorem zpp (p s : ByteArray) (t : Nat) (ht : 2 ≤ t) (ht2 : t ≤ 4294967295) (hp : p.size ≤ 1048576) (hs : s = p ++ numS t) (w : World) :
    Calls Tryd.prog 8 #[.string s, .string p] w (BoolB true w) := by
  obtain ⟨r, hr⟩ : ∃ r, r = numS t := ⟨_, rfl⟩
  rw [← hr] at hs
  have hrl : r.data.toList = Lib.decDigits t := by rw [hr]; rfl
  have hrz : r.size ≤ 10 := by rw [hr]; exact numS_size t (by omega)
  have hr1 : 0 < r.size := by
    rw [← ba_size, hrl]
    exact List.length_pos_iff.2 (dec_ne t)
  have hsz : s.size = p.size + r.size := by rw [hs, ByteArray.size_append]
  have e1 : s.extract 0 p.size = p := ba_ext (by
    rw [hs, ByteArray.data_extract, Array.toList_extract, ba_app, ← ba_size p, List.extract_eq_take_drop]; simp)
  have e2 : s.extract p.size s.size = r := ba_ext (by
    rw [hsz, hs, ByteArray.data_extract, Array.toList_extract, ba_app, ← ba_size p, ← ba_size r, List.extract_eq_take_drop]; simp only [List.drop_left, Nat.add_sub_cancel_left, List.take_length])
  have dig : ∀ k (h : k < r.size), 48 ≤ (r[k].toNat : Int) ∧ (r[k].toNat : Int) ≤ 57 := fun k h => by
    have hk : k < r.data.toList.length := by rw [ba_size]; exact h
    have := dec_digits t (r[k]) (by rw [← hrl, byte_get r k h, List.getD_eq_getElem?_getD, List.getElem?_eq_getElem hk]; exact List.getElem_mem _)
    omega
  have h0 : ((r[0].toNat : Int) == 48) = false := by
    rw [beq_eq_false_iff_ne]
    have := dec_head t (by omega)
    rw [byte_get r 0 hr1, hrl]; omega
  have h1 : ¬ r.toList = [49] := by
    rw [ByteArray.toList_eq, hrl, ← dec_one]
    intro e
    have := dec_inj e
    omega
  have h2 : (r.toList == [49]) = false := by rw [beq_eq_false_iff_ne]; exact h1
  have DIG := Lib.hid dig
  have hsz1 : p.size + r.size ≤ s.size := by omega
  have hsz2 : s.size ≤ p.size + r.size := by omega
  clear hs hr hrl dig hsz
  go_enter Tryd.func8, Tryd.ntmps8
  go_wp2
  go_loop [6] (fun t => ∃ k : Nat, t = .int .i64 k ∧ k ≤ r.size) (fun t => r.size - (intOf t).toNat)
  case atStart => exact ⟨0, rfl, by omega⟩
  case round =>
    obtain ⟨k, rfl, hk⟩ := hrel
    by_cases hlt : k < r.size
    · obtain ⟨d1, d2⟩ := DIG.out k hlt
      go_wp2
      go_round
      case rel => exact ⟨k + 1, by go_num, by omega⟩
      case measure => simp [intOf]; omega
    · obtain rfl : k = r.size := by omega
      go_wp2
      go_ret
      exact ⟨rfl, rfl⟩
end Go.Proofs.YtlcdpccalaccjaaDoor
