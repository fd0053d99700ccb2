/- n011_125, the law FnPrintSymbolPlainNameExact: its bounds, its model of the chosen name, its test of a plain name. -/
import Derived.Test.YtmkkocjhbclibaaFmtPie
import Derived.Test.YtmkkocjhbclibaaFmtPsc
import Derived.Test.YtmkkocjhbclibaaFmtLvl
import Derived.IntWalk
import Derived.RegionTactic
namespace Go.Proofs.YtmkkocjhbclibaaFmt
open Go.RowKit
set_option linter.unusedVariables false
set_option linter.unusedSimpArgs false
def AnyBool (w : World) (e : Ending) (w' : World) : Prop := ∃ b, e = .returned (.bool b) ∧ w = w'
/-- A slice of strings as the walk knows it. -/
structure StrL (w : World) (A : Option Addr) (n : Nat) (ss : List ByteArray) : Prop where
  rd : Reads w w.heap.size 1 A n (ss.map Value.string)
  le : n ≤ 9223372036854775807
  sz : ∀ s ∈ ss, s.size ≤ 9223372036854775807
theorem StrL.len {w : World} {A : Option Addr} {n : Nat} {ss : List ByteArray} (h : StrL w A n ss) : ss.length = n := by have := h.rd.1; simpa using this
structure U32L (w : World) (A : Option Addr) (n : Nat) (xs : List Int) : Prop where
  rd : Reads w w.heap.size 1 A n (xs.map (Value.int .u32))
  le : n ≤ 9223372036854775807
  rg : ∀ x ∈ xs, 0 ≤ x ∧ x ≤ 4294967295
theorem U32L.len {w : World} {A : Option Addr} {n : Nat} {xs : List Int} (h : U32L w A n xs) : xs.length = n := by have := h.rd.1; simpa using this
set_option maxHeartbeats 4000000 in
set_option maxRecDepth 100000 in
theorem zbytes (A0 : Option Addr) (n0 c0 : Nat) (A1 : Option Addr) (n1 c1 : Nat) (names : List ByteArray) (A2 : Option Addr) (n2 c2 : Nat) (A3 : Option Addr) (n3 c3 : Nat) (A4 : Option Addr) (n4 c4 : Nat) (vals : List ByteArray) (q : Int) (w : World)
    (l0 : n0 ≤ 9223372036854775807) (h1 : StrL w A1 n1 names) (l2 : n2 ≤ 9223372036854775807) (l3 : n3 ≤ 9223372036854775807) (h4 : StrL w A4 n4 vals) :
    Calls Tryf.prog 4 #[.slice A0 n0 c0, .slice A1 n1 c1, .slice A2 n2 c2, .slice A3 n3 c3, .slice A4 n4 c4, .int .u32 q] w (AnyBool w) := by
  have H1 := Lib.hid h1; have H4 := Lib.hid h4
  have l1 := h1.le; have l4 := h4.le
  clear h1 h4
  go_enter Tryf.func4, Tryf.ntmps4
  go_wp2
  all_goals first | (go_ret; exact ⟨_, rfl, rfl⟩) | skip
  go_loopw [13, 14] (fun z t wr => ∃ k m : Nat, z = .int .i64 m ∧ m ≤ 1048576 ∧ t = .int .i64 k ∧ k ≤ n1 ∧ w = wr) (fun z t _ => n1 - (intOf t).toNat)
  case atStart => exact ⟨0, n0 + n1, by go_num, by omega, rfl, by omega, rfl⟩
  case round =>
    obtain ⟨k, m, rfl, hm, rfl, hk, rfl⟩ := hrel
    by_cases hlt : k < n1
    · obtain ⟨b2, off2, rfl, _, hc2⟩ := reads_any H1.out.rd (show 0 < n1 by omega)
      obtain ⟨x, hx⟩ : ∃ x, names[k]? = some x := ⟨_, List.getElem?_eq_getElem (by have := H1.out.len; omega)⟩
      have c2 := hc2 k x hx
      have hxs := H1.out.sz x (List.mem_of_getElem? hx)
      clear hc2 hx
      by_cases h1 : 1048576 < x.size
      · go_wp2
        go_ret
        exact ⟨_, rfl, rfl⟩
      · by_cases h2 : 1048576 < m + x.size
        · go_wp2
          go_ret
          exact ⟨_, rfl, rfl⟩
        · go_wp2
          go_roundw
          case rel => exact ⟨k + 1, m + x.size, by go_num, by omega, by go_num, by omega, by first | rfl | trivial⟩
          case measure => simp [intOf]; omega
    · obtain rfl : n1 = k := by omega
      go_wp2
      all_goals first | (go_ret; exact ⟨_, rfl, rfl⟩) | skip
      go_loopw [13, 15] (fun z t wr => ∃ k m : Nat, z = .int .i64 m ∧ m ≤ 1048576 ∧ t = .int .i64 k ∧ k ≤ n4 ∧ w = wr) (fun z t _ => n4 - (intOf t).toNat)
      case atStart => exact ⟨0, m + n2 + n3 + n4, by go_num, by omega, rfl, by omega, rfl⟩
      case round =>
        obtain ⟨k, m, rfl, hm, rfl, hk, rfl⟩ := hrel
        by_cases hlt : k < n4
        · obtain ⟨b2, off2, rfl, _, hc2⟩ := reads_any H4.out.rd (show 0 < n4 by omega)
          obtain ⟨x, hx⟩ : ∃ x, vals[k]? = some x := ⟨_, List.getElem?_eq_getElem (by have := H4.out.len; omega)⟩
          have c2 := hc2 k x hx
          have hxs := H4.out.sz x (List.mem_of_getElem? hx)
          clear hc2 hx
          by_cases h1 : 1048576 < x.size
          · go_wp2
            go_ret
            exact ⟨_, rfl, rfl⟩
          · by_cases h2 : 1048576 < m + x.size
            · go_wp2
              go_ret
              exact ⟨_, rfl, rfl⟩
            · go_wp2
              go_roundw
              case rel => exact ⟨k + 1, m + x.size, by go_num, by omega, by go_num, by omega, by first | rfl | trivial⟩
              case measure => simp [intOf]; omega
        · obtain rfl : n4 = k := by omega
          go_wp2
          go_ret
          exact ⟨_, rfl, rfl⟩
structure FitOk (n0 n1 n2 n3 n4 : Nat) (names vals : List ByteArray) : Prop where
  b0 : n0 ≤ 1048576
  b1 : n1 ≤ 65536
  b2 : n2 ≤ 65536
  b3 : n3 ≤ 65536
  b4 : n4 ≤ 65536
  s1 : ∀ s ∈ names, s.size ≤ 1048576
  s4 : ∀ s ∈ vals, s.size ≤ 1048576
def FitPost (n0 n1 n2 n3 n4 : Nat) (names vals : List ByteArray) (w : World) (e : Ending) (w' : World) : Prop := ∃ b, e = .returned (.bool b) ∧ (b = true → FitOk n0 n1 n2 n3 n4 names vals) ∧ w = w'
theorem FitPost.no {n0 n1 n2 n3 n4 : Nat} {names vals : List ByteArray} {w : World} : FitPost n0 n1 n2 n3 n4 names vals w (.returned (.bool false)) w := ⟨false, rfl, (fun h => by cases h), rfl⟩
theorem all_step {ss : List ByteArray} {k : Nat} {x : ByteArray} (hx : ss[k]? = some x) (hxs : x.size ≤ 1048576) (h : ∀ j s, j < k → ss[j]? = some s → s.size ≤ 1048576) : ∀ j s, j < k + 1 → ss[j]? = some s → s.size ≤ 1048576 := fun j s hj hjs => by
  rcases Nat.lt_or_ge j k with hl | hl
  · exact h j s hl hjs
  · obtain rfl : j = k := by omega
    rw [hjs] at hx
    obtain rfl := Option.some.inj hx
    exact hxs
theorem all_end {ss : List ByteArray} {n : Nat} (hl : ss.length = n) (h : ∀ j s, j < n → ss[j]? = some s → s.size ≤ 1048576) : ∀ s ∈ ss, s.size ≤ 1048576 := fun s hs => by
  obtain ⟨j, hj, rfl⟩ := List.getElem_of_mem hs
  exact h j _ (by omega) (List.getElem?_eq_getElem hj)
set_option maxHeartbeats 4000000 in
set_option maxRecDepth 100000 in
theorem fit_any (A0 : Option Addr) (n0 c0 : Nat) (A1 : Option Addr) (n1 c1 : Nat) (names : List ByteArray) (A2 : Option Addr) (n2 c2 : Nat) (A3 : Option Addr) (n3 c3 : Nat) (A4 : Option Addr) (n4 c4 : Nat) (vals : List ByteArray) (w : World)
    (l0 : n0 ≤ 9223372036854775807) (h1 : StrL w A1 n1 names) (l2 : n2 ≤ 9223372036854775807) (l3 : n3 ≤ 9223372036854775807) (h4 : StrL w A4 n4 vals) :
    Calls Tryf.prog 5 #[.slice A0 n0 c0, .slice A1 n1 c1, .slice A2 n2 c2, .slice A3 n3 c3, .slice A4 n4 c4] w (FitPost n0 n1 n2 n3 n4 names vals w) := by
  have H1 := Lib.hid h1; have H4 := Lib.hid h4
  have l1 := h1.le; have l4 := h4.le
  clear h1 h4
  by_cases hbig : 1048576 < n0 ∨ 65536 < n1 ∨ 65536 < n2 ∨ 65536 < n3 ∨ 65536 < n4
  · have HB := Lib.hid hbig
    clear hbig
    go_enter Tryf.func5, Tryf.ntmps5
    go_wp2
    all_goals first | (go_ret; exact FitPost.no) | (exfalso; have hq := HB.out; go_light; omega)
  have b0 : n0 ≤ 1048576 := by omega
  have b1 : n1 ≤ 65536 := by omega
  have b2 : n2 ≤ 65536 := by omega
  have b3 : n3 ≤ 65536 := by omega
  have b4 : n4 ≤ 65536 := by omega
  clear hbig
  go_enter Tryf.func5, Tryf.ntmps5
  go_wp2
  go_loopw [11, 12] (fun z t wr => ∃ k m : Nat, z = .int .i64 m ∧ m ≤ 4000000 ∧ t = .int .i64 k ∧ k ≤ n1 ∧ (∀ j s, j < k → names[j]? = some s → s.size ≤ 1048576) ∧ w = wr) (fun z t _ => n1 - (intOf t).toNat)
  case atStart => exact ⟨0, n0 + 16 * n1 + 4 * n2 + 4 * n3 + 16 * n4, by go_num, by omega, rfl, by omega, fun j s hj => by omega, rfl⟩
  case round =>
    obtain ⟨k, m, rfl, hm, rfl, hk, hall, rfl⟩ := hrel
    have HA := Lib.hid hall
    clear hall
    by_cases hlt : k < n1
    · obtain ⟨b2, off2, rfl, _, hc2⟩ := reads_any H1.out.rd (show 0 < n1 by omega)
      obtain ⟨x, hx⟩ : ∃ x, names[k]? = some x := ⟨_, List.getElem?_eq_getElem (by have := H1.out.len; omega)⟩
      have c2 := hc2 k x hx
      have hxs := H1.out.sz x (List.mem_of_getElem? hx)
      have HX := Lib.hid hx
      clear hc2 hx
      by_cases h1 : 1048576 < x.size
      · go_wp2
        go_ret
        exact FitPost.no
      · by_cases h2 : 1048576 < m + x.size
        · go_wp2
          go_ret
          exact FitPost.no
        · have HN := Lib.hid (all_step HX.out (by omega) HA.out)
          go_wp2
          go_roundw
          case rel => exact ⟨k + 1, m + x.size, by go_num, by omega, by go_num, by omega, HN.out, by first | rfl | trivial⟩
          case measure => simp [intOf]; omega
    · obtain rfl : n1 = k := by omega
      have HS1 := Lib.hid (all_end H1.out.len HA.out)
      go_wp2
      go_loopw [11, 13] (fun z t wr => ∃ k m : Nat, z = .int .i64 m ∧ m ≤ 4000000 ∧ t = .int .i64 k ∧ k ≤ n4 ∧ (∀ j s, j < k → vals[j]? = some s → s.size ≤ 1048576) ∧ w = wr) (fun z t _ => n4 - (intOf t).toNat)
      case atStart => exact ⟨0, m, rfl, by omega, rfl, by omega, fun j s hj => by omega, rfl⟩
      case round =>
        obtain ⟨k, m, rfl, hm, rfl, hk, hall, rfl⟩ := hrel
        have HA4 := Lib.hid hall
        clear hall
        by_cases hlt : k < n4
        · obtain ⟨b2, off2, rfl, _, hc2⟩ := reads_any H4.out.rd (show 0 < n4 by omega)
          obtain ⟨x, hx⟩ : ∃ x, vals[k]? = some x := ⟨_, List.getElem?_eq_getElem (by have := H4.out.len; omega)⟩
          have c2 := hc2 k x hx
          have hxs := H4.out.sz x (List.mem_of_getElem? hx)
          have HX := Lib.hid hx
          clear hc2 hx
          by_cases h1 : 1048576 < x.size
          · go_wp2
            go_ret
            exact FitPost.no
          · by_cases h2 : 1048576 < m + x.size
            · go_wp2
              go_ret
              exact FitPost.no
            · have HN := Lib.hid (all_step HX.out (by omega) HA4.out)
              go_wp2
              go_roundw
              case rel => exact ⟨k + 1, m + x.size, by go_num, by omega, by go_num, by omega, HN.out, by first | rfl | trivial⟩
              case measure => simp [intOf]; omega
        · obtain rfl : n4 = k := by omega
          have HS4 := Lib.hid (all_end H4.out.len HA4.out)
          go_wp2
          go_ret
          exact ⟨_, rfl, fun _ => ⟨b0, b1, b2, b3, b4, HS1.out, HS4.out⟩, rfl⟩
/-- What the law's guard asks of the tables. -/
structure WfOk (n1 n2 n3 n4 : Nat) (q : Int) (ls : List Int) : Prop where
  e2 : n2 = n1
  e4 : n4 = n3
  hq : q < n1
  lk : ∀ i, i < n1 → ls.getD i 0 = 0 ∨ ∃ m : Nat, m < n1 ∧ ls.getD i 0 = (m : Int) + 1 ∧ ls.getD m 0 = 0
def WfPost (n1 n2 n3 n4 : Nat) (q : Int) (ls : List Int) (w : World) (e : Ending) (w' : World) : Prop := ∃ b, e = .returned (.bool b) ∧ (b = true → WfOk n1 n2 n3 n4 q ls) ∧ w = w'
theorem WfPost.no {n1 n2 n3 n4 : Nat} {q : Int} {ls : List Int} {w : World} : WfPost n1 n2 n3 n4 q ls w (.returned (.bool false)) w := ⟨false, rfl, (fun h => by cases h), rfl⟩
theorem u32_at {w : World} {A : Option Addr} {n : Nat} {xs : List Int} (h : U32L w A n xs) (hn : 0 < n) :
    ∃ b off, A = some ⟨b, off, none⟩ ∧ b < w.heap.size ∧ ∀ i, i < n → w.cell? ⟨b, off + i, none⟩ = some (.int .u32 (xs.getD i 0)) ∧ 0 ≤ xs.getD i 0 ∧ xs.getD i 0 ≤ 4294967295 := by
  obtain ⟨b, off, h1, h2, h3⟩ := reads_any h.rd hn
  refine ⟨b, off, h1, h2, fun i hi => ?_⟩
  have hl := h.len
  have e : xs[i]? = some (xs.getD i 0) := by rw [List.getD_eq_getElem?_getD, List.getElem?_eq_getElem (by omega)]; rfl
  exact ⟨h3 i _ e, h.rg _ (List.mem_of_getElem? e)⟩
theorem str_at {w : World} {A : Option Addr} {n : Nat} {ss : List ByteArray} (h : StrL w A n ss) (hn : 0 < n) :
    ∃ b off, A = some ⟨b, off, none⟩ ∧ b < w.heap.size ∧ ∀ i, i < n → w.cell? ⟨b, off + i, none⟩ = some (.string (ss.getD i ⟨#[]⟩)) := by
  obtain ⟨b, off, h1, h2, h3⟩ := reads_any h.rd hn
  refine ⟨b, off, h1, h2, fun i hi => ?_⟩
  have hl := h.len
  exact h3 i _ (by rw [List.getD_eq_getElem?_getD, List.getElem?_eq_getElem (by omega)]; rfl)
set_option maxHeartbeats 4000000 in
set_option maxRecDepth 100000 in
theorem wf_any (A1 : Option Addr) (n1 c1 : Nat) (A2 : Option Addr) (n2 c2 : Nat) (ls : List Int) (A3 : Option Addr) (n3 c3 : Nat) (A4 : Option Addr) (n4 c4 : Nat) (q : Int) (w : World)
    (b1 : n1 ≤ 65536) (h2 : U32L w A2 n2 ls) (b2 : n2 ≤ 65536) (b3 : n3 ≤ 65536) (b4 : n4 ≤ 65536) (hq : 0 ≤ q ∧ q ≤ 4294967295) :
    Calls Tryf.prog 6 #[.slice A1 n1 c1, .slice A2 n2 c2, .slice A3 n3 c3, .slice A4 n4 c4, .int .u32 q] w (WfPost n1 n2 n3 n4 q ls w) := by
  have H2 := Lib.hid h2
  clear h2
  obtain ⟨q, rfl⟩ := Int.eq_ofNat_of_zero_le hq.1
  by_cases e1 : n2 = n1
  case neg =>
    have t0 : ((n2 : Int) != (n1 : Int)) = true := by rw [bne_iff_ne]; omega
    clear e1
    go_enter Tryf.func6, Tryf.ntmps6
    go_wp2
    go_ret
    exact WfPost.no
  have t0 : ((n2 : Int) != (n1 : Int)) = false := by rw [e1]; simp
  by_cases e2 : n3 = n4
  case neg =>
    have t1 : ((n3 : Int) != (n4 : Int)) = true := by rw [bne_iff_ne]; omega
    clear e1 e2
    go_enter Tryf.func6, Tryf.ntmps6
    go_wp2
    go_ret
    exact WfPost.no
  have t1 : ((n3 : Int) != (n4 : Int)) = false := by rw [e2]; simp
  by_cases hqn : q < n1
  case neg =>
    have e3 : n1 ≤ q := by omega
    clear e1 e2
    go_enter Tryf.func6, Tryf.ntmps6
    go_wp2
    go_ret
    exact WfPost.no
  clear t0 t1
  subst e1
  subst e2
  go_enter Tryf.func6, Tryf.ntmps6
  go_wp2
  go_loopw [11, 12] (fun t z wr => ∃ k : Nat, t = .int .i64 k ∧ k ≤ n2 ∧ (∀ i, i < k → ls.getD i 0 = 0 ∨ ∃ m : Nat, m < n2 ∧ ls.getD i 0 = (m : Int) + 1 ∧ ls.getD m 0 = 0) ∧ w = wr) (fun t z _ => n2 - (intOf t).toNat)
  case atStart => exact ⟨0, rfl, by omega, fun i hi => by omega, rfl⟩
  case round =>
    obtain ⟨k, rfl, hk, hall, rfl⟩ := hrel
    have HA := Lib.hid hall
    clear hall
    by_cases hlt : k < n2
    · obtain ⟨b, off, rfl, _, hc⟩ := u32_at H2.out (show 0 < n2 by omega)
      have HC := Lib.hid hc
      obtain ⟨ck, ck0, ck1⟩ := hc k hlt
      clear hc
      generalize hx : ls.getD k 0 = x at ck ck0 ck1
      have HX := Lib.hid hx
      clear hx
      by_cases h0 : x = 0
      · have t0 : (x != 0) = false := by rw [h0]; rfl
        have HN : Hid (∀ i, i < k + 1 → ls.getD i 0 = 0 ∨ ∃ m : Nat, m < n2 ∧ ls.getD i 0 = (m : Int) + 1 ∧ ls.getD m 0 = 0) := Lib.hid (fun i hi => by
          rcases Nat.lt_or_ge i k with h | h
          · exact HA.out i h
          · obtain rfl : i = k := by omega
            exact .inl (HX.out.trans h0))
        clear h0
        go_wp2
        go_roundw
        case rel => exact ⟨k + 1, by go_num, by omega, HN.out, by first | rfl | trivial⟩
        case measure => simp [intOf]; omega
      · obtain ⟨m, hxm⟩ : ∃ m : Nat, x - 1 = (m : Int) := ⟨(x - 1).toNat, by omega⟩
        have t0 : (x != 0) = true := by rw [bne_iff_ne]; omega
        have hx1 : 1 ≤ x := by omega
        have HX1 : Hid (x = (m : Int) + 1) := Lib.hid (by omega)
        clear h0
        by_cases hm : m < n2
        · obtain ⟨cm, cm0, cm1⟩ := HC.out m hm
          generalize hy : ls.getD m 0 = y at cm cm0 cm1
          have HY := Lib.hid hy
          clear hy
          by_cases hy0 : y = 0
          · have t1 : (y != 0) = false := by rw [hy0]; rfl
            have HN : Hid (∀ i, i < k + 1 → ls.getD i 0 = 0 ∨ ∃ m : Nat, m < n2 ∧ ls.getD i 0 = (m : Int) + 1 ∧ ls.getD m 0 = 0) := Lib.hid (fun i hi => by
              rcases Nat.lt_or_ge i k with h | h
              · exact HA.out i h
              · obtain rfl : i = k := by omega
                exact .inr ⟨m, hm, HX.out.trans HX1.out, HY.out.trans hy0⟩)
            clear hy0
            go_wp2
            go_roundw
            case rel => exact ⟨k + 1, by go_num, by omega, HN.out, by first | rfl | trivial⟩
            case measure => simp [intOf]; omega
          · have t1 : (y != 0) = true := by rw [bne_iff_ne]; exact hy0
            clear hy0
            go_wp2
            go_ret
            exact WfPost.no
        · go_wp2
          go_ret
          exact WfPost.no
    · obtain rfl : n2 = k := by omega
      have HN := Lib.hid HA.out
      go_wp2
      go_ret
      exact ⟨_, rfl, fun _ => ⟨rfl, rfl, by omega, HA.out⟩, rfl⟩
/-- The symbol at the end of a link; the last renaming of a symbol; the name a user expects. -/
def rootN (ls : List Int) (i : Nat) : Nat := if ls.getD i 0 = 0 then i else (ls.getD i 0 - 1).toNat
def pickR (ks : List Int) (vs : List ByteArray) (r : Nat) : Nat → Option ByteArray
  | 0 => none
  | k + 1 => if ks.getD k 0 = r then some (vs.getD k ⟨#[]⟩) else pickR ks vs r k
def chosenF (names : List ByteArray) (ls ks : List Int) (vs : List ByteArray) (n3 i : Nat) : ByteArray := (pickR ks vs (rootN ls i) n3).getD (names.getD (rootN ls i) ⟨#[]⟩)
def StrPost (s : ByteArray) (w : World) (e : Ending) (w' : World) : Prop := e = .returned (.string s) ∧ w = w'
set_option maxHeartbeats 4000000 in
set_option maxRecDepth 100000 in
theorem chosen_any (A1 : Option Addr) (n1 c1 : Nat) (names : List ByteArray) (A2 : Option Addr) (c2 : Nat) (ls : List Int) (A3 : Option Addr) (n3 c3 : Nat) (ks : List Int) (A4 : Option Addr) (c4 : Nat) (vs : List ByteArray) (q : Nat) (w : World)
    (h1 : StrL w A1 n1 names) (h2 : U32L w A2 n1 ls) (h3 : U32L w A3 n3 ks) (h4 : StrL w A4 n3 vs) (b1 : n1 ≤ 65536) (b3 : n3 ≤ 65536) (hwf : WfOk n1 n1 n3 n3 q ls) :
    Calls Tryf.prog 10 #[.slice A1 n1 c1, .slice A2 n1 c2, .slice A3 n3 c3, .slice A4 n3 c4, .int .u32 q] w (StrPost (chosenF names ls ks vs n3 q) w) := by
  have hq := hwf.hq
  have hqn : q < n1 := by omega
  obtain ⟨b, off, rfl, _, hc⟩ := u32_at h2 (show 0 < n1 by omega)
  obtain ⟨bn, on, rfl, _, hn⟩ := str_at h1 (show 0 < n1 by omega)
  have H1 := Lib.hid h1; have H3 := Lib.hid h3; have H4 := Lib.hid h4; have HN := Lib.hid hn
  obtain ⟨cq, cq0, cq1⟩ := hc q hqn
  obtain ⟨R, hR⟩ : ∃ R, R = rootN ls q := ⟨_, rfl⟩
  have hRn : R < n1 := by
    rcases hwf.lk q hqn with h | ⟨m, hm, h, _⟩
    · rw [hR]; unfold rootN; rw [if_pos h]; exact hqn
    · rw [hR]; unfold rootN; rw [if_neg (by omega), h]; omega
  have HR := Lib.hid hR
  have HROOT : Hid (ls.getD q 0 = 0 ∧ R = q ∨ ls.getD q 0 = (R : Int) + 1) := Lib.hid (by
    rcases hwf.lk q hqn with h | ⟨m, hm, h, _⟩
    · exact .inl ⟨h, by rw [hR]; unfold rootN; rw [if_pos h]⟩
    · refine .inr ?_
      rw [hR]; unfold rootN; rw [if_neg (by omega), h]; omega)
  have HCH : Hid (chosenF names ls ks vs n3 q = (pickR ks vs R n3).getD (names.getD R ⟨#[]⟩)) := Lib.hid (by unfold chosenF; rw [← hR])
  clear h1 h2 h3 h4 hc hn hwf hR
  generalize ls.getD q 0 = x at cq cq0 cq1 HROOT
  rcases HROOT.out with ⟨rfl, hrq⟩ | hx
  case inl =>
    subst hrq
    clear HROOT HR
    go_enter Tryf.func10, Tryf.ntmps10
    go_wp2
    go_loopw [12] (fun t wr => ∃ j : Int, t = .int .i64 j ∧ -1 ≤ j ∧ j < n3 ∧ pickR ks vs R n3 = pickR ks vs R (j + 1).toNat ∧ w = wr) (fun t _ => (intOf t + 1).toNat)
    case atStart => exact ⟨(n3 : Int) - 1, rfl, by omega, by omega, by congr 1; omega, rfl⟩
    case round =>
      obtain ⟨j, rfl, hj0, hj1, hp, rfl⟩ := hrel
      have HP := Lib.hid hp
      clear hp
      by_cases hlt : 0 ≤ j
      · obtain ⟨k, rfl⟩ := Int.eq_ofNat_of_zero_le hlt
        have hkn : k < n3 := by omega
        obtain ⟨b3, o3, rfl, _, hc3⟩ := u32_at H3.out (show 0 < n3 by omega)
        obtain ⟨b4, o4, rfl, _, hc4⟩ := str_at H4.out (show 0 < n3 by omega)
        obtain ⟨ck, ck0, ck1⟩ := hc3 k hkn
        have c4 := hc4 k hkn
        have HS : Hid (pickR ks vs R ((k : Int) + 1).toNat = if ks.getD k 0 = R then some (vs.getD k ⟨#[]⟩) else pickR ks vs R k) := Lib.hid (by rw [show ((k : Int) + 1).toNat = k + 1 by omega]; rfl)
        generalize ks.getD k 0 = y at ck ck0 ck1 HS
        generalize vs.getD k ⟨#[]⟩ = v at c4 HS
        clear hc3 hc4
        by_cases he : y = R
        · have t1 : (y == (R : Int)) = true := by rw [he]; exact beq_self_eq_true _
          have HF : Hid (chosenF names ls ks vs n3 R = v) := Lib.hid (by rw [HCH.out, HP.out, HS.out, if_pos he]; rfl)
          clear he
          go_wp2
          go_ret
          rw [HF.out]
          exact ⟨rfl, rfl⟩
        · have t1 : (y == (R : Int)) = false := by rw [beq_eq_false_iff_ne]; exact he
          have HF : Hid (pickR ks vs R n3 = pickR ks vs R ((k : Int) - 1 + 1).toNat) := Lib.hid (by rw [HP.out, HS.out, if_neg he]; congr 1; omega)
          clear he
          go_wp2
          go_roundw
          case rel => exact ⟨(k : Int) - 1, rfl, by omega, by omega, HF.out, by first | rfl | trivial⟩
          case measure => (simp [intOf]; try omega)
      · obtain rfl : j = -1 := by omega
        have HF : Hid (chosenF names ls ks vs n3 R = names.getD R ⟨#[]⟩) := Lib.hid (by rw [HCH.out, HP.out]; rfl)
        have cR := HN.out R hRn
        generalize names.getD R ⟨#[]⟩ = v at cR HF
        go_wp2
        go_ret
        rw [HF.out]
        exact ⟨rfl, rfl⟩
  case inr =>
    have t0 : (x != 0) = true := by rw [bne_iff_ne]; omega
    have hx1 : 1 ≤ x := by omega
    have hxm : x - 1 = (R : Int) := by omega
    clear HROOT HR hx
    go_enter Tryf.func10, Tryf.ntmps10
    go_wp2
    clear t0 hxm
    go_loopw [12] (fun t wr => ∃ j : Int, t = .int .i64 j ∧ -1 ≤ j ∧ j < n3 ∧ pickR ks vs R n3 = pickR ks vs R (j + 1).toNat ∧ w = wr) (fun t _ => (intOf t + 1).toNat)
    case atStart => exact ⟨(n3 : Int) - 1, rfl, by omega, by omega, by congr 1; omega, rfl⟩
    case round =>
      obtain ⟨j, rfl, hj0, hj1, hp, rfl⟩ := hrel
      have HP := Lib.hid hp
      clear hp
      by_cases hlt : 0 ≤ j
      · obtain ⟨k, rfl⟩ := Int.eq_ofNat_of_zero_le hlt
        have hkn : k < n3 := by omega
        obtain ⟨b3, o3, rfl, _, hc3⟩ := u32_at H3.out (show 0 < n3 by omega)
        obtain ⟨b4, o4, rfl, _, hc4⟩ := str_at H4.out (show 0 < n3 by omega)
        obtain ⟨ck, ck0, ck1⟩ := hc3 k hkn
        have c4 := hc4 k hkn
        have HS : Hid (pickR ks vs R ((k : Int) + 1).toNat = if ks.getD k 0 = R then some (vs.getD k ⟨#[]⟩) else pickR ks vs R k) := Lib.hid (by rw [show ((k : Int) + 1).toNat = k + 1 by omega]; rfl)
        generalize ks.getD k 0 = y at ck ck0 ck1 HS
        generalize vs.getD k ⟨#[]⟩ = v at c4 HS
        clear hc3 hc4
        by_cases he : y = R
        · have t1 : (y == (R : Int)) = true := by rw [he]; exact beq_self_eq_true _
          have HF : Hid (chosenF names ls ks vs n3 q = v) := Lib.hid (by rw [HCH.out, HP.out, HS.out, if_pos he]; rfl)
          clear he
          go_wp2
          go_ret
          rw [HF.out]
          exact ⟨rfl, rfl⟩
        · have t1 : (y == (R : Int)) = false := by rw [beq_eq_false_iff_ne]; exact he
          have HF : Hid (pickR ks vs R n3 = pickR ks vs R ((k : Int) - 1 + 1).toNat) := Lib.hid (by rw [HP.out, HS.out, if_neg he]; congr 1; omega)
          clear he
          go_wp2
          go_roundw
          case rel => exact ⟨(k : Int) - 1, rfl, by omega, by omega, HF.out, by first | rfl | trivial⟩
          case measure => (simp [intOf]; try omega)
      · obtain rfl : j = -1 := by omega
        have HF : Hid (chosenF names ls ks vs n3 q = names.getD R ⟨#[]⟩) := Lib.hid (by rw [HCH.out, HP.out]; rfl)
        have cR := HN.out R hRn
        generalize names.getD R ⟨#[]⟩ = v at cR HF
        go_wp2
        go_ret
        rw [HF.out]
        exact ⟨rfl, rfl⟩
end Go.Proofs.YtmkkocjhbclibaaFmt
