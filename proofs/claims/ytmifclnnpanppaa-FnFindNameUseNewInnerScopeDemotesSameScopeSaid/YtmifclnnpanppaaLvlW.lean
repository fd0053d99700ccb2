/- The law's own helpers over levels of names, and numberScope's chain with findNameUse. -/
import Derived.Test.YtmifclnnpanppaaRows
import Derived.Test.YtmifclnnpanppaaWords
import Derived.Test.YtmifclnnpanppaaLvl
import Derived.Maps.OwnSet
import Derived.Maps.Views
import Derived.LaidEqlPtr
import Derived.WalkKit
import Derived.WalkSpells
import Derived.LoopTactic
import Derived.Outline
import Derived.Deep.Light
namespace Go.Proofs.Ytmifclnnpanppaa
open Go.RowKit Go.Maps Go.WideMaps
set_option linter.unusedVariables false
set_option linter.unusedSimpArgs false

def AnyBool (w : World) (e : Ending) (w' : World) : Prop := ∃ b, e = .returned (.bool b) ∧ w = w'
def AnyInt (w : World) (e : Ending) (w' : World) : Prop := ∃ b : Int, e = .returned (.int .i64 b) ∧ w = w'
def BoolB (b : Bool) (w : World) (e : Ending) (w' : World) : Prop := e = .returned (.bool b) ∧ w = w'
def U8B (r : Int) (w : World) (e : Ending) (w' : World) : Prop := e = .returned (.int .u8 r) ∧ w = w'
set_option maxHeartbeats 1000000 in
set_option maxRecDepth 100000 in
theorem zbytesN (F : Nat) (hF : F = 5 ∨ F = 11) (A : Option Addr) (n c : Nat) (s : ByteArray) (L : List Lv) (w : World) (h : IsLvls w A n L) (hs : s.size ≤ maxLen) :
    Calls Try.prog F #[.slice A n c, .string s] w (AnyBool w) := by
  obtain ⟨hr, hn, hlen, hok⟩ := h
  have HR := Lib.hid hr; have HLEN := Lib.hid hlen; have HOK := Lib.hid hok
  clear hr hlen hok
  unfold maxLen at hn hs
  have round0 : ∀ k, k < n → ∃ (b off : Nat) (l : Lv), A = some ⟨b, off, none⟩ ∧ w.cell? ⟨b, off + k, none⟩ = some (.slice l.a l.n l.c) ∧ l.ok w w.heap.size := fun k hk => by
    obtain ⟨b, off, e, _, hc⟩ := reads_any HR.out (by omega)
    obtain ⟨l, hl⟩ : ∃ l, L[k]? = some l := ⟨_, List.getElem?_eq_getElem (by have := HLEN.out; omega)⟩
    exact ⟨b, off, l, e, hc k l hl, HOK.out l (List.mem_of_getElem? hl)⟩
  have R0 := Lib.hid round0
  clear round0
  rcases hF with rfl | rfl
  · go_enter Try.func5, Try.ntmps5
    go_wp2
    all_goals first | (go_ret; exact ⟨_, rfl, rfl⟩) | skip
    go_loopw [5, 6] (fun v t wr => ∃ (z : Int) (k : Nat), v = .int .i64 z ∧ t = .int .i64 k ∧ k ≤ n ∧ w = wr) (fun _ t _ => n - (intOf t).toNat)
    case atStart => exact ⟨_, 0, rfl, rfl, by omega, rfl⟩
    case round =>
      obtain ⟨z, k, rfl, rfl, hk, rfl⟩ := hrel
      by_cases hlt : k < n
      · obtain ⟨b, off, l, rfl, hc, hl⟩ := R0.out k hlt
        have HL := Lib.hid hl
        have hln : l.n ≤ 9223372036854775807 := hl.2.2.1
        clear hl
        go_wp2
        all_goals first | (go_ret; exact ⟨_, rfl, rfl⟩) | skip
        go_loopw [5, 7] (fun v t wr => ∃ (z : Int) (j : Nat), v = .int .i64 z ∧ t = .int .i64 j ∧ j ≤ l.n ∧ w = wr) (fun _ t _ => l.n - (intOf t).toNat)
        case atStart => exact ⟨_, 0, rfl, rfl, by omega, rfl⟩
        case round =>
          obtain ⟨z, j, rfl, rfl, hj, rfl⟩ := hrel
          by_cases hlt2 : j < l.n
          · obtain ⟨b2, off2, e2, _, hc2⟩ := reads_any HL.out.1 (by omega)
            obtain ⟨x, hx⟩ : ∃ x, l.ss[j]? = some x := ⟨_, List.getElem?_eq_getElem (by have := HL.out.2.2.2.1; omega)⟩
            have c2 := hc2 j x hx
            have hxs : x.size ≤ 9223372036854775807 := HL.out.2.2.2.2 x (List.mem_of_getElem? hx)
            rw [e2] at hc
            clear hc2 hx
            go_wp2
            all_goals first | (go_ret; exact ⟨_, rfl, rfl⟩) | skip
            go_roundw
            case rel => exact ⟨_, j + 1, rfl, by go_num, by omega, by first | rfl | trivial⟩
            case measure => simp [intOf]; omega
          · obtain rfl : j = l.n := by omega
            go_wp2
            go_roundw
            case rel => exact ⟨_, k + 1, rfl, by go_num, by omega, by first | rfl | trivial⟩
            case measure => simp [intOf]; omega
      · obtain rfl : n = k := by omega
        go_wp2
        all_goals (go_ret; exact ⟨_, rfl, rfl⟩)
  · go_enter Try.func11, Try.ntmps11
    go_wp2
    all_goals first | (go_ret; exact ⟨_, rfl, rfl⟩) | skip
    go_loopw [5, 6] (fun v t wr => ∃ (z : Int) (k : Nat), v = .int .i64 z ∧ t = .int .i64 k ∧ k ≤ n ∧ w = wr) (fun _ t _ => n - (intOf t).toNat)
    case atStart => exact ⟨_, 0, rfl, rfl, by omega, rfl⟩
    case round =>
      obtain ⟨z, k, rfl, rfl, hk, rfl⟩ := hrel
      by_cases hlt : k < n
      · obtain ⟨b, off, l, rfl, hc, hl⟩ := R0.out k hlt
        have HL := Lib.hid hl
        have hln : l.n ≤ 9223372036854775807 := hl.2.2.1
        clear hl
        go_wp2
        all_goals first | (go_ret; exact ⟨_, rfl, rfl⟩) | skip
        go_loopw [5, 7] (fun v t wr => ∃ (z : Int) (j : Nat), v = .int .i64 z ∧ t = .int .i64 j ∧ j ≤ l.n ∧ w = wr) (fun _ t _ => l.n - (intOf t).toNat)
        case atStart => exact ⟨_, 0, rfl, rfl, by omega, rfl⟩
        case round =>
          obtain ⟨z, j, rfl, rfl, hj, rfl⟩ := hrel
          by_cases hlt2 : j < l.n
          · obtain ⟨b2, off2, e2, _, hc2⟩ := reads_any HL.out.1 (by omega)
            obtain ⟨x, hx⟩ : ∃ x, l.ss[j]? = some x := ⟨_, List.getElem?_eq_getElem (by have := HL.out.2.2.2.1; omega)⟩
            have c2 := hc2 j x hx
            have hxs : x.size ≤ 9223372036854775807 := HL.out.2.2.2.2 x (List.mem_of_getElem? hx)
            rw [e2] at hc
            clear hc2 hx
            go_wp2
            all_goals first | (go_ret; exact ⟨_, rfl, rfl⟩) | skip
            go_roundw
            case rel => exact ⟨_, j + 1, rfl, by go_num, by omega, by first | rfl | trivial⟩
            case measure => simp [intOf]; omega
          · obtain rfl : j = l.n := by omega
            go_wp2
            go_roundw
            case rel => exact ⟨_, k + 1, rfl, by go_num, by omega, by first | rfl | trivial⟩
            case measure => simp [intOf]; omega
      · obtain rfl : n = k := by omega
        go_wp2
        all_goals (go_ret; exact ⟨_, rfl, rfl⟩)

set_option maxHeartbeats 1000000 in
set_option maxRecDepth 100000 in
theorem zlist (l : Lv) (w : World) (h : l.ok w w.heap.size) : Calls Try.prog 12 #[.slice l.a l.n l.c] w (AnyInt w) := by
  have H := Lib.hid h
  have hln : l.n ≤ 9223372036854775807 := h.2.2.1
  clear h
  obtain ⟨A, n, c, ss⟩ := l
  simp only at hln
  go_enter Try.func12, Try.ntmps12
  go_wp2
  go_loopw [3, 4] (fun v t wr => ∃ (z : Int) (k : Nat), v = .int .i64 z ∧ t = .int .i64 k ∧ k ≤ n ∧ w = wr) (fun _ t _ => n - (intOf t).toNat)
  case atStart => exact ⟨_, 0, rfl, rfl, by omega, rfl⟩
  case round =>
    obtain ⟨z, k, rfl, rfl, hk, rfl⟩ := hrel
    by_cases hlt : k < n
    · obtain ⟨b2, off2, rfl, _, hc2⟩ := reads_any H.out.1 (by show 0 < n; omega)
      obtain ⟨x, hx⟩ : ∃ x, ss[k]? = some x := ⟨_, List.getElem?_eq_getElem (by have : ss.length = n := H.out.2.2.2.1; omega)⟩
      have c2 := hc2 k x hx
      have hxs : x.size ≤ 9223372036854775807 := H.out.2.2.2.2 x (List.mem_of_getElem? hx)
      clear hc2 hx
      go_wp2
      all_goals first | (go_ret; exact ⟨_, rfl, rfl⟩) | skip
      go_roundw
      case rel => exact ⟨_, k + 1, rfl, by go_num, by omega, by first | rfl | trivial⟩
      case measure => simp [intOf]; omega
    · obtain rfl : n = k := by omega
      go_wp2
      go_ret
      exact ⟨_, rfl, rfl⟩
theorem lv_at {w : World} {A : Option Addr} {n : Nat} {L : List Lv} (h : Reads w w.heap.size 1 A n (L.map Lv.val)) (hlen : L.length = n) (hok : ∀ l ∈ L, l.ok w w.heap.size) {k : Nat} (hk : k < n) :
    ∃ (b off : Nat) (l : Lv), A = some ⟨b, off, none⟩ ∧ b < w.heap.size ∧ L[k]? = some l ∧ w.cell? ⟨b, off + k, none⟩ = some (.slice l.a l.n l.c) ∧ l.ok w w.heap.size := by
  obtain ⟨b, off, e, hb, hc⟩ := reads_any h (by omega)
  obtain ⟨l, hl⟩ : ∃ l, L[k]? = some l := ⟨_, List.getElem?_eq_getElem (by omega)⟩
  exact ⟨b, off, l, e, hb, hl, hc k l hl, hok l (List.mem_of_getElem? hl)⟩
set_option maxHeartbeats 1000000 in
set_option maxRecDepth 100000 in
theorem znest (A : Option Addr) (n c : Nat) (L : List Lv) (w : World) (h : IsLvls w A n L) : Calls Try.prog 6 #[.slice A n c] w (AnyInt w) := by
  obtain ⟨hr, hn, hlen, hok⟩ := h
  have R0 : Hid (∀ k, k < n → ∃ (b off : Nat) (l : Lv), A = some ⟨b, off, none⟩ ∧ b < w.heap.size ∧ L[k]? = some l ∧ w.cell? ⟨b, off + k, none⟩ = some (.slice l.a l.n l.c) ∧ l.ok w w.heap.size) := Lib.hid (fun k hk => lv_at hr hlen hok hk)
  clear hr hlen hok
  unfold maxLen at hn
  go_enter Try.func6, Try.ntmps6
  go_wp2
  go_loopw [3, 4] (fun v t wr => ∃ (z : Int) (k : Nat), v = .int .i64 z ∧ t = .int .i64 k ∧ k ≤ n ∧ w = wr) (fun _ t _ => n - (intOf t).toNat)
  case atStart => exact ⟨_, 0, rfl, rfl, by omega, rfl⟩
  case round =>
    obtain ⟨z, k, rfl, rfl, hk, rfl⟩ := hrel
    by_cases hlt : k < n
    · obtain ⟨b, off, l, rfl, hbl, _, hc, hl⟩ := R0.out k hlt
      have HL := Lib.hid hl
      clear hl
      go_wp2_with (go_at_call 12; refine (zlist l _ HL.out).mono ?_)
      rintro e wz ⟨y, rfl, rfl⟩
      go_wp2
      all_goals first | (go_ret; exact ⟨_, rfl, rfl⟩) | skip
      go_roundw
      case rel => exact ⟨_, k + 1, rfl, by go_num, by omega, by first | rfl | trivial⟩
      case measure => simp [intOf]; omega
    · obtain rfl : n = k := by omega
      go_wp2
      go_ret
      exact ⟨_, rfl, rfl⟩
/-- Is the text among these? -/
def hasS (s : ByteArray) (ss : List ByteArray) : Bool := ss.any fun x => x.toList == s.toList
theorem list_inj {x s : ByteArray} (e : x.toList = s.toList) : x = s := by
  rw [ByteArray.toList_eq, ByteArray.toList_eq] at e
  exact ByteArray.ext (Array.ext' e)
theorem ne_list {x s : ByteArray} (h : ¬ x = s) : (x.toList == s.toList) = false := by
  rw [beq_eq_false_iff_ne]; exact fun e => h (list_inj e)
theorem hasS_iff {s : ByteArray} {ss : List ByteArray} : hasS s ss = true ↔ s ∈ ss := by
  unfold hasS
  rw [List.any_eq_true]
  constructor
  · rintro ⟨x, hx, e⟩
    rw [← list_inj (beq_iff_eq.1 e)]; exact hx
  · exact fun h => ⟨s, h, by simp⟩
theorem hasS_no {s : ByteArray} {ss : List ByteArray} (h : s ∉ ss) : hasS s ss = false := by
  cases e : hasS s ss
  · rfl
  · exact absurd (hasS_iff.1 e) h
theorem mem_take_no {ss : List ByteArray} {k : Nat} {x s : ByteArray} (h : s ∉ ss.take k) (hx : ss[k]? = some x) (hne : x ≠ s) : s ∉ ss.take (k + 1) := by
  rw [List.take_add_one, hx, List.mem_append]
  rintro (h1 | h1)
  · exact h h1
  · simp at h1; exact hne h1.symm
set_option maxHeartbeats 1000000 in
set_option maxRecDepth 100000 in
theorem zin (l : Lv) (s : ByteArray) (w : World) (h : l.ok w w.heap.size) (r : Bool) (hr : hasS s l.ss = r) : Calls Try.prog 10 #[.slice l.a l.n l.c, .string s] w (BoolB r w) := by
  subst hr
  have H := Lib.hid h
  have hln : l.n ≤ 9223372036854775807 := h.2.2.1
  clear h
  obtain ⟨A, n, c, ss⟩ := l
  simp only at hln ⊢
  go_enter Try.func10, Try.ntmps10
  go_wp2
  go_loopw [5] (fun t wr => ∃ k : Nat, t = .int .i64 k ∧ k ≤ n ∧ s ∉ ss.take k ∧ w = wr) (fun t _ => n - (intOf t).toNat)
  case atStart => exact ⟨0, rfl, by omega, by simp, rfl⟩
  case round =>
    obtain ⟨k, rfl, hk, hno, rfl⟩ := hrel
    have HNO := Lib.hid hno
    clear hno
    by_cases hlt : k < n
    · obtain ⟨b2, off2, rfl, _, hc2⟩ := reads_any H.out.1 (by show 0 < n; omega)
      obtain ⟨x, hx⟩ : ∃ x, ss[k]? = some x := ⟨_, List.getElem?_eq_getElem (by have : ss.length = n := H.out.2.2.2.1; omega)⟩
      have c2 := hc2 k x hx
      have HX := Lib.hid hx
      clear hc2 hx
      by_cases he : x = s
      · have HT := Lib.hid (show hasS s ss = true from hasS_iff.2 (List.mem_of_getElem? (he ▸ HX.out)))
        subst he
        go_wp2
        go_ret
        exact ⟨ret_bool HT.out.symm, rfl⟩
      · have HN := Lib.hid (mem_take_no HNO.out HX.out he)
        have hb := ne_list he
        go_wp2
        go_roundw
        case rel => exact ⟨k + 1, by go_num, by omega, HN.out, by first | rfl | trivial⟩
        case measure => simp [intOf]; omega
    · obtain rfl : n = k := by omega
      have HT := Lib.hid (show hasS s ss = false from hasS_no (by have := HNO.out; rwa [List.take_of_length_le (by have : ss.length = n := H.out.2.2.2.1; omega)] at this))
      go_wp2
      go_ret
      exact ⟨ret_bool HT.out.symm, rfl⟩
theorem law9 : Keyed Try.prog 9 := string_keyed Try.underlying9
/-- A map value that holds just these names. -/
def SetIs (w : World) (B : Nat) (v : Value) (ss : List ByteArray) : Prop :=
  (v = .map none ∧ ss = []) ∨
  ∃ b n D, v = .map (some b) ∧ b < B ∧ w.ownsMap (H := Unit) Try.prog 9 (plainElem Try.prog 32) b n D ∧ ∀ s : ByteArray, Maps.has D (.string s.data.toList) = hasS s ss
theorem SetIs.below {w w' : World} {B : Nat} {v : Value} {ss : List ByteArray} (h : SetIs w B v ss) (hb : Below B w w') : SetIs w' B v ss := by
  rcases h with h | ⟨b, n, D, h1, h2, h3, h4⟩
  · exact .inl h
  · refine .inr ⟨b, n, D, h1, h2, ?_, h4⟩
    obtain ⟨es, cl, k1, k2⟩ := h3
    exact ⟨es, cl, (hb.block b h2).trans k1, k2⟩
theorem SetIs.more {w : World} {B B' : Nat} {v : Value} {ss : List ByteArray} (h : SetIs w B v ss) (hB : B ≤ B') : SetIs w B' v ss := by
  rcases h with h | ⟨b, n, D, h1, h2, h3⟩
  · exact .inl h
  · exact .inr ⟨b, n, D, h1, by omega, h3⟩
theorem hasS_snoc (s x : ByteArray) (ss : List ByteArray) : hasS s (ss ++ [x]) = (hasS s ss || (x.toList == s.toList)) := by
  unfold hasS; rw [List.any_append]; simp
theorem has_put {D : DataW Unit} (hD : IsMap D) (x : ByteArray) (d : DataW Unit) {ss : List ByteArray} (h : ∀ s : ByteArray, Maps.has D (.string s.data.toList) = hasS s ss) :
    ∀ s : ByteArray, Maps.has (D.put (.string x.data.toList) d) (.string s.data.toList) = hasS s (ss ++ [x]) := by
  intro s
  rw [hasS_snoc]
  by_cases e : x = s
  · subst e
    rw [has_put_same hD (by simp [WideAt.IsKeyLit])]; simp
  · rw [has_put_other (fun he => e (by injection he with he; exact ByteArray.ext (Array.ext' he.symm))), h, ne_list e]; simp
def SetPost (w : World) (ss : List ByteArray) (e : Ending) (w' : World) : Prop := ∃ v, e = .returned v ∧ SetIs w' w'.heap.size v ss ∧ Below w.heap.size w w'
set_option maxHeartbeats 1000000 in
set_option maxRecDepth 100000 in
theorem zset (l : Lv) (w : World) (h : l.ok w w.heap.size) : Calls Try.prog 8 #[.slice l.a l.n l.c] w (SetPost w l.ss) := by
  have heq : ∀ (W : World) (a : Option Addr) (l c : Nat), (binOp .eql 29 (.slice a l c) (.slice none 0 0)).run Try.prog W = .ok (.bool a.isNone) W := fun W a l c => Lib.run_eql_slice_nil W 29 9 a l c 0 0 Try.underlying29
  have H := Lib.hid h
  have hln : l.n ≤ 9223372036854775807 := h.2.2.1
  clear h
  obtain ⟨A, n, c, ss⟩ := l
  simp only at hln ⊢
  cases A with
  | none =>
    have hn0 : n = 0 := H.out.2.1 rfl
    have hl0 : ss.length = n := H.out.2.2.2.1
    obtain rfl : ss = [] := List.eq_nil_of_length_eq_zero (by omega)
    clear hl0
    go_enter Try.func8, Try.ntmps8
    go_wp2
    go_ret
    exact ⟨_, rfl, .inl ⟨rfl, rfl⟩, Below.refl _ _⟩
  | some ad =>
    have hmm := @run_makeMap Try.prog
    go_enter Try.func8, Try.ntmps8
    go_wp2
    clear hmm heq
    go_loopw [4] (fun t wr => ∃ (k : Nat) (D : DataW Unit), t = .int .i64 k ∧ k ≤ n ∧ wr.ownsMap (H := Unit) Try.prog 9 (plainElem Try.prog 32) w.heap.size k D ∧ (∀ s : ByteArray, Maps.has D (.string s.data.toList) = hasS s (ss.take k)) ∧ Below w.heap.size w wr) (fun t _ => n - (intOf t).toNat)
    case atStart => exact ⟨0, .map [], rfl, by omega, World.ownsMap_made _ _ _ _, fun s => rfl, (Below.refl _ _).alloc (Nat.le_refl _) _⟩
    case round =>
      obtain ⟨k, D, rfl, hk, hown, hhas, hb⟩ := hrel
      have HHAS := Lib.hid hhas; have HB := Lib.hid hb; have HOWN := Lib.hid hown
      clear hhas hb
      by_cases hlt : k < n
      · obtain ⟨b2, off2, e2, hbl, hc2⟩ := reads_any (H.out.1.below HB.out) (by show 0 < n; omega)
        obtain rfl := Option.some.inj e2
        obtain ⟨x, hx⟩ : ∃ x, ss[k]? = some x := ⟨_, List.getElem?_eq_getElem (by have : ss.length = n := H.out.2.2.2.1; omega)⟩
        have c2 := hc2 k x hx
        have hxs : x.size ≤ maxLen := H.out.2.2.2.2 x (List.mem_of_getElem? hx)
        have hkey := keyOf_string_mk Try.underlying9 hxs
        have HT := Lib.hid (show ss.take (k + 1) = ss.take k ++ [x] by rw [List.take_add_one, hx]; rfl)
        have HP := Lib.hid (has_put HOWN.out.isMap x (.lit (.int .u32 1)) HHAS.out)
        clear hc2 hx e2
        go_wp2_with (first
          | (at_mapUpdate; refine wpList_mapUpdate_own _ rfl _ _ _ 27 rfl 9 32 law9 Try.underlying27 (plainElem (H := Unit) Try.prog 32) w.heap.size k _ rfl hown (by unfold maxLen; omega) _ _ _ rfl rfl hkey _ [] (plainElem_int Try.underlying32 (by decide)) ?_; intro w1 hown1 hgrow1)
          | go_in)
        go_roundw
        case rel => exact ⟨k + 1, _, by go_num, by omega, hown1, by rw [HT.out]; exact HP.out, HB.out.grown hgrow1 HB.out.size (fun j hj => by cases hj; exact Nat.le_refl _)⟩
        case measure => simp [intOf]; omega
      · obtain rfl : n = k := by omega
        have hfin : SetIs wr wr.heap.size (.map (some w.heap.size)) ss := .inr ⟨_, _, D, rfl, HOWN.out.lt, HOWN.out, by have := HHAS.out; rwa [List.take_of_length_le (by have : ss.length = n := H.out.2.2.2.1; omega)] at this⟩
        have HFIN := Lib.hid hfin
        clear hfin hown
        go_wp2
        go_ret
        exact ⟨_, rfl, HFIN.out, HB.out⟩
theorem zero32 (w : World) : (zeroValue 32).run Try.prog w = .ok (.int .u32 0) w := by kernel_rfl
theorem sc_info : (Try.prog.info? 35).map (fun i => i.size) = some 2 := by kernel_rfl
theorem set_look {w : World} {B : Nat} {v : Value} {ss : List ByteArray} (h : SetIs w B v ss) (s : ByteArray) (hs : s.size ≤ maxLen) :
    ∃ c : Int, (Instr.lookup 27 v (.string s) true).run Try.prog w = .ok (.tuple #[.int .u32 c, .bool (hasS s ss)]) w := by
  rcases h with ⟨rfl, rfl⟩ | ⟨b, n, D, rfl, h2, h3, h4⟩
  · exact ⟨0, look_nil (w := w) true law9 Try.underlying27 (zero32 w) (keyOf_string_mk Try.underlying9 hs)⟩
  · obtain ⟨x, ps, hrun, hx⟩ := h3.look_ok law9 Try.underlying27 (zero32 w) (plainElem_int Try.underlying32 (by decide)) (keyOf_string_mk Try.underlying9 hs)
    obtain ⟨c, rfl, _⟩ := plainElem_int_inv Try.underlying32 hx
    exact ⟨c, by rw [← h4]; exact hrun⟩
/-- A chain of scopes, innermost first, each in a block above those of its parents. -/
def Chain (w : World) : Nat → Value → List (List ByteArray) → Prop
  | _, p, [] => p = .pointer none
  | B, p, ss :: r => ∃ b q m, p = .pointer (some ⟨b, 0, none⟩) ∧ b < B ∧ Blk w b 35 #[q, m] ∧ SetIs w b m ss ∧ Chain w b q r
theorem Chain.below {w w' : World} : ∀ {L : List (List ByteArray)} {B : Nat} {p : Value}, Chain w B p L → Below B w w' → Chain w' B p L
  | [], _, _, h, _ => h
  | ss :: r, B, p, ⟨b, q, m, h1, h2, h3, h4, h5⟩, hb =>
    have hb' : Below b w w' := hb.mono (Nat.le_of_lt h2)
    ⟨b, q, m, h1, h2, h3.below hb h2, h4.below hb', Chain.below h5 hb'⟩
theorem Chain.more {w : World} {L : List (List ByteArray)} {B B' : Nat} {p : Value} (h : Chain w B p L) (hB : B ≤ B') : Chain w B' p L := by
  cases L with
  | nil => exact h
  | cons ss r =>
    obtain ⟨b, q, m, h1, h2, h3⟩ := h
    exact ⟨b, q, m, h1, by omega, h3⟩
def NewPost (w : World) (L : List (List ByteArray)) (e : Ending) (w' : World) : Prop := ∃ p, e = .returned p ∧ Chain w' w'.heap.size p L ∧ Below w.heap.size w w'
set_option maxRecDepth 100000 in
theorem newS (p m : Value) (ss : List ByteArray) (L : List (List ByteArray)) (w : World) (hc : Chain w w.heap.size p L) (hm : SetIs w w.heap.size m ss) : Calls Try.prog 7 #[p, m] w (NewPost w (ss :: L)) := by
  have hfin : ∀ W : World, W = w.alloc (.cells #[p, m] 35) → Chain W W.heap.size (.pointer (some ⟨w.heap.size, 0, none⟩)) (ss :: L) ∧ Below w.heap.size w W := fun W hW => by
    subst hW
    have hb : Below w.heap.size w (w.alloc (.cells #[p, m] 35)) := (Below.refl _ _).alloc (Nat.le_refl _) _
    exact ⟨⟨w.heap.size, p, m, rfl, by simp, Blk.new _ _ _, hm.below hb, hc.below hb⟩, hb⟩
  have HF := Lib.hid hfin
  obtain ⟨pa, rfl⟩ : ∃ a, p = .pointer a := by
    cases L with
    | nil => exact ⟨_, hc⟩
    | cons s0 r0 => obtain ⟨b, q, m, h1, _⟩ := hc; exact ⟨_, h1⟩
  obtain ⟨mo, rfl⟩ : ∃ o, m = .map o := by
    rcases hm with ⟨h, _⟩ | ⟨b, n, D, h, _⟩
    · exact ⟨_, h⟩
    · exact ⟨_, h⟩
  clear hfin hc hm
  go_enter Try.func7, Try.ntmps7
  go_wp2
  go_ret
  exact ⟨_, rfl, HF.out _ rfl⟩
/-- What findNameUse is to answer. -/
def useOf (s : ByteArray) : List (List ByteArray) → Int
  | [] => 0
  | ss :: r => if hasS s ss = true then 2 else if r.any (hasS s) = true then 1 else 0
theorem useOf_cons (s : ByteArray) (ss : List ByteArray) (r : List (List ByteArray)) : useOf s (ss :: r) = if hasS s ss = true then 2 else if r.any (hasS s) = true then 1 else 0 := rfl
def ptrBlk : Value → Nat
  | .pointer (some a) => a.block
  | _ => 0
set_option maxHeartbeats 1000000 in
set_option maxRecDepth 100000 in
theorem findU (p : Value) (s : ByteArray) (L : List (List ByteArray)) (w : World) (hs : s.size ≤ maxLen) (hL : L ≠ []) (hc : Chain w w.heap.size p L) : Calls Try.prog 13 #[p, .string s] w (U8B (useOf s L) w) := by
  obtain ⟨ss0, r0, rfl⟩ := List.exists_cons_of_ne_nil hL
  obtain ⟨b0, q0, m0, rfl, h2, h3, h4, h5⟩ := hc
  have HC : Hid (Chain w (b0 + 1) (.pointer (some ⟨b0, 0, none⟩)) (ss0 :: r0)) := Lib.hid ⟨b0, q0, m0, rfl, by omega, h3, h4, h5⟩
  have HS := Lib.hid hs; have HB0 := Lib.hid h3
  obtain ⟨ij, hij, hsz⟩ : ∃ j, Try.prog.info? 35 = some j ∧ j.size ≠ 0 := by
    have h := sc_info
    cases hi : Try.prog.info? 35 with
    | none => rw [hi] at h; cases h
    | some j => rw [hi] at h; simp at h; exact ⟨j, rfl, by omega⟩
  clear h3 h4 h5 hL hs
  go_enter Try.func13, Try.ntmps13
  go_wp2
  go_loopw [0] (fun t wr => ∃ b ss r, t = .pointer (some ⟨b, 0, none⟩) ∧ Chain w (b + 1) t (ss :: r) ∧ b ≤ b0 ∧ (b = b0 → ss = ss0 ∧ r = r0) ∧ (b ≠ b0 → useOf s (ss0 :: r0) = if (ss :: r).any (hasS s) = true then 1 else 0) ∧ w = wr) (fun t _ => ptrBlk t)
  case atStart => exact ⟨b0, ss0, r0, rfl, HC.out, Nat.le_refl _, fun _ => ⟨rfl, rfl⟩, fun h => absurd rfl h, rfl⟩
  case round =>
    obtain ⟨b, ss, r, rfl, hch, hle, he, hne, rfl⟩ := hrel
    obtain ⟨b', q, m, e', _, hbk, hset, hrest⟩ := hch
    obtain rfl : b = b' := by injection e' with e'; injection e' with e'; injection e'
    obtain ⟨c, hrun⟩ := set_look hset s HS.out
    have k0 : w.cell? ⟨b, 0, none⟩ = some q := hbk.cell 0
    have k1 : w.cell? ⟨b, 1, none⟩ = some m := hbk.cell 1
    have HE := Lib.hid he; have HN := Lib.hid hne; have HR := Lib.hid hrest; have HBK := Lib.hid hbk
    clear e' hbk hset he hne hrest
    cases hh : hasS s ss
    · cases r with
      | nil =>
        obtain rfl : q = .pointer none := HR.out
        have HU : Hid (useOf s (ss0 :: r0) = 0) := Lib.hid (by
          by_cases e : b = b0
          · obtain ⟨rfl, rfl⟩ := HE.out e
            rw [useOf_cons, hh]; simp
          · rw [HN.out e]; simp [hh])
        rw [hh] at hrun
        clear hh
        go_wp2
        go_ret
        exact ⟨ret_int HU.out.symm, rfl⟩
      | cons ss1 r1 =>
        obtain ⟨b1, q1, m1, rfl, hlt, hbk1, hset1, hrest1⟩ := HR.out
        have HC1 : Hid (Chain w (b1 + 1) (.pointer (some ⟨b1, 0, none⟩)) (ss1 :: r1)) := Lib.hid ⟨b1, q1, m1, rfl, by omega, hbk1, hset1, hrest1⟩
        have HU : Hid (useOf s (ss0 :: r0) = if (ss1 :: r1).any (hasS s) = true then 1 else 0) := Lib.hid (by
          by_cases e : b = b0
          · obtain ⟨rfl, rfl⟩ := HE.out e
            rw [useOf_cons, hh]; simp
          · rw [HN.out e]; rw [List.any_cons, hh, Bool.false_or])
        rw [hh] at hrun
        clear hh hbk1 hset1 hrest1
        go_wp2
        go_roundw
        case rel => exact ⟨b1, ss1, r1, rfl, HC1.out, by omega, fun h => by omega, fun _ => HU.out, by first | rfl | trivial⟩
        case measure => simp [ptrBlk]; omega
    · rw [hh] at hrun
      by_cases e : b = b0
      · have HU : Hid (useOf s (ss0 :: r0) = 2) := Lib.hid (by obtain ⟨rfl, rfl⟩ := HE.out e; rw [useOf_cons, hh]; simp)
        subst e
        have heq := run_eql_ptr_same w (⟨b, 0, none⟩ : Addr) Try.underlying25 hij
        clear hh
        go_wp2
        go_ret
        exact ⟨ret_int HU.out.symm, rfl⟩
      · have HU : Hid (useOf s (ss0 :: r0) = 1) := Lib.hid (by rw [HN.out e]; simp [hh])
        have heq := run_eql_ptr_other w (a := ⟨b, 0, none⟩) (b := ⟨b0, 0, none⟩) Try.underlying25 hij hsz (fun h => e (by injection h)) HBK.out HB0.out
        clear hh
        go_wp2
        go_ret
        exact ⟨ret_int HU.out.symm, rfl⟩
set_option maxRecDepth 100000 in
theorem findW (p : Value) (s : ByteArray) (L : List (List ByteArray)) (w : World) (hs : s.size ≤ maxLen) (hL : L ≠ []) (hc : Chain w w.heap.size p L) (r : Int) (hr : useOf s L = r) : Calls Try.prog 9 #[p, .string s] w (U8B r w) := by
  subst hr
  have HS := Lib.hid hs; have HC := Lib.hid hc; have HL := Lib.hid hL
  clear hs hc hL
  go_enter Try.func9, Try.ntmps9
  go_wp2_with (go_at_call 13; refine (findU p s L _ HS.out HL.out HC.out).mono ?_)
  rintro e wz ⟨rfl, rfl⟩
  go_wp2
  go_ret
  exact ⟨rfl, rfl⟩
end Go.Proofs.Ytmifclnnpanppaa
