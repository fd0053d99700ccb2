/- n011_287: small readers: a byte, a word, a link, a nested slot -/
import Derived.Test.YtdmllmipcfkaaaaMin
import Derived.Deep.DeepCutAuto
namespace Go.Proofs.Ytdmllmipcfkaaaa
open Go.RowKit
set_option linter.unusedVariables false
set_option linter.unusedSimpArgs false
set_option maxHeartbeats 1000000 in
set_option maxRecDepth 100000 in
theorem word_any (A : Option Addr) (n c : Nat) (xs : List Int) (i : Nat) (w : World) (h : Reads w w.heap.size 1 A n (xs.map (Value.int .u32))) (hn : n ≤ 9223372036854775807) :
    Calls Try.prog 18 #[.slice A n c, .int .i64 (i : Int)] w fun e w' => e = .returned (.int .u32 (xs.getD i 0)) ∧ w = w' := by
  have hlen : xs.length = n := by have := h.1; simpa using this
  by_cases hlt : i < n
  · obtain ⟨b, off, rfl, _, hc⟩ := reads_any h (show 0 < n by omega)
    have ck := hc i _ (List.getElem?_eq_getElem (show i < xs.length by omega))
    have e : xs.getD i 0 = xs[i]'(by omega) := by rw [List.getD_eq_getElem?_getD, List.getElem?_eq_getElem (by omega)]; rfl
    rw [e]
    generalize xs[i]'(by omega) = v at ck
    clear h hc hlen e
    go_enter Try.func18, Try.ntmps18
    go_wp2
    go_ret
    exact ⟨rfl, rfl⟩
  · have e : xs.getD i 0 = 0 := by rw [List.getD_eq_getElem?_getD, List.getElem?_eq_none (by omega)]; rfl
    rw [e]
    clear h hlen e
    go_enter Try.func18, Try.ntmps18
    go_wp2
    go_ret
    exact ⟨rfl, rfl⟩
set_option maxHeartbeats 1000000 in
set_option maxRecDepth 100000 in
theorem byte_any (A : Option Addr) (n c : Nat) (xs : List Int) (i : Nat) (w : World) (h : Reads w w.heap.size 1 A n (xs.map (Value.int .u8))) (hn : n ≤ 9223372036854775807) :
    Calls Try.prog 15 #[.slice A n c, .int .i64 (i : Int)] w fun e w' => e = .returned (.int .u8 (xs.getD i 0)) ∧ w = w' := by
  have hlen : xs.length = n := by have := h.1; simpa using this
  by_cases hlt : i < n
  · obtain ⟨b, off, rfl, _, hc⟩ := reads_any h (show 0 < n by omega)
    have ck := hc i _ (List.getElem?_eq_getElem (show i < xs.length by omega))
    have e : xs.getD i 0 = xs[i]'(by omega) := by rw [List.getD_eq_getElem?_getD, List.getElem?_eq_getElem (by omega)]; rfl
    rw [e]
    generalize xs[i]'(by omega) = v at ck
    clear h hc hlen e
    go_enter Try.func15, Try.ntmps15
    go_wp2
    go_ret
    exact ⟨rfl, rfl⟩
  · have e : xs.getD i 0 = 0 := by rw [List.getD_eq_getElem?_getD, List.getElem?_eq_none (by omega)]; rfl
    rw [e]
    clear h hlen e
    go_enter Try.func15, Try.ntmps15
    go_wp2
    go_ret
    exact ⟨rfl, rfl⟩
/-- The link of symbol i, if it has one. -/
def lkd (ls : List Int) (n : Nat) (i : Nat) : Bool := decide (i < n ∧ ls.getD i 0 < i)
def LinkPost (ls : List Int) (n i : Nat) (w : World) (e : Ending) (w' : World) : Prop := e = .returned (.tuple #[.int .i64 (if lkd ls n i = true then ls.getD i 0 else 0), .bool (lkd ls n i)]) ∧ w = w'
set_option maxHeartbeats 1000000 in
set_option maxRecDepth 100000 in
theorem link_any (A : Option Addr) (n c : Nat) (xs : List Int) (i : Nat) (w : World) (h : Reads w w.heap.size 1 A n (xs.map (Value.int .u32))) (hn : n ≤ 65536) (hi : i ≤ 65536) (hx : ∀ x ∈ xs, 0 ≤ x ∧ x ≤ 4294967295) :
    Calls Try.prog 14 #[.slice A n c, .int .i64 (i : Int)] w (LinkPost xs n i w) := by
  have hlen : xs.length = n := by have := h.1; simpa using this
  have hw : IntKind.u32.wrap (i : Int) = i := by rw [IntKind.wrap_u32]; omega
  by_cases hlt : i < n
  · obtain ⟨b, off, rfl, _, hc⟩ := reads_any h (show 0 < n by omega)
    have ck := hc i _ (List.getElem?_eq_getElem (show i < xs.length by omega))
    have e : xs.getD i 0 = xs[i]'(by omega) := by rw [List.getD_eq_getElem?_getD, List.getElem?_eq_getElem (by omega)]; rfl
    have hv := hx (xs[i]'(by omega)) (List.getElem_mem _)
    generalize hvv : xs[i]'(by omega) = v at ck e hv
    by_cases hl : v < i
    · have HB : Hid (lkd xs n i = true) := Lib.hid (by unfold lkd; rw [decide_eq_true_iff, e]; exact ⟨hlt, hl⟩)
      have HE := Lib.hid e
      clear h hc hlen e hvv hx
      go_enter Try.func14, Try.ntmps14
      go_wp2
      go_ret2
      refine ⟨?_, rfl⟩
      rw [HB.out, if_pos rfl, HE.out]
      all_goals rfl
    · have HB : Hid (lkd xs n i = false) := Lib.hid (by unfold lkd; rw [decide_eq_false_iff_not, e]; exact fun h => hl h.2)
      clear h hc hlen e hvv hx
      go_enter Try.func14, Try.ntmps14
      go_wp2
      go_ret2
      refine ⟨?_, rfl⟩
      rw [HB.out, if_neg (by decide)]
      all_goals rfl
  · have HB : Hid (lkd xs n i = false) := Lib.hid (by unfold lkd; rw [decide_eq_false_iff_not]; exact fun h => hlt h.1)
    clear h hlen hx
    go_enter Try.func14, Try.ntmps14
    go_wp2
    go_ret2
    refine ⟨?_, rfl⟩
    rw [HB.out, if_neg (by decide)]
    all_goals rfl
/-- The nested slot of symbol i, if it has one. -/
def nsd (ds : List Int) (sc : Int) (i : Nat) : Bool := decide (ds.getD i 0 ≠ 0 ∧ sc ≠ 0)
def NestPost (ds : List Int) (sc : Int) (i : Nat) (w : World) (e : Ending) (w' : World) : Prop := e = .returned (.tuple #[.int .u32 (if nsd ds sc i = true then (ds.getD i 0 - 1) % sc else 0), .bool (nsd ds sc i)]) ∧ w = w'
set_option maxHeartbeats 1000000 in
set_option maxRecDepth 100000 in
theorem nestS_any (A : Option Addr) (n c : Nat) (ds : List Int) (sc : Int) (i : Nat) (w : World) (h : Reads w w.heap.size 1 A n (ds.map (Value.int .u32))) (hn : n ≤ 9223372036854775807) (hs : 0 ≤ sc ∧ sc ≤ 4294967295) (hx : 0 ≤ ds.getD i 0 ∧ ds.getD i 0 ≤ 4294967295) :
    Calls Try.prog 16 #[.slice A n c, .int .u32 sc, .int .i64 (i : Int)] w (NestPost ds sc i w) := by
  have HW := Lib.hid (word_any A n c ds i w h hn)
  clear h
  generalize hv : ds.getD i 0 = v at hx HW
  by_cases h0 : v = 0
  · have HB : Hid (nsd ds sc i = false) := Lib.hid (by unfold nsd; rw [decide_eq_false_iff_not, hv]; exact fun h => h.1 h0)
    have t0 : (v == 0) = true := by rw [h0]; rfl
    clear hv h0
    go_enter Try.func16, Try.ntmps16
    go_wp2_with (go_at_call 18; refine HW.out.mono ?_; rintro e w' ⟨rfl, rfl⟩)
    go_ret2
    refine ⟨?_, rfl⟩
    rw [HB.out, if_neg (by decide)]
    all_goals rfl
  · have t0 : (v == 0) = false := by rw [beq_eq_false_iff_ne]; exact h0
    by_cases h1 : sc = 0
    · have HB : Hid (nsd ds sc i = false) := Lib.hid (by unfold nsd; rw [decide_eq_false_iff_not]; exact fun h => h.2 h1)
      have t1 : (sc == 0) = true := by rw [h1]; rfl
      clear hv h0 h1
      go_enter Try.func16, Try.ntmps16
      go_wp2_with (go_at_call 18; refine HW.out.mono ?_; rintro e w' ⟨rfl, rfl⟩)
      go_ret2
      refine ⟨?_, rfl⟩
      rw [HB.out, if_neg (by decide)]
      all_goals rfl
    · have HB : Hid (nsd ds sc i = true) := Lib.hid (by unfold nsd; rw [decide_eq_true_iff, hv]; exact ⟨h0, h1⟩)
      have HV := Lib.hid hv
      have t1 : (sc == 0) = false := by rw [beq_eq_false_iff_ne]; exact h1
      have p0 : 1 ≤ v := by omega
      have p1 : 1 ≤ sc := by omega
      clear hv h0 h1
      go_enter Try.func16, Try.ntmps16
      go_wp2_with (go_at_call 18; refine HW.out.mono ?_; rintro e w' ⟨rfl, rfl⟩)
      go_ret2
      refine ⟨?_, rfl⟩
      rw [HB.out, if_pos rfl, HV.out]
      all_goals rfl
end Go.Proofs.Ytdmllmipcfkaaaa
