/-
  PROVED: a fresh empty inner scope turns used-in-same-scope into used and leaves the rest; declaring the name in it makes it used in the same scope.
-/
import Derived.Test.YtmifclnnpanppaaRows
import Derived.WalkKit
import Derived.ProofKit
import Derived.Outline
import Derived.LoopTactic
import Derived.WalkSpells
import Derived.Deep.Light
import Derived.Test.YtmifclnnpanppaaLvlW
import Derived.OpenShut
import Derived.ShutString
import Derived.ChangeOld
import Derived.Below
import Derived.Carry
namespace Go.Proofs.Ytmifclnnpanppaa.fnFindNameUseNewInnerScopeDemotesSameScope
open Go.ChangeShapes Go.WideShapes Go.ChangeAt Go.RowKit
open Go.ChangeMaps (open_string shut_string)
set_option linter.unusedVariables false
set_option linter.unusedSimpArgs false

theorem own : ownKnob Try.prog.godebug = none := by kernel_rfl
theorem laidOut : laidOutB Try.pinned.checked.prog = true := by kernel_rfl



theorem useOf_two {s : ByteArray} {L : List (List ByteArray)} {ss : List ByteArray} (h : L[0]? = some ss) (hh : hasS s ss = true) : useOf s L = 2 := by
  cases L with
  | nil => simp at h
  | cons a r =>
    obtain rfl : a = ss := by simpa using h
    rw [useOf_cons, hh]; rfl
theorem useOf_one {s : ByteArray} {L : List (List ByteArray)} {s0 ss : List ByteArray} {d : Nat} (h0 : L[0]? = some s0) (hh0 : hasS s s0 = false) (hd : L[d]? = some ss) (hh : hasS s ss = true) : useOf s L = 1 := by
  cases L with
  | nil => simp at h0
  | cons a r =>
    obtain rfl : a = s0 := by simpa using h0
    cases d with
    | zero =>
      obtain rfl : a = ss := by simpa using hd
      rw [hh] at hh0; cases hh0
    | succ d =>
      have : r.any (hasS s) = true := by rw [List.any_eq_true]; exact ⟨ss, List.mem_of_getElem? (by simpa using hd), hh⟩
      rw [useOf_cons, hh0, this]; rfl
theorem useOf_zero {s : ByteArray} {L : List (List ByteArray)} (h : ∀ (i : Nat) (ss : List ByteArray), L[i]? = some ss → hasS s ss = false) : useOf s L = 0 := by
  cases L with
  | nil => rfl
  | cons a r =>
    have : r.any (hasS s) = false := by
      rw [List.any_eq_false]
      intro ss hs
      obtain ⟨i, hi, rfl⟩ := List.getElem_of_mem hs
      rw [h (i + 1) r[i] (by simp [List.getElem?_eq_getElem hi])]; simp
    rw [useOf_cons, h 0 a rfl, this]; rfl
theorem useOf_all (s : ByteArray) (L : List (List ByteArray)) : (useOf s L = 0 ∧ useOf s ([] :: L) = 0) ∨ (useOf s L = 1 ∧ useOf s ([] :: L) = 1) ∨ (useOf s L = 2 ∧ useOf s ([] :: L) = 1) := by
  have e0 : hasS s [] = false := rfl
  rw [useOf_cons s [] L, e0]
  cases L with
  | nil => exact .inl ⟨rfl, rfl⟩
  | cons a r =>
    rw [useOf_cons, List.any_cons]
    cases hasS s a <;> cases r.any (hasS s) <;> simp
theorem useOf_own (s : ByteArray) (L : List (List ByteArray)) : useOf s ([s] :: L) = 2 := useOf_two (ss := [s]) rfl (hasS_iff.2 (by simp))
theorem drop_step {L : List Lv} {d : Nat} {l : Lv} (h : L[d]? = some l) : (L.map Lv.ss).drop d = l.ss :: (L.map Lv.ss).drop (d + 1) := by
  obtain ⟨hd, e⟩ := List.getElem?_eq_some_iff.1 h
  rw [List.drop_eq_getElem_cons (by simpa using hd), List.getElem_map, e]
theorem drop_last {L : List Lv} {m : Nat} {l : Lv} (h : L[m]? = some l) (hl : L.length = m + 1) : (L.map Lv.ss).drop m = [l.ss] := by
  rw [drop_step h, List.drop_of_length_le (by simp; omega)]
open Go.Maps Go.WideMaps
/-! ### STEP 1: THE WALK -/
set_option maxHeartbeats 4000000 in
set_option maxRecDepth 100000 in
theorem walk (a0 : Option Addr) (len0 cap0 : Nat) (z0 : List Lv) (a1 : ByteArray) (w : World) (w0 : IsLvls w a0 len0 z0) (w1 : a1.size ≤ maxLen)  :
    Calls Try.prog 4 #[.slice a0 len0 cap0, .string a1] w fun e w' => e = .returned (.bool true) ∧ Below w.heap.size w w' := by
  have HW0 := Lib.hid w0; have HS := Lib.hid w1
  obtain ⟨hr, hn, hlen, hok⟩ := w0
  have R0 : Hid (∀ k, k < len0 → ∃ (b off : Nat) (l : Lv), a0 = some ⟨b, off, none⟩ ∧ b < w.heap.size ∧ z0[k]? = some l ∧ w.cell? ⟨b, off + k, none⟩ = some (.slice l.a l.n l.c) ∧ l.ok w w.heap.size) := Lib.hid (fun k hk => lv_at hr hlen hok hk)
  have HLEN := Lib.hid hlen
  clear hr hlen hok
  unfold maxLen at hn w1
  go_enter Try.func4, Try.ntmps4
  go_wp2_with (go_at_call 11; refine (zbytesN 11 (by omega) a0 len0 cap0 a1 z0 _ HW0.out HS.out).mono ?_)
  rintro e wz ⟨bz, rfl, rfl⟩
  cases bz
  · go_wp2
    go_ret
    exact ⟨rfl, Below.refl _ _⟩
  by_cases hbad : 4096 < len0 ∨ 1048576 < a1.size
  · have HBAD := Lib.hid hbad
    clear hbad
    go_wp2
    all_goals first | (go_ret; exact ⟨rfl, Below.refl _ _⟩) | (exfalso; have hq := HBAD.out; go_light; omega)
  have hn0 : len0 ≤ 4096 := by omega
  have hn1 : a1.size ≤ 1048576 := by omega
  clear hbad hn w1
  go_wp2_with (go_at_call 6; refine (znest a0 len0 cap0 z0 _ HW0.out).mono ?_)
  rintro e wz ⟨y, rfl, rfl⟩
  by_cases hl0 : len0 = 0
  · subst hl0
    go_wp2
    all_goals (go_ret; exact ⟨rfl, Below.refl _ _⟩)
  obtain ⟨m, rfl⟩ : ∃ m, len0 = m + 1 := ⟨len0 - 1, by omega⟩
  clear hl0
  obtain ⟨b, off, l, rfl, hbl, hlk, hc, hl⟩ := R0.out m (by omega)
  have HLK := Lib.hid hlk; have HL := Lib.hid hl
  clear hlk hl
  go_wp2_with (go_at_call 8; refine (zset l _ HL.out).mono ?_)
  all_goals first | (go_ret; exact ⟨rfl, Below.refl _ _⟩) | skip
  rintro e w1 ⟨v, rfl, hset, hb1⟩
  have HB1 := Lib.hid hb1; have HSET := Lib.hid hset
  clear hb1 hset
  go_wp2_with (go_at_call 7; refine (newS (.pointer none) v l.ss [] _ rfl HSET.out).mono ?_)
  rintro e w2 ⟨p, rfl, hch, hb2⟩
  have HCH : Hid (Chain w2 w2.heap.size p ((z0.map Lv.ss).drop m)) := Lib.hid (by rw [drop_last HLK.out HLEN.out]; exact hch)
  have HB2 := Lib.hid (HB1.out.trans (hb2.mono HB1.out.size))
  clear hch hb2
  go_wp2
  go_loopw [6, 7] (fun v t wr => ∃ (z : Int) (d : Nat), t = .int .i64 z ∧ z = (d : Int) - 1 ∧ d ≤ m ∧ Chain wr wr.heap.size v ((z0.map Lv.ss).drop d) ∧ Below w.heap.size w wr) (fun _ t _ => (intOf t + 1).toNat)
  case atStart => exact ⟨_, m, rfl, by omega, by omega, HCH.out, HB2.out⟩
  case round =>
    obtain ⟨z, d, rfl, hz, hd, hch, hb⟩ := hrel
    have HC := Lib.hid hch; have HB := Lib.hid hb
    clear hch hb HCH HB2
    cases d with
    | succ d =>
      obtain rfl : z = (d : Nat) := by omega
      clear hz
      obtain ⟨b', off', l', e', hbl', hlk, hc', hl⟩ := R0.out d (by omega)
      obtain ⟨rfl, rfl⟩ : b = b' ∧ off = off' := by injection e' with e'; injection e' with e1 e2; exact ⟨e1, e2⟩
      have cw := (HB.out.cell (p := ⟨b, off + d, none⟩) hbl).trans hc'
      have hsz := HB.out.size
      have HL' := Lib.hid ((hl.below HB.out).more hsz); have HLK' := Lib.hid (drop_step hlk)
      clear hlk hl hc' e'
      go_wp2_with (go_at_call 8; refine (zset l' _ HL'.out).mono ?_)
      rintro e w3 ⟨v3, rfl, hset, hb3⟩
      have HSET3 := Lib.hid hset; have HC3 := Lib.hid ((HC.out.below hb3).more hb3.size); have HB3 := Lib.hid (HB.out.trans (hb3.mono HB.out.size))
      clear hset hb3
      go_wp2_with (go_at_call 7; refine (newS u6 v3 l'.ss _ _ HC3.out HSET3.out).mono ?_)
      rintro e w4 ⟨p4, rfl, hch, hb4⟩
      have HC4 : Hid (Chain w4 w4.heap.size p4 ((z0.map Lv.ss).drop d)) := Lib.hid (by rw [HLK'.out]; exact hch)
      have HB4 := Lib.hid (HB3.out.trans (hb4.mono HB3.out.size))
      clear hch hb4
      go_wp2
      go_roundw
      case rel => exact ⟨_, d, rfl, by omega, by omega, HC4.out, HB4.out⟩
      case measure => first | (simp [intOf]; done) | (simp [intOf]; omega)
    | zero =>
      obtain rfl : z = -1 := by omega
      clear hz
      have hne : z0.map Lv.ss ≠ [] := fun h => by have := congrArg List.length h; simp at this; have := HLEN.out; simp_all
      have HNE := Lib.hid hne
      have hc0 : Chain wr wr.heap.size u6 (z0.map Lv.ss) := HC.out
      have HC0 := Lib.hid hc0
      clear hne hc0 HC
      obtain ⟨u, hu⟩ : ∃ u, useOf a1 (z0.map Lv.ss) = u := ⟨_, rfl⟩
      obtain ⟨x, hx⟩ : ∃ x, useOf a1 ([] :: z0.map Lv.ss) = x := ⟨_, rfl⟩
      have HCS := Lib.hid (useOf_all a1 (z0.map Lv.ss))
      rw [hu, hx] at HCS
      have HU := Lib.hid hu; have HX := Lib.hid hx
      clear hu hx
      obtain ⟨w5, rfl⟩ : ∃ x, x = wr := ⟨_, rfl⟩
      have hsz := HB.out.size
      go_wp2_with (go_at_call 9; refine (findW u6 a1 (z0.map Lv.ss) _ HS.out HNE.out HC0.out u HU.out).mono ?_)
      rintro e wz ⟨rfl, rfl⟩
      go_wp2_with (go_at_call 7; refine (newS u6 (.map none) [] _ _ HC0.out (.inl ⟨rfl, rfl⟩)).mono ?_)
      rintro e w6 ⟨p6, rfl, hch, hb6⟩
      have HC6 := Lib.hid hch; have HB6 := Lib.hid (HB.out.trans (hb6.mono hsz)); have HC06 := Lib.hid ((HC0.out.below hb6).more hb6.size)
      clear hch hb6
      go_wp2_with (go_at_call 9; refine (findW p6 a1 ([] :: z0.map Lv.ss) _ HS.out (by simp) HC6.out x HX.out).mono ?_)
      rintro e wz ⟨rfl, rfl⟩
      have hmm := @run_makeMap Try.prog
      have hkey := keyOf_string_mk Try.underlying9 HS.out
      go_wp2_with (at_mapUpdate; refine wpList_mapUpdate_own _ rfl _ _ _ 27 rfl 9 32 law9 Try.underlying27 (plainElem (H := Unit) Try.prog 32) w6.heap.size 0 _ rfl (World.ownsMap_made _ _ _ _) (by unfold maxLen; omega) _ _ _ rfl rfl hkey _ [] (plainElem_int Try.underlying32 (by decide)) ?_)
      intro w7 hown7 hg7
      have hsz7 := hown7.lt
      have hb7 : Below w6.heap.size w6 w7 := ((Below.refl w6.heap.size w6).alloc (Nat.le_refl _) _).grown hg7 (by simp) (fun j hj => by cases hj; exact Nat.le_refl _)
      have HSET7 : Hid (SetIs w7 w7.heap.size (.map (some w6.heap.size)) [a1]) := Lib.hid (.inr ⟨_, _, _, rfl, hsz7, hown7, has_put (D := .map []) (World.ownsMap_made w6 Try.prog 9 (plainElem (H := Unit) Try.prog 32)).isMap a1 _ (ss := []) (fun s => rfl)⟩)
      have HC7 := Lib.hid ((HC06.out.below hb7).more hb7.size); have HB7 := Lib.hid (HB6.out.trans (hb7.mono HB6.out.size))
      clear hown7 hg7 hb7 hmm hkey
      go_wp2_with (go_at_call 7; refine (newS u6 (.map (some w6.heap.size)) [a1] _ _ HC7.out HSET7.out).mono ?_)
      rintro e w8 ⟨p8, rfl, hch, hb8⟩
      have HC8 := Lib.hid hch; have HB8 := Lib.hid (HB7.out.trans (hb8.mono HB7.out.size))
      clear hch hb8
      go_wp2_with (go_at_call 9; refine (findW p8 a1 ([a1] :: z0.map Lv.ss) _ HS.out (by simp) HC8.out 2 (useOf_own _ _)).mono ?_)
      rintro e wz ⟨rfl, rfl⟩
      rcases HCS.out with ⟨rfl, rfl⟩ | ⟨rfl, rfl⟩ | ⟨rfl, rfl⟩
      all_goals
        go_wp2
        go_ret
        exact ⟨rfl, HB8.out⟩

/-! ### THE ROW's STEP -/
set_option maxRecDepth 100000 in
theorem lifted (os : Os) (started : os.Started) (H : Type) (enc : TypeId × Value → H) :
    ReturnsInHanded {} Try.checked os 4 .any (Rows.fnFindNameUseNewInnerScopeDemotesSameScopeSpec.pre6 enc Try.prog Try.f4 Rows.fnFindNameUseNewInnerScopeDemotesSameScopeRow.domain false) (Rows.fnFindNameUseNewInnerScopeDemotesSameScopeSpec.post enc Try.prog Try.f4 false true false false) := by
  refine returnsInHanded_of_change (C := Try.checked) own started (by kernel_rfl) Try.func4
    (ChangeSpec.witness6 (enc := enc) (C := Try.checked) false ⟨#[], #[.slice none 0 0, .string ByteArray.empty], []⟩ 8 (by kernel_rfl) (by kernel_rfl) (by kernel_rfl) (by kernel_rfl)) ?_
  intro W base args ds gs before hval0 hW hcnd _
  have hval : ∀ (j : Nat) t v, Try.f4.params[j]? = some t → args[j]? = some v → Value.okWide Try.prog W .any base t v := hval0
  have hW' := hW
  obtain ⟨p, q, hA0, hV, rfl, hfz, hnd⟩ := hW
  have hA : DataW.TrodAll enc Try.prog W 0 (fun _ => true) true Try.f4.params.toList args.toList ds p := hA0
  rw [Try.params4] at hA hval
  obtain ⟨v0, vs0, d0, ds0, p0, q0, hargs, rfl, rfl, h0, r0⟩ := trodAll_cons hA
  obtain ⟨v1, vs1, d1, ds1, p1, q1, rfl, rfl, rfl, h1, r1⟩ := trodAll_cons r0
  obtain ⟨rfl, rfl, rfl⟩ := trodAll_nil r1
  obtain rfl : args = #[v0, v1] := by cases args; simp_all
  obtain ⟨rfl, rfl⟩ := trodVars_none hV
  have k0 := h0
  have lt0 : ∀ x ∈ p0, x.block < W.heap.size := by obtain ⟨m, hm⟩ := k0; exact DataW.trod_lt m _ _ _ hm
  have k1 := h1
  have lt1 : ∀ x ∈ p1, x.block < W.heap.size := by obtain ⟨m, hm⟩ := k1; exact DataW.trod_lt m _ _ _ hm
  obtain ⟨a0, len0, cap0, rfl⟩ := okWide_slice Try.underlying22 (hval 0 22 v0 rfl rfl)
  obtain ⟨z0, w0⟩ : ∃ zs, IsLvls W a0 len0 zs := by
    obtain ⟨fuel, hf⟩ := h0
    exact open_lvls Try.underlying22 Try.underlying29 Try.underlying9 (by kernel_rfl) (by kernel_rfl) hf
  obtain ⟨a1, rfl, rfl, rfl, w1⟩ := open_string Try.underlying9 (hval 1 9 v1 rfl rfl) h1
  clear hA0 hval0
  refine (walk a0 len0 cap0 z0 a1 W w0 w1 ).mono fun e W' ⟨he, bel⟩ => ?_
  subst he
  exact ⟨_, rfl, _, _, _, [], _, [], hW', trodAll_mk1 (shut_bool Try.underlying4 _), (trodAll_cons_mk (Below.trod laidOut (by kernel_rfl) (of_decide_eq_true (by kernel_rfl)) k0 bel lt0) (trodAll_cons_mk (Below.trod laidOut (by kernel_rfl) (of_decide_eq_true (by kernel_rfl)) k1 bel lt1) trodAll_mk0)), rfl, bel.frame _, fun h => by cases h⟩

theorem over : Rows.fnFindNameUseNewInnerScopeDemotesSameScopeRow.holds Try.pinned (OpenSpec.ofChange Rows.fnFindNameUseNewInnerScopeDemotesSameScopeSpec) :=
  OpenClaim.holds_of_wide 4 Try.f4 rfl rfl rfl rfl rfl rfl rfl ⟨rfl, rfl, rfl, rfl, rfl⟩ rfl rfl rfl rfl rfl (by kernel_rfl) Try.func4 (by kernel_rfl)
    (of_decide_eq_true (by kernel_rfl)) (by unfold Func.isWrapper; first | (rw [if_pos (by decide +kernel)]; kernel_rfl) | (rw [if_neg (by decide +kernel)]; exact ⟨rfl, rfl⟩))
    (fun os started H enc _ => lifted os started H enc)

theorem proved : Rows.FnFindNameUseNewInnerScopeDemotesSameScopeSaid := over
#print axioms proved
end Go.Proofs.Ytmifclnnpanppaa.fnFindNameUseNewInnerScopeDemotesSameScope