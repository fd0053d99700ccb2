/- zzTake: a number is read off the head of a text. -/
import Derived.Test.YthbmffocgccniaaDoorVpt
import Derived.Deep.QuietTactic
import Derived.BigQuiet
import Derived.BigRegion
import Derived.Handy
namespace Go.Proofs.YthbmffocgccniaaDoor
open Go.RowKit
set_option linter.unusedVariables false
set_option linter.unusedSimpArgs false
theorem byte_at {s : ByteArray} {pre : Bt} {c : UInt8} {post : Bt} {i : Nat} (h : s.data.toList = pre ++ c :: post) (hi : pre.length = i) : ∃ hl : i < s.size, s[i] = c := by
  have hl : i < s.size := by
    rw [size_list, h, List.length_append, List.length_cons]; omega
  refine ⟨hl, ?_⟩
  have h1 : s[i] = s.data.toList[i]'(by rw [Array.length_toList]; exact hl) := rfl
  rw [h1]
  have h2 : s.data.toList[i]? = some c := by rw [h, List.getElem?_append_right (by omega), hi, Nat.sub_self]; rfl
  rw [List.getElem?_eq_getElem (by rw [Array.length_toList]; exact hl)] at h2
  injection h2
/-- The reader's state: i digits read, u still to be read. -/
structure TkI (n : Int) (s : ByteArray) (rest : Bt) (i u v : Nat) : Prop where
  txt : ∃ pre, s.data.toList = pre ++ (putN u ++ rest) ∧ pre.length = i
  rd : Rd (sgn n) i u v
  pos : 1 ≤ u ∨ i = 0
/-- The digit that stands at the head. -/
def dOf (u : Nat) : Nat := if u < 32 then u else u % 32 + 32
theorem dOf_lt (u : Nat) : dOf u < 64 := by unfold dOf; split <;> omega
theorem dOf_mod (u : Nat) : dOf u % 32 = u % 32 := by unfold dOf; split <;> omega
theorem dOf_bit (u : Nat) : dOf u < 32 ↔ u < 32 := by unfold dOf; split <;> omega
theorem putN_dOf (u : Nat) : putN u = digU (dOf u) :: (if u < 32 then [] else putN (u / 32)) := by
  unfold dOf
  by_cases h : u < 32
  · rw [if_pos h, if_pos h, putN_small h]
  · rw [if_neg h, if_neg h, putN_big h]
theorem TkI.start {n : Int} {s : ByteArray} {rest : Bt} (h : s.data.toList = put n ++ rest) : TkI n s rest 0 (sgn n) 0 := ⟨⟨[], h, rfl⟩, Rd.start _, .inr rfl⟩
theorem TkI.byte {n : Int} {s : ByteArray} {rest : Bt} {i u v : Nat} (h : TkI n s rest i u v) : ∃ hl : i < s.size, s[i] = digU (dOf u) := by
  obtain ⟨pre, h1, h2⟩ := h.txt
  rw [putN_dOf] at h1
  exact byte_at h1 h2
theorem TkI.step {n : Int} {s : ByteArray} {rest : Bt} {i u v : Nat} (h : TkI n s rest i u v) (hu : ¬ u < 32) : TkI n s rest (i + 1) (u / 32) (v + (u % 32) * 2 ^ (5 * i)) := by
  obtain ⟨⟨pre, h1, h2⟩, h3, h4⟩ := h
  refine ⟨⟨pre ++ [digU (u % 32 + 32)], ?_, by simp [h2]⟩, h3.step, .inl (by omega)⟩
  rw [h1, putN_big hu]; simp
theorem TkI.rest_ {n : Int} {s : ByteArray} {rest : Bt} {i u v : Nat} (h : TkI n s rest i u v) (hu : u < 32) : (s.extract (i + 1) s.size).data.toList = rest := by
  obtain ⟨⟨pre, h1, h2⟩, h3, h4⟩ := h
  rw [putN_small hu] at h1
  rw [ByteArray.data_extract, Array.toList_extract, h1]
  have hs : s.size = pre.length + (1 + rest.length) := by rw [size_list, h1]; simp; omega
  rw [List.extract_eq_take_drop, hs, ← h2]
  have : pre ++ ([digU u] ++ rest) = (pre ++ [digU u]) ++ rest := by simp
  rw [this, List.drop_left' (by simp)]
  exact List.take_of_length_le (by omega)
theorem TkI.i7 {n : Int} {s : ByteArray} {rest : Bt} {i u v : Nat} (h : TkI n s rest i u v) (hn : sgn n < 2 ^ 35) : i < 7 := by
  rcases h.pos with h1 | h1
  · exact h.rd.short h1 hn
  · omega
theorem b64_size : b64B.size = 64 := rfl
set_option maxRecDepth 100000 in
theorem b64_nat : ∀ d : Fin 64, (b64B[d.val]'(by rw [b64_size]; exact d.isLt)).toNat = dig d.val := by decide
theorem b64_cmp (k x : Nat) (hk : k < 64) (hx : x < 64) (s : ByteArray) (i : Nat) (hl : i < s.size) (hs : s[i] = digU x) (b : Bool) (hb : b = decide (k = x)) : (((b64B[k]'(by rw [b64_size]; exact hk)).toNat : Int) == (s[i].toNat : Int)) = b := by
  rw [b64_nat ⟨k, hk⟩, hs, digU_nat x hx, hb]
  by_cases e : k = x
  · subst e; simp
  · rw [decide_eq_false e, beq_eq_false_iff_ne]
    intro h
    have h' : ((dig k : Nat) : Int) = ((dig x : Nat) : Int) := h
    exact e (dig_inj k x hk hx (by omega))
def TakePost (n : Int) (rest : Bt) (w : World) (e : Ending) (w' : World) : Prop := ∃ s : ByteArray, e = .returned (.tuple #[.int .i64 n, .string s, .bool true]) ∧ s.data.toList = rest ∧ w.grownBy w' none
set_option maxHeartbeats 2000000 in
set_option maxRecDepth 100000 in
theorem ztake_any (n : Int) (s : ByteArray) (rest : Bt) (w : World) (hs : s.data.toList = put n ++ rest) (hn : sgn n < 2 ^ 35) (hz : s.size ≤ 16777216) :
    Calls Tryd.prog 14 #[.string s] w (TakePost n rest w) := by
  have HS := Lib.hid hs; have HN := Lib.hid hn
  clear hs hn
  go_enter Tryd.func14, Tryd.ntmps14
  go_wp2
  go_loopw [5, 6, 7] (fun v sh iv wr => ∃ (i u vv sv : Nat), v = .int .i64 (vv : Int) ∧ sh = .int .u64 (sv : Int) ∧ iv = .int .i64 (i : Int) ∧ sv = 5 * i ∧ TkI n s rest i u vv ∧ w.grownBy wr none) (fun _ _ iv _ => 7 - (intOf iv).toNat)
  case atStart => exact ⟨0, sgn n, 0, 0, rfl, rfl, rfl, rfl, TkI.start HS.out, World.grownBy.refl _ _⟩
  case round =>
    obtain ⟨i, u, vv, sv, rfl, rfl, rfl, hsv, hti, hgr⟩ := hrel
    have HSV := Lib.hid hsv
    have hsv35 : sv < 35 := by have := hti.i7 HN.out; omega
    clear hsv
    have HT := Lib.hid hti; have HG := Lib.hid hgr
    have hi7 := hti.i7 HN.out
    obtain ⟨hil, hb⟩ := hti.byte
    have hd64 := dOf_lt u
    obtain ⟨x, hx⟩ : ∃ x, x = dOf u := ⟨_, rfl⟩
    rw [← hx] at hb hd64
    have HX := Lib.hid hx; have HB := Lib.hid hb
    clear hti hgr hx hb
    have hil' : (i : Int) < (s.size : Int) := by omega
    have hi7' : (i : Int) < 7 := by omega
    obtain ⟨w0, hw0⟩ : ∃ x, x = wr := ⟨_, rfl⟩
    subst hw0
    go_wp2
    go_loopw [8, 9] (fun dv kv wr => ∃ k : Nat, dv = .int .i64 (if x < k then (x : Int) else -1) ∧ kv = .int .i64 (k : Int) ∧ k ≤ 64 ∧ w.grownBy wr none) (fun _ kv _ => 64 - (intOf kv).toNat)
    case atStart => exact ⟨0, rfl, rfl, by omega, HG.out⟩
    case round =>
      obtain ⟨k, rfl, rfl, hk, hgr⟩ := hrel
      have HG2 := Lib.hid hgr
      clear hgr
      obtain ⟨dv, hdv⟩ : ∃ d, d = (if x < k then (x : Int) else -1) := ⟨_, rfl⟩
      rw [← hdv]
      have HDV := Lib.hid hdv
      clear hdv
      by_cases hlt : k < 64
      · have hk' : (k : Int) < 64 := by omega
        have hwk : IntKind.i64.wrap ((k : Int) + 1) = (k : Int) + 1 := by rw [IntKind.wrap_i64]; omega
        by_cases hkx : k = x
        · have hcmp := b64_cmp k x hlt hd64 s i hil HB.out true (by simp [hkx])
          unfold b64B at hcmp
          have HK := Lib.hid hkx
          clear hkx
          go_wp2
          go_quiet (fail)
          go_wp2
          go_roundw
          case rel => exact ⟨k + 1, by rw [if_pos (by have := HK.out; omega), HK.out], by simp, by omega, only_drewN HG2.out _⟩
          case measure => simp [intOf]; omega
        · have hcmp := b64_cmp k x hlt hd64 s i hil HB.out false (by simp [hkx])
          unfold b64B at hcmp
          have HNX : Hid (dv = if x < k + 1 then (x : Int) else -1) := Lib.hid (by
            rw [HDV.out]
            by_cases h : x < k
            · rw [if_pos h, if_pos (by omega)]
            · rw [if_neg h, if_neg (by omega)])
          clear hkx
          go_wp2
          go_quiet (fail)
          go_wp2
          go_roundw
          case rel => exact ⟨k + 1, by rw [HNX.out], by simp, by omega, only_drewN HG2.out _⟩
          case measure => simp [intOf]; omega
      · obtain rfl : k = 64 := by omega
        obtain rfl : dv = (x : Int) := by rw [HDV.out, if_pos (by omega)]
        clear HDV
        obtain ⟨w1, hw1⟩ : ∃ x, x = wr := ⟨_, rfl⟩
        subst hw1
        have hx0 : ¬ (x : Int) < 0 := by omega
        have ha31 := and31_i64 x (by omega)
        obtain ⟨y, hy⟩ : ∃ y, y = u % 32 := ⟨_, rfl⟩
        have hxy : x % 32 = y := by rw [HX.out, dOf_mod, hy]
        rw [hxy] at ha31
        have ha32 := and32_i64 x hd64
        have hrd := HT.out.rd
        have hval := hrd.val_lt
        rw [← hy] at hval
        obtain ⟨t, ht⟩ : ∃ t, t = y * 2 ^ sv := ⟨_, rfl⟩
        rw [← HSV.out, ← ht] at hval
        have hV : sgn n < 2 ^ 35 := HN.out
        have hwt : wrap64 ((y : Int) * 2 ^ sv) = (t : Int) := by
          have e : ((y : Int) * 2 ^ sv) = ((y * 2 ^ sv : Nat) : Int) := by simp
          rw [e, ← ht]
          unfold wrap64; omega
        have hv1 : vv < 2 ^ sv := by rw [HSV.out]; exact hrd.lt
        have hv2 : vv + t < 2 ^ 62 := Nat.lt_of_le_of_lt hval (Nat.lt_trans hV (by decide))
        have hv3 : vv + y * 2 ^ sv < 2 ^ 62 := ht ▸ hv2
        have hor := or_i64 vv y sv hv1 hv3
        rw [← ht] at hor
        obtain ⟨v', hv'⟩ : ∃ v', v' = vv + t := ⟨_, rfl⟩
        rw [← hv'] at hor
        have ha1 := and1_i64 v' (by rw [hv']; exact hv2)
        have hwi : IntKind.i64.wrap ((i : Int) + 1) = (i : Int) + 1 := by rw [IntKind.wrap_i64]; omega
        have hws : IntKind.u64.wrap ((sv : Int) + 5) = (sv : Int) + 5 := by rw [IntKind.wrap_u64]; omega
        have HV' : Hid (v' = vv + (u % 32) * 2 ^ (5 * i)) := Lib.hid (by rw [hv', ht, hy, HSV.out])
        have hv35 : v' < 34359738368 := by rw [hv']; exact Nat.lt_of_le_of_lt hval hV
        have HY := Lib.hid hy; have HXY := Lib.hid hxy; have HT2 := Lib.hid ht
        clear hy hxy hrd hval ht hv' hV hv1 hv2 hv3
        by_cases hu : u < 32
        · have hx32 : x < 32 := by have := HX.out; have := (dOf_bit u).2 hu; omega
          have HVN : Hid (v' = sgn n) := Lib.hid (by rw [HV'.out]; exact HT.out.rd.last hu)
          have HRS := Lib.hid (HT.out.rest_ hu)
          rw [if_pos hx32] at ha32
          obtain ⟨r, hr⟩ : ∃ r, r = v' % 2 := ⟨_, rfl⟩
          rw [← hr] at ha1
          obtain ⟨h, hh⟩ : ∃ h, h = v' / 2 := ⟨_, rfl⟩
          have hsh1 : (v' : Int) / 2 = (h : Int) := by omega
          have HUN := unsgn_sgn n
          rw [← HVN.out] at HUN
          unfold unsgn at HUN
          rw [← hr, ← hh] at HUN
          have HU := Lib.hid HUN
          have HR := Lib.hid hr; have HH := Lib.hid hh
          have hhb : h < 34359738368 := by omega
          have hsl : i + 1 ≤ s.size := by omega
          by_cases hr1 : r = 1
          · subst hr1
            have HNE : Hid (-(h : Int) = n) := Lib.hid (by have := HU.out; rw [if_pos rfl] at this; exact this)
            have HFIN : Hid (∀ W, w.grownBy W none → TakePost n rest w (.returned (.tuple #[.int .i64 (-(h : Int)), .string (s.extract (i + 1) s.size), .bool true])) W) := Lib.hid (fun W hg => ⟨_, by rw [← HNE.out], HRS.out, hg⟩)
            clear HU HUN hr hh HR
            go_wp2
            go_quiet (fail)
            go_wp2
            go_returns
            exact HFIN.out _ (only_drewN HG2.out _)
          · have hr0 : r = 0 := by have := HR.out; omega
            subst hr0
            have HNE : Hid ((h : Int) = n) := Lib.hid (by have := HU.out; rw [if_neg (by omega)] at this; exact this)
            have HFIN : Hid (∀ W, w.grownBy W none → TakePost n rest w (.returned (.tuple #[.int .i64 (h : Int), .string (s.extract (i + 1) s.size), .bool true])) W) := Lib.hid (fun W hg => ⟨_, by rw [← HNE.out], HRS.out, hg⟩)
            clear HU HUN hr hh HR hr1
            go_wp2
            go_quiet (fail)
            go_wp2
            go_returns
            exact HFIN.out _ (only_drewN HG2.out _)
        · have hx32 : ¬ x < 32 := by have := HX.out; have := (dOf_bit u); omega
          have HNXT := Lib.hid (HT.out.step hu)
          rw [← HV'.out] at HNXT
          rw [if_neg hx32] at ha32
          go_wp2
          go_roundw
          case rel => exact ⟨i + 1, u / 32, v', sv + 5, rfl, by simp, by simp, by have := HSV.out; omega, HNXT.out, HG2.out⟩
          case measure => simp [intOf]; omega
end Go.Proofs.YthbmffocgccniaaDoor
