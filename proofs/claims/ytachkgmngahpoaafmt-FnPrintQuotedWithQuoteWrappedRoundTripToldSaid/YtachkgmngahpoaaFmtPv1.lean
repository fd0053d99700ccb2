/- printQuotedWithQuote (written by mkpqw.py). -/
import Derived.Test.YtachkgmngahpoaaFmtEsc
import Derived.Test.YtachkgmngahpoaaFmtEqg
import Derived.Test.YtachkgmngahpoaaFmtPqa
import Derived.Test.YtachkgmngahpoaaFmtPqb
import Derived.Test.YtachkgmngahpoaaFmtCll
import Derived.Deep.DeepCutAuto
import Derived.Deep.Cut
import Derived.Deep.CutBlock
import Derived.Deep.CutRange
import Derived.Deep.RegionLaw
namespace Go.Proofs.YtachkgmngahpoaaFmt
open Go.RowKit
set_option linter.unusedVariables false
set_option linter.unusedSimpArgs false

set_option maxHeartbeats 16000000 in
set_option maxRecDepth 100000 in
theorem pv_34 {B b : Nat} {K : Array Value} {A : Option Addr} {cap : Nat} {bs : List Value} (xs : List Int) (hbs : bs = xs.map (Value.int .u8)) (s : ByteArray) (fl lim : Int) (hl1 : -9223372036854775808 ≤ lim) (hl2 : lim ≤ 9223372036854775807) (hf1 : 0 ≤ fl) (hf2 : fl ≤ 255) (w : World) (h : IsP B b K A cap bs w) (hB : B ≤ w.heap.size) (L : Nat) (hL : bs.length = L) (hLn : L ≤ 2097152) (hs : s.size ≤ 1048576)
    (hfree : hexFree s.data.toList) (k3 : K[3]? = some (.int .i64 lim)) (k5 : K[5]? = some (.int .u16 0)) (k7 : K[7]? = some (.bool false)) (k41 : K[41]? = some (.int .i64 0)) (k42 : K[42]? = some (.int .i64 0)) (hTB : ∀ W, Below B w W → Lib.Utf8Tabs 0 1 W ∧ FoldTabs W) :
    Calls Tryf.prog 14 #[.pointer (some ⟨b, 0, none⟩), .string s, .int .u8 34, .int .u8 fl] w (PrintedW B b 34 s.data.toList A bs w) := by
  obtain ⟨i0, hi0, hz0, hz1, hz2⟩ := info_parts u8I
  obtain ⟨t, ht⟩ : ∃ t, t = s.data.toList := ⟨_, rfl⟩
  have HT := Lib.hid ht
  have HL : Hid (t.length = s.size) := Lib.hid (by rw [ht]; exact qsize s)
  rw [← ht] at hfree ⊢
  have HFREE := Lib.hid hfree; have HTB := Lib.hid hTB
  have HP0 := Lib.hid h; have HW0 := Lib.hid (Below.refl B w); have HN0 := Lib.hid hL; have HK0 := Lib.hid (Kept.refl b (rb A) w)
  have HR0 : Hid (RowAt (rb A) (rb A) w.heap.size) := Lib.hid (.inl rfl)
  have SRC2 : Hid (∀ W : World, Src Tryf.prog 1 9 (.string ⟨#[92, 10]⟩) 2 [.int .u8 92, .int .u8 10] W) := Lib.hid (fun W => Src.ofString _ Tryf.underlying9 _)
  have hlt := h.lt
  have HBS := Lib.hid hbs
  clear ht hfree hTB h hL hbs
  go_enter Tryf.func14, Tryf.ntmps14
  have HA9 := Lib.hid (HP0.out.alloc (.cells #[.int .u8 34] 5))
  have HWA9 : Hid (Below B w (w.alloc (.cells #[.int .u8 34] 5))) := Lib.hid (HW0.out.alloc (by have := HW0.out.size; omega) _)
  have HSA9 : Hid (B ≤ (w.alloc (.cells #[.int .u8 34] 5)).heap.size) := Lib.hid (by have h0 := HW0.out.size; (try simp at h0); simp; omega)
  have c15 : w.cell? ⟨b, 15, none⟩ = some (.slice A L cap) := HP0.out.css HN0.out
  go_wp2_with (at_builtin; refine wpList_append_own_src _ rfl (.tmp 22) (.tmp 24) 22 22 rfl B 5 i0 (.int .u8 0) 1 1 Tryf.underlying22 hi0 hz0 hz1 hz2 rfl _ L bs rfl (HA9.out.ownL HN0.out) _ 1 [.int .u8 34] rfl (srcOne w (.int .u8 34) rfl) (by unfold maxLen; omega) (by omega) HSA9.out ?_)
  intro v9 w9 hown9 hgrow9 hat9
  obtain ⟨g9, cap9, rfl, d15, z15, hp9, hb9, hl9, hs9, hk9, hr9⟩ := IsP.app (m := 1) (news := [.int .u8 34]) HA9.out HN0.out HSA9.out HWA9.out (by omega) (by first | exact hown9 | simpa using hown9) hgrow9 (by simpa using hat9)
  have HP9 := Lib.hid hp9; have HW9 := Lib.hid hb9; have HN9 := Lib.hid hl9
  have HK9 : Hid (Kept b (rb A) w (w9.setCell ⟨b, 15, none⟩ (.slice (some ⟨g9, 0, none⟩) (L + 1) cap9))) := Lib.hid ((HK0.out.alloc _).trans hk9 (by have := HR0.out; exact this))
  have HR9 : Hid (RowAt (rb A) (rb (some ⟨g9, 0, none⟩)) w.heap.size) := Lib.hid (HR0.out.trans hr9 (by have := HK0.out.size; simp; try omega))
  clear hp9 hb9 hown9 hgrow9 hl9 hk9 hr9 hat9 c15 HA9 HWA9 HSA9
  obtain ⟨W1, hW1⟩ : ∃ W : World, W = (w9.setCell ⟨b, 15, none⟩ (.slice (some ⟨g9, 0, none⟩) (L + 1) cap9)) := ⟨_, rfl⟩
  obtain ⟨A1, hA1⟩ : ∃ W : Option Addr, W = (some ⟨g9, 0, none⟩) := ⟨_, rfl⟩
  obtain ⟨C1, hC1⟩ : ∃ W : Nat, W = cap9 := ⟨_, rfl⟩
  obtain ⟨pre, hpre⟩ : ∃ W : List Value, W = (bs ++ [.int .u8 34]) := ⟨_, rfl⟩
  obtain ⟨n1, hn1⟩ : ∃ W : Nat, W = (L + 1) := ⟨_, rfl⟩
  have hn1' : n1 ≤ 2097153 := by omega
  have HPRE : Hid (pre = bs ++ qCells 34) := Lib.hid (by rw [hpre]; simp [qCells])
  have HPX : Hid (pre = (xs ++ [34]).map (Value.int .u8)) := Lib.hid (by rw [hpre, HBS.out]; simp)
  rw [← hW1, ← hA1, ← hC1, ← hpre] at HP9
  rw [← hW1] at HW9 HK9
  rw [← hA1] at HR9
  rw [← hpre, ← hn1] at HN9
  have HP1 := HP9; have HW1 := HW9; have HK1 := HK9; have HR1 := HR9; have HN1 := HN9
  have c3 : W1.cell? ⟨b, 3, none⟩ = some (.int .i64 lim) := (HP1.out.cell (by decide)).trans k3
  have CLX := Lib.hid (cll_any (xs ++ [34]) HPX.out W1 HP1.out n1 HN1.out (by omega) k41 k42)
  go_upto_region 2 with fail
  rw [← hW1]
  clear hn1 hpre hC1 hA1 hW1
  go_upto_region 7 with fail
  go_cut [44] from 30 to 44 (fun x wx => ∃ bw : Bool, x = .bool bw ∧ (bw = true → 0 < lim) ∧ wx = W1)
  case first =>
    by_cases hl0 : 0 < lim
    · go_wp2
      go_meet
      exact ⟨_, rfl, fun _ => hl0, rfl⟩
    · go_wp2
      go_meet
      exact ⟨_, rfl, fun h => (by cases h), rfl⟩
  case rest =>
  obtain ⟨bw, rfl, hbw, hq⟩ := hcut
  have hq := hq.symm
  subst hq
  go_upto_if 44 with fail
  go_cut [11, 12] from 45 to 58 (fun x y wx => ∃ (sl : Int) (wl : Bool) (K' : Array Value), x = .int .i64 sl ∧ y = .bool wl ∧ 0 ≤ sl ∧ sl ≤ 4194304 ∧ (wl = true → 0 < lim) ∧ IsP B b K' A1 C1 pre wx ∧ (K'[3]? = some (.int .i64 lim) ∧ K'[5]? = some (.int .u16 0) ∧ K'[7]? = some (.bool false)) ∧ Below B W1 wx ∧ Kept b (rb A1) W1 wx)
  case first =>
    cases bw
    · go_wp2
      go_meet
      exact ⟨0, false, K, rfl, rfl, by omega, by omega, fun h => (by cases h), HP1.out, ⟨k3, k5, k7⟩, Below.refl _ _, Kept.refl _ _ _⟩
    · have hl0 := hbw rfl
      go_upto_region 9 with (go_at_call 16; refine CLX.out.mono ?_; rintro e wk ⟨r, K', rfl, hr, hp', hk', hb', hkp'⟩; have c3k : wk.cell? ⟨b, 3, none⟩ = some (.int .i64 lim) := (hp'.cell (by decide)).trans ((hk' 3 (by decide) (by decide)).trans k3); have HPK := Lib.hid hp'; have HKK := Lib.hid hk'; have HBK := Lib.hid hb'; have HKP := Lib.hid hkp'; clear hp' hk' hb' hkp')
      have hks : K'[3]? = some (.int .i64 lim) ∧ K'[5]? = some (.int .u16 0) ∧ K'[7]? = some (.bool false) := ⟨(HKK.out 3 (by decide) (by decide)).trans k3, (HKK.out 5 (by decide) (by decide)).trans k5, (HKK.out 7 (by decide) (by decide)).trans k7⟩
      by_cases hgt : lim < (r : Int)
      · go_wp2
        go_meet
        exact ⟨lim, true, K', rfl, rfl, by omega, by omega, fun _ => hl0, HPK.out, hks, HBK.out, HKP.out⟩
      · go_wp2
        go_meet
        exact ⟨r, true, K', rfl, rfl, by omega, by omega, fun _ => hl0, HPK.out, hks, HBK.out, HKP.out⟩
  case rest =>
  obtain ⟨sl, wl, K', rfl, rfl, s1, s2, hwl, hp', ⟨q3, q5, q7⟩, hb', hkp'⟩ := hcut
  have HPS := Lib.hid hp'; have HWS := Lib.hid (HW1.out.trans hb'); have HKS := Lib.hid (HK1.out.trans hkp' HR1.out)
  clear hp' hb' hkp' c3 CLX hbw k3 k5 k7
  go_wp2
  go_loopw [9, 10, 11] (fun i r sv wr => ∃ (k j Lc : Nat) (A' : Option Addr) (C' : Nat) (cur : List Value) (sx : Int) (wf : Nat → Bool), i = .int .i64 k ∧ r = .int .i64 j ∧ sv = .int .i64 sx ∧ -(k : Int) ≤ sx ∧ sx ≤ 4194304 ∧ k ≤ s.size ∧ j ≤ k ∧ IsP B b K' A' C' cur wr ∧ Below B w wr ∧ Kept b (rb A) w wr ∧ RowAt (rb A) (rb A') w.heap.size ∧ cur.length = Lc ∧ AtQ wf 34 t pre cur j k ∧ ∀ i, k ≤ i → wf i = false) (fun i _ _ _ => s.size - (intOf i).toNat)
  case atStart => exact ⟨0, 0, n1, A1, C1, pre, sl, noW, rfl, rfl, rfl, by omega, by omega, by omega, by omega, HPS.out, HWS.out, HKS.out, HR1.out, HN1.out, by simp [AtQ, outW, cells], fun _ _ => rfl⟩
  case round =>
    obtain ⟨k, j, Lc, Ar, Cr, cur, sx, wf, rfl, rfl, rfl, sx1, sx2, hk, hj, hp, hbw, hkp, hro, hcl, hat, hfut⟩ := hrel
    have hLc : Lc ≤ n1 + 4 * k := by have h1 := hat.len; have h2 := HN1.out; omega
    have HP2 := Lib.hid hp; have HW2 := Lib.hid hbw; have HK2 := Lib.hid hkp; have HR2 := Lib.hid hro; have HN2 := Lib.hid hcl; have HAT := Lib.hid hat; have HFUT := Lib.hid hfut
    clear hp hbw hkp hro hcl hat hfut
    by_cases hlt2 : k < s.size
    · have hkw0 : IntKind.i64.wrap (sx + (k : Int)) = sx + (k : Int) := by rw [IntKind.wrap_i64]; omega
      have c3 : wr.cell? ⟨b, 3, none⟩ = some (.int .i64 lim) := (HP2.out.cell (by decide)).trans q3
      go_upto_region 13 with fail
      go_cut [73] from 62 to 73 (fun x wx => ∃ bw : Bool, x = .bool bw ∧ (bw = true → 0 < lim ∧ lim ≤ sx + k) ∧ wx = wr)
      case first =>
        cases wl
        · go_wp2
          go_meet
          exact ⟨_, rfl, fun h => (by cases h), rfl⟩
        · have hl0 := hwl rfl
          by_cases hge : lim ≤ sx + (k : Int)
          · go_wp2
            go_meet
            exact ⟨_, rfl, fun _ => ⟨hl0, hge⟩, rfl⟩
          · go_wp2
            go_meet
            exact ⟨_, rfl, fun h => (by cases h), rfl⟩
      case rest =>
      obtain ⟨bw, rfl, hbw, hq⟩ := hcut
      have hq := hq.symm
      subst hq
      clear hkw0
      go_upto_if 73 with fail
      go_cut [10, 11] from 74 to 104 (fun x y wx => ∃ (j' Lc' : Nat) (A' : Option Addr) (C' : Nat) (cur' : List Value) (sy : Int) (wg : Nat → Bool), x = .int .i64 j' ∧ y = .int .i64 sy ∧ j' ≤ k ∧ -(k : Int) ≤ sy ∧ sy ≤ 4194304 ∧ IsP B b K' A' C' cur' wx ∧ Below B w wx ∧ Kept b (rb A) w wx ∧ RowAt (rb A) (rb A') w.heap.size ∧ cur'.length = Lc' ∧ AtV wg 34 t pre cur' j' k ∧ ∀ i, k < i → wg i = false)
      case first =>
        cases bw
        · go_wp2
          go_meet
          exact ⟨j, Lc, Ar, Cr, cur, sx, wf, rfl, rfl, hj, sx1, sx2, HP2.out, HW2.out, HK2.out, HR2.out, HN2.out, HAT.out.stay HFUT.out, fun i hi => HFUT.out i (by omega)⟩
        · obtain ⟨hl0, hge⟩ := hbw rfl
          have hsub : IntKind.i64.wrap (sx - lim) = sx - lim := by rw [IntKind.wrap_i64]; omega
          by_cases hjk : j < k
          · have hjk' : (j : Int) < (k : Int) := by omega
            go_upto_region 15 with fail
            obtain ⟨m7, hm7⟩ : ∃ m, m = (s.extract j k).size := ⟨_, rfl⟩
            have hme7 : m7 ≤ 1048576 := by rw [hm7, ByteArray.size_extract]; omega
            have hmp7 : 0 < m7 := by rw [hm7, ByteArray.size_extract]; omega
            have HM7 : Hid (m7 = k - j) := Lib.hid (by rw [hm7, ByteArray.size_extract]; omega)
            have HX7 := Lib.hid (cells_extract s j k)
            have HSRC7 : Hid (Src Tryf.prog 1 9 (.string (s.extract j k)) m7 (byteCells (s.extract j k)) wr.drew) := Lib.hid (by rw [hm7]; exact Src.ofString _ Tryf.underlying9 _)
            have hsz7 : B ≤ wr.heap.size := by have := HW2.out.size; omega
            obtain ⟨X7, hX7⟩ : ∃ X, X = byteCells (s.extract j k) := ⟨_, rfl⟩
            rw [← hX7] at HX7 HSRC7
            have c15 : wr.cell? ⟨b, 15, none⟩ = some (.slice Ar Lc Cr) := HP2.out.css HN2.out
            clear hm7 hX7
            go_region_law (refine step_append_own_src _ rfl (.tmp 81) (.tmp 85) 22 9 rfl B 5 i0 (.int .u8 0) 1 1 Tryf.underlying22 hi0 hz0 hz1 hz2 rfl (.slice Ar Lc Cr) Lc cur (by simp [Act.eval, Act.put]) (HP2.out.drew.ownL HN2.out) (.string (s.extract j k)) m7 X7 (by simp [Act.eval, Act.put]) HSRC7.out (by unfold maxLen; omega) (by omega) hsz7 ?_; intro v' w7 hown' hgrow hat; obtain ⟨g7, cap7, hv, d15, z15, hp7, hb7, hl7, hs7, hk7, hr7⟩ := HP2.out.drew.app HN2.out hsz7 HW2.out.drew (by omega) hown' hgrow hat; have HP7 := Lib.hid hp7; have HW7 := Lib.hid hb7; have HN7 := Lib.hid hl7; have HK7 : Hid (Kept b (rb A) w (w7.setCell ⟨b, 15, none⟩ (.slice (some ⟨g7, 0, none⟩) (Lc + m7) cap7))) := Lib.hid (HK2.out.trans ⟨hk7.size, hk7.block⟩ HR2.out); have HR7 : Hid (RowAt (rb A) (rb (some ⟨g7, 0, none⟩)) w.heap.size) := Lib.hid (HR2.out.trans hr7 HK2.out.size); subst hv; clear hp7 hb7 hown' hgrow hl7 hk7 hr7 hat)
            clear c15 HSRC7
            go_upto_region 17 with fail
            obtain ⟨W7, hW7⟩ : ∃ W : World, W = (w7.setCell ⟨b, 15, none⟩ (.slice (some ⟨g7, 0, none⟩) (Lc + m7) cap7)) := ⟨_, rfl⟩
            rw [← hW7]
            rw [← hW7] at HP7 HW7 HK7
            clear hW7
            have hsz8 : B ≤ W7.heap.size := by have h0 := HW7.out.size; (try simp at h0); (try simp); omega
            have c15 : W7.cell? ⟨b, 15, none⟩ = some (.slice (some ⟨g7, 0, none⟩) (Lc + m7) cap7) := HP7.out.css HN7.out
            go_wp2_with (at_builtin; refine wpList_append_own_src _ rfl (.tmp 94) (.const (.string ⟨#[92, 10]⟩)) 22 9 rfl B 5 i0 (.int .u8 0) 1 1 Tryf.underlying22 hi0 hz0 hz1 hz2 rfl _ (Lc + m7) (cur ++ X7) rfl (HP7.out.ownL HN7.out) _ 2 [.int .u8 92, .int .u8 10] rfl (SRC2.out _) (by unfold maxLen; omega) (by omega) hsz8 ?_)
            intro v8 w8 hown8 hgrow8 hat8
            obtain ⟨g8, cap8, rfl, d15, z15, hp8, hb8, hl8, hs8, hk8, hr8⟩ := IsP.app (m := 2) (news := [.int .u8 92, .int .u8 10]) HP7.out HN7.out hsz8 HW7.out (by omega) (by first | exact hown8 | simpa using hown8) hgrow8 (by first | exact hat8 | simpa using hat8)
            have HP8 := Lib.hid hp8; have HW8 := Lib.hid hb8; have HN8 := Lib.hid hl8
            have HK8 : Hid (Kept b (rb A) w (w8.setCell ⟨b, 15, none⟩ (.slice (some ⟨g8, 0, none⟩) ((Lc + m7) + 2) cap8))) := Lib.hid (HK7.out.trans hk8 HR7.out)
            have HR8 : Hid (RowAt (rb A) (rb (some ⟨g8, 0, none⟩)) w.heap.size) := Lib.hid (HR7.out.trans hr8 HK7.out.size)
            clear hp8 hb8 hown8 hgrow8 hl8 hk8 hr8 hat8 c15
            have c3 : (w8.setCell ⟨b, 15, none⟩ (.slice (some ⟨g8, 0, none⟩) ((Lc + m7) + 2) cap8)).cell? ⟨b, 3, none⟩ = some (.int .i64 lim) := (HP8.out.cell (by decide)).trans q3
            go_wp2
            go_meet
            exact ⟨k, _, _, _, _, sx - lim, setW wf k, rfl, rfl, Nat.le_refl _, by omega, by omega, HP8.out, HW8.out, HK8.out, HR8.out, HN8.out, ((by rw [HX7.out, ← HT.out]; exact HAT.out.flush : AtQ wf 34 t pre (cur ++ X7) k k)).wrap, setW_after HFUT.out⟩
          · obtain rfl : k = j := by omega
            go_upto_region 17 with fail
            have hsz8 : B ≤ wr.heap.size := by have h0 := HW2.out.size; (try simp at h0); (try simp); omega
            have c15 : wr.cell? ⟨b, 15, none⟩ = some (.slice Ar Lc Cr) := HP2.out.css HN2.out
            go_wp2_with (at_builtin; refine wpList_append_own_src _ rfl (.tmp 94) (.const (.string ⟨#[92, 10]⟩)) 22 9 rfl B 5 i0 (.int .u8 0) 1 1 Tryf.underlying22 hi0 hz0 hz1 hz2 rfl _ Lc cur rfl (HP2.out.ownL HN2.out) _ 2 [.int .u8 92, .int .u8 10] rfl (SRC2.out _) (by unfold maxLen; omega) (by omega) hsz8 ?_)
            intro v8 w8 hown8 hgrow8 hat8
            obtain ⟨g8, cap8, rfl, d15, z15, hp8, hb8, hl8, hs8, hk8, hr8⟩ := IsP.app (m := 2) (news := [.int .u8 92, .int .u8 10]) HP2.out HN2.out hsz8 HW2.out (by omega) (by first | exact hown8 | simpa using hown8) hgrow8 (by first | exact hat8 | simpa using hat8)
            have HP8 := Lib.hid hp8; have HW8 := Lib.hid hb8; have HN8 := Lib.hid hl8
            have HK8 : Hid (Kept b (rb A) w (w8.setCell ⟨b, 15, none⟩ (.slice (some ⟨g8, 0, none⟩) (Lc + 2) cap8))) := Lib.hid (HK2.out.trans hk8 HR2.out)
            have HR8 : Hid (RowAt (rb A) (rb (some ⟨g8, 0, none⟩)) w.heap.size) := Lib.hid (HR2.out.trans hr8 HK2.out.size)
            clear hp8 hb8 hown8 hgrow8 hl8 hk8 hr8 hat8 c15
            have c3 : (w8.setCell ⟨b, 15, none⟩ (.slice (some ⟨g8, 0, none⟩) (Lc + 2) cap8)).cell? ⟨b, 3, none⟩ = some (.int .i64 lim) := (HP8.out.cell (by decide)).trans q3
            go_wp2
            go_meet
            exact ⟨k, _, _, _, _, sx - lim, setW wf k, rfl, rfl, Nat.le_refl _, by omega, by omega, HP8.out, HW8.out, HK8.out, HR8.out, HN8.out, (HAT.out).wrap, setW_after HFUT.out⟩
      case rest =>
      clear hLc hj HP2 HW2 HK2 HR2 HN2 HAT HFUT c3 hbw sx1 sx2
      obtain ⟨j, Lc, Ar, Cr, cur, sy, wg, rfl, rfl, hj, sy1, sy2, hp, hbw, hkp, hro, hcl, hat, hfut⟩ := hcut
      have hLc : Lc ≤ n1 + 4 * k + 2 := by have h1 := hat.len; have h2 := HN1.out; omega
      have HP2 := Lib.hid hp; have HW2 := Lib.hid hbw; have HK2 := Lib.hid hkp; have HR2 := Lib.hid hro; have HN2 := Lib.hid hcl; have HAT := Lib.hid hat; have HFUT := Lib.hid hfut
      clear hp hbw hkp hro hcl hat hfut
      have k5 := q5; have k7 := q7
      obtain ⟨x, hx⟩ : ∃ c, c = t.getD k 0 := ⟨_, rfl⟩
      have HX : Hid (x.toNat = tb t k) := Lib.hid (by rw [hx]; rfl)
      have hbx : byteAt s k = x.toNat := by rw [bt s k hlt2, ← HT.out, HX.out]
      obtain ⟨c, wdt, hd⟩ : ∃ c wd, Utf8.decode s k = (c, wd) := ⟨_, _, rfl⟩
      obtain ⟨d1, d2, _⟩ := dec_facts s k c wdt hlt2 hd
      have hwpos : 0 < wdt := by omega
      have hlow : x.toNat < 128 → c = x.toNat ∧ wdt = 1 := fun h => by
        have := hd
        rw [decode_dec, hbx, dec_1 _ _ _ _ _ h] at this
        exact ⟨(congrArg Prod.fst this).symm, (congrArg Prod.snd this).symm⟩
      have hhigh : 128 ≤ x.toNat → 128 ≤ c ∧ c ≠ 65279 ∧ ∀ j, k ≤ j → j < k + wdt → 128 ≤ tb t j := fun h => by
        obtain ⟨h1, h2, h3, h4⟩ := dec_high s k c wdt (by omega) hd
        refine ⟨h1, fun e => ?_, fun j hj1 hj2 => ?_⟩
        · obtain ⟨f1, f2, f3, f4⟩ := h3 e
          have := (HFREE.out k (by have := HL.out; omega)).2.2.2.2
          rw [bt s k hlt2, ← HT.out] at f1
          rw [bt s (k + 1) (by omega), ← HT.out] at f3
          rw [bt s (k + 2) (by omega), ← HT.out] at f4
          exact this ⟨f1, by have := HL.out; omega, f3, f4⟩
        · have := h4 j hj1 hj2
          rwa [bt s j (by omega), ← HT.out] at this
      have hne : c ≠ 0 ∧ c ≠ 13 ∧ c ≠ 10 ∧ c ≠ 12 ∧ c ≠ 65279 := by
        obtain ⟨f0, f1, f2, f3, _⟩ := HFREE.out k (by have := HL.out; omega)
        have := HX.out
        rcases Nat.lt_or_ge x.toNat 128 with h | h
        · obtain ⟨rfl, _⟩ := hlow h
          omega
        · obtain ⟨h1, h2, _⟩ := hhigh h
          omega
      have DRX : Hid (Calls Tryf.prog 17 #[.string (s.extract k s.size)] wc fun e w' => e = .returned (.tuple #[.int .i32 (c : Nat), .int .i64 (wdt : Nat)]) ∧ Below wc.heap.size wc w') := Lib.hid (by
        have h1 := Tryf.utf8_DecodeRuneInString (s.extract k s.size) wc (HTB.out wc HW2.out).1
        rw [decode_cut s k hlt2, hd] at h1
        exact h1)
      clear hd hbx hx
      go_upto_block 2 with (go_at_call 17; refine DRX.out.mono ?_; rintro e wd ⟨rfl, hbd⟩; have HBD := Lib.hid hbd; clear hbd)
      have HPD := Lib.hid (HP2.out.below HBD.out (Nat.le_refl _)); have HWD : Hid (Below B w wd) := Lib.hid (HW2.out.trans (HBD.out.mono (by have := HW2.out.size; omega)))
      have HKD : Hid (Kept b (rb A) w wd) := Lib.hid (HK2.out.trans (Kept.of_below HBD.out) HR2.out)
      clear DRX HBD
      go_cut [15] from 112 to 180 (fun e wx => Below wd.heap.size wd wx ∧ ((e = .int .u8 1 ∧ wdt = 1 ∧ c = x.toNat ∧ needs 34 t k ∧ x.toNat < 128 ∧ isHex (x.toNat : Int) = false) ∨ (e = .int .u8 0 ∧ plainW noW 34 t k wdt)))
      case first =>
        have ⟨a0, a13, a10, a12, afe⟩ := hne
        have z0 : ((c : Int) == 0) = false := zn 0 a0
        have z13 : ((c : Int) == 13) = false := zn 13 a13
        have z10 : ((c : Int) == 10) = false := zn 10 a10
        have z12 : ((c : Int) == 12) = false := zn 12 a12
        have zfe : ((c : Int) == 65279) = false := zn 65279 afe
        go_upto_region 29 with fail
        by_cases e92 : x.toNat = 92
        ·
            obtain ⟨hcx, hw1⟩ := hlow (by omega)
            have HCX := Lib.hid hcx; have HW1' := Lib.hid hw1
            have hcv : (c : Int) = 92 := by omega
            have C128 : Hid (x.toNat < 128 ∧ isHex (x.toNat : Int) = false) := Lib.hid ⟨by omega, by rw [show (x.toNat : Int) = 92 by omega]; decide⟩
            have z0 : ((c : Int) == 0) = false := zf hcv rfl
            have z13 : ((c : Int) == 13) = false := zf hcv rfl
            have z10 : ((c : Int) == 10) = false := zf hcv rfl
            have z12 : ((c : Int) == 12) = false := zf hcv rfl
            have z92 : ((c : Int) == 92) = true := zf hcv rfl
            have z34 : ((c : Int) == 34) = false := zf hcv rfl
            have z40 : ((c : Int) == 40) = false := zf hcv rfl
            have z41 : ((c : Int) == 41) = false := zf hcv rfl
            have z32 : ((c : Int) == 32) = false := zf hcv rfl
            have z9 : ((c : Int) == 9) = false := zf hcv rfl
            have z39 : ((c : Int) == 39) = false := zf hcv rfl
            have z47 : ((c : Int) == 47) = false := zf hcv rfl
            have z65279 : ((c : Int) == 65279) = false := zf hcv rfl
            clear hcv
            have NB : Hid (needs 34 t k) := Lib.hid (by have := HX.out; unfold needs; omega)
            clear e92 hlow hhigh hne hcx hw1
            go_wp2_with (go_at_call 18; refine (has0 _).mono ?_; rintro e wh ⟨rfl, rfl⟩)
            go_meet
            exact ⟨Below.refl _ _, .inl ⟨rfl, HW1'.out, HCX.out, NB.out, C128.out⟩⟩
        · have n92 : ((x.toNat : Int) == 92) = false := zn 92 e92
          have z92 : ((c : Int) == 92) = false := zn 92 (notc (fun h => (hlow h).1) (fun h => (hhigh h).1) (by decide) e92)
          go_upto_region 30 with fail
          by_cases e34 : x.toNat = 34
          ·
              obtain ⟨hcx, hw1⟩ := hlow (by omega)
              have HCX := Lib.hid hcx; have HW1' := Lib.hid hw1
              have hcv : (c : Int) = 34 := by omega
              have C128 : Hid (x.toNat < 128 ∧ isHex (x.toNat : Int) = false) := Lib.hid ⟨by omega, by rw [show (x.toNat : Int) = 34 by omega]; decide⟩
              have z0 : ((c : Int) == 0) = false := zf hcv rfl
              have z13 : ((c : Int) == 13) = false := zf hcv rfl
              have z10 : ((c : Int) == 10) = false := zf hcv rfl
              have z12 : ((c : Int) == 12) = false := zf hcv rfl
              have z92 : ((c : Int) == 92) = false := zf hcv rfl
              have z34 : ((c : Int) == 34) = true := zf hcv rfl
              have z40 : ((c : Int) == 40) = false := zf hcv rfl
              have z41 : ((c : Int) == 41) = false := zf hcv rfl
              have z32 : ((c : Int) == 32) = false := zf hcv rfl
              have z9 : ((c : Int) == 9) = false := zf hcv rfl
              have z39 : ((c : Int) == 39) = false := zf hcv rfl
              have z47 : ((c : Int) == 47) = false := zf hcv rfl
              have z65279 : ((c : Int) == 65279) = false := zf hcv rfl
              clear hcv
              have NB : Hid (needs 34 t k) := Lib.hid (by have := HX.out; unfold needs; omega)
              clear e34 hlow hhigh hne hcx hw1
              go_wp2_with (go_at_call 18; refine (has0 _).mono ?_; rintro e wh ⟨rfl, rfl⟩)
              go_meet
              exact ⟨Below.refl _ _, .inl ⟨rfl, HW1'.out, HCX.out, NB.out, C128.out⟩⟩
          · have n34 : ((x.toNat : Int) == 34) = false := zn 34 e34
            have z34 : ((c : Int) == 34) = false := zn 34 (notc (fun h => (hlow h).1) (fun h => (hhigh h).1) (by decide) e34)
            go_upto_region 32 with fail
            by_cases e40 : x.toNat = 40
            ·
                obtain ⟨hcx, hw1⟩ := hlow (by omega)
                have HCX := Lib.hid hcx; have HW1' := Lib.hid hw1
                have hcv : (c : Int) = 40 := by omega
                have C128 : Hid (x.toNat < 128 ∧ isHex (x.toNat : Int) = false) := Lib.hid ⟨by omega, by rw [show (x.toNat : Int) = 40 by omega]; decide⟩
                have z0 : ((c : Int) == 0) = false := zf hcv rfl
                have z13 : ((c : Int) == 13) = false := zf hcv rfl
                have z10 : ((c : Int) == 10) = false := zf hcv rfl
                have z12 : ((c : Int) == 12) = false := zf hcv rfl
                have z92 : ((c : Int) == 92) = false := zf hcv rfl
                have z34 : ((c : Int) == 34) = false := zf hcv rfl
                have z40 : ((c : Int) == 40) = true := zf hcv rfl
                have z41 : ((c : Int) == 41) = false := zf hcv rfl
                have z32 : ((c : Int) == 32) = false := zf hcv rfl
                have z9 : ((c : Int) == 9) = false := zf hcv rfl
                have z39 : ((c : Int) == 39) = false := zf hcv rfl
                have z47 : ((c : Int) == 47) = false := zf hcv rfl
                have z65279 : ((c : Int) == 65279) = false := zf hcv rfl
                clear hcv
                have NB : Hid (plainW noW 34 t k wdt) := Lib.hid (by rw [HW1'.out]; exact plain_low noW 34 t k (by have := HL.out; omega) rfl (by have := HX.out; unfold needs; omega))
                clear e40 hlow hhigh hne hcx hw1
                go_wp2_with (go_at_call 18; refine (has0 _).mono ?_; rintro e wh ⟨rfl, rfl⟩)
                go_meet
                exact ⟨Below.refl _ _, .inr ⟨rfl, NB.out⟩⟩
            · have n40 : ((x.toNat : Int) == 40) = false := zn 40 e40
              have z40 : ((c : Int) == 40) = false := zn 40 (notc (fun h => (hlow h).1) (fun h => (hhigh h).1) (by decide) e40)
              go_upto_region 33 with fail
              by_cases e41 : x.toNat = 41
              ·
                  obtain ⟨hcx, hw1⟩ := hlow (by omega)
                  have HCX := Lib.hid hcx; have HW1' := Lib.hid hw1
                  have hcv : (c : Int) = 41 := by omega
                  have C128 : Hid (x.toNat < 128 ∧ isHex (x.toNat : Int) = false) := Lib.hid ⟨by omega, by rw [show (x.toNat : Int) = 41 by omega]; decide⟩
                  have z0 : ((c : Int) == 0) = false := zf hcv rfl
                  have z13 : ((c : Int) == 13) = false := zf hcv rfl
                  have z10 : ((c : Int) == 10) = false := zf hcv rfl
                  have z12 : ((c : Int) == 12) = false := zf hcv rfl
                  have z92 : ((c : Int) == 92) = false := zf hcv rfl
                  have z34 : ((c : Int) == 34) = false := zf hcv rfl
                  have z40 : ((c : Int) == 40) = false := zf hcv rfl
                  have z41 : ((c : Int) == 41) = true := zf hcv rfl
                  have z32 : ((c : Int) == 32) = false := zf hcv rfl
                  have z9 : ((c : Int) == 9) = false := zf hcv rfl
                  have z39 : ((c : Int) == 39) = false := zf hcv rfl
                  have z47 : ((c : Int) == 47) = false := zf hcv rfl
                  have z65279 : ((c : Int) == 65279) = false := zf hcv rfl
                  clear hcv
                  have NB : Hid (plainW noW 34 t k wdt) := Lib.hid (by rw [HW1'.out]; exact plain_low noW 34 t k (by have := HL.out; omega) rfl (by have := HX.out; unfold needs; omega))
                  clear e41 hlow hhigh hne hcx hw1
                  go_wp2_with (go_at_call 18; refine (has0 _).mono ?_; rintro e wh ⟨rfl, rfl⟩)
                  go_meet
                  exact ⟨Below.refl _ _, .inr ⟨rfl, NB.out⟩⟩
              · have n41 : ((x.toNat : Int) == 41) = false := zn 41 e41
                have z41 : ((c : Int) == 41) = false := zn 41 (notc (fun h => (hlow h).1) (fun h => (hhigh h).1) (by decide) e41)
                go_upto_region 34 with fail
                by_cases e32 : x.toNat = 32
                ·
                    obtain ⟨hcx, hw1⟩ := hlow (by omega)
                    have HCX := Lib.hid hcx; have HW1' := Lib.hid hw1
                    have hcv : (c : Int) = 32 := by omega
                    have C128 : Hid (x.toNat < 128 ∧ isHex (x.toNat : Int) = false) := Lib.hid ⟨by omega, by rw [show (x.toNat : Int) = 32 by omega]; decide⟩
                    have z0 : ((c : Int) == 0) = false := zf hcv rfl
                    have z13 : ((c : Int) == 13) = false := zf hcv rfl
                    have z10 : ((c : Int) == 10) = false := zf hcv rfl
                    have z12 : ((c : Int) == 12) = false := zf hcv rfl
                    have z92 : ((c : Int) == 92) = false := zf hcv rfl
                    have z34 : ((c : Int) == 34) = false := zf hcv rfl
                    have z40 : ((c : Int) == 40) = false := zf hcv rfl
                    have z41 : ((c : Int) == 41) = false := zf hcv rfl
                    have z32 : ((c : Int) == 32) = true := zf hcv rfl
                    have z9 : ((c : Int) == 9) = false := zf hcv rfl
                    have z39 : ((c : Int) == 39) = false := zf hcv rfl
                    have z47 : ((c : Int) == 47) = false := zf hcv rfl
                    have z65279 : ((c : Int) == 65279) = false := zf hcv rfl
                    clear hcv
                    have NB : Hid (plainW noW 34 t k wdt) := Lib.hid (by rw [HW1'.out]; exact plain_low noW 34 t k (by have := HL.out; omega) rfl (by have := HX.out; unfold needs; omega))
                    clear e32 hlow hhigh hne hcx hw1
                    go_wp2_with (go_at_call 18; refine (has0 _).mono ?_; rintro e wh ⟨rfl, rfl⟩)
                    go_meet
                    exact ⟨Below.refl _ _, .inr ⟨rfl, NB.out⟩⟩
                · have n32 : ((x.toNat : Int) == 32) = false := zn 32 e32
                  have z32 : ((c : Int) == 32) = false := zn 32 (notc (fun h => (hlow h).1) (fun h => (hhigh h).1) (by decide) e32)
                  go_upto_region 35 with fail
                  by_cases e9 : x.toNat = 9
                  ·
                      obtain ⟨hcx, hw1⟩ := hlow (by omega)
                      have HCX := Lib.hid hcx; have HW1' := Lib.hid hw1
                      have hcv : (c : Int) = 9 := by omega
                      have C128 : Hid (x.toNat < 128 ∧ isHex (x.toNat : Int) = false) := Lib.hid ⟨by omega, by rw [show (x.toNat : Int) = 9 by omega]; decide⟩
                      have z0 : ((c : Int) == 0) = false := zf hcv rfl
                      have z13 : ((c : Int) == 13) = false := zf hcv rfl
                      have z10 : ((c : Int) == 10) = false := zf hcv rfl
                      have z12 : ((c : Int) == 12) = false := zf hcv rfl
                      have z92 : ((c : Int) == 92) = false := zf hcv rfl
                      have z34 : ((c : Int) == 34) = false := zf hcv rfl
                      have z40 : ((c : Int) == 40) = false := zf hcv rfl
                      have z41 : ((c : Int) == 41) = false := zf hcv rfl
                      have z32 : ((c : Int) == 32) = false := zf hcv rfl
                      have z9 : ((c : Int) == 9) = true := zf hcv rfl
                      have z39 : ((c : Int) == 39) = false := zf hcv rfl
                      have z47 : ((c : Int) == 47) = false := zf hcv rfl
                      have z65279 : ((c : Int) == 65279) = false := zf hcv rfl
                      clear hcv
                      have NB : Hid (plainW noW 34 t k wdt) := Lib.hid (by rw [HW1'.out]; exact plain_low noW 34 t k (by have := HL.out; omega) rfl (by have := HX.out; unfold needs; omega))
                      clear e9 hlow hhigh hne hcx hw1
                      go_wp2_with (go_at_call 18; refine (has0 _).mono ?_; rintro e wh ⟨rfl, rfl⟩)
                      go_meet
                      exact ⟨Below.refl _ _, .inr ⟨rfl, NB.out⟩⟩
                  · have n9 : ((x.toNat : Int) == 9) = false := zn 9 e9
                    have z9 : ((c : Int) == 9) = false := zn 9 (notc (fun h => (hlow h).1) (fun h => (hhigh h).1) (by decide) e9)
                    go_upto_region 37 with fail
                    by_cases e39 : x.toNat = 39
                    ·
                        obtain ⟨hcx, hw1⟩ := hlow (by omega)
                        have HCX := Lib.hid hcx; have HW1' := Lib.hid hw1
                        have hcv : (c : Int) = 39 := by omega
                        have C128 : Hid (x.toNat < 128 ∧ isHex (x.toNat : Int) = false) := Lib.hid ⟨by omega, by rw [show (x.toNat : Int) = 39 by omega]; decide⟩
                        have z0 : ((c : Int) == 0) = false := zf hcv rfl
                        have z13 : ((c : Int) == 13) = false := zf hcv rfl
                        have z10 : ((c : Int) == 10) = false := zf hcv rfl
                        have z12 : ((c : Int) == 12) = false := zf hcv rfl
                        have z92 : ((c : Int) == 92) = false := zf hcv rfl
                        have z34 : ((c : Int) == 34) = false := zf hcv rfl
                        have z40 : ((c : Int) == 40) = false := zf hcv rfl
                        have z41 : ((c : Int) == 41) = false := zf hcv rfl
                        have z32 : ((c : Int) == 32) = false := zf hcv rfl
                        have z9 : ((c : Int) == 9) = false := zf hcv rfl
                        have z39 : ((c : Int) == 39) = true := zf hcv rfl
                        have z47 : ((c : Int) == 47) = false := zf hcv rfl
                        have z65279 : ((c : Int) == 65279) = false := zf hcv rfl
                        clear hcv
                        have NB : Hid (plainW noW 34 t k wdt) := Lib.hid (by rw [HW1'.out]; exact plain_low noW 34 t k (by have := HL.out; omega) rfl (by have := HX.out; unfold needs; omega))
                        clear e39 hlow hhigh hne hcx hw1
                        go_wp2_with (go_at_call 18; refine (has0 _).mono ?_; rintro e wh ⟨rfl, rfl⟩)
                        go_meet
                        exact ⟨Below.refl _ _, .inr ⟨rfl, NB.out⟩⟩
                    · have n39 : ((x.toNat : Int) == 39) = false := zn 39 e39
                      have z39 : ((c : Int) == 39) = false := zn 39 (notc (fun h => (hlow h).1) (fun h => (hhigh h).1) (by decide) e39)
                      go_upto_region 40 with fail
                      by_cases e47 : x.toNat = 47
                      ·
                          obtain ⟨hcx, hw1⟩ := hlow (by omega)
                          have HCX := Lib.hid hcx; have HW1' := Lib.hid hw1
                          have hcv : (c : Int) = 47 := by omega
                          have C128 : Hid (x.toNat < 128 ∧ isHex (x.toNat : Int) = false) := Lib.hid ⟨by omega, by rw [show (x.toNat : Int) = 47 by omega]; decide⟩
                          have z0 : ((c : Int) == 0) = false := zf hcv rfl
                          have z13 : ((c : Int) == 13) = false := zf hcv rfl
                          have z10 : ((c : Int) == 10) = false := zf hcv rfl
                          have z12 : ((c : Int) == 12) = false := zf hcv rfl
                          have z92 : ((c : Int) == 92) = false := zf hcv rfl
                          have z34 : ((c : Int) == 34) = false := zf hcv rfl
                          have z40 : ((c : Int) == 40) = false := zf hcv rfl
                          have z41 : ((c : Int) == 41) = false := zf hcv rfl
                          have z32 : ((c : Int) == 32) = false := zf hcv rfl
                          have z9 : ((c : Int) == 9) = false := zf hcv rfl
                          have z39 : ((c : Int) == 39) = false := zf hcv rfl
                          have z47 : ((c : Int) == 47) = true := zf hcv rfl
                          have z65279 : ((c : Int) == 65279) = false := zf hcv rfl
                          clear hcv
                          have c5 : wd.cell? ⟨b, 5, none⟩ = some (.int .u16 0) := (HPD.out.cell (by decide)).trans k5
                          have NOT : Hid (¬ (1 ≤ k ∧ tb t (k - 1) = 60 ∧ styleFrom t (k + 1)) → plainW noW 34 t k wdt) := Lib.hid (fun hn => by rw [HW1'.out]; exact plain_low noW 34 t k (by have := HL.out; omega) rfl (by
                            have := HX.out
                            unfold needs
                            rintro (h | ⟨h, h'⟩ | ⟨h, h'⟩ | ⟨_, h⟩)
                            · omega
                            · omega
                            · omega
                            · exact hn h))
                          have HX47 : Hid (tb t k = 47) := Lib.hid (by have := HX.out; omega)
                          clear e47 hlow hhigh hne hcx hw1
                          by_cases h1 : 1 ≤ k
                          · obtain ⟨i, rfl⟩ : ∃ i, k = i + 1 := ⟨k - 1, by omega⟩
                            have hy : s[i]'(by omega) = t.getD i 0 := by rw [HT.out]; exact qget s _ _
                            obtain ⟨y, hyy⟩ : ∃ c, c = t.getD i 0 := ⟨_, rfl⟩
                            have HY : Hid (y.toNat = tb t i) := Lib.hid (by rw [hyy]; rfl)
                            rw [← hyy] at hy
                            clear hyy
                            by_cases e60 : y.toNat = 60
                            · have b60 : (y.toNat : Int) = 60 := by omega
                              by_cases e6 : i + 1 + 6 ≤ s.size
                              · have EFX := Lib.hid (ef_any s (i + 1) e6 wd (HTB.out wd HWD.out).2)
                                have l6 : (i : Int) + 1 + 6 ≤ (s.size : Int) := by omega
                                have cut : ∀ W, (Instr.sliceAt 9 (.string s) (some (.int .i64 ((i : Int) + 1 + 1))) (some (.int .i64 ((i : Int) + 1 + 6))) none).run Tryf.prog W = .ok (.string (s.extract (i + 1 + 1) (i + 1 + 6))) W := fun W => cut_at s (i + 1 + 1) (i + 1 + 6) _ _ (by omega) (by omega) (by omega) (by omega) W
                                by_cases hst : styleFrom t (i + 1 + 1)
                                ·
                                  have NB : Hid (needs 34 t (i + 1)) := Lib.hid (by have := HX.out; have := HY.out; unfold needs; exact .inr (.inr (.inr ⟨HX47.out, by omega, by (have e : i + 1 - 1 = i := by omega); rw [e]; omega, hst⟩)))
                                  have HDE : Hid (decide (styleFrom s.data.toList (i + 1 + 1)) = true) := Lib.hid (by rw [← HT.out]; exact decide_eq_true hst)
                                  go_wp2_with (first | (go_at_call 18; refine (has0 _).mono ?_; rintro e wh ⟨rfl, rfl⟩) | (go_at_call 19; refine EFX.out.mono ?_; rintro e wq ⟨rfl, hbq⟩; rw [HDE.out]; have HBQ := Lib.hid hbq; clear hbq))
                                  go_wp2_with fail
                                  go_meet
                                  exact ⟨HBQ.out, .inl ⟨rfl, HW1'.out, HCX.out, NB.out, C128.out⟩⟩
                                ·
                                  have NB := Lib.hid (NOT.out (fun h => hst h.2.2))
                                  have HDE : Hid (decide (styleFrom s.data.toList (i + 1 + 1)) = false) := Lib.hid (by rw [← HT.out]; exact decide_eq_false hst)
                                  go_wp2_with (first | (go_at_call 18; refine (has0 _).mono ?_; rintro e wh ⟨rfl, rfl⟩) | (go_at_call 19; refine EFX.out.mono ?_; rintro e wq ⟨rfl, hbq⟩; rw [HDE.out]; have HBQ := Lib.hid hbq; clear hbq))
                                  go_wp2_with fail
                                  go_meet
                                  exact ⟨HBQ.out, .inr ⟨rfl, NB.out⟩⟩
                              · have NB := Lib.hid (NOT.out (fun h => e6 (by have := h.2.2.1; have := HL.out; omega)))
                                have l6 : ¬ (i : Int) + 1 + 6 ≤ (s.size : Int) := by omega
                                have l6' : (s.size : Int) < (i : Int) + 1 + 6 := by omega
                                go_wp2_with (go_at_call 18; refine (has0 _).mono ?_; rintro e wh ⟨rfl, rfl⟩)
                                go_meet
                                exact ⟨Below.refl _ _, .inr ⟨rfl, NB.out⟩⟩
                            · have NB := Lib.hid (NOT.out (fun h => e60 (by have h2 := h.2.1; have := HY.out; (have e : i + 1 - 1 = i := by omega); rw [e] at h2; omega)))
                              have b60 : ((y.toNat : Int) == 60) = false := beq_eq_false_iff_ne.2 (by omega)
                              go_wp2_with (go_at_call 18; refine (has0 _).mono ?_; rintro e wh ⟨rfl, rfl⟩)
                              go_meet
                              exact ⟨Below.refl _ _, .inr ⟨rfl, NB.out⟩⟩
                          · have NB := Lib.hid (NOT.out (fun h => h1 h.1))
                            have hk1 : ¬ (1 : Int) ≤ (k : Int) := by omega
                            have hk2 : decide ((1 : Int) ≤ (k : Int)) = false := by simp; omega
                            go_wp2_with (go_at_call 18; refine (has0 _).mono ?_; rintro e wh ⟨rfl, rfl⟩)
                            go_meet
                            exact ⟨Below.refl _ _, .inr ⟨rfl, NB.out⟩⟩
                      · have n47 : ((x.toNat : Int) == 47) = false := zn 47 e47
                        have z47 : ((c : Int) == 47) = false := zn 47 (notc (fun h => (hlow h).1) (fun h => (hhigh h).1) (by decide) e47)
                        have NB : Hid (plainW noW 34 t k wdt) := Lib.hid (by
                          rcases Nat.lt_or_ge x.toNat 128 with h | h
                          · obtain ⟨_, rfl⟩ := hlow h
                            exact plain_low noW 34 t k (by have := HL.out; omega) rfl (by have := HX.out; unfold needs; omega)
                          · obtain ⟨_, h2, h3⟩ := hhigh h
                            exact outW_high noW 34 t (by omega) k wdt h3 (by have := HL.out; omega) (fun _ _ _ => rfl))
                        have c7 : wd.cell? ⟨b, 7, none⟩ = some (.bool false) := (HPD.out.cell (by decide)).trans k7
                        clear hlow hhigh
                        go_wp2_with (go_at_call 18; refine (has0 _).mono ?_; rintro e wh ⟨rfl, rfl⟩)
                        go_meet
                        exact ⟨Below.refl _ _, .inr ⟨rfl, NB.out⟩⟩
      case rest =>
        obtain ⟨hbx, hcs⟩ := hcut
        have HP3 := Lib.hid (HPD.out.below hbx (Nat.le_refl _)); have HW3 : Hid (Below B w wc) := Lib.hid (HWD.out.trans (hbx.mono (by have := HWD.out.size; omega)))
        have HK3 : Hid (Kept b (rb A) w wc) := Lib.hid (HKD.out.trans (Kept.of_below hbx) HR2.out)
        have HR3 := HR2; have HN3 := HN2
        have hkw : IntKind.i64.wrap ((k : Int) + (wdt : Int)) = (k : Int) + (wdt : Int) := by rw [IntKind.wrap_i64]; omega
        have hmz : (s.size - (k + wdt)) < s.size - k := by omega
        clear hlow hhigh hne hbx
        rcases hcs with ⟨rfl, hw1, hcx, hneed, hx128, hhex⟩ | ⟨rfl, hplain⟩
        · have HW1' := Lib.hid hw1; have HCX := Lib.hid hcx; have HNE := Lib.hid hneed
          have hc128 : c < 128 := by omega
          have HHX : Hid (isHex (c : Int) = false) := Lib.hid (by rw [hcx]; exact hhex)
          clear hw1 hcx hneed hhex hx128
          by_cases hjk : j < k
          ·
            have hjk' : (j : Int) < (k : Int) := by omega
            go_upto_region 45 with fail
            obtain ⟨m4, hm4⟩ : ∃ m, m = (s.extract j k).size := ⟨_, rfl⟩
            have hme4 : m4 ≤ 1048576 := by rw [hm4, ByteArray.size_extract]; omega
            have hmp4 : 0 < m4 := by rw [hm4, ByteArray.size_extract]; omega
            have HM4 : Hid (m4 = k - j) := Lib.hid (by rw [hm4, ByteArray.size_extract]; omega)
            have HX4 := Lib.hid (cells_extract s j k)
            have HSRC4 : Hid (Src Tryf.prog 1 9 (.string (s.extract j k)) m4 (byteCells (s.extract j k)) wc.drew) := Lib.hid (by rw [hm4]; exact Src.ofString _ Tryf.underlying9 _)
            have hsz4 : B ≤ wc.heap.size := by have := HW3.out.size; omega
            obtain ⟨X4, hX4⟩ : ∃ X, X = byteCells (s.extract j k) := ⟨_, rfl⟩
            rw [← hX4] at HX4 HSRC4
            have c15 : wc.cell? ⟨b, 15, none⟩ = some (.slice Ar Lc Cr) := HP3.out.css HN3.out
            clear hm4 hX4
            go_region_law (refine step_append_own_src _ rfl (.tmp 190) (.tmp 194) 22 9 rfl B 5 i0 (.int .u8 0) 1 1 Tryf.underlying22 hi0 hz0 hz1 hz2 rfl (.slice Ar Lc Cr) Lc cur (by simp [Act.eval, Act.put]) (HP3.out.drew.ownL HN3.out) (.string (s.extract j k)) m4 X4 (by simp [Act.eval, Act.put]) HSRC4.out (by unfold maxLen; omega) (by omega) hsz4 ?_; intro v' w4 hown' hgrow hat; obtain ⟨g4, cap4, hv, d15, z15, hp4, hb4, hl4, hs4, hk4, hr4⟩ := HP3.out.drew.app HN3.out hsz4 HW3.out.drew (by omega) hown' hgrow hat; have HP4 := Lib.hid hp4; have HW4 := Lib.hid hb4; have HN4 := Lib.hid hl4; have HK4 : Hid (Kept b (rb A) w (w4.setCell ⟨b, 15, none⟩ (.slice (some ⟨g4, 0, none⟩) (Lc + m4) cap4))) := Lib.hid (HK3.out.trans ⟨hk4.size, hk4.block⟩ HR3.out); have HR4 : Hid (RowAt (rb A) (rb (some ⟨g4, 0, none⟩)) w.heap.size) := Lib.hid (HR3.out.trans hr4 HK3.out.size); subst hv; clear hp4 hb4 hown' hgrow hl4 hk4 hr4 hat)
            clear c15 HSRC4
            have PEX := Lib.hid (esc_bs (c : Int) (by omega) (by omega) HHX.out (s.extract k s.size) false (w4.setCell ⟨b, 15, none⟩ (.slice (some ⟨g4, 0, none⟩) (Lc + m4) cap4)) HP4.out (by have := HW4.out.size; omega) _ HN4.out (by omega))
            go_wp2_with (go_at_call 20; refine PEX.out.mono ?_; rintro e w5 ⟨rfl, ⟨A5, C5, hp5, hr5⟩, hb5, hk5⟩; have HP5 := Lib.hid hp5; have HR5 := Lib.hid hr5; have HB5 := Lib.hid hb5; have HK5 := Lib.hid hk5; clear hp5 hr5 hb5 hk5)
            go_roundw
            case rel =>
              have e5 : (cur ++ X4) ++ [.int .u8 92] ++ Lib.runeCells (c : Int) = (cur ++ X4) ++ [.int .u8 92] ++ [.int .u8 (tb t k : Nat)] := by
                rw [runeOne hc128, HCX.out, HX.out]
              refine ⟨k + wdt, k + wdt, _, A5, C5, _, sy, wg, by go_num, by go_num, rfl, by omega, by omega, by omega, Nat.le_refl _, HP5.out, HW4.out.trans HB5.out, HK4.out.trans HK5.out HR4.out, HR4.out.trans HR5.out HK4.out.size, rfl, ?_, fun i hi => HFUT.out i (by omega)⟩
              rw [e5, HW1'.out]
              exact ((by rw [HX4.out, ← HT.out]; exact HAT.out.flush : AtV wg 34 t pre (cur ++ X4) k k)).esc HNE.out
            case measure =>
              simp [intOf]
              omega
          ·
            obtain rfl : k = j := by omega
            have PEX := Lib.hid (esc_bs (c : Int) (by omega) (by omega) HHX.out (s.extract k s.size) false wc HP3.out (by have := HW3.out.size; omega) _ HN3.out (by omega))
            go_wp2_with (go_at_call 20; refine PEX.out.mono ?_; rintro e w5 ⟨rfl, ⟨A5, C5, hp5, hr5⟩, hb5, hk5⟩; have HP5 := Lib.hid hp5; have HR5 := Lib.hid hr5; have HB5 := Lib.hid hb5; have HK5 := Lib.hid hk5; clear hp5 hr5 hb5 hk5)
            go_roundw
            case rel =>
              have e5 : cur ++ [.int .u8 92] ++ Lib.runeCells (c : Int) = cur ++ [.int .u8 92] ++ [.int .u8 (tb t k : Nat)] := by
                rw [runeOne hc128, HCX.out, HX.out]
              refine ⟨k + wdt, k + wdt, _, A5, C5, _, sy, wg, by go_num, by go_num, rfl, by omega, by omega, by omega, Nat.le_refl _, HP5.out, HW3.out.trans HB5.out, HK3.out.trans HK5.out HR3.out, HR3.out.trans HR5.out HK3.out.size, rfl, ?_, fun i hi => HFUT.out i (by omega)⟩
              rw [e5, HW1'.out]
              exact (HAT.out).esc HNE.out
            case measure =>
              simp [intOf]
              omega
        ·
          have HPL := Lib.hid hplain
          clear hplain
          go_wp2
          go_roundw
          case rel => exact ⟨k + wdt, j, Lc, Ar, Cr, cur, sy, wg, by go_num, rfl, rfl, by omega, by omega, by omega, by omega, HP3.out, HW3.out, HK3.out, HR3.out, HN3.out, HAT.out.plain hj hwpos HFUT.out HPL.out, fun i hi => HFUT.out i (by omega)⟩
          case measure =>
            simp [intOf]
            omega
    · obtain rfl : k = s.size := by omega
      by_cases hjn : j < s.size
      ·
        have hjn' : (j : Int) < (s.size : Int) := by omega
        go_upto_region 50 with fail
        obtain ⟨m6, hm6⟩ : ∃ m, m = (s.extract j s.size).size := ⟨_, rfl⟩
        have hme6 : m6 ≤ 1048576 := by rw [hm6, ByteArray.size_extract]; omega
        have hmp6 : 0 < m6 := by rw [hm6, ByteArray.size_extract]; omega
        have HM6 : Hid (m6 = s.size - j) := Lib.hid (by rw [hm6, ByteArray.size_extract]; omega)
        have HX6 := Lib.hid (cells_extract s j s.size)
        have HSRC6 : Hid (Src Tryf.prog 1 9 (.string (s.extract j s.size)) m6 (byteCells (s.extract j s.size)) wr.drew) := Lib.hid (by rw [hm6]; exact Src.ofString _ Tryf.underlying9 _)
        have hsz6 : B ≤ wr.heap.size := by have := HW2.out.size; omega
        obtain ⟨X6, hX6⟩ : ∃ X, X = byteCells (s.extract j s.size) := ⟨_, rfl⟩
        rw [← hX6] at HX6 HSRC6
        have c15 : wr.cell? ⟨b, 15, none⟩ = some (.slice Ar Lc Cr) := HP2.out.css HN2.out
        clear hm6 hX6
        go_region_law (refine step_append_own_src _ rfl (.tmp 218) (.tmp 221) 22 9 rfl B 5 i0 (.int .u8 0) 1 1 Tryf.underlying22 hi0 hz0 hz1 hz2 rfl (.slice Ar Lc Cr) Lc cur (by simp [Act.eval, Act.put]) (HP2.out.drew.ownL HN2.out) (.string (s.extract j s.size)) m6 X6 (by simp [Act.eval, Act.put]) HSRC6.out (by unfold maxLen; omega) (by omega) hsz6 ?_; intro v' w6 hown' hgrow hat; obtain ⟨g6, cap6, hv, d15, z15, hp6, hb6, hl6, hs6, hk6, hr6⟩ := HP2.out.drew.app HN2.out hsz6 HW2.out.drew (by omega) hown' hgrow hat; have HP6 := Lib.hid hp6; have HW6 := Lib.hid hb6; have HN6 := Lib.hid hl6; have HK6 : Hid (Kept b (rb A) w (w6.setCell ⟨b, 15, none⟩ (.slice (some ⟨g6, 0, none⟩) (Lc + m6) cap6))) := Lib.hid (HK2.out.trans ⟨hk6.size, hk6.block⟩ HR2.out); have HR6 : Hid (RowAt (rb A) (rb (some ⟨g6, 0, none⟩)) w.heap.size) := Lib.hid (HR2.out.trans hr6 HK2.out.size); subst hv; clear hp6 hb6 hown' hgrow hl6 hk6 hr6 hat)
        clear c15 HSRC6
        have HAT6 := Lib.hid ((by rw [HX6.out, ← HT.out]; exact HAT.out.flush : AtQ wf 34 t pre (cur ++ X6) s.size s.size))
        go_upto_region 51 with fail
        obtain ⟨W6, hW6⟩ : ∃ W : World, W = (w6.setCell ⟨b, 15, none⟩ (.slice (some ⟨g6, 0, none⟩) (Lc + m6) cap6)) := ⟨_, rfl⟩
        rw [← hW6]
        rw [← hW6] at HP6 HW6 HK6
        clear hW6
        have HA7 := Lib.hid (HP6.out.alloc (.cells #[.int .u8 34] 5))
        have HWA7 : Hid (Below B w (W6.alloc (.cells #[.int .u8 34] 5))) := Lib.hid (HW6.out.alloc (by have := HW6.out.size; omega) _)
        have HSA7 : Hid (B ≤ (W6.alloc (.cells #[.int .u8 34] 5)).heap.size) := Lib.hid (by have h0 := HW6.out.size; (try simp at h0); simp; omega)
        have c15 : W6.cell? ⟨b, 15, none⟩ = some (.slice (some ⟨g6, 0, none⟩) (Lc + m6) cap6) := HP6.out.css HN6.out
        go_wp2_with (at_builtin; refine wpList_append_own_src _ rfl (.tmp 231) (.tmp 233) 22 22 rfl B 5 i0 (.int .u8 0) 1 1 Tryf.underlying22 hi0 hz0 hz1 hz2 rfl _ (Lc + m6) (cur ++ X6) rfl (HA7.out.ownL HN6.out) _ 1 [.int .u8 34] rfl (srcOne W6 (.int .u8 34) rfl) (by unfold maxLen; omega) (by omega) HSA7.out ?_)
        intro v7 w7 hown7 hgrow7 hat7
        obtain ⟨g7, cap7, rfl, d15, z15, hp7, hb7, hl7, hs7, hk7, hr7⟩ := IsP.app (m := 1) (news := [.int .u8 34]) HA7.out HN6.out HSA7.out HWA7.out (by omega) (by first | exact hown7 | simpa using hown7) hgrow7 (by simpa using hat7)
        have HP7 := Lib.hid hp7; have HW7 := Lib.hid hb7; have HN7 := Lib.hid hl7
        have HK7 : Hid (Kept b (rb A) w (w7.setCell ⟨b, 15, none⟩ (.slice (some ⟨g7, 0, none⟩) ((Lc + m6) + 1) cap7))) := Lib.hid ((HK6.out.alloc _).trans hk7 (by have := HR6.out; exact this))
        have HR7 : Hid (RowAt (rb A) (rb (some ⟨g7, 0, none⟩)) w.heap.size) := Lib.hid (HR6.out.trans hr7 (by have := HK6.out.size; simp; try omega))
        clear hp7 hb7 hown7 hgrow7 hl7 hk7 hr7 hat7 c15 HA7 HWA7 HSA7
        go_wp2
        go_end0
        have e6 : bs ++ (qCells 34 ++ cells (outW wf 34 t t.length) ++ qCells 34) = ((cur ++ X6) ++ [.int .u8 34]) := by
          have h6 := HAT6.out.here
          rw [HL.out, ← List.append_assoc, ← List.append_assoc, ← HPRE.out, ← h6]
          simp [qCells]
        have hp6 := HP7.out
        rw [← e6] at hp6
        exact ⟨rfl, ⟨wf, K', _, _, hp6, HR7.out⟩, HW7.out, HK7.out⟩
      ·
        obtain rfl : j = s.size := by omega
        have HAT6 := Lib.hid (HAT.out)
        have HA7 := Lib.hid (HP2.out.alloc (.cells #[.int .u8 34] 5))
        have HWA7 : Hid (Below B w (wr.alloc (.cells #[.int .u8 34] 5))) := Lib.hid (HW2.out.alloc (by have := HW2.out.size; omega) _)
        have HSA7 : Hid (B ≤ (wr.alloc (.cells #[.int .u8 34] 5)).heap.size) := Lib.hid (by have h0 := HW2.out.size; (try simp at h0); simp; omega)
        have c15 : wr.cell? ⟨b, 15, none⟩ = some (.slice Ar Lc Cr) := HP2.out.css HN2.out
        go_wp2_with (at_builtin; refine wpList_append_own_src _ rfl (.tmp 231) (.tmp 233) 22 22 rfl B 5 i0 (.int .u8 0) 1 1 Tryf.underlying22 hi0 hz0 hz1 hz2 rfl _ Lc cur rfl (HA7.out.ownL HN2.out) _ 1 [.int .u8 34] rfl (srcOne wr (.int .u8 34) rfl) (by unfold maxLen; omega) (by omega) HSA7.out ?_)
        intro v7 w7 hown7 hgrow7 hat7
        obtain ⟨g7, cap7, rfl, d15, z15, hp7, hb7, hl7, hs7, hk7, hr7⟩ := IsP.app (m := 1) (news := [.int .u8 34]) HA7.out HN2.out HSA7.out HWA7.out (by omega) (by first | exact hown7 | simpa using hown7) hgrow7 (by simpa using hat7)
        have HP7 := Lib.hid hp7; have HW7 := Lib.hid hb7; have HN7 := Lib.hid hl7
        have HK7 : Hid (Kept b (rb A) w (w7.setCell ⟨b, 15, none⟩ (.slice (some ⟨g7, 0, none⟩) (Lc + 1) cap7))) := Lib.hid ((HK2.out.alloc _).trans hk7 (by have := HR2.out; exact this))
        have HR7 : Hid (RowAt (rb A) (rb (some ⟨g7, 0, none⟩)) w.heap.size) := Lib.hid (HR2.out.trans hr7 (by have := HK2.out.size; simp; try omega))
        clear hp7 hb7 hown7 hgrow7 hl7 hk7 hr7 hat7 c15 HA7 HWA7 HSA7
        go_wp2
        go_end0
        have e6 : bs ++ (qCells 34 ++ cells (outW wf 34 t t.length) ++ qCells 34) = (cur ++ [.int .u8 34]) := by
          have h6 := HAT6.out.here
          rw [HL.out, ← List.append_assoc, ← List.append_assoc, ← HPRE.out, ← h6]
          simp [qCells]
        have hp6 := HP7.out
        rw [← e6] at hp6
        exact ⟨rfl, ⟨wf, K', _, _, hp6, HR7.out⟩, HW7.out, HK7.out⟩
end Go.Proofs.YtachkgmngahpoaaFmt
