/- zzBuild (n011_92): the walk. -/
import Derived.Test.YtecncdcfmmceeaaGreatTnl
namespace Go.Proofs.YtecncdcfmmceeaaGreat
open Go.RowKit
set_option linter.unusedVariables false
set_option linter.unusedSimpArgs false
def BldPost (G : TG) (w : World) (e : Ending) (w' : World) : Prop := ∃ rb sb jb, e = .returned (.pointer (some ⟨sb, 0, none⟩)) ∧ w.heap.size ≤ rb ∧ TW1 G rb sb jb σ0 w' ∧ Below w.heap.size w w'
/-- One file's row, as JsOK asks it. -/
theorem row_form {w : World} {base : Nat} {v : Value} {l : List (Nat × Nat)} (ho : w.ownsRow base 62 15 v l.length (recsC l)) : ∃ A cap, v = .slice A l.length cap ∧ (0 < l.length → ∃ g cur, A = some ⟨g, 0, none⟩ ∧ Blk w g 62 cur ∧ ∀ r p, l[r]? = some p → ∀ j, j < 15 → cur[r * 15 + j]? = (recC p.1 p.2)[j]?) := by
  have hc := fun (g : Nat) (cap : Nat) (e : v = .slice (some ⟨g, 0, none⟩) l.length cap) (j : Nat) (hj : j < l.length * 15) => World.ownsRow.cellAt (e ▸ ho) j hj
  rcases ho.2 with ⟨h1, h2⟩ | ⟨g, cap, cur, h1, _, hg, _, _, _, _⟩
  · exact ⟨none, 0, by rw [h1, h2], fun h3 => by omega⟩
  · refine ⟨_, cap, h1, fun _ => ⟨g, cur, rfl, hg, fun r p hr j hj => ?_⟩⟩
    have hrl : r < l.length := (List.getElem?_eq_some_iff.1 hr).1
    have h3 := hc g cap h1 (r * 15 + j) (by omega)
    have h4 : w.cell? ⟨g, r * 15 + j, none⟩ = cur[r * 15 + j]? := Blk.cell (show Blk w g _ cur from hg) _
    rw [← h4, h3]
    exact recsC_at _ r p hr j hj
set_option maxHeartbeats 8000000 in
set_option maxRecDepth 100000 in
theorem build_any (n m lg n2 n3 n4 : Nat) (gf aw : Nat → Bool) (fr ds kb : Nat → Nat) (Aa Ag Af At Ak : Option Addr) (ca cg cf ct ck : Nat) (w : World) (ha : Arr w 4 Aa n (fun j => .bool (aw j))) (ho : Arr w 4 Ag lg (fun j => .bool (gf j))) (hf : Arr w 40 Af n2 (fun j => .int .u16 (fr j : Int))) (ht : Arr w 40 At n3 (fun j => .int .u16 (ds j : Int))) (hk : Arr w 5 Ak n4 (fun j => .int .u8 (kb j : Int)))
    (hn : n ≤ 65536) (hm : m ≤ 65536) (hmm : m = min (min n2 n3) n4) (hfb : ∀ j, fr j ≤ 65535) (htb : ∀ j, ds j ≤ 65535) (hkb : ∀ j, kb j ≤ 255) :
    Calls Tryz.prog 10 #[.slice Aa n ca, .slice Ag lg cg, .slice Af n2 cf, .slice At n3 ct, .slice Ak n4 ck] w (BldPost (grN n (okN lg gf) aw fr ds kb m) w) := by
  have HA := Lib.hid ha; have HO := Lib.hid ho; have HF := Lib.hid hf; have HT := Lib.hid ht; have HK := Lib.hid hk
  have HFB := Lib.hid hfb; have HTB := Lib.hid htb; have HKB := Lib.hid hkb
  have HCN := Lib.hid (cnt_any Af At Ak n2 n3 n4 cf ct ck m w hmm)
  have HNS := Lib.hid (news_any n w hn)
  have hm2 : m ≤ n2 := by omega
  have hm3 : m ≤ n3 := by omega
  have hm4 : m ≤ n4 := by omega
  obtain ⟨G, hG⟩ : ∃ G, G = grN n (okN lg gf) aw fr ds kb m := ⟨_, rfl⟩
  rw [← hG]
  have hGn : G.n = n := by rw [hG]; rfl
  have HGO : Hid (∀ v, v < n → G.ok v = okN lg gf v) := Lib.hid (fun v hv => by rw [hG]; show (decide (v < n) && okN lg gf v) = _; simp [hv])
  have HGR : Hid (∀ v, G.recs v = rlE fr (tgN n ds) (fun j => kb j % 3) m v) := Lib.hid (fun v => by rw [hG]; rfl)
  have HGA : Hid (∀ v, G.aw v = aw v) := Lib.hid (fun v => by rw [hG]; rfl)
  have HGN := Lib.hid hGn
  clear ha ho hf ht hk hfb htb hkb hmm hG hGn
  go_enter Tryz.func10, Tryz.ntmps10
  go_wp2_with (go_at_call 9; (with_reducible refine (HCN.out).mono ?_))
  rintro e w' ⟨rfl, rfl⟩
  go_wp2_with (go_at_call 16; (with_reducible refine (HNS.out).mono ?_))
  rintro e w1 ⟨rb, sb, css, rfl, hrb, hb, hs, h11, hg⟩
  have HL0 := Lib.hid (L3.start (G := G) hrb (by rw [HGN.out]; exact hb) hs (by rw [HGN.out]; exact h11) hg)
  clear hrb hb hs h11 hg HCN HNS
  go_wp2
  go_loopw [14] (fun iv wr => ∃ (v : Nat) (jb : Nat → Nat), iv = .int .i64 (v : Int) ∧ v ≤ n ∧ L3 w G rb sb v jb wr) (fun iv _ => n - (intOf iv).toNat)
  case atStart => exact ⟨0, _, rfl, Nat.zero_le _, HL0.out⟩
  case round =>
    obtain ⟨v, jb, rfl, hv, hl3⟩ := hrel
    have HL := Lib.hid hl3
    clear hl3 HL0
    by_cases hlt : v < n
    · have hlt' : (v : Int) < (n : Int) := by omega
      have HFL := Lib.hid (file_any lg gf Ag cg v wr (HO.out.below HL.out.bel))
      obtain ⟨bo, hbo⟩ : ∃ b, b = okN lg gf v := ⟨_, rfl⟩
      rw [← hbo] at HFL
      have HBO : Hid (G.ok v = bo) := Lib.hid (by rw [hbo]; exact HGO.out v hlt)
      have hwv : IntKind.i64.wrap ((v : Int) + 1) = (v : Int) + 1 := by rw [IntKind.wrap_i64]; omega
      clear hbo
      go_wp2_with (go_at_call 13; (with_reducible refine (HFL.out).mono ?_))
      rintro e9 w' ⟨rfl, rfl⟩
      obtain ⟨wo, hwo⟩ : ∃ x, x = wr := ⟨_, rfl⟩
      subst hwo
      cases bo with
      | false =>
        go_wp2
        go_roundw
        case rel => exact ⟨v + 1, jb, by simp, by omega, HL.out.skip HBO.out⟩
        case measure => simp [intOf]; omega
      | true =>
        go_wp2
        go_loopw [15, 16] (fun q0 ev wr => ∃ (e : Nat) (rv : Value), q0 = rv ∧ ev = .int .i64 (e : Int) ∧ e ≤ m ∧ wr.ownsRow wo.heap.size 62 15 rv (rlE fr (tgN n ds) (fun j => kb j % 3) e v).length (recsC (rlE fr (tgN n ds) (fun j => kb j % 3) e v)) ∧ wo.grownBy wr none) (fun _ ev _ => m - (intOf ev).toNat)
        case atStart => exact ⟨0, _, rfl, rfl, Nat.zero_le _, World.ownsRow_nil _ _ _ _, World.grownBy.refl _ _⟩
        case round =>
          obtain ⟨e, rv, hq, rfl, hem, hown, hgr⟩ := hrel
          obtain rfl := hq.symm
          have HOW := Lib.hid hown; have HG2 := Lib.hid hgr
          clear hown hgr
          by_cases hle : e < m
          · have hle' : (e : Int) < (m : Int) := by omega
            have hl2 : (e : Int) < (n2 : Int) := by omega
            have hl3 : (e : Int) < (n3 : Int) := by omega
            have hl4 : (e : Int) < (n4 : Int) := by omega
            have hbl := below_grown HL.out.bel HG2.out
            obtain ⟨bf, rfl, c1⟩ := (HF.out.below hbl).at_ (Nat.lt_of_lt_of_le hle hm2)
            obtain ⟨bt, rfl, c2⟩ := (HT.out.below hbl).at_ (Nat.lt_of_lt_of_le hle hm3)
            obtain ⟨bk, rfl, c3⟩ := (HK.out.below hbl).at_ (Nat.lt_of_lt_of_le hle hm4)
            have HBL := Lib.hid hbl
            obtain ⟨u, hu⟩ : ∃ u, u = fr e := ⟨_, rfl⟩
            obtain ⟨t, ht⟩ : ∃ t, t = ds e := ⟨_, rfl⟩
            obtain ⟨z, hz⟩ : ∃ z, z = kb e := ⟨_, rfl⟩
            have hub := HFB.out e; have htb := HTB.out e; have hkb := HKB.out e
            rw [← hu] at c1 hub
            rw [← ht] at c2 htb
            rw [← hz] at c3 hkb
            have hwu : IntKind.i64.wrap (u : Int) = (u : Int) := by rw [IntKind.wrap_i64]; omega
            have hwt : IntKind.i64.wrap (t : Int) = (t : Int) := by rw [IntKind.wrap_i64]; omega
            have hwt2 : IntKind.u32.wrap (t : Int) = (t : Int) := by rw [IntKind.wrap_u32']; omega
            have hwe : IntKind.i64.wrap ((e : Int) + 1) = (e : Int) + 1 := by rw [IntKind.wrap_i64]; omega
            have HU := Lib.hid hu; have HTE := Lib.hid ht; have HZ := Lib.hid hz
            clear hbl
            by_cases hq : u = v
            case neg =>
              have hne1 : ((u : Int) != (v : Int)) = true := by simp; omega
              have hne2 : (u != v) = true := by simp; omega
              have HN := Lib.hid (show rlE fr (tgN n ds) (fun j => kb j % 3) (e + 1) v = rlE fr (tgN n ds) (fun j => kb j % 3) e v by rw [rlE_succ, if_neg (fun h => hq (hu.trans h))])
              clear hu ht hz hub htb hkb
              go_wp2
              go_roundw
              case rel => exact ⟨e + 1, rv, rfl, by simp, by omega, by rw [HN.out]; exact HOW.out, HG2.out⟩
              case measure => simp [intOf]; omega
            subst hq
            have hsucc : rlE fr (tgN n ds) (fun j => kb j % 3) (e + 1) u = rlE fr (tgN n ds) (fun j => kb j % 3) e u ++ [(z % 3, tgN n ds e)] := by rw [rlE_succ, if_pos hu.symm, hz]
            have hlr := rlE_len fr (tgN n ds) (fun j => kb j % 3) e u
            have HMK := Lib.hid (fun W => mkIx t (by unfold INV; omega) W)
            have HKD := Lib.hid (fun W => knd_any z W hkb)
            obtain ⟨vt, hvt⟩ : ∃ x, x = INV - tgN n ds e := ⟨_, rfl⟩
            obtain ⟨vk, hvk⟩ : ∃ x, x = z % 3 + 1 := ⟨_, rfl⟩
            have HVT := Lib.hid hvt; have HVK := Lib.hid hvk
            have HSU := Lib.hid hsucc
            obtain ⟨W1, hW1⟩ : ∃ W, W = wr.alloc (.cells #[.int .u32 0] 44) := ⟨_, rfl⟩
            have hg1 : wr.grownBy W1 none := by rw [hW1]; exact only_alloc (World.grownBy.refl _ _) _
            have HB1 := Lib.hid (show Blk W1 wr.heap.size 44 #[.int .u32 0] by rw [hW1]; exact Blk.new _ _ _)
            have d2 : W1.cell? ⟨bt, e, none⟩ = some (.int .u16 (t : Int)) := hg1.cell c2 (by simp)
            have HG3 := Lib.hid hg1
            have HC3 : Hid (∀ wx, wr.grownBy wx none → wx.cell? ⟨bk, e, none⟩ = some (.int .u8 (z : Int))) := Lib.hid (fun wx h => h.cell c3 (by simp))
            clear hu ht hz hub htb hkb hvt hvk hsucc hg1
            go_upto_region 14 with fail
            first | rw [← hW1] | skip
            clear hW1 c1 c2 c3
            go_upto_if 54 with fail
            go_cut [] from 48 to 60 (fun wx => wr.grownBy wx none ∧ Blk wx wr.heap.size 44 #[.int .u32 (vt : Int)])
            case first =>
              by_cases htn : t < n
              · have hti : (t : Int) < (n : Int) := by omega
                have hv1 : vt = INV - t := by rw [HVT.out]; unfold tgN; rw [← HTE.out, if_pos htn]
                have hmk := HMK.out
                rw [← hv1] at hmk
                have HMK2 := Lib.hid hmk
                clear hmk hv1
                go_wp2_with (go_at_call 17; (with_reducible refine (HMK2.out _).mono ?_))
                rintro e9 wg ⟨rfl, hg⟩
                have HBG := Lib.hid (HB1.out.grown hg (by simp))
                have HGG := Lib.hid (grownBy_acc HG3.out hg)
                have y0 : wg.cell? ⟨wr.heap.size, 0, none⟩ = some (.int .u32 0) := HBG.out.cell 0
                have yz : wg.frozen? ⟨wr.heap.size, 0, none⟩ = false := HBG.out.frozen 0
                clear hg
                go_wp2
                go_meet
                case rel =>
                  refine ⟨⟨HGG.out.os, HGG.out.tape, HGG.out.output, by simp [World.setCell]; exact HGG.out.size, fun j hj _ => (Below.heap_setCell wg _ _ j (by show j ≠ wr.heap.size; omega)).trans (HGG.out.block j hj (by simp))⟩, ?_⟩
                  exact HBG.out.set_ 0 (.int .u32 (vt : Int))
              · have hti : ¬ (t : Int) < (n : Int) := by omega
                have hv1 : vt = 0 := by rw [HVT.out]; unfold tgN; rw [← HTE.out, if_neg htn]; exact Nat.sub_self _
                have HV1 := Lib.hid hv1
                clear hv1
                go_wp2
                go_meet
                case rel => exact ⟨HG3.out, by rw [HV1.out]; exact HB1.out⟩
            case rest =>
            obtain ⟨hgc, hbc⟩ := hcut
            have HGC := Lib.hid hgc
            have k3 := HC3.out wc hgc
            have k0 : wc.cell? ⟨wr.heap.size, 0, none⟩ = some (.int .u32 (vt : Int)) := hbc.cell 0
            have hszc : wo.heap.size ≤ wc.heap.size := Nat.le_trans HG2.out.size hgc.size
            have HOWC : Hid (∀ o : Obj, (wc.drew.alloc o).ownsRow wo.heap.size 62 15 rv (rlE fr (tgN n ds) (fun j => kb j % 3) e u).length (recsC (rlE fr (tgN n ds) (fun j => kb j % 3) e u))) := Lib.hid (fun o => World.ownsRow.alloc ((HOW.out.kept hgc (by
              cases hx : rv.ownBlock with
              | none => exact .inl rfl
              | some g => right; simp)).drew) o)
            clear hgc hbc d2
            have HSTEP : Hid (∀ (w9 : World) (gg cap : Nat), w9.ownsRow wo.heap.size 62 15 (.slice (some ⟨gg, 0, none⟩) ((rlE fr (tgN n ds) (fun j => kb j % 3) e u).length + 1) cap) ((rlE fr (tgN n ds) (fun j => kb j % 3) e u).length + 1) (recsC (rlE fr (tgN n ds) (fun j => kb j % 3) e u) ++ [.pointer none, .pointer none, .string ⟨#[]⟩, .string ⟨#[]⟩, .string ⟨#[]⟩, .string ⟨#[]⟩, .int .u8 0, .int .i32 0, .int .i32 0, .int .i32 0, .int .u32 (vt : Int), .int .u32 0, .int .u16 0, .int .u8 0, .int .u8 (vk : Int)]) → (wc.drew.alloc (.cells #[.pointer none, .pointer none, .string ⟨#[]⟩, .string ⟨#[]⟩, .string ⟨#[]⟩, .string ⟨#[]⟩, .int .u8 0, .int .i32 0, .int .i32 0, .int .i32 0, .int .u32 (vt : Int), .int .u32 0, .int .u16 0, .int .u8 0, .int .u8 (vk : Int)] 62)).grownBy w9 rv.ownBlock → w9.ownsRow wo.heap.size 62 15 (.slice (some ⟨gg, 0, none⟩) ((rlE fr (tgN n ds) (fun j => kb j % 3) e u).length + 1) cap) (rlE fr (tgN n ds) (fun j => kb j % 3) (e + 1) u).length (recsC (rlE fr (tgN n ds) (fun j => kb j % 3) (e + 1) u)) ∧ wo.grownBy w9 none) := Lib.hid (fun w9 gg cap h1 h2 => by
              refine ⟨?_, ?_⟩
              · rw [HSU.out, List.length_append, recsC_snoc]
                have e1 : recC (z % 3) (tgN n ds e) = [.pointer none, .pointer none, .string ⟨#[]⟩, .string ⟨#[]⟩, .string ⟨#[]⟩, .string ⟨#[]⟩, .int .u8 0, .int .i32 0, .int .i32 0, .int .i32 0, .int .u32 (vt : Int), .int .u32 0, .int .u16 0, .int .u8 0, .int .u8 (vk : Int)] := by rw [HVT.out, HVK.out]; rfl
                rw [e1]; exact h1
              · have h9 := grownBy_acc HG2.out HGC.out
                have hlt9 := HOW.out.lt
                refine ⟨h2.os.trans h9.os, h2.tape.trans h9.tape, h2.output.trans h9.output, ?_, fun j hj _ => ?_⟩
                · have := h2.size
                  simp at this
                  have := h9.size
                  omega
                · have hjc := Nat.lt_of_lt_of_le hj h9.size
                  have h10 := h2.block j (by simp; omega) (fun e2 => by have := (hlt9 j e2.symm).1; omega)
                  exact h10.trans ((Below.heap_alloc wc.drew _ j hjc).trans (h9.block j hj (by simp))))
            obtain ⟨i0, hi0, hz0, hz1, hz2⟩ := info_parts rec_info
            obtain ⟨ln, hln⟩ : ∃ x, x = (rlE fr (tgN n ds) (fun j => kb j % 3) e u).length := ⟨_, rfl⟩
            obtain ⟨xs0, hxs0⟩ : ∃ x, x = recsC (rlE fr (tgN n ds) (fun j => kb j % 3) e u) := ⟨_, rfl⟩
            rw [← hln, ← hxs0] at HOWC HSTEP
            rw [← hln] at hlr
            have hx1 : ∀ u ∈ ([.pointer none, .pointer none, .string ⟨#[]⟩, .string ⟨#[]⟩, .string ⟨#[]⟩, .string ⟨#[]⟩, .int .u8 0, .int .i32 0, .int .i32 0, .int .i32 0, .int .u32 (vt : Int), .int .u32 0, .int .u16 0, .int .u8 0, .int .u8 (vk : Int)] : List Value), u.oneCell' = true := by
              have := recC_one (z % 3) (tgN n ds e)
              rw [show recC (z % 3) (tgN n ds e) = [.pointer none, .pointer none, .string ⟨#[]⟩, .string ⟨#[]⟩, .string ⟨#[]⟩, .string ⟨#[]⟩, .int .u8 0, .int .i32 0, .int .i32 0, .int .i32 0, .int .u32 (vt : Int), .int .u32 0, .int .u16 0, .int .u8 0, .int .u8 (vk : Int)] by rw [HVT.out, HVK.out]; rfl] at this
              exact this
            have HX1 := Lib.hid hx1
            have hkd := HKD.out
            unfold KndPost at hkd
            rw [← HVK.out] at hkd
            have HKD2 := Lib.hid hkd
            have hm5 : ln + 1 ≤ maxLen := by unfold maxLen; omega
            have hm6 : (ln + 1) * 112 ≤ 140737488355328 := by omega
            clear hln hxs0 hx1 hkd
            go_upto_region 16 with fail
            go_region_law
              (first
                | (go_simp; go_at_call 18; (with_reducible refine (HKD2.out _).mono ?_); rintro e9 wk ⟨rfl, rfl⟩; dsimp only; go_simp)
                | (refine step_append_lies _ (by rfl) _ _ _ (by rfl) wo.heap.size 62 i0 _ 15 112 Tryz.underlying42 hi0 hz0 hz1 hz2 rfl (by omega) rv ln xs0 (by rfl) (HOWC.out _)
                     ⟨wc.heap.size, 0, none⟩ 1 1 [.pointer none, .pointer none, .string ⟨#[]⟩, .string ⟨#[]⟩, .string ⟨#[]⟩, .string ⟨#[]⟩, .int .u8 0, .int .i32 0, .int .i32 0, .int .i32 0, .int .u32 (vt : Int), .int .u32 0, .int .u16 0, .int .u8 0, .int .u8 (vk : Int)] (by rfl) (by rfl) (World.news_of_block (cs := #[.pointer none, .pointer none, .string ⟨#[]⟩, .string ⟨#[]⟩, .string ⟨#[]⟩, .string ⟨#[]⟩, .int .u8 0, .int .i32 0, .int .i32 0, .int .i32 0, .int .u32 (vt : Int), .int .u32 0, .int .u16 0, .int .u8 0, .int .u8 (vk : Int)]) (t := 62) (fr := (0, 0)) (heap_alloc_new wc.drew _)) HX1.out (by omega) hm5 hm6 (by simp; omega) (wc.heap.size + 1) (by simp) ?_
                   intro gg cap w9 hown1 hgrow hat hlt1
                   have HFIN := Lib.hid (HSTEP.out w9 gg cap hown1 hgrow)
                   clear hown1 hgrow hat))
            all_goals
              go_wp2
              go_roundw
              case rel => exact ⟨e + 1, _, rfl, by simp, by omega, HFIN.out.1, HFIN.out.2⟩
              case measure => simp [intOf]; omega
          · obtain rfl : e = m := by omega
            have hle' : ¬ ((e : Int) < (e : Int)) := by omega
            have hL := HL.out.grown HG2.out
            obtain ⟨A, cap, hrv, hrow⟩ := row_form HOW.out
            subst hrv
            obtain ⟨ga, rfl, k1⟩ := ((HA.out.below HL.out.bel).grown HG2.out).at_ hlt
            obtain ⟨css2, hs, h11⟩ := hL.scan
            obtain ⟨cs2, hb2, hsz, _⟩ := hL.res
            rw [HGN.out] at h11 hsz
            obtain ⟨ln, hln⟩ : ∃ x, x = (rlE fr (tgN n ds) (fun j => kb j % 3) e v).length := ⟨_, rfl⟩
            have hset := fun al : Int => set_any rb sb n n v al A ln cap css2 cs2 wr hn hlt hs h11 hb2 hsz
            have HS := Lib.hid hset
            have HFIN : Hid (∀ (al : Int) (x : Nat) (wa w' : World), al = (if aw v then 5 else 0) → wr.grownBy wa none → Blk wa x 191 (jsC al A ln cap) → w' = putRow wa rb (v * 27) v x → L3 w G rb sb (v + 1) (updF jb v x) w') := Lib.hid (fun al x wa w' h1 h2 h3 h4 => by
              subst h4
              refine (hL.grown h2).lay (by rw [HGN.out]; exact hlt) HBO.out ⟨_, h3, ?_, A, cap, ?_, fun hn => ?_⟩
              · rw [HGA.out v]
                show some (Value.int .i32 al) = _
                rw [h1]
              · rw [HGR.out v, ← hln]; rfl
              · rw [HGR.out v] at hn ⊢
                obtain ⟨g, cur, e1, h5, h6⟩ := hrow hn
                exact ⟨g, cur, e1, h5.grown h2 (by simp), h6⟩)
            obtain ⟨ba, hba⟩ : ∃ b, b = aw v := ⟨_, rfl⟩
            rw [← hba] at k1 HFIN
            rw [← hln]
            clear hL hs h11 hb2 hsz hset hrow hba hln
            cases ba with
            | true =>
              go_wp2_with (go_at_call 19; (with_reducible refine (HS.out _).mono ?_))
              rintro e9 w2 ⟨x, wa, rfl, h1, h2, h3⟩
              have HE := Lib.hid (HFIN.out _ x wa w2 rfl h1 h2 h3)
              clear h1 h2 h3
              go_wp2
              go_roundw
              case rel => exact ⟨v + 1, _, by simp, by omega, HE.out⟩
              case measure => simp [intOf]; omega
            | false =>
              go_wp2_with (go_at_call 19; (with_reducible refine (HS.out _).mono ?_))
              rintro e9 w2 ⟨x, wa, rfl, h1, h2, h3⟩
              have HE := Lib.hid (HFIN.out _ x wa w2 rfl h1 h2 h3)
              clear h1 h2 h3
              go_wp2
              go_roundw
              case rel => exact ⟨v + 1, _, by simp, by omega, HE.out⟩
              case measure => simp [intOf]; omega
    · obtain rfl : v = n := by omega
      have hlt' : ¬ ((v : Int) < (v : Int)) := by omega
      have hfin := HL.out
      rw [← HGN.out] at hfin
      have HFIN := Lib.hid hfin.fin
      have HBE := Lib.hid hfin.bel
      have HRB := Lib.hid hfin.rbw
      clear hfin
      go_wp2
      go_ret
      exact ⟨rb, sb, jb, rfl, HRB.out, HFIN.out, HBE.out⟩
end Go.Proofs.YtecncdcfmmceeaaGreat
