/- AddSourceMapping of a builder that remaps through a map without mappings. -/
import Derived.Test.YtgdcpladehcegaaDoorUpd
import Derived.Test.YtgdcpladehcegaaDoorAsp
import Derived.Test.YtgdcpladehcegaaDoorFnd
import Derived.WalkKit
import Derived.WalkSpells
import Derived.LoopTactic
import Derived.WalkMore
import Derived.Deep.Light
import Derived.Deep.QuietTactic
import Derived.BigQuiet
import Derived.Deep.RegionWith
import Derived.StillTailTactics
import Derived.Deep.Cut
import Derived.Deep.CutRange
import Derived.Deep.DeepCutAuto
import Derived.Outline
import Derived.IntWalk
import Derived.ProofKit
namespace Go.Proofs.YtgdcpladehcegaaDoor
open Go.RowKit
set_option linter.unusedVariables false
set_option linter.unusedSimpArgs false
def AsPost (s : ByteArray) (B g j m : Nat) (im nm tb : Value) (asc : Bool) (w : World) (e : Ending) (w' : World) : Prop :=
  e = .returned (.tuple #[]) ∧ (∃ (j' : Nat) (sm : Value) (lsm : Bool) (pn : ByteArray) (pgl : Nat) (ploc : Int), (j' = j ∨ j' = m) ∧ BS s B g im sm nm tb pn j' (pos s j') pgl ploc asc lsm false w') ∧ Below B w w'
set_option maxHeartbeats 8000000 in
set_option maxRecDepth 100000 in
theorem asm_any (s a0 : ByteArray) (B g j m k0 smb tbk tc : Nat) (R : List (Value × Nat × Nat)) (sm nm : Value) (pn nam : ByteArray) (pgl : Nat) (ploc : Int) (asc lsm : Bool) (A : Option Addr) (cap : Nat) (w : World) (hs : s.size ≤ 1048576) (ha : a0.size ≤ 1048576) (hjm : j ≤ m)
    (hb : BS s B g (.pointer (some ⟨smb, 0, none⟩)) sm nm (.slice (some ⟨tbk, 0, none⟩) R.length tc) pn j (pos s j) pgl ploc asc lsm false w) (hgB : B ≤ g) (ho : Out w B A (pos s m) cap s) (hcl : Clean s (pos s m)) (hn : A = none → pos s m = 0)
    (htb : TabIn w B a0 tbk R) (htc : R.length ≤ tc) (hR : 1 ≤ R.length ∧ R.length ≤ a0.size + 1) (hsb : smb < B) (c2 : w.cell? ⟨smb, 2, none⟩ = some (.slice none 0 0)) :
    Calls Tryd.prog 24 #[.pointer (some ⟨g, 0, none⟩), .agg #[.int .i32 (pos a0 k0 : Nat)], .string nam, .slice A (pos s m) cap] w (AsPost s B g j m (.pointer (some ⟨smb, 0, none⟩)) nm (.slice (some ⟨tbk, 0, none⟩) R.length tc) asc w) := by
  obtain ⟨st, hst⟩ : ∃ st, st = pos a0 k0 := ⟨_, rfl⟩
  have hst20 : st ≤ 1048576 := by have := pos_le a0 k0; omega
  obtain ⟨n, hnn⟩ : ∃ n, n = pos s m := ⟨_, rfl⟩
  have hps := pos_le s m
  rw [← hnn] at ho hcl hn hps ⊢
  rw [← hst]
  have hBw : B ≤ w.heap.size := by have := hb.blk.lt; omega
  obtain ⟨W0, hW0⟩ : ∃ W, W = w.alloc (.cells #[.int .i32 (st : Int)] 33) := ⟨_, rfl⟩
  have HBE0 := Lib.hid (show Below B w W0 by rw [hW0]; exact (Below.refl _ _).alloc hBw _)
  have hbx : Blk W0 w.heap.size 33 #[.int .i32 (st : Int)] := by rw [hW0]; exact Blk.new _ _ _
  have HB0 := Lib.hid (hb.new (show Below w.heap.size w W0 by rw [hW0]; exact (Below.refl _ _).alloc (Nat.le_refl _) _))
  have hglt : g < w.heap.size := hb.blk.lt
  have HO := Lib.hid ho; have HCL := Lib.hid hcl; have HN := Lib.hid hn; have HTB := Lib.hid htb; have HST := Lib.hid hst; have HNN := Lib.hid hnn; have HC2 := Lib.hid c2
  have HBX := Lib.hid hbx
  have b0 : W0.cell? ⟨w.heap.size, 0, none⟩ = some (.int .i32 (st : Int)) := hbx.cell 0
  have c16 : W0.cell? ⟨g, 16, none⟩ = some (.int .i32 ploc) := HB0.out.blk.cell 16
  have c15 : W0.cell? ⟨g, 15, none⟩ = some (.int .i64 (pgl : Int)) := HB0.out.blk.cell 15
  have c5 : W0.cell? ⟨g, 5, none⟩ = some (.string pn) := HB0.out.blk.cell 5
  clear hb ho hcl hn htb hst hnn c2 hbx
  go_enter Tryd.func24, Tryd.ntmps24
  go_upto_region 1 with fail
  rw [← hW0]
  clear hW0
  go_cut [37] from 15 to 188 (fun v wx => ∃ (dup : Bool) (q : Nat), v = .bool dup ∧ wx = W0.drewN q)
  case first =>
    by_cases e1 : (st : Int) = ploc
    · have t1 : ((st : Int) == ploc) = true := by simp [e1]
      clear e1
      by_cases e2 : pgl = n
      · have t2 : ((pgl : Int) == (n : Int)) = true := by simp [e2]
        have t2' : (pgl == n) = true := by simp [e2]
        clear e2
        go_quiet (fail)
        go_wp2
        go_meet
        case rel => exact ⟨_, _, rfl, rfl⟩
      · have t2 : ((pgl : Int) == (n : Int)) = false := by simp; omega
        have t2' : (pgl == n) = false := by simp [e2]
        clear e2
        cases t3 : (pn == nam)
        all_goals
          go_quiet (fail)
          go_wp2
          go_meet
          case rel => exact ⟨_, _, rfl, rfl⟩
    · have t1 : ((st : Int) == ploc) = false := by simp [e1]
      clear e1
      go_quiet (fail)
      go_wp2
      go_meet
      case rel => exact ⟨_, _, rfl, rfl⟩
  case rest =>
  obtain ⟨dup, q, rfl, rfl⟩ := hcut
  obtain ⟨W1, hW1⟩ : ∃ W, W = W0.drewN q := ⟨_, rfl⟩
  rw [← hW1]
  have HBE1 : Hid (Below B w W1) := Lib.hid (by rw [hW1]; exact below_drewN HBE0.out q)
  have HB1 : Hid (BS s B g (.pointer (some ⟨smb, 0, none⟩)) sm nm (.slice (some ⟨tbk, 0, none⟩) R.length tc) pn j (pos s j) pgl ploc asc lsm false W1) := Lib.hid (by rw [hW1]; exact ⟨HB0.out.blk, HB0.out.own, HB0.out.cov_⟩)
  have HBX1 : Hid (Blk W1 w.heap.size 33 #[.int .i32 (st : Int)]) := Lib.hid (by rw [hW1]; exact HBX.out)
  clear hW1 b0 c16 c15 c5 HB0 HBX HBE0
  cases dup with
  | true =>
    go_wp2
    go_end0
    exact ⟨rfl, ⟨j, _, _, _, _, _, .inl rfl, HB1.out⟩, HBE1.out⟩
  | false =>
  have b0 : W1.cell? ⟨w.heap.size, 0, none⟩ = some (.int .i32 (st : Int)) := HBX1.out.cell 0
  have c16 : W1.cell? ⟨g, 16, none⟩ = some (.int .i32 ploc) := HB1.out.blk.cell 16
  have z16 : W1.frozen? ⟨g, 16, none⟩ = false := HB1.out.blk.frozen 16
  have c15 : W1.cell? ⟨g, 15, none⟩ = some (.int .i64 (pgl : Int)) := HB1.out.blk.cell 15
  have z15 : W1.frozen? ⟨g, 15, none⟩ = false := HB1.out.blk.frozen 15
  have c5 : W1.cell? ⟨g, 5, none⟩ = some (.string pn) := HB1.out.blk.cell 5
  have z5 : W1.frozen? ⟨g, 5, none⟩ = false := HB1.out.blk.frozen 5
  have c4 : W1.cell? ⟨g, 4, none⟩ = some (.slice (some ⟨tbk, 0, none⟩) R.length tc) := HB1.out.blk.cell 4
  go_upto_region 6 with fail
  obtain ⟨W2, hW2⟩ : ∃ W, W = ((W1.setCell ⟨g, 16, none⟩ (.int .i32 (st : Int))).setCell ⟨g, 15, none⟩ (.int .i64 (n : Int))).setCell ⟨g, 5, none⟩ (.string nam) := ⟨_, rfl⟩
  rw [← hW2]
  have HBE2 : Hid (Below B w W2) := Lib.hid (by rw [hW2]; exact ((HBE1.out.setCell (p := ⟨g, 16, none⟩) hgB _).setCell (p := ⟨g, 15, none⟩) hgB _).setCell (p := ⟨g, 5, none⟩) hgB _)
  have HB2 : Hid (BS s B g (.pointer (some ⟨smb, 0, none⟩)) sm nm (.slice (some ⟨tbk, 0, none⟩) R.length tc) nam j (pos s j) n (st : Int) asc lsm false W2) := Lib.hid (by rw [hW2]; exact ((HB1.out.s16 _).s15 _).s5 _)
  have hgx : w.heap.size ≠ g := by omega
  have HBX2 : Hid (Blk W2 w.heap.size 33 #[.int .i32 (st : Int)]) := Lib.hid (by rw [hW2]; exact ((HBX1.out.far (p := ⟨g, 16, none⟩) hgx _).far (p := ⟨g, 15, none⟩) hgx _).far (p := ⟨g, 5, none⟩) hgx _)
  clear hW2 HBE1 HB1 HBX1 b0 c16 z16 c15 z15 c5 z5 c4
  have hL20 : R.length ≤ 1048577 := by omega
  have HT2 := Lib.hid (HTB.out.below HBE2.out)
  go_wp2
  go_loopw [9, 10] (fun cv lv wr => ∃ (lo cnt q : Nat), cv = .int .i64 (cnt : Int) ∧ lv = .int .i64 (lo : Int) ∧ wr = W2.drewN q ∧ lo + cnt ≤ R.length ∧ (lo = 0 ∨ ∃ r, R[lo - 1]? = some r ∧ r.2.2 ≤ st) ∧ (lo + cnt = R.length ∨ ∃ r, R[lo + cnt]? = some r ∧ st < r.2.2)) (fun cv _ _ => (intOf cv).toNat)
  case atStart => exact ⟨0, R.length, 0, rfl, rfl, by rw [World.drewN_zero], by omega, .inl rfl, .inl (by omega)⟩
  case round =>
    obtain ⟨lo, cnt, q0, rfl, rfl, hwr, hle, hlo, hhi⟩ := hrel
    have HLO := Lib.hid hlo; have HHI := Lib.hid hhi; have HWR := Lib.hid hwr
    clear hlo hhi
    by_cases hc : 0 < cnt
    · obtain ⟨step, hstep⟩ : ∃ x, x = cnt / 2 := ⟨_, rfl⟩
      have hs1 : step < cnt := by omega
      have hq2 : (cnt : Int) / 2 = (step : Int) := by rw [hstep]; omega
      obtain ⟨i, hi⟩ : ∃ x, x = lo + step := ⟨_, rfl⟩
      have hiL : i < R.length := by omega
      obtain ⟨r, hr⟩ : ∃ r, R[i]? = some r := ⟨_, List.getElem?_eq_getElem hiL⟩
      have h22 : wr.cell? ⟨tbk, 3 * i + 2, none⟩ = some (.int .i32 (r.2.2 : Int)) := by rw [hwr]; exact (HT2.out.cell i r hr).2.2
      have hb0 : wr.cell? ⟨w.heap.size, 0, none⟩ = some (.int .i32 (st : Int)) := by rw [hwr]; exact HBX2.out.cell 0
      have hwi : IntKind.i64.wrap ((lo : Int) + (step : Int)) = (i : Int) := by rw [IntKind.wrap_i64]; omega
      have HR := Lib.hid hr; have HI := Lib.hid hi; have HS := Lib.hid hstep
      have hiL' : (i : Int) < (R.length : Int) := by omega
      have hcp : (0 : Int) < (cnt : Int) := by omega
      obtain ⟨i1, hi1⟩ : ∃ x, x = i + 1 := ⟨_, rfl⟩
      have hwi1 : IntKind.i64.wrap ((i : Int) + 1) = (i1 : Int) := by rw [IntKind.wrap_i64]; omega
      obtain ⟨d1, hd1⟩ : ∃ x, x = cnt - step := ⟨_, rfl⟩
      have hwd1 : IntKind.i64.wrap ((cnt : Int) - (step : Int)) = (d1 : Int) := by rw [IntKind.wrap_i64]; omega
      obtain ⟨d2, hd2⟩ : ∃ x, x = d1 - 1 := ⟨_, rfl⟩
      have hwd2 : IntKind.i64.wrap ((d1 : Int) - 1) = (d2 : Int) := by rw [IntKind.wrap_i64]; omega
      have HI1 := Lib.hid hi1; have HD1 := Lib.hid hd1; have HD2 := Lib.hid hd2
      have hz : (i * 3 + 2) = 3 * i + 2 := by omega
      have HDR : Hid (∀ q, wr.drewN q = W2.drewN (q0 + q)) := Lib.hid (fun q => by rw [hwr, World.drewN_drewN])
      clear hr hwr hstep hi hi1 hd1 hd2
      by_cases hcm : r.2.2 ≤ st
      · have hcm' : (r.2.2 : Int) ≤ (st : Int) := by omega
        have HCM := Lib.hid hcm
        clear hcm
        go_upto_region 11 with fail
        go_quiet (fail)
        go_wp2
        go_roundw
        case rel =>
          have := HI.out; have := HI1.out; have := HD1.out; have := HD2.out
          refine ⟨i1, d2, _, rfl, rfl, HDR.out _, by omega, .inr ⟨r, by rw [HI1.out]; exact HR.out, HCM.out⟩, ?_⟩
          rcases HHI.out with h | ⟨r', h1, h2⟩
          · left; omega
          · refine .inr ⟨r', ?_, h2⟩
            rw [← h1]; congr 1; omega
        case measure =>
          have := HD1.out; have := HD2.out
          simp [intOf]; omega
      · have hcm' : ¬ (r.2.2 : Int) ≤ (st : Int) := by omega
        have HCM := Lib.hid hcm
        clear hcm
        go_upto_region 11 with fail
        go_quiet (fail)
        go_wp2
        go_roundw
        case rel =>
          have := HI.out
          exact ⟨lo, step, _, rfl, rfl, HDR.out _, by omega, HLO.out, .inr ⟨r, by rw [← HI.out]; exact HR.out, by have := HCM.out; omega⟩⟩
        case measure => simp [intOf]; omega
    · obtain rfl : cnt = 0 := by omega
      have hcp : ¬ (0 : Int) < ((0 : Nat) : Int) := by omega
      have hlo1 : 1 ≤ lo := by
        rcases HHI.out with h | ⟨r', h1, h2⟩
        · omega
        · rcases Nat.eq_zero_or_pos lo with h0 | h0
          · have h3 := HT2.out.rows.2
            unfold startOf at h3
            rw [h0, Nat.zero_add] at h1
            rw [h1] at h3
            simp at h3
            omega
          · exact h0
      obtain ⟨l, hl⟩ : ∃ l, l = lo - 1 := ⟨_, rfl⟩
      obtain ⟨r, hr, hrst⟩ : ∃ r, R[l]? = some r ∧ r.2.2 ≤ st := by
        rcases HLO.out with h | ⟨r, h1, h2⟩
        · omega
        · exact ⟨r, by rw [hl]; exact h1, h2⟩
      have hnext : l + 1 = R.length ∨ ∀ r', R[l + 1]? = some r' → pos a0 k0 < r'.2.2 := by
        rcases HHI.out with h | ⟨r', h1, h2⟩
        · left; omega
        · refine .inr fun r'' h3 => ?_
          rw [show l + 1 = lo + 0 by omega, h1] at h3
          injection h3 with h3
          rw [← h3, ← HST.out]; exact h2
      have hwl : IntKind.i64.wrap ((lo : Int) - 1) = (l : Int) := by rw [IntKind.wrap_i64]; omega
      have hll : l < R.length := by omega
      have hll' : (l : Int) < (R.length : Int) := by omega
      have HR := Lib.hid hr; have HNX := Lib.hid hnext; have HRST := Lib.hid hrst
      clear hr hnext hl hc
      obtain ⟨W3, hW3⟩ : ∃ W, W = wr := ⟨_, rfl⟩
      have hcells := HT2.out.cell l r HR.out
      have h0 : wr.cell? ⟨tbk, 3 * l, none⟩ = some r.1 := by rw [hwr]; exact hcells.1
      have h1 : wr.cell? ⟨tbk, 3 * l + 1, none⟩ = some (.int .i32 (r.2.1 : Int)) := by rw [hwr]; exact hcells.2.1
      have h22 : wr.cell? ⟨tbk, 3 * l + 2, none⟩ = some (.int .i32 (r.2.2 : Int)) := by rw [hwr]; exact hcells.2.2
      have hb0 : wr.cell? ⟨w.heap.size, 0, none⟩ = some (.int .i32 (st : Int)) := by rw [hwr]; exact HBX2.out.cell 0
      have HT3 : Hid (TabIn wr B a0 tbk R) := Lib.hid (by rw [hwr]; exact ⟨HT2.out.lt, HT2.out.cell, HT2.out.rows⟩)
      have HBE3 : Hid (Below B w wr) := Lib.hid (by rw [hwr]; exact below_drewN HBE2.out q0)
      have HB3 : Hid (BS s B g (.pointer (some ⟨smb, 0, none⟩)) sm nm (.slice (some ⟨tbk, 0, none⟩) R.length tc) nam j (pos s j) n (st : Int) asc lsm false wr) := Lib.hid (by rw [hwr]; exact ⟨HB2.out.blk, HB2.out.own, HB2.out.cov_⟩)
      clear hcells hwr hW3
      obtain ⟨d, hd⟩ : ∃ d, d = st - r.2.2 := ⟨_, rfl⟩
      have hwd : IntKind.i32.wrap ((st : Int) - (r.2.2 : Int)) = (d : Int) := by rw [IntKind.wrap_i32]; omega
      have hwd6 : IntKind.i64.wrap (d : Int) = (d : Int) := by rw [IntKind.wrap_i64]; omega
      have hcol := HT3.out.col HR.out (k := k0) (by rw [← HST.out]; exact HRST.out) HNX.out
      rw [← HST.out] at hcol
      have HCOL := Lib.hid hcol; have HDD := Lib.hid hd
      clear hcol hd
      have hz0 : l * 3 = 3 * l := by omega
      go_upto_region 17 with fail
      go_cut [14] from 15 to 188 (fun v wx => v = .int .i64 (d : Int) ∧ ∃ q, wx = wr.drewN q)
      case first =>
        go_quiet (fail)
        go_wp2
        go_meet
        case rel => exact ⟨rfl, _, rfl⟩
      case rest =>
      obtain ⟨rfl, q1, hwc⟩ := hcut
      obtain ⟨W4, hW4⟩ : ∃ W, W = wr.drewN q1 := ⟨_, rfl⟩
      obtain rfl : wc = W4 := hwc.trans hW4.symm
      clear hwc
      have k0' : wc.cell? ⟨tbk, 3 * l, none⟩ = some r.1 := by rw [hW4]; exact h0
      have k1' : wc.cell? ⟨tbk, 3 * l + 1, none⟩ = some (.int .i32 (r.2.1 : Int)) := by rw [hW4]; exact h1
      have HCOL4 : Hid (r.1 = .slice none 0 0 ∨ ∃ g len cap, r.1 = .slice (some ⟨g, 0, none⟩) len cap ∧ len ≤ cap ∧ cap ≤ maxLen ∧ r.2.1 ≤ a0.size + 1 ∧ (r.2.2 + r.2.1 ≤ st → st - r.2.2 - r.2.1 < len ∧ ∃ x : Int, wc.cell? ⟨g, st - r.2.2 - r.2.1, none⟩ = some (.int .i32 x))) := Lib.hid (by rw [hW4]; exact HCOL.out)
      have HBE4 : Hid (Below B w wc) := Lib.hid (by rw [hW4]; exact below_drewN HBE3.out q1)
      have HB4 : Hid (BS s B g (.pointer (some ⟨smb, 0, none⟩)) sm nm (.slice (some ⟨tbk, 0, none⟩) R.length tc) nam j (pos s j) n (st : Int) asc lsm false wc) := Lib.hid (by rw [hW4]; exact ⟨HB3.out.blk, HB3.out.own, HB3.out.cov_⟩)
      clear hW4 HCOL HBE3 HB3 h0 h1 h22 hb0 hwd hwd6 hwl
      have hneS : ∀ (W : World) (a : Addr) (l c : Nat), (binOp .neq 58 (.slice (some a) l c) (.slice none 0 0)).run Tryd.prog W = .ok (.bool true) W := fun W a l c => run_neq_slice_nil_any W 58 21 (some a) l c 0 0 Tryd.underlying58
      have hneN : ∀ (W : World), (binOp .neq 58 (.slice none 0 0) (.slice none 0 0)).run Tryd.prog W = .ok (.bool false) W := fun W => run_neq_slice_nil_any W 58 21 none 0 0 0 0 Tryd.underlying58
      go_upto_region 18 with fail
      go_cut [105] from 15 to 188 (fun v wx => wc = wx ∧ ∃ bb, v = .bool bb ∧ (bb = false ∨ bb = true ∧ ∃ (gc len cap e : Nat) (x : Int), r.1 = .slice (some ⟨gc, 0, none⟩) len cap ∧ len ≤ cap ∧ cap ≤ maxLen ∧ r.2.1 + e = d ∧ e < len ∧ wc.cell? ⟨gc, e, none⟩ = some (.int .i32 x)))
      case first =>
        rcases HCOL4.out with hnil | ⟨gc, len, cap, hsl, hlc, hcm, hfb, hx⟩
        · rw [hnil] at k0'
          clear hnil
          go_wp2
          go_meet
          case rel => exact ⟨rfl, _, rfl, .inl rfl⟩
        · rw [hsl] at k0'
          have HSL := Lib.hid hsl; have HX := Lib.hid hx
          clear hsl hx
          have hwf : IntKind.i64.wrap (r.2.1 : Int) = (r.2.1 : Int) := by rw [IntKind.wrap_i64]; omega
          by_cases hf : r.2.1 ≤ d
          · have hf' : (r.2.1 : Int) ≤ (d : Int) := by omega
            go_wp2
            go_meet
            case rel =>
              have hdd := HDD.out
              have hrs := HRST.out
              obtain ⟨h1, x, h2⟩ := HX.out (by omega)
              refine ⟨rfl, _, rfl, .inr ⟨rfl, gc, len, cap, d - r.2.1, x, HSL.out, hlc, hcm, by omega, by omega, ?_⟩⟩
              rw [hdd]; exact h2
          · have hf' : ¬ (r.2.1 : Int) ≤ (d : Int) := by omega
            go_wp2
            go_meet
            case rel => exact ⟨rfl, _, rfl, .inl rfl⟩
      case rest =>
      obtain ⟨rfl, bb, rfl, hbb⟩ := hcut
      have HBB := Lib.hid hbb
      clear hbb
      go_upto_if 105 with fail
      go_cut [14] from 15 to 188 (fun v wx => ∃ (x : Int) (q : Nat), v = .int .i64 x ∧ wx = wc.drewN q)
      case first =>
        rcases HBB.out with rfl | ⟨rfl, gc, len, cap, e, x, hsl, hlc, hcm, hfe, hel, hx⟩
        · go_wp2
          go_meet
          case rel => exact ⟨_, 0, rfl, by rw [World.drewN_zero]⟩
        · rw [hsl] at k0'
          have hwf : IntKind.i64.wrap (r.2.1 : Int) = (r.2.1 : Int) := by rw [IntKind.wrap_i64]; have := HDD.out; omega
          have hwe : IntKind.i64.wrap ((d : Int) - (r.2.1 : Int)) = (e : Int) := by rw [IntKind.wrap_i64]; have := HDD.out; omega
          have hel' : (e : Int) < (len : Int) := by omega
          clear hsl hfe HBB
          go_upto_region 19 with fail
          go_quiet (fail)
          go_wp2
          go_meet
          case rel => exact ⟨_, _, rfl, rfl⟩
      case rest =>
      obtain ⟨x, q2, rfl, hw5⟩ := hcut
      have HBE5 : Hid (Below B w wc) := Lib.hid (by rw [hw5]; exact below_drewN HBE4.out q2)
      have HB5 : Hid (BS s B g (.pointer (some ⟨smb, 0, none⟩)) sm nm (.slice (some ⟨tbk, 0, none⟩) R.length tc) nam j (pos s j) n (st : Int) asc lsm false wc) := Lib.hid (by rw [hw5]; exact ⟨HB4.out.blk, HB4.out.own, HB4.out.cov_⟩)
      clear hw5 HBE4 HB4 HCOL4 k0' k1' hneS hneN HBB
      have hup := upd_false s B g j m (.pointer (some ⟨smb, 0, none⟩)) sm nm (.slice (some ⟨tbk, 0, none⟩) R.length tc) nam n (st : Int) asc lsm A cap wc hs hjm HB5.out hgB (by rw [← HNN.out]; exact HO.out.below HBE5.out) (by rw [← HNN.out]; exact HCL.out) (by rw [← HNN.out]; exact HN.out)
      rw [← HNN.out] at hup
      have HU := Lib.hid hup
      clear hup
      go_wp2_with (go_at_call 16; refine HU.out.mono ?_)
      rintro e w6 ⟨rfl, sm6, lsm6, hb6, hbe6, _⟩
      have HB6 := Lib.hid hb6
      have HBE6 := Lib.hid (HBE5.out.trans hbe6)
      obtain ⟨gl, hgl⟩ : ∃ x, x = (lc s m).1 := ⟨_, rfl⟩
      obtain ⟨gc, hgc⟩ : ∃ x, x = (lc s m).2 := ⟨_, rfl⟩
      have c6 : w6.cell? ⟨g, 6, none⟩ = some (.int .i64 (gl : Int)) := by rw [hgl]; exact hb6.blk.cell 6
      have c14 : w6.cell? ⟨g, 14, none⟩ = some (.int .i64 (gc : Int)) := by rw [hgc]; exact hb6.blk.cell 14
      have c21 : w6.cell? ⟨g, 21, none⟩ = some (.bool false) := hb6.blk.cell 21
      have hg6 : g < w6.heap.size := hb6.blk.lt
      have HAM := Lib.hid (am_any g smb nam (gl : Int) (gc : Int) 0 (l : Int) x 0 false w6.drew hg6 (by show smb < w6.heap.size; omega) (hb6.blk.cell 0) ((HBE6.out.cell (p := ⟨smb, 2, none⟩) hsb).trans HC2.out))
      clear hb6 hbe6 hgl hgc HU
      go_wp2
      go_still_tail 14, (by kernel_rfl)
      change wpList _ _ _ _ _ w6.drew
      go_wp2_with (go_at_call 27; refine HAM.out.mono ?_)
      rintro e w7 ⟨rfl, hb7⟩
      have HB7 := Lib.hid (HB6.out.new (show Below w6.heap.size w6 w7 from ⟨hb7.os, hb7.tape, hb7.output, hb7.size, hb7.block⟩))
      have HBE7 := Lib.hid (HBE6.out.trans ((show Below w6.heap.size w6 w7 from ⟨hb7.os, hb7.tape, hb7.output, hb7.size, hb7.block⟩).mono (by omega)))
      have c20 : w7.cell? ⟨g, 20, none⟩ = some (.bool lsm6) := HB7.out.blk.cell 20
      have z20 : w7.frozen? ⟨g, 20, none⟩ = false := HB7.out.blk.frozen 20
      clear hb7 c6 c14 c21
      go_wp2
      go_end0
      exact ⟨rfl, ⟨m, sm6, true, nam, n, (st : Int), .inr rfl, HB7.out.s20 true⟩, HBE7.out.setCell (p := ⟨g, 20, none⟩) hgB _⟩
end Go.Proofs.YtgdcpladehcegaaDoor
