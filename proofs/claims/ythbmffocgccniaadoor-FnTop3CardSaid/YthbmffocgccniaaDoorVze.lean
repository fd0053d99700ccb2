/- zzEncode: mappings are written as they stand. -/
import Derived.Test.YthbmffocgccniaaDoorVsg
import Derived.Deep.QuietTactic
import Derived.BigQuiet
import Derived.Deep.Cut
import Derived.Deep.DeepCutAuto
namespace Go.Proofs.YthbmffocgccniaaDoor
open Go.RowKit
set_option linter.unusedVariables false
set_option linter.unusedSimpArgs false
/-- s is written; what is left stands behind it in the whole text T. -/
structure EI (T : Bt) (s : ByteArray) (o : Bool) (p : Sg) (q : List Sg) : Prop where
  eq : s.data.toList ++ enc o p q = T
theorem EI.size {T : Bt} {s : ByteArray} {o : Bool} {p : Sg} {q : List Sg} (h : EI T s o p q) : s.size ≤ T.length := by
  rw [← h.eq, List.length_append, ← size_list]; omega
theorem EI.down_ {T : Bt} {s : ByteArray} {o : Bool} {p g : Sg} {q : List Sg} (h : EI T s o p (g :: q)) (hl : p.line < g.line) : EI T (s ++ ⟨#[59]⟩) false (down p) (g :: q) := ⟨by
  rw [data_append, List.append_assoc, ← h.eq, enc_down o p g q hl]; rfl⟩
theorem EI.comma {T : Bt} {s : ByteArray} {p g : Sg} {q : List Sg} (h : EI T s true p (g :: q)) (hl : p.line = g.line) : EI T (s ++ ⟨#[44]⟩) false p (g :: q) := ⟨by
  rw [data_append, List.append_assoc, ← h.eq, enc_comma p g q hl]; rfl⟩
theorem EI.f1 {T : Bt} {s : ByteArray} {p g : Sg} {q : List Sg} (h : EI T s false p (g :: q)) (hl : p.line = g.line) (hf : g.f = 1) : EI T (s ++ putS (g.col - p.col)) true (nx p g) q := ⟨by
  rw [data_append, putS_list, List.append_assoc, ← h.eq, enc_put p g q hl, tail, if_pos hf]; rfl⟩
theorem EI.f4 {T : Bt} {s : ByteArray} {p g : Sg} {q : List Sg} (h : EI T s false p (g :: q)) (hl : p.line = g.line) (hf : g.f = 4) : EI T (s ++ putS (g.col - p.col) ++ (putS (g.src - p.src) ++ putS (g.orig - p.orig) ++ putS (g.oc - p.oc))) true (nx p g) q := ⟨by
  simp only [data_append, putS_list]
  rw [← h.eq, enc_put p g q hl, tail, if_neg (by omega), if_neg (by omega), tail4]; simp⟩
theorem EI.f5 {T : Bt} {s : ByteArray} {p g : Sg} {q : List Sg} (h : EI T s false p (g :: q)) (hl : p.line = g.line) (hf : g.f = 5) : EI T (s ++ putS (g.col - p.col) ++ (putS (g.src - p.src) ++ putS (g.orig - p.orig) ++ putS (g.oc - p.oc)) ++ putS (g.name - p.name)) true (nx p g) q := ⟨by
  simp only [data_append, putS_list]
  rw [← h.eq, enc_put p g q hl, tail, if_neg (by omega), if_pos hf, tail4]; simp⟩
def EncodePost (Q : List Sg) (w : World) (e : Ending) (w' : World) : Prop := ∃ s : ByteArray, e = .returned (.string s) ∧ s.data.toList = enc false zs Q ∧ w.grownBy w' none
set_option maxHeartbeats 1000000 in
set_option maxRecDepth 100000 in
theorem encode_any (A : Option Addr) (n cap : Nat) (Q : List Sg) (w : World) (h : SgB w A n Q) (hn : n ≤ 1000) (hq : ∀ g ∈ Q, PB g ∧ FB g) (ho : Ord 0 0 Q) :
    Calls Tryd.prog 5 #[.slice A n cap, .int .i64 0, .int .i64 0] w (EncodePost Q w) := by
  obtain ⟨T, hT⟩ : ∃ T, T = enc false zs Q := ⟨_, rfl⟩
  have hTl : T.length ≤ 10046000 := by
    have h1 := enc_len Q false zs PB.zs_ (fun g hg => (hq g hg).1)
    rw [← hT, h.1] at h1
    omega
  have HQ := Lib.hid hq; have HS := Lib.hid h; have HT := Lib.hid hT
  have HE0 : Hid (EI T ⟨#[]⟩ false zs (Q.drop 0)) := Lib.hid ⟨by rw [hT]; rfl⟩
  have HO0 : Hid (Ord zs.line zs.col (Q.drop 0)) := Lib.hid ho
  clear hT h hq ho
  go_enter Tryd.func5, Tryd.ntmps5
  go_wp2
  go_loopw [1, 2, 7, 8, 9, 10, 11, 12, 17] (fun lv cv sv av bv dv nv ov kv wr => ∃ (k : Nat) (p : Sg) (o : Bool) (s : ByteArray), lv = .int .i64 (p.line : Int) ∧ cv = .int .i64 p.col ∧ sv = .string s ∧ av = .int .i64 p.src ∧ bv = .int .i64 p.orig ∧ dv = .int .i64 p.oc ∧ nv = .int .i64 p.name ∧ ov = .bool o ∧ kv = .int .i64 (k : Int) ∧ k ≤ n ∧ EI T s o p (Q.drop k) ∧ PB p ∧ Ord p.line p.col (Q.drop k) ∧ w.grownBy wr none) (fun _ _ _ _ _ _ _ _ kv _ => n - (intOf kv).toNat)
  case atStart => exact ⟨0, zs, false, ⟨#[]⟩, rfl, rfl, rfl, rfl, rfl, rfl, rfl, rfl, rfl, Nat.zero_le _, HE0.out, PB.zs_, HO0.out, World.grownBy.refl _ _⟩
  case round =>
    obtain ⟨k, ⟨pl, pc, pf, ps, po, pq, pn⟩, o, s, rfl, rfl, rfl, rfl, rfl, rfl, rfl, rfl, rfl, hk, hei, hpb, hord, hgr⟩ := hrel
    dsimp only
    have HGR := Lib.hid hgr; have HEI := Lib.hid hei; have HPB := Lib.hid hpb; have HORD := Lib.hid hord
    clear hgr hei hpb hord HE0 HO0
    by_cases hlt : k < n
    · have hlt' : (k : Int) < (n : Int) := by omega
      obtain ⟨ga, x, rfl, hx, hcell⟩ := (HS.out.grown HGR.out).cells hlt
      have hdrop : Q.drop k = x :: Q.drop (k + 1) := by
        obtain ⟨h1, h2⟩ := List.getElem?_eq_some_iff.1 hx
        rw [List.drop_eq_getElem_cons h1, h2]
      obtain ⟨hxb, hxf⟩ := HQ.out x (List.mem_of_getElem? hx)
      have HEI := Lib.hid (hdrop ▸ HEI.out)
      have HORD := Lib.hid (hdrop ▸ HORD.out)
      have HPN := Lib.hid (HPB.out.nx_ hxb)
      have HON : Hid (Ord (nx ⟨pl, pc, pf, ps, po, pq, pn⟩ x).line (nx ⟨pl, pc, pf, ps, po, pq, pn⟩ x).col (Q.drop (k + 1))) := Lib.hid HORD.out.2
      have hol := HORD.out.1
      obtain ⟨gl, gc, gf, gs, go, gq, gn⟩ := x
      have k0 : wr.cell? ⟨ga, k * 7, none⟩ = some (.int .i64 (gl : Int)) := hcell 0 (by omega)
      have k1 : wr.cell? ⟨ga, k * 7 + 1, none⟩ = some (.int .i64 gc) := hcell 1 (by omega)
      have k2 : wr.cell? ⟨ga, k * 7 + 2, none⟩ = some (.int .i64 gf) := hcell 2 (by omega)
      have k3 : wr.cell? ⟨ga, k * 7 + 3, none⟩ = some (.int .i64 gs) := hcell 3 (by omega)
      have k4 : wr.cell? ⟨ga, k * 7 + 4, none⟩ = some (.int .i64 go) := hcell 4 (by omega)
      have k5 : wr.cell? ⟨ga, k * 7 + 5, none⟩ = some (.int .i64 gq) := hcell 5 (by omega)
      have k6 : wr.cell? ⟨ga, k * 7 + 6, none⟩ = some (.int .i64 gn) := hcell 6 (by omega)
      obtain ⟨W1, hW1⟩ : ∃ W, W = wr.alloc (.cells #[.int .i64 (gl : Int), .int .i64 gc, .int .i64 gf, .int .i64 gs, .int .i64 go, .int .i64 gq, .int .i64 gn] 30) := ⟨_, rfl⟩
      have HB1 := Lib.hid (show Blk W1 wr.heap.size 30 #[.int .i64 (gl : Int), .int .i64 gc, .int .i64 gf, .int .i64 gs, .int .i64 go, .int .i64 gq, .int .i64 gn] by rw [hW1]; exact Blk.new _ _ _)
      have HG1 : Hid (w.grownBy W1 none) := Lib.hid (by rw [hW1]; exact only_alloc HGR.out _)
      obtain ⟨X, hX⟩ : ∃ X, X = wr.heap.size := ⟨_, rfl⟩
      rw [← hX] at HB1
      have f0 : W1.cell? ⟨X, 0, none⟩ = some (.int .i64 (gl : Int)) := HB1.out.cell 0
      have f1 : W1.cell? ⟨X, 1, none⟩ = some (.int .i64 gc) := HB1.out.cell 1
      have f2 : W1.cell? ⟨X, 2, none⟩ = some (.int .i64 gf) := HB1.out.cell 2
      have f3 : W1.cell? ⟨X, 3, none⟩ = some (.int .i64 gs) := HB1.out.cell 3
      have f4 : W1.cell? ⟨X, 4, none⟩ = some (.int .i64 go) := HB1.out.cell 4
      have f5 : W1.cell? ⟨X, 5, none⟩ = some (.int .i64 gq) := HB1.out.cell 5
      have f6 : W1.cell? ⟨X, 6, none⟩ = some (.int .i64 gn) := HB1.out.cell 6
      have hwk : IntKind.i64.wrap ((k : Int) + 1) = (k : Int) + 1 := by rw [IntKind.wrap_i64]; omega
      obtain ⟨b1, b2, b3, b4, b5, b6⟩ := hxb
      obtain ⟨a1, a2, a3, a4, a5, a6⟩ := HPB.out
      dsimp only at a1 a2 a3 a4 a5 a6 b1 b2 b3 b4 b5 b6 hol
      have HXF := Lib.hid hxf
      have hsz := HEI.out.size
      clear hcell hx hdrop hxf
      go_upto_region 10 with fail
      first | rw [← hW1] | skip
      first | rw [← hX] | skip
      clear hW1 hX k0 k1 k2 k3 k4 k5 k6
      go_loopw [1, 2, 7, 12] (fun lv cv sv ov wr => ∃ (l : Nat) (c : Int) (s' : ByteArray) (o' : Bool), lv = .int .i64 (l : Int) ∧ cv = .int .i64 c ∧ sv = .string s' ∧ ov = .bool o' ∧ l ≤ gl ∧ -1000000 ≤ c ∧ c ≤ 1000000 ∧ EI T s' o' ⟨l, c, pf, ps, po, pq, pn⟩ (⟨gl, gc, gf, gs, go, gq, gn⟩ :: Q.drop (k + 1)) ∧ W1 = wr) (fun lv _ _ _ _ => gl - (intOf lv).toNat)
      case atStart => exact ⟨pl, pc, s, o, rfl, rfl, rfl, rfl, by omega, by omega, by omega, HEI.out, rfl⟩
      case round =>
        obtain ⟨l, c, s', o', rfl, rfl, rfl, rfl, hl, hc1, hc2, hei, rfl⟩ := hrel
        have HE := Lib.hid hei
        have hs' := hei.size
        clear hei
        by_cases hll : l < gl
        · have hll' : (l : Int) < (gl : Int) := by omega
          have HNX := Lib.hid (HE.out.down_ hll)
          have hwl : IntKind.i64.wrap ((l : Int) + 1) = (l : Int) + 1 := by rw [IntKind.wrap_i64]; omega
          go_wp2
          go_roundw
          case rel => exact ⟨l + 1, 0, _, false, by simp, rfl, rfl, rfl, by omega, by omega, by omega, HNX.out, trivial⟩
          case measure => simp [intOf]; omega
        · obtain rfl : l = gl := by omega
          have hll' : ¬ ((l : Int) < (l : Int)) := by omega
          obtain ⟨d0, e0⟩ : ∃ d, d = gc - c := ⟨_, rfl⟩
          obtain ⟨d1, e1⟩ : ∃ d, d = gs - ps := ⟨_, rfl⟩
          obtain ⟨d2, e2⟩ : ∃ d, d = go - po := ⟨_, rfl⟩
          obtain ⟨d3, e3⟩ : ∃ d, d = gq - pq := ⟨_, rfl⟩
          obtain ⟨d4, e4⟩ : ∃ d, d = gn - pn := ⟨_, rfl⟩
          have HP0 : Hid (∀ W, Calls Tryd.prog 8 #[.int .i64 (gc - c)] W (PutEq (gc - c) W)) := Lib.hid (fun W => zput_eq _ W (by omega))
          have HP1 : Hid (∀ W, Calls Tryd.prog 8 #[.int .i64 (gs - ps)] W (fun e w' => e = .returned (.string (putS (gs - ps))) ∧ w' = W)) := Lib.hid (fun W => zput_eq _ W (by omega))
          have HP2 : Hid (∀ W, Calls Tryd.prog 8 #[.int .i64 (go - po)] W (fun e w' => e = .returned (.string (putS (go - po))) ∧ w' = W)) := Lib.hid (fun W => zput_eq _ W (by omega))
          have HP3 : Hid (∀ W, Calls Tryd.prog 8 #[.int .i64 (gq - pq)] W (fun e w' => e = .returned (.string (putS (gq - pq))) ∧ w' = W)) := Lib.hid (fun W => zput_eq _ W (by omega))
          have HP4 : Hid (∀ W, Calls Tryd.prog 8 #[.int .i64 (gn - pn)] W (PutEq (gn - pn) W)) := Lib.hid (fun W => zput_eq _ W (by omega))
          have s0 : (putS (gc - c)).size ≤ 9 := by rw [putS_size]; exact put_len _ (by omega)
          have s1 : (putS (gs - ps)).size ≤ 9 := by rw [putS_size]; exact put_len _ (by omega)
          have s2 : (putS (go - po)).size ≤ 9 := by rw [putS_size]; exact put_len _ (by omega)
          have s3 : (putS (gq - pq)).size ≤ 9 := by rw [putS_size]; exact put_len _ (by omega)
          have s4 : (putS (gn - pn)).size ≤ 9 := by rw [putS_size]; exact put_len _ (by omega)
          have v0 : IntKind.i64.wrap (gc - c) = gc - c := by rw [IntKind.wrap_i64]; omega
          have v1 : IntKind.i64.wrap (gs - ps) = gs - ps := by rw [IntKind.wrap_i64]; omega
          have v2 : IntKind.i64.wrap (go - po) = go - po := by rw [IntKind.wrap_i64]; omega
          have v3 : IntKind.i64.wrap (gq - pq) = gq - pq := by rw [IntKind.wrap_i64]; omega
          have v4 : IntKind.i64.wrap (gn - pn) = gn - pn := by rw [IntKind.wrap_i64]; omega
          clear e0 e1 e2 e3 e4 d0 d1 d2 d3 d4 hol
          cases o' with
          | true =>
            have HE := Lib.hid (HE.out.comma rfl)
            rcases HXF.out with hf | hf | hf
            · dsimp only at hf
              obtain rfl : gf = 1 := hf
              have HNX := Lib.hid (HE.out.f1 rfl rfl)
              go_wp2_with (go_at_call 8; (with_reducible refine (HP0.out _).mono ?_))
              rintro e w9 ⟨rfl, rfl⟩
              go_wp2
              go_roundw
              case rel => exact ⟨k + 1, _, true, _, rfl, rfl, rfl, rfl, rfl, rfl, rfl, rfl, by simp, by omega, HNX.out, HPN.out, HON.out, HG1.out⟩
              case measure => simp [intOf]; omega
            · dsimp only at hf
              obtain rfl : gf = 4 := hf
              have HNX := Lib.hid (HE.out.f4 rfl rfl)
              go_wp2_with (go_at_call 8; (with_reducible refine (HP0.out _).mono ?_))
              rintro e w9 ⟨rfl, rfl⟩
              go_wp2
              go_quiet ((go_at_call 8; first | (with_reducible exact Calls.quiet_of_same (HP1.out _)) | (with_reducible exact Calls.quiet_of_same (HP2.out _)) | (with_reducible exact Calls.quiet_of_same (HP3.out _))))
              go_wp2
              go_roundw
              case rel => exact ⟨k + 1, _, true, _, rfl, rfl, rfl, rfl, rfl, rfl, rfl, rfl, by simp, by omega, HNX.out, HPN.out, HON.out, only_drewN HG1.out _⟩
              case measure => simp [intOf]; omega
            · dsimp only at hf
              obtain rfl : gf = 5 := hf
              have HNX := Lib.hid (HE.out.f5 rfl rfl)
              go_wp2_with (go_at_call 8; (with_reducible refine (HP0.out _).mono ?_))
              rintro e w9 ⟨rfl, rfl⟩
              go_wp2
              go_quiet ((go_at_call 8; first | (with_reducible exact Calls.quiet_of_same (HP1.out _)) | (with_reducible exact Calls.quiet_of_same (HP2.out _)) | (with_reducible exact Calls.quiet_of_same (HP3.out _))))
              go_wp2_with (go_at_call 8; (with_reducible refine (HP4.out _).mono ?_))
              rintro e w9 ⟨rfl, rfl⟩
              go_wp2
              go_roundw
              case rel => exact ⟨k + 1, _, true, _, rfl, rfl, rfl, rfl, rfl, rfl, rfl, rfl, by simp, by omega, HNX.out, HPN.out, HON.out, only_drewN HG1.out _⟩
              case measure => simp [intOf]; omega
          | false =>
            rcases HXF.out with hf | hf | hf
            · dsimp only at hf
              obtain rfl : gf = 1 := hf
              have HNX := Lib.hid (HE.out.f1 rfl rfl)
              go_wp2_with (go_at_call 8; (with_reducible refine (HP0.out _).mono ?_))
              rintro e w9 ⟨rfl, rfl⟩
              go_wp2
              go_roundw
              case rel => exact ⟨k + 1, _, true, _, rfl, rfl, rfl, rfl, rfl, rfl, rfl, rfl, by simp, by omega, HNX.out, HPN.out, HON.out, HG1.out⟩
              case measure => simp [intOf]; omega
            · dsimp only at hf
              obtain rfl : gf = 4 := hf
              have HNX := Lib.hid (HE.out.f4 rfl rfl)
              go_wp2_with (go_at_call 8; (with_reducible refine (HP0.out _).mono ?_))
              rintro e w9 ⟨rfl, rfl⟩
              go_wp2
              go_quiet ((go_at_call 8; first | (with_reducible exact Calls.quiet_of_same (HP1.out _)) | (with_reducible exact Calls.quiet_of_same (HP2.out _)) | (with_reducible exact Calls.quiet_of_same (HP3.out _))))
              go_wp2
              go_roundw
              case rel => exact ⟨k + 1, _, true, _, rfl, rfl, rfl, rfl, rfl, rfl, rfl, rfl, by simp, by omega, HNX.out, HPN.out, HON.out, only_drewN HG1.out _⟩
              case measure => simp [intOf]; omega
            · dsimp only at hf
              obtain rfl : gf = 5 := hf
              have HNX := Lib.hid (HE.out.f5 rfl rfl)
              go_wp2_with (go_at_call 8; (with_reducible refine (HP0.out _).mono ?_))
              rintro e w9 ⟨rfl, rfl⟩
              go_wp2
              go_quiet ((go_at_call 8; first | (with_reducible exact Calls.quiet_of_same (HP1.out _)) | (with_reducible exact Calls.quiet_of_same (HP2.out _)) | (with_reducible exact Calls.quiet_of_same (HP3.out _))))
              go_wp2_with (go_at_call 8; (with_reducible refine (HP4.out _).mono ?_))
              rintro e w9 ⟨rfl, rfl⟩
              go_wp2
              go_roundw
              case rel => exact ⟨k + 1, _, true, _, rfl, rfl, rfl, rfl, rfl, rfl, rfl, rfl, by simp, by omega, HNX.out, HPN.out, HON.out, only_drewN HG1.out _⟩
              case measure => simp [intOf]; omega
    · obtain rfl : k = n := by omega
      have hlt' : ¬ ((k : Int) < (k : Int)) := by omega
      have HFIN : Hid (s.data.toList = enc false zs Q) := Lib.hid (by
        have h1 := HEI.out.eq
        rw [List.drop_eq_nil_of_le (by rw [HS.out.1]; exact Nat.le_refl _), enc_nil, List.append_nil] at h1
        rw [h1, HT.out])
      go_wp2
      go_ret
      exact ⟨s, rfl, HFIN.out, HGR.out⟩
end Go.Proofs.YthbmffocgccniaaDoor
