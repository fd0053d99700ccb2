/- zzParentEdgeOK: the named record is the edge to the parent. -/
import Derived.Test.YtecncdcfmmceeaaGreatTnk
import Derived.Deep.QuietTactic
namespace Go.Proofs.YtecncdcfmmceeaaGreat
open Go.RowKit
set_option linter.unusedVariables false
set_option linter.unusedSimpArgs false
def ParPost (w : World) (e : Ending) (w' : World) : Prop := e = .returned (.bool true) ∧ w.grownBy w' none
set_option maxHeartbeats 4000000 in
set_option maxRecDepth 100000 in
theorem par_any (n m v x rc k n2 n3 n4 : Nat) (fr ds kb d : Nat → Nat) (gd : Nat) (Af At Ak : Option Addr) (cd cf ct ck : Nat) (w : World)
    (hd : Arr w 3 (some ⟨gd, 0, none⟩) n (fun j => .int .i64 ((d j : Int) - 1))) (hf : Arr w 40 Af n2 (fun j => .int .u16 (fr j : Int))) (ht : Arr w 40 At n3 (fun j => .int .u16 (ds j : Int))) (hk : Arr w 5 Ak n4 (fun j => .int .u8 (kb j : Int)))
    (hn : n ≤ 65536) (hm : m ≤ 65536) (hm2 : m ≤ n2) (hm3 : m ≤ n3) (hm4 : m ≤ n4) (hfb : ∀ j, fr j ≤ 65535) (htb : ∀ j, ds j ≤ 65535) (hkb : ∀ j, kb j ≤ 255)
    (hv : v < n) (hx : x < n) (hdv : d v = k + 1) (hdx : d x = k) (hkn : k ≤ 65536) (hrc : (rlE fr (tgN n ds) (fun j => kb j % 3) m v)[rc]? = some (0, x)) :
    Calls Tryz.prog 15 #[.int .i64 (v : Int), .int .u32 (x : Int), .int .u32 (rc : Int), .slice (some ⟨gd, 0, none⟩) n cd, .slice Af n2 cf, .slice At n3 ct, .slice Ak n4 ck, .int .i64 (m : Int), .int .i64 (n : Int)] w (ParPost w) := by
  have HD := Lib.hid hd; have HF := Lib.hid hf; have HT := Lib.hid ht; have HK := Lib.hid hk
  have HFB := Lib.hid hfb; have HTB := Lib.hid htb; have HKB := Lib.hid hkb; have HRC := Lib.hid hrc; have HDV := Lib.hid hdv; have HDX := Lib.hid hdx
  have hrl := rlE_len fr (tgN n ds) (fun j => kb j % 3) m v
  have hrcl := (List.getElem?_eq_some_iff.1 hrc).1
  have hrc32 : rc ≤ 65536 := by omega
  clear hd hf ht hk hfb htb hkb hrc hdv hdx hrl
  go_enter Tryz.func15, Tryz.ntmps15
  go_wp2
  go_loopw [19, 20] (fun kv ev wr => ∃ (e kk : Nat), kv = .int .u32 (kk : Int) ∧ ev = .int .i64 (e : Int) ∧ e ≤ m ∧ kk = (rlE fr (tgN n ds) (fun j => kb j % 3) e v).length ∧ kk ≤ rc ∧ wr = w) (fun _ ev _ => m - (intOf ev).toNat)
  case atStart => exact ⟨0, 0, rfl, rfl, Nat.zero_le _, rfl, Nat.zero_le _, rfl⟩
  case round =>
    obtain ⟨e, kk, rfl, rfl, hem, hkk, hkr, rfl⟩ := hrel
    have HKK := Lib.hid hkk
    clear hkk
    by_cases hlt : e < m
    · have hlt1 : (e : Int) < (m : Int) := by omega
      have hl2 : (e : Int) < (n2 : Int) := by omega
      have hl3 : (e : Int) < (n3 : Int) := by omega
      have hl4 : (e : Int) < (n4 : Int) := by omega
      obtain ⟨bf, rfl, c1⟩ := HF.out.at_ (Nat.lt_of_lt_of_le hlt hm2)
      obtain ⟨bt, rfl, c2⟩ := HT.out.at_ (Nat.lt_of_lt_of_le hlt hm3)
      obtain ⟨bk, rfl, c3⟩ := HK.out.at_ (Nat.lt_of_lt_of_le hlt hm4)
      have hub := HFB.out e
      have htb := HTB.out e
      have hkb := HKB.out e
      obtain ⟨u, hu⟩ : ∃ u, u = fr e := ⟨_, rfl⟩
      obtain ⟨t, ht⟩ : ∃ t, t = ds e := ⟨_, rfl⟩
      obtain ⟨z, hz⟩ : ∃ z, z = kb e := ⟨_, rfl⟩
      rw [← hu] at c1 hub
      rw [← ht] at c2 htb
      rw [← hz] at c3 hkb
      have hmod : (z : Int).tmod 3 = ((z % 3 : Nat) : Int) := by rw [Int.tmod_eq_emod_of_nonneg (by omega)]; omega
      have hwe : IntKind.i64.wrap ((e : Int) + 1) = (e : Int) + 1 := by rw [IntKind.wrap_i64]; omega
      have hwu : IntKind.i64.wrap (u : Int) = (u : Int) := by rw [IntKind.wrap_i64]; omega
      have hwt : IntKind.i64.wrap (t : Int) = (t : Int) := by rw [IntKind.wrap_i64]; omega
      have hwt2 : IntKind.u32.wrap (t : Int) = (t : Int) := by rw [IntKind.wrap_u32']; omega
      have HU := Lib.hid hu; have HTE := Lib.hid ht; have HZ := Lib.hid hz
      by_cases hq : u = v
      · subst hq
        by_cases hkr2 : kk = rc
        · subst hkr2
          have hhit := rlE_hit hlt HU.out.symm HKK.out.symm HRC.out
          have h0 : z % 3 = 0 := by
            have := congrArg Prod.fst hhit
            rw [hz]; exact this.symm
          have h1 : x = tgN n ds e := congrArg Prod.snd hhit
          unfold tgN at h1
          have htn : t < n := by
            rw [ht]
            by_cases h2 : ds e < n
            · exact h2
            · rw [if_neg h2] at h1; unfold INV at h1; omega
          have htx : t = x := by
            rw [ht] at htn
            rw [if_pos htn] at h1
            rw [ht, h1]
          subst htx
          rw [h0] at hmod
          have hti : (t : Int) < (n : Int) := by omega
          have hvi : (u : Int) < (n : Int) := by omega
          obtain ⟨g1, hg1, k1⟩ := HD.out.at_ hx
          obtain rfl : gd = g1 := by injection hg1 with hg1; injection hg1
          obtain ⟨g2, hg2, k2⟩ := HD.out.at_ hv
          obtain rfl : gd = g2 := by injection hg2 with hg2; injection hg2
          have k1' : wr.cell? ⟨gd, t, none⟩ = some (.int .i64 ((k : Int) - 1)) := by rw [k1, HDX.out]
          have k2' : wr.cell? ⟨gd, u, none⟩ = some (.int .i64 (k : Int)) := by rw [k2, HDV.out]; congr 2; omega
          have hwk : IntKind.i64.wrap ((k : Int) - 1) = (k : Int) - 1 := by rw [IntKind.wrap_i64]; omega
          clear hhit h1 hu ht hz hub htb hkb k1 k2 hg1 hg2 h0
          go_wp2
          go_quiet (fail)
          go_wp2
          go_ret
          exact ⟨by simp, only_drewN (World.grownBy.refl _ _) _⟩
        · have hwk : IntKind.u32.wrap ((kk : Int) + 1) = (kk : Int) + 1 := by rw [IntKind.wrap_u32']; omega
          have hne1 : ((kk : Int) == (rc : Int)) = false := by simp; omega
          have hne2 : ¬ (kk : Int) = (rc : Int) := by omega
          have HN : Hid (kk + 1 = (rlE fr (tgN n ds) (fun j => kb j % 3) (e + 1) u).length) := Lib.hid (by rw [rlE_succ, if_pos HU.out.symm, List.length_append, ← HKK.out]; rfl)
          clear hu ht hz hub htb hkb
          go_wp2
          go_roundw
          case rel => exact ⟨e + 1, kk + 1, by simp, by simp, by omega, HN.out, by omega, by first | trivial | rfl⟩
          case measure => simp [intOf]; omega
      · have hne1 : ((u : Int) != (v : Int)) = true := by simp; omega
        have hne2 : (u != v) = true := by simp; omega
        have HN : Hid (kk = (rlE fr (tgN n ds) (fun j => kb j % 3) (e + 1) v).length) := Lib.hid (by rw [rlE_succ, if_neg (fun h => hq (HU.out.trans h))]; exact HKK.out)
        clear hu ht hz hub htb hkb
        go_wp2
        go_roundw
        case rel => exact ⟨e + 1, kk, rfl, by simp, by omega, HN.out, hkr, by first | trivial | rfl⟩
        case measure => simp [intOf]; omega
    · exfalso
      obtain rfl : e = m := by omega
      have := HKK.out
      omega
end Go.Proofs.YtecncdcfmmceeaaGreat
