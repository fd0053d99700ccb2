/- zzValidUTF8 (written by mkidu.py). -/
import Derived.Test.YtppcjkajjahclaaFmtIda
import Derived.Laws.BitsAllLaws
namespace Go.Proofs.YtppcjkajjahclaaFmt
open Go.RowKit
set_option linter.unusedVariables false
set_option linter.unusedSimpArgs false
set_option maxRecDepth 100000 in
theorem and_all : ∀ b : Fin 256, bits BinOp.and IntKind.u8 ((b.val : Nat) : Int) 63 = ((b.val % 64 : Nat) : Int) ∧ bits BinOp.and IntKind.u8 ((b.val : Nat) : Int) 192 = ((b.val / 64 * 64 : Nat) : Int) ∧ bits BinOp.and IntKind.u8 ((b.val : Nat) : Int) 31 = ((b.val % 32 : Nat) : Int) ∧ bits BinOp.and IntKind.u8 ((b.val : Nat) : Int) 15 = ((b.val % 16 : Nat) : Int) ∧ bits BinOp.and IntKind.u8 ((b.val : Nat) : Int) 7 = ((b.val % 8 : Nat) : Int) := by decide
theorem and_u8 (b : Nat) (h : b < 256) : bits BinOp.and IntKind.u8 (b : Int) 63 = ((b % 64 : Nat) : Int) ∧ bits BinOp.and IntKind.u8 (b : Int) 192 = ((b / 64 * 64 : Nat) : Int) ∧ bits BinOp.and IntKind.u8 (b : Int) 31 = ((b % 32 : Nat) : Int) ∧ bits BinOp.and IntKind.u8 (b : Int) 15 = ((b % 16 : Nat) : Int) ∧ bits BinOp.and IntKind.u8 (b : Int) 7 = ((b % 8 : Nat) : Int) := and_all ⟨b, h⟩
theorem or_low (a b : Nat) (ha : a < 1099511627776) (hb : b < 64) : bits BinOp.or IntKind.i64 ((a : Int) * 64) (b : Int) = (a : Int) * 64 + (b : Int) := by
  have h : bits BinOp.or IntKind.i64 ((a : Int) * 64) (b : Int) = IntKind.i64.wrap (((BitVec.ofInt 64 ((a : Int) * 64) ||| BitVec.ofInt 64 (b : Int)).toNat : Nat) : Int) := rfl
  have e1 : (a : Int) * 64 = ((a * 64 : Nat) : Int) := by omega
  rw [h, e1, BitVec.ofInt_natCast, BitVec.ofInt_natCast, BitVec.toNat_or, BitVec.toNat_ofNat, BitVec.toNat_ofNat, Nat.mod_eq_of_lt (by omega), Nat.mod_eq_of_lt (by omega)]
  have e2 : a * 64 ||| b = a * 64 + b := by
    have := Nat.shiftLeft_add_eq_or_of_lt (i := 6) (b := b) (by omega) a
    rw [Nat.shiftLeft_eq] at this
    exact this.symm
  rw [e2, IntKind.wrap_i64]
  omega
/-- The number as it is read. -/
def vv (t : List UInt8) (p v0 : Nat) : Nat → Nat
  | 0 => v0
  | k + 1 => vv t p v0 k * 64 + tb t (p + (k + 1)) % 64
theorem vv_lt (t : List UInt8) (p v0 : Nat) : ∀ k, vv t p v0 k < (v0 + 1) * 64 ^ k
  | 0 => by simp [vv]
  | k + 1 => by
    have h := vv_lt t p v0 k
    have e : (v0 + 1) * 64 ^ (k + 1) = ((v0 + 1) * 64 ^ k) * 64 := by rw [Nat.pow_succ, Nat.mul_assoc]
    rw [e]
    generalize (v0 + 1) * 64 ^ k = a at h ⊢
    unfold vv
    omega
theorem vv_small (t : List UInt8) (p v0 k : Nat) (h0 : v0 < 32) (hk : k ≤ 3) : vv t p v0 k < 16777216 := by
  have h := vv_lt t p v0 k
  rcases (by omega : k = 0 ∨ k = 1 ∨ k = 2 ∨ k = 3) with rfl | rfl | rfl | rfl
  all_goals (simp at h; omega)
def contB (b : Nat) : Prop := b / 64 = 2
theorem pos_step (s : ByteArray) (m c wd : Nat) (h : pos s m < s.size) (hd : Utf8.decode s (pos s m) = (c, wd)) : pos s (m + 1) = pos s m + wd := by
  show (if pos s m < s.size then _ else _) = _
  rw [if_pos h, hd]
theorem pos_mono (s : ByteArray) {m k : Nat} (h : m ≤ k) : pos s m ≤ pos s k := by
  obtain ⟨d, rfl⟩ : ∃ d, k = m + d := ⟨k - m, by omega⟩
  clear h
  induction d with
  | zero => exact Nat.le_refl _
  | succ d ih =>
    refine Nat.le_trans ih ?_
    have e : pos s (m + (d + 1)) = (if pos s (m + d) < s.size then pos s (m + d) + (Utf8.decode s (pos s (m + d))).2 else pos s (m + d)) := rfl
    rw [e]
    split <;> omega
set_option maxHeartbeats 16000000 in
set_option maxRecDepth 100000 in
theorem vu_any (s : ByteArray) (hs : s.size ≤ 16777216) (w : World) : Calls Tryf.prog 12 #[.string s] w (BoolPost (ValidI s) w) := by
  obtain ⟨t, ht⟩ : ∃ t, t = s.data.toList := ⟨_, rfl⟩
  have HT := Lib.hid ht
  have HL : Hid (t.length = s.size) := Lib.hid (by rw [ht]; exact qsize s)
  clear ht
  go_enter Tryf.func12, Tryf.ntmps12
  go_wp2
  go_loopw [3, 4, 5, 6, 7, 8] (fun i c n v j b wr => ∃ m : Nat, i = .int .i64 (pos s m : Nat) ∧ pos s m ≤ s.size ∧ w = wr ∧ ∀ l, l < m → good s (pos s l)) (fun i c n v j b _ => s.size - (intOf i).toNat)
  case atStart => exact ⟨0, rfl, by simp [pos], rfl, fun l hl => by omega⟩
  case round =>
    obtain ⟨m, rfl, hk, hw, hall⟩ := hrel
    have HALL := Lib.hid hall; have HW := Lib.hid hw
    clear hall hw
    obtain ⟨p, hp⟩ : ∃ p, p = pos s m := ⟨_, rfl⟩
    rw [← hp] at hk ⊢
    have HP := Lib.hid hp
    clear hp
    by_cases hlt : p < s.size
    · have p0 : s[p]'hlt = t.getD p 0 := by rw [HT.out]; exact qget s _ _
      obtain ⟨x, hx⟩ : ∃ c, c = t.getD p 0 := ⟨_, rfl⟩
      have HX : Hid (x.toNat = tb t p) := Lib.hid (by rw [hx]; rfl)
      have hxl := x.toNat_lt
      rw [← hx] at p0
      clear hx
      have DEC : Hid (Utf8.decode s p = dec x.toNat (tb t (p + 1)) (tb t (p + 2)) (tb t (p + 3)) (s.size - p) ∨ ¬ p + 3 < s.size) := Lib.hid (by
        by_cases h3 : p + 3 < s.size
        · left
          rw [decode_dec, bt s p hlt, bt s (p + 1) (by omega), bt s (p + 2) (by omega), bt s (p + 3) h3, ← HT.out, HX.out]
        · exact .inr h3)
      have nxt : ∀ c wd, Utf8.decode s p = (c, wd) → (c ≠ 65533 ∨ wd ≠ 1) → pos s (m + 1) = p + wd ∧ ∀ l, l < m + 1 → good s (pos s l) := fun c wd hd hg => by
        refine ⟨by rw [HP.out] at hd hlt ⊢; exact pos_step s m c wd hlt hd, fun l hl => ?_⟩
        rcases Nat.lt_or_ge l m with h1 | h1
        · exact HALL.out l h1
        · obtain rfl : l = m := by omega
          rw [← HP.out]
          unfold good
          rw [hd]
          intro h
          rcases hg with hg | hg
          · exact hg h.1
          · exact hg h.2
      have NXT := Lib.hid nxt
      clear nxt
      by_cases h128 : x.toNat < 128
      · have g : (x.toNat : Int) < 128 := by omega
        have N1 := Lib.hid (NXT.out x.toNat 1 (by rw [decode_dec, bt s p hlt, ← HT.out, ← HX.out, dec_1 _ _ _ _ _ h128]) (.inl (by omega)))
        go_wp2
        go_roundw
        case rel => exact ⟨m + 1, by rw [N1.out.1]; go_num, by rw [N1.out.1]; omega, HW.out, N1.out.2⟩
        case measure => simp [intOf]; omega
      · have g : ¬ (x.toNat : Int) < 128 := by omega
        obtain ⟨a63, a192, a31, a15, a7⟩ := and_u8 x.toNat hxl
        have A31 := Lib.hid a31; have A15 := Lib.hid a15; have A7 := Lib.hid a7
        clear a63 a192 a31 a15 a7
        by_cases h2 : 194 ≤ x.toNat ∧ x.toNat ≤ 223
        · have q1 : (194 : Int) ≤ (x.toNat : Int) := by omega
          have q2 : (x.toNat : Int) ≤ 223 := by omega
          have a_ := A31.out
          have hsw : IntKind.i64.wrap ((s.size : Int) - (p : Int)) = (s.size : Int) - (p : Int) := by rw [IntKind.wrap_i64]; omega
          by_cases hn : p + 2 ≤ s.size
          case neg =>
            have hn' : (s.size : Int) - (p : Int) < 2 := by omega
            go_wp2
            go_ret
            exact ⟨_, rfl, fun h => (by cases h), HW.out⟩
          have hn' : ¬ (s.size : Int) - (p : Int) < 2 := by omega
          go_wp2
          go_loopw [6, 7, 8] (fun v j b wx => ∃ k : Nat, j = .int .i64 ((k : Int) + 1) ∧ v = .int .i64 (vv t p (x.toNat % 32) k : Nat) ∧ k + 1 ≤ 2 ∧ wr = wx ∧ ∀ l, l < k → contB (tb t (p + (l + 1)))) (fun v j b _ => 2 - (intOf j).toNat)
          case atStart => exact ⟨0, rfl, by first | rfl | (simp [vv]), by omega, rfl, fun l hl => by omega⟩
          case round =>
            obtain ⟨k, rfl, rfl, hk1, hw2, hall2⟩ := hrel
            have HALL2 := Lib.hid hall2; have HW2 := Lib.hid hw2
            clear hall2 hw2
            by_cases hk2 : k + 1 < 2
            · have y0 : s[p + (k + 1)]'(by omega) = t.getD (p + (k + 1)) 0 := by rw [HT.out]; exact qget s _ _
              obtain ⟨y, hy⟩ : ∃ c, c = t.getD (p + (k + 1)) 0 := ⟨_, rfl⟩
              have HY : Hid (y.toNat = tb t (p + (k + 1))) := Lib.hid (by rw [hy]; rfl)
              have hyl := y.toNat_lt
              rw [← hy] at y0
              clear hy
              have hwi : IntKind.i64.wrap ((p : Int) + ((k : Int) + 1)) = (p : Int) + ((k : Int) + 1) := by rw [IntKind.wrap_i64]; omega
              have i0 : (0 : Int) ≤ (p : Int) + ((k : Int) + 1) := by omega
              have i1 : (p : Int) + ((k : Int) + 1) < (s.size : Int) := by omega
              have i2 : ((p : Int) + ((k : Int) + 1)).toNat = p + (k + 1) := by omega
              have i3 : (k : Int) + 1 < 2 := by omega
              have hwk : IntKind.i64.wrap ((k : Int) + 1 + 1) = (k : Int) + 1 + 1 := by rw [IntKind.wrap_i64]; omega
              obtain ⟨a63, a192, _, _, _⟩ := and_u8 y.toNat hyl
              have A63 := Lib.hid a63
              by_cases hc : y.toNat / 64 = 2
              · have hb : (bits BinOp.and IntKind.u8 (y.toNat : Int) 192 != 128) = false := by rw [a192, hc]; rfl
                have HC := Lib.hid hc
                obtain ⟨V, hV⟩ : ∃ V, V = vv t p (x.toNat % 32) k := ⟨_, rfl⟩
                rw [← hV]
                have HV := Lib.hid hV
                clear a63 a192 hc hV
                have hVs : V < 16777216 := by rw [HV.out]; exact vv_small t p _ k (by omega) (by omega)
                have hsh : wrap64 ((V : Int) * 64) = (V : Int) * 64 := by unfold wrap64; omega
                have HO := Lib.hid (or_low V (y.toNat % 64) (by omega) (by omega))
                have HVE : Hid ((V : Int) * 64 + ((y.toNat % 64 : Nat) : Int) = ((vv t p (x.toNat % 32) (k + 1) : Nat) : Int)) := Lib.hid (by
                  rw [HY.out, HV.out]
                  show _ = ((vv t p (x.toNat % 32) k * 64 + tb t (p + (k + 1)) % 64 : Nat) : Int)
                  omega)
                have HSH := Lib.hid hsh
                clear hsh hVs
                go_wp2
                refine ⟨⟨k + 1, by go_num, ?_, by omega, HW2.out, fun l hl => ?_⟩, by simp [intOf]; omega⟩
                · rw [HSH.out, show ((y.toNat : Int) % 64) = ((y.toNat % 64 : Nat) : Int) by omega, HO.out, HVE.out]
                · rcases Nat.lt_or_ge l k with h1 | h1
                  · exact HALL2.out l h1
                  · obtain rfl : l = k := by omega
                    unfold contB
                    rw [← HY.out]; exact HC.out
              · have hb : (bits BinOp.and IntKind.u8 (y.toNat : Int) 192 != 128) = true := by rw [a192, bne_iff_ne]; omega
                clear a63 a192
                go_wp2
                go_ret
                exact ⟨_, rfl, fun h => (by cases h), HW.out.trans HW2.out⟩
            · obtain rfl : k = 1 := by omega
              have c0 : contB (tb t (p + 1)) := HALL2.out 0 (by omega)
              have hj : ¬ (((1 : Nat) : Int) + 1 < 2) := by omega
              obtain ⟨V, hV⟩ : ∃ V, V = vv t p (x.toNat % 32) 1 := ⟨_, rfl⟩
              rw [← hV]
              simp only [vv, Nat.reduceAdd] at hV
              have HVV := Lib.hid hV
              clear hV
              unfold contB at c0
              obtain ⟨c, hd⟩ : ∃ c, Utf8.decode s p = (c, 2) := by
                have hV := HVV.out; have l0 := tb_lt t (p + 1); obtain ⟨c, e, _, _⟩ := dec_2 x.toNat (tb t (p + 1)) (byteAt s (p + 2)) (byteAt s (p + 3)) (s.size - p) (by omega) (by omega) (by omega) (by omega) (by omega)
                exact ⟨c, by rw [decode_dec, bt s p hlt, bt s (p + 1) (by omega), ← HT.out, ← HX.out]; exact e⟩
              have HD := Lib.hid hd
              have N1 := Lib.hid (NXT.out _ 2 HD.out (.inr (by decide)))
              clear hd c0
              go_wp2
              go_roundw
              case rel => exact ⟨m + 1, by rw [N1.out.1]; go_num, by rw [N1.out.1]; omega, HW.out.trans HW2.out, N1.out.2⟩
              case measure => simp [intOf]; omega
        by_cases h3 : 224 ≤ x.toNat ∧ x.toNat ≤ 239
        · have q1 : (224 : Int) ≤ (x.toNat : Int) := by omega
          have q2 : (x.toNat : Int) ≤ 239 := by omega
          have r1 : ¬ (x.toNat : Int) ≤ 223 := by omega
          have r0 : (194 : Int) ≤ (x.toNat : Int) := by omega
          have a_ := A15.out
          have hsw : IntKind.i64.wrap ((s.size : Int) - (p : Int)) = (s.size : Int) - (p : Int) := by rw [IntKind.wrap_i64]; omega
          by_cases hn : p + 3 ≤ s.size
          case neg =>
            have hn' : (s.size : Int) - (p : Int) < 3 := by omega
            go_wp2
            go_ret
            exact ⟨_, rfl, fun h => (by cases h), HW.out⟩
          have hn' : ¬ (s.size : Int) - (p : Int) < 3 := by omega
          go_wp2
          go_loopw [6, 7, 8] (fun v j b wx => ∃ k : Nat, j = .int .i64 ((k : Int) + 1) ∧ v = .int .i64 (vv t p (x.toNat % 16) k : Nat) ∧ k + 1 ≤ 3 ∧ wr = wx ∧ ∀ l, l < k → contB (tb t (p + (l + 1)))) (fun v j b _ => 3 - (intOf j).toNat)
          case atStart => exact ⟨0, rfl, by first | rfl | (simp [vv]), by omega, rfl, fun l hl => by omega⟩
          case round =>
            obtain ⟨k, rfl, rfl, hk1, hw2, hall2⟩ := hrel
            have HALL2 := Lib.hid hall2; have HW2 := Lib.hid hw2
            clear hall2 hw2
            by_cases hk2 : k + 1 < 3
            · have y0 : s[p + (k + 1)]'(by omega) = t.getD (p + (k + 1)) 0 := by rw [HT.out]; exact qget s _ _
              obtain ⟨y, hy⟩ : ∃ c, c = t.getD (p + (k + 1)) 0 := ⟨_, rfl⟩
              have HY : Hid (y.toNat = tb t (p + (k + 1))) := Lib.hid (by rw [hy]; rfl)
              have hyl := y.toNat_lt
              rw [← hy] at y0
              clear hy
              have hwi : IntKind.i64.wrap ((p : Int) + ((k : Int) + 1)) = (p : Int) + ((k : Int) + 1) := by rw [IntKind.wrap_i64]; omega
              have i0 : (0 : Int) ≤ (p : Int) + ((k : Int) + 1) := by omega
              have i1 : (p : Int) + ((k : Int) + 1) < (s.size : Int) := by omega
              have i2 : ((p : Int) + ((k : Int) + 1)).toNat = p + (k + 1) := by omega
              have i3 : (k : Int) + 1 < 3 := by omega
              have hwk : IntKind.i64.wrap ((k : Int) + 1 + 1) = (k : Int) + 1 + 1 := by rw [IntKind.wrap_i64]; omega
              obtain ⟨a63, a192, _, _, _⟩ := and_u8 y.toNat hyl
              have A63 := Lib.hid a63
              by_cases hc : y.toNat / 64 = 2
              · have hb : (bits BinOp.and IntKind.u8 (y.toNat : Int) 192 != 128) = false := by rw [a192, hc]; rfl
                have HC := Lib.hid hc
                obtain ⟨V, hV⟩ : ∃ V, V = vv t p (x.toNat % 16) k := ⟨_, rfl⟩
                rw [← hV]
                have HV := Lib.hid hV
                clear a63 a192 hc hV
                have hVs : V < 16777216 := by rw [HV.out]; exact vv_small t p _ k (by omega) (by omega)
                have hsh : wrap64 ((V : Int) * 64) = (V : Int) * 64 := by unfold wrap64; omega
                have HO := Lib.hid (or_low V (y.toNat % 64) (by omega) (by omega))
                have HVE : Hid ((V : Int) * 64 + ((y.toNat % 64 : Nat) : Int) = ((vv t p (x.toNat % 16) (k + 1) : Nat) : Int)) := Lib.hid (by
                  rw [HY.out, HV.out]
                  show _ = ((vv t p (x.toNat % 16) k * 64 + tb t (p + (k + 1)) % 64 : Nat) : Int)
                  omega)
                have HSH := Lib.hid hsh
                clear hsh hVs
                go_wp2
                refine ⟨⟨k + 1, by go_num, ?_, by omega, HW2.out, fun l hl => ?_⟩, by simp [intOf]; omega⟩
                · rw [HSH.out, show ((y.toNat : Int) % 64) = ((y.toNat % 64 : Nat) : Int) by omega, HO.out, HVE.out]
                · rcases Nat.lt_or_ge l k with h1 | h1
                  · exact HALL2.out l h1
                  · obtain rfl : l = k := by omega
                    unfold contB
                    rw [← HY.out]; exact HC.out
              · have hb : (bits BinOp.and IntKind.u8 (y.toNat : Int) 192 != 128) = true := by rw [a192, bne_iff_ne]; omega
                clear a63 a192
                go_wp2
                go_ret
                exact ⟨_, rfl, fun h => (by cases h), HW.out.trans HW2.out⟩
            · obtain rfl : k = 2 := by omega
              have c0 : contB (tb t (p + 1)) := HALL2.out 0 (by omega)
              have c1 : contB (tb t (p + 2)) := HALL2.out 1 (by omega)
              have hj : ¬ (((2 : Nat) : Int) + 1 < 3) := by omega
              obtain ⟨V, hV⟩ : ∃ V, V = vv t p (x.toNat % 16) 2 := ⟨_, rfl⟩
              rw [← hV]
              simp only [vv, Nat.reduceAdd] at hV
              have HVV := Lib.hid hV
              clear hV
              unfold contB at c0 c1
              by_cases v1 : V < 2048
              · have v1' : (V : Int) < 2048 := by omega
                go_wp2
                go_ret
                exact ⟨_, rfl, fun h => (by cases h), HW.out.trans HW2.out⟩
              have v1' : ¬ (V : Int) < 2048 := by omega
              by_cases v2 : 55296 ≤ V ∧ V ≤ 57343
              · have v2' : (55296 : Int) ≤ (V : Int) := by omega
                have v3' : (V : Int) ≤ 57343 := by omega
                go_wp2
                go_ret
                exact ⟨_, rfl, fun h => (by cases h), HW.out.trans HW2.out⟩
              obtain ⟨c, hd⟩ : ∃ c, Utf8.decode s p = (c, 3) := by
                have hV := HVV.out; have l0 := tb_lt t (p + 1); have l1 := tb_lt t (p + 2); exact ⟨_, by rw [decode_dec, bt s p hlt, bt s (p + 1) (by omega), bt s (p + 2) (by omega), ← HT.out, ← HX.out]; exact dec_3 x.toNat (tb t (p + 1)) (tb t (p + 2)) (byteAt s (p + 3)) (s.size - p) (by omega) (by omega) (by omega) (by unfold lo3; split <;> omega) (by unfold hi3; split <;> omega) (by omega) (by omega)⟩
              by_cases v4 : 55296 ≤ V
              · have v2' : (55296 : Int) ≤ (V : Int) := by omega
                have v3' : ¬ (V : Int) ≤ 57343 := by omega
                have HD := Lib.hid hd
                have N1 := Lib.hid (NXT.out _ 3 HD.out (.inr (by decide)))
                clear hd c0 c1
                go_wp2
                go_roundw
                case rel => exact ⟨m + 1, by rw [N1.out.1]; go_num, by rw [N1.out.1]; omega, HW.out.trans HW2.out, N1.out.2⟩
                case measure => simp [intOf]; omega
              · have v2' : ¬ (55296 : Int) ≤ (V : Int) := by omega
                have HD := Lib.hid hd
                have N1 := Lib.hid (NXT.out _ 3 HD.out (.inr (by decide)))
                clear hd c0 c1
                go_wp2
                go_roundw
                case rel => exact ⟨m + 1, by rw [N1.out.1]; go_num, by rw [N1.out.1]; omega, HW.out.trans HW2.out, N1.out.2⟩
                case measure => simp [intOf]; omega
        by_cases h4 : 240 ≤ x.toNat ∧ x.toNat ≤ 244
        · have q1 : (240 : Int) ≤ (x.toNat : Int) := by omega
          have q2 : (x.toNat : Int) ≤ 244 := by omega
          have r1 : ¬ (x.toNat : Int) ≤ 223 := by omega
          have r0 : (194 : Int) ≤ (x.toNat : Int) := by omega
          have r2 : ¬ (x.toNat : Int) ≤ 239 := by omega
          have r3 : (224 : Int) ≤ (x.toNat : Int) := by omega
          have a_ := A7.out
          have hsw : IntKind.i64.wrap ((s.size : Int) - (p : Int)) = (s.size : Int) - (p : Int) := by rw [IntKind.wrap_i64]; omega
          by_cases hn : p + 4 ≤ s.size
          case neg =>
            have hn' : (s.size : Int) - (p : Int) < 4 := by omega
            go_wp2
            go_ret
            exact ⟨_, rfl, fun h => (by cases h), HW.out⟩
          have hn' : ¬ (s.size : Int) - (p : Int) < 4 := by omega
          go_wp2
          go_loopw [6, 7, 8] (fun v j b wx => ∃ k : Nat, j = .int .i64 ((k : Int) + 1) ∧ v = .int .i64 (vv t p (x.toNat % 8) k : Nat) ∧ k + 1 ≤ 4 ∧ wr = wx ∧ ∀ l, l < k → contB (tb t (p + (l + 1)))) (fun v j b _ => 4 - (intOf j).toNat)
          case atStart => exact ⟨0, rfl, by first | rfl | (simp [vv]), by omega, rfl, fun l hl => by omega⟩
          case round =>
            obtain ⟨k, rfl, rfl, hk1, hw2, hall2⟩ := hrel
            have HALL2 := Lib.hid hall2; have HW2 := Lib.hid hw2
            clear hall2 hw2
            by_cases hk2 : k + 1 < 4
            · have y0 : s[p + (k + 1)]'(by omega) = t.getD (p + (k + 1)) 0 := by rw [HT.out]; exact qget s _ _
              obtain ⟨y, hy⟩ : ∃ c, c = t.getD (p + (k + 1)) 0 := ⟨_, rfl⟩
              have HY : Hid (y.toNat = tb t (p + (k + 1))) := Lib.hid (by rw [hy]; rfl)
              have hyl := y.toNat_lt
              rw [← hy] at y0
              clear hy
              have hwi : IntKind.i64.wrap ((p : Int) + ((k : Int) + 1)) = (p : Int) + ((k : Int) + 1) := by rw [IntKind.wrap_i64]; omega
              have i0 : (0 : Int) ≤ (p : Int) + ((k : Int) + 1) := by omega
              have i1 : (p : Int) + ((k : Int) + 1) < (s.size : Int) := by omega
              have i2 : ((p : Int) + ((k : Int) + 1)).toNat = p + (k + 1) := by omega
              have i3 : (k : Int) + 1 < 4 := by omega
              have hwk : IntKind.i64.wrap ((k : Int) + 1 + 1) = (k : Int) + 1 + 1 := by rw [IntKind.wrap_i64]; omega
              obtain ⟨a63, a192, _, _, _⟩ := and_u8 y.toNat hyl
              have A63 := Lib.hid a63
              by_cases hc : y.toNat / 64 = 2
              · have hb : (bits BinOp.and IntKind.u8 (y.toNat : Int) 192 != 128) = false := by rw [a192, hc]; rfl
                have HC := Lib.hid hc
                obtain ⟨V, hV⟩ : ∃ V, V = vv t p (x.toNat % 8) k := ⟨_, rfl⟩
                rw [← hV]
                have HV := Lib.hid hV
                clear a63 a192 hc hV
                have hVs : V < 16777216 := by rw [HV.out]; exact vv_small t p _ k (by omega) (by omega)
                have hsh : wrap64 ((V : Int) * 64) = (V : Int) * 64 := by unfold wrap64; omega
                have HO := Lib.hid (or_low V (y.toNat % 64) (by omega) (by omega))
                have HVE : Hid ((V : Int) * 64 + ((y.toNat % 64 : Nat) : Int) = ((vv t p (x.toNat % 8) (k + 1) : Nat) : Int)) := Lib.hid (by
                  rw [HY.out, HV.out]
                  show _ = ((vv t p (x.toNat % 8) k * 64 + tb t (p + (k + 1)) % 64 : Nat) : Int)
                  omega)
                have HSH := Lib.hid hsh
                clear hsh hVs
                go_wp2
                refine ⟨⟨k + 1, by go_num, ?_, by omega, HW2.out, fun l hl => ?_⟩, by simp [intOf]; omega⟩
                · rw [HSH.out, show ((y.toNat : Int) % 64) = ((y.toNat % 64 : Nat) : Int) by omega, HO.out, HVE.out]
                · rcases Nat.lt_or_ge l k with h1 | h1
                  · exact HALL2.out l h1
                  · obtain rfl : l = k := by omega
                    unfold contB
                    rw [← HY.out]; exact HC.out
              · have hb : (bits BinOp.and IntKind.u8 (y.toNat : Int) 192 != 128) = true := by rw [a192, bne_iff_ne]; omega
                clear a63 a192
                go_wp2
                go_ret
                exact ⟨_, rfl, fun h => (by cases h), HW.out.trans HW2.out⟩
            · obtain rfl : k = 3 := by omega
              have c0 : contB (tb t (p + 1)) := HALL2.out 0 (by omega)
              have c1 : contB (tb t (p + 2)) := HALL2.out 1 (by omega)
              have c2 : contB (tb t (p + 3)) := HALL2.out 2 (by omega)
              have hj : ¬ (((3 : Nat) : Int) + 1 < 4) := by omega
              obtain ⟨V, hV⟩ : ∃ V, V = vv t p (x.toNat % 8) 3 := ⟨_, rfl⟩
              rw [← hV]
              simp only [vv, Nat.reduceAdd] at hV
              have HVV := Lib.hid hV
              clear hV
              unfold contB at c0 c1 c2
              by_cases v1 : V < 65536
              · have v1' : (V : Int) < 65536 := by omega
                go_wp2
                go_ret
                exact ⟨_, rfl, fun h => (by cases h), HW.out.trans HW2.out⟩
              have v1' : ¬ (V : Int) < 65536 := by omega
              by_cases v2 : 1114111 < V
              · have v2' : (1114111 : Int) < (V : Int) := by omega
                go_wp2
                go_ret
                exact ⟨_, rfl, fun h => (by cases h), HW.out.trans HW2.out⟩
              have v2' : ¬ (1114111 : Int) < (V : Int) := by omega
              obtain ⟨c, hd⟩ : ∃ c, Utf8.decode s p = (c, 4) := by
                have hV := HVV.out; have l0 := tb_lt t (p + 1); have l1 := tb_lt t (p + 2); have l2 := tb_lt t (p + 3); obtain ⟨c, e, _⟩ := dec_4 x.toNat (tb t (p + 1)) (tb t (p + 2)) (tb t (p + 3)) (s.size - p) (by omega) (by omega) (by omega) (by unfold lo4; split <;> omega) (by unfold hi4; split <;> omega) (by omega) (by omega) (by omega) (by omega)
                exact ⟨c, by rw [decode_dec, bt s p hlt, bt s (p + 1) (by omega), bt s (p + 2) (by omega), bt s (p + 3) (by omega), ← HT.out, ← HX.out]; exact e⟩
              have HD := Lib.hid hd
              have N1 := Lib.hid (NXT.out _ 4 HD.out (.inr (by decide)))
              clear hd c0 c1 c2
              go_wp2
              go_roundw
              case rel => exact ⟨m + 1, by rw [N1.out.1]; go_num, by rw [N1.out.1]; omega, HW.out.trans HW2.out, N1.out.2⟩
              case measure => simp [intOf]; omega
        by_cases z1 : x.toNat < 194
        · have y1 : ¬ (194 : Int) ≤ (x.toNat : Int) := by omega
          have y2 : ¬ (224 : Int) ≤ (x.toNat : Int) := by omega
          have y3 : ¬ (240 : Int) ≤ (x.toNat : Int) := by omega
          go_wp2
          go_ret
          exact ⟨_, rfl, fun h => (by cases h), HW.out⟩
        · have y1 : (194 : Int) ≤ (x.toNat : Int) := by omega
          have y1' : ¬ (x.toNat : Int) ≤ 223 := by omega
          have y2 : (224 : Int) ≤ (x.toNat : Int) := by omega
          have y2' : ¬ (x.toNat : Int) ≤ 239 := by omega
          have y3 : (240 : Int) ≤ (x.toNat : Int) := by omega
          have y3' : ¬ (x.toNat : Int) ≤ 244 := by omega
          go_wp2
          go_ret
          exact ⟨_, rfl, fun h => (by cases h), HW.out⟩
    · obtain rfl : p = s.size := by omega
      go_wp2
      go_ret
      refine ⟨_, rfl, fun _ k hk => ?_, HW.out⟩
      rcases Nat.lt_or_ge k m with h1 | h1
      · exact HALL.out k h1
      · have := pos_mono s h1
        have := HP.out
        omega
end Go.Proofs.YtppcjkajjahclaaFmt
