/- n011_276: the law's own reader of An+B. -/
import Derived.Test.YtgooblhfogmanaaNix
namespace Go.Proofs.Ytgooblhfogmanaa
open Go.RowKit
set_option linter.unusedVariables false
set_option linter.unusedSimpArgs false
theorem toList_data (s : ByteArray) : s.toList = s.data.toList := ByteArray.toList_eq s
theorem ret_ssb {a b c : ByteArray} (h : a = b) : Ending.returned (.tuple #[.string c, .string a, .bool true]) = .returned (.tuple #[.string c, .string b, .bool true]) := by rw [h]
theorem ne110 {c : UInt8} (h : c ≠ 110) : ((c.toNat : Int) == 110) = false := by
  rw [beq_eq_false_iff_ne]; intro e; exact h (UInt8.toNat_inj.1 (by have : (110 : UInt8).toNat = 110 := rfl; omega))
set_option maxHeartbeats 1000000 in
set_option maxRecDepth 100000 in
theorem parse_none (o : ByteArray) (w : World) (hs : o.size ≤ 16777216) (hn : ∀ x ∈ o.data.toList, x ≠ 110) (r : ByteArray) (hr : (o.size = 0 ∧ r = ⟨#[48]⟩) ∨ (IntT o.data.toList ∧ r = o)) :
    Calls Try.prog 11 #[.string o] w fun e w' => e = .returned (.tuple #[.string ⟨#[48]⟩, .string r, .bool true]) ∧ w = w' := by
  have HN := Lib.hid hn; have HR := Lib.hid hr
  clear hn hr
  go_enter Try.func11, Try.ntmps11
  go_wp2
  go_loop [5, 6] (fun a i => ∃ j : Nat, a = .int .i64 (-1) ∧ i = .int .i64 j ∧ j ≤ o.size) (fun _ i => o.size - (intOf i).toNat)
  case atStart => exact ⟨0, rfl, rfl, by omega⟩
  case round =>
    obtain ⟨j, rfl, rfl, hj⟩ := hrel
    by_cases hlt : j < o.size
    · have q : ((o[j].toNat : Int) == 110) = false := ne110 (HN.out _ (by rw [byte_get o j hlt, List.getD_eq_getElem?_getD, List.getElem?_eq_getElem (by rw [byte_size]; exact hlt)]; exact List.getElem_mem _))
      go_wp2
      go_round
      case rel => exact ⟨j + 1, rfl, by go_num, by omega⟩
      case measure => simp [intOf]; omega
    · rcases HR.out with ⟨h0, h1⟩ | ⟨h0, h1⟩
      · have e1 : o.toList = [] := by rw [toList_data]; exact no_byte h0
        have e2 : o.toList.isEmpty = true := by rw [e1]; rfl
        have H1 := Lib.hid h1
        clear h1 h0
        go_wp2
        go_ret3
        exact ⟨ret_ssb H1.out.symm, rfl⟩
      · have h2 : o.data.toList ≠ [] := fun e => int_short (.inl e) h0
        have e1 : ¬ o.toList = [] := by rw [toList_data]; exact h2
        have e2 : o.toList.isEmpty = false := by simpa using e1
        have H1 := Lib.hid h1; have H0 := Lib.hid (intB_yes h0)
        clear h1 h0 h2
        go_wp2_with (go_at_call 5; refine (isInt_any o _ hs).mono ?_; rw [H0.out]; rintro e w' ⟨rfl, rfl⟩)
        go_ret3
        exact ⟨ret_ssb H1.out.symm, rfl⟩
def CP (c a : ByteArray) : Prop := (c.data.toList = [] ∧ a = ⟨#[49]⟩) ∨ (c.data.toList = [45] ∧ a = ⟨#[45, 49]⟩) ∨ (IntT c.data.toList ∧ a = c)
def TP (t b : ByteArray) : Prop := (t.data.toList = [] ∧ b = ⟨#[48]⟩) ∨ (t.data.toList = 43 :: b.data.toList ∧ IntT b.data.toList ∧ b.data.toList.getD 0 0 ≠ 45) ∨ (t.data.toList.getD 0 0 = 45 ∧ IntT t.data.toList ∧ b = t)
theorem ret_two {a b a' b' : ByteArray} (h : a = a') (h' : b = b') : Ending.returned (.tuple #[.string a, .string b, .bool true]) = .returned (.tuple #[.string a', .string b', .bool true]) := by rw [h, h']
theorem eqn {c : UInt8} {k : Nat} (hk : k < 256) (h : c ≠ UInt8.ofNat k) : ((c.toNat : Int) == (k : Int)) = false := by
  rw [beq_eq_false_iff_ne]; intro e; exact h (UInt8.toNat_inj.1 (by rw [UInt8.toNat_ofNat']; omega))
theorem extract_list (o : ByteArray) (a b : Nat) : (o.extract a b).data.toList = (o.data.toList.take b).drop a := by
  rw [ByteArray.data_extract, Array.toList_extract, List.extract_eq_take_drop, List.drop_take]
theorem ext_bytes {a b : ByteArray} (h : a.data.toList = b.data.toList) : a = b := by
  have h1 : a.data = b.data := Array.toList_inj.1 h
  cases a; cases b; cases h1; rfl
set_option maxHeartbeats 4000000 in
set_option maxRecDepth 100000 in
theorem parse_n (o c t a b : ByteArray) (w : World) (hs : o.size ≤ 16777216) (ho : o.data.toList = c.data.toList ++ 110 :: t.data.toList) (hcn : ∀ x ∈ c.data.toList, x ≠ 110) (htn : ∀ x ∈ t.data.toList, x ≠ 110) (hc : CP c a) (ht : TP t b) :
    Calls Try.prog 11 #[.string o] w fun e w' => e = .returned (.tuple #[.string a, .string b, .bool true]) ∧ w = w' := by
  obtain ⟨m, hm⟩ : ∃ m, m = c.size := ⟨_, rfl⟩
  have hsz : o.size = m + 1 + t.size := by
    rw [← byte_size, ho, List.length_append, List.length_cons, byte_size, byte_size, hm]; omega
  have hx1 : o.extract 0 m = c := ext_bytes (by rw [extract_list, List.drop_zero, ho, hm, ← byte_size, List.take_left])
  have hx2 : o.extract (m + 1) o.size = t := ext_bytes (by
    rw [extract_list, ← byte_size o, List.take_length, ho, hm, ← byte_size, ← List.drop_drop, List.drop_left]; rfl)
  have hlow : ∀ j (h : j < o.size), j ≠ m → o[j] ≠ 110 := fun j h hne => by
    rw [byte_get o j h, ho]
    rcases Nat.lt_or_ge j m with h1 | h1
    · rw [List.getD_eq_getElem?_getD, List.getElem?_append_left (by rw [byte_size]; omega), List.getElem?_eq_getElem (by rw [byte_size]; omega)]
      exact hcn _ (List.getElem_mem _)
    · obtain ⟨k, rfl⟩ : ∃ k, j = m + 1 + k := ⟨j - (m + 1), by omega⟩
      rw [List.getD_eq_getElem?_getD, List.getElem?_append_right (by rw [byte_size]; omega), byte_size, ← hm, show m + 1 + k - m = k + 1 by omega, List.getElem?_cons_succ, List.getElem?_eq_getElem (by rw [byte_size]; omega)]
      exact htn _ (List.getElem_mem _)
  have hmid : ∀ h : m < o.size, ((o[m].toNat : Int) == 110) = true := fun h => by
    rw [byte_get o m h, ho, List.getD_eq_getElem?_getD, List.getElem?_append_right (by rw [byte_size]; omega), byte_size, ← hm, Nat.sub_self]; rfl
  have hct : t.size ≤ 16777216 ∧ c.size ≤ 16777216 := by omega
  have HX1 := Lib.hid hx1; have HX2 := Lib.hid hx2; have HLOW := Lib.hid hlow; have HMID := Lib.hid hmid; have HSZ := Lib.hid hsz; have HC := Lib.hid hc; have HT := Lib.hid ht
  have hm1 : m < o.size := by omega
  obtain ⟨ht16, hc16⟩ := hct
  clear hx1 hx2 hlow hmid hsz ho hcn htn hc ht hm
  go_enter Try.func11, Try.ntmps11
  go_wp2
  go_loop [5, 6] (fun q i => ∃ j : Nat, i = .int .i64 j ∧ j ≤ o.size ∧ ((j ≤ m ∧ q = .int .i64 (-1)) ∨ (m < j ∧ q = .int .i64 m))) (fun _ i => o.size - (intOf i).toNat)
  case atStart => exact ⟨0, rfl, by omega, .inl ⟨by omega, rfl⟩⟩
  case round =>
    obtain ⟨j, rfl, hj, hq⟩ := hrel
    by_cases hlt : j < o.size
    · by_cases hjm : j = m
      · subst hjm
        have hq' := HMID.out hlt
        obtain rfl : u5 = .int .i64 (-1) := by
          rcases hq with h | h
          · exact h.2
          · omega
        clear hq
        go_wp2
        go_round
        case rel => exact ⟨j + 1, by go_num, by omega, .inr ⟨by omega, rfl⟩⟩
        case measure => simp [intOf]; omega
      · have hq' := ne110 (HLOW.out j hlt hjm)
        rcases hq with ⟨h1, rfl⟩ | ⟨h1, rfl⟩
        all_goals
          go_wp2
          go_round
          case rel => exact ⟨j + 1, by go_num, by omega, by first | exact .inl ⟨by omega, rfl⟩ | exact .inr ⟨by omega, rfl⟩⟩
          case measure => simp [intOf]; omega
    · obtain rfl : u5 = .int .i64 (m : Nat) := by
        rcases hq with h | h
        · omega
        · exact h.2
      clear hq
      have hx1 := HX1.out; have hx2 := HX2.out
      have hnn : ¬ (m : Int) < 0 := by omega
      obtain ⟨HIC, hcase⟩ : (Hid (IntT c.data.toList → intB c.data.toList = true)) ∧ True := ⟨Lib.hid intB_yes, trivial⟩
      clear hcase
      have hu16 : (t.extract 1 t.size).size ≤ 16777216 := by rw [ByteArray.size_extract]; omega
      rcases HC.out with ⟨c0, ca⟩ | ⟨c0, ca⟩ | ⟨c0, ca⟩
      · have e1 : c.toList = [] := by rw [toList_data]; exact c0
        have e2 : c.toList.isEmpty = true := by rw [e1]; rfl
        have CA := Lib.hid ca
        clear ca c0
        rcases HT.out with ⟨t0, tb⟩ | ⟨t0, ti, t45⟩ | ⟨t0, ti, tb⟩
        · have f1 : t.toList = [] := by rw [toList_data]; exact t0
          have f2 : t.toList.isEmpty = true := by rw [f1]; rfl
          have TB := Lib.hid tb
          clear tb t0
          go_wp2_with (go_at_call 5; refine (isInt_any _ _ (by first | exact hc16 | exact ht16 | exact hu16)).mono ?_; (first | rw [HIC.out] | rw [HIT.out]); rintro e w' ⟨rfl, rfl⟩)
          go_ret3
          exact ⟨ret_two CA.out.symm TB.out.symm, rfl⟩
        · have hb : b = t.extract 1 t.size := ext_bytes (by rw [extract_list, ← byte_size t, List.take_length, t0]; rfl)
          have f1 : ¬ t.toList = [] := by rw [toList_data, t0]; simp
          have f2 : t.toList.isEmpty = false := by simpa using f1
          have hts : 0 < t.size := by rw [← byte_size, t0]; simp
          have f3 : ((t[0].toNat : Int) == 43) = true := by rw [byte_get t 0 hts, t0]; rfl
          have hbs : 0 < b.size := by
            rcases Nat.eq_zero_or_pos b.size with h | h
            · exact absurd ti (int_short (.inl (no_byte h)))
            · exact h
          have hts2 : t.size - 1 = b.size := by rw [← byte_size, t0]; simp [byte_size]
          have f4 : ¬ t.size - 1 = 0 := by omega
          have f5 : 0 < t.size - 1 := by omega
          have f8 : 0 < (t.extract 1 t.size).size := by rw [← hb]; exact hbs
          have f6 : ((t.extract 1 t.size)[0].toNat : Int) ≠ 45 := by
            rw [byte_get (t.extract 1 t.size) 0 f8, ← hb]
            intro e; exact t45 (UInt8.toNat_inj.1 (by have : (45 : UInt8).toNat = 45 := rfl; omega))
          have f7 : (((t.extract 1 t.size)[0].toNat : Int) == 45) = false := beq_eq_false_iff_ne.2 f6
          have f9 : ((0 : Int) == ((t.size - 1 : Nat) : Int)) = false := by rw [beq_eq_false_iff_ne]; omega
          have HIT : Hid (intB (t.extract 1 t.size).data.toList = true) := Lib.hid (by rw [← hb]; exact intB_yes ti)
          have TB := Lib.hid hb
          clear hb t0 ti t45 hbs hts2
          go_wp2_with (go_at_call 5; refine (isInt_any _ _ (by first | exact hc16 | exact ht16 | exact hu16)).mono ?_; (first | rw [HIC.out] | rw [HIT.out]); rintro e w' ⟨rfl, rfl⟩)
          go_ret3
          exact ⟨ret_two CA.out.symm TB.out.symm, rfl⟩
        · have hts : 0 < t.size := by
            rcases Nat.eq_zero_or_pos t.size with h | h
            · rw [no_byte h] at t0; cases t0
            · exact h
          have f1 : ¬ t.toList = [] := by rw [toList_data]; intro e; rw [e] at t0; cases t0
          have f2 : t.toList.isEmpty = false := by simpa using f1
          have f3 : ((t[0].toNat : Int) == 43) = false := by rw [byte_get t 0 hts, t0]; rfl
          have f4 : (t[0].toNat : Int) = 45 := by rw [byte_get t 0 hts, t0]; rfl
          have f5 : ((t[0].toNat : Int) == 45) = true := by rw [f4]; rfl
          have HIT := Lib.hid (intB_yes ti)
          have TB := Lib.hid tb
          clear tb t0 ti f4
          go_wp2_with (go_at_call 5; refine (isInt_any _ _ (by first | exact hc16 | exact ht16 | exact hu16)).mono ?_; (first | rw [HIC.out] | rw [HIT.out]); rintro e w' ⟨rfl, rfl⟩)
          go_ret3
          exact ⟨ret_two CA.out.symm TB.out.symm, rfl⟩
      · have e1 : c.toList = [45] := by rw [toList_data]; exact c0
        have e2 : c.toList.isEmpty = false := by rw [e1]; rfl
        have e3 : (c.toList == [45]) = true := by rw [e1]; rfl
        have CA := Lib.hid ca
        clear ca c0
        rcases HT.out with ⟨t0, tb⟩ | ⟨t0, ti, t45⟩ | ⟨t0, ti, tb⟩
        · have f1 : t.toList = [] := by rw [toList_data]; exact t0
          have f2 : t.toList.isEmpty = true := by rw [f1]; rfl
          have TB := Lib.hid tb
          clear tb t0
          go_wp2_with (go_at_call 5; refine (isInt_any _ _ (by first | exact hc16 | exact ht16 | exact hu16)).mono ?_; (first | rw [HIC.out] | rw [HIT.out]); rintro e w' ⟨rfl, rfl⟩)
          go_ret3
          exact ⟨ret_two CA.out.symm TB.out.symm, rfl⟩
        · have hb : b = t.extract 1 t.size := ext_bytes (by rw [extract_list, ← byte_size t, List.take_length, t0]; rfl)
          have f1 : ¬ t.toList = [] := by rw [toList_data, t0]; simp
          have f2 : t.toList.isEmpty = false := by simpa using f1
          have hts : 0 < t.size := by rw [← byte_size, t0]; simp
          have f3 : ((t[0].toNat : Int) == 43) = true := by rw [byte_get t 0 hts, t0]; rfl
          have hbs : 0 < b.size := by
            rcases Nat.eq_zero_or_pos b.size with h | h
            · exact absurd ti (int_short (.inl (no_byte h)))
            · exact h
          have hts2 : t.size - 1 = b.size := by rw [← byte_size, t0]; simp [byte_size]
          have f4 : ¬ t.size - 1 = 0 := by omega
          have f5 : 0 < t.size - 1 := by omega
          have f8 : 0 < (t.extract 1 t.size).size := by rw [← hb]; exact hbs
          have f6 : ((t.extract 1 t.size)[0].toNat : Int) ≠ 45 := by
            rw [byte_get (t.extract 1 t.size) 0 f8, ← hb]
            intro e; exact t45 (UInt8.toNat_inj.1 (by have : (45 : UInt8).toNat = 45 := rfl; omega))
          have f7 : (((t.extract 1 t.size)[0].toNat : Int) == 45) = false := beq_eq_false_iff_ne.2 f6
          have f9 : ((0 : Int) == ((t.size - 1 : Nat) : Int)) = false := by rw [beq_eq_false_iff_ne]; omega
          have HIT : Hid (intB (t.extract 1 t.size).data.toList = true) := Lib.hid (by rw [← hb]; exact intB_yes ti)
          have TB := Lib.hid hb
          clear hb t0 ti t45 hbs hts2
          go_wp2_with (go_at_call 5; refine (isInt_any _ _ (by first | exact hc16 | exact ht16 | exact hu16)).mono ?_; (first | rw [HIC.out] | rw [HIT.out]); rintro e w' ⟨rfl, rfl⟩)
          go_ret3
          exact ⟨ret_two CA.out.symm TB.out.symm, rfl⟩
        · have hts : 0 < t.size := by
            rcases Nat.eq_zero_or_pos t.size with h | h
            · rw [no_byte h] at t0; cases t0
            · exact h
          have f1 : ¬ t.toList = [] := by rw [toList_data]; intro e; rw [e] at t0; cases t0
          have f2 : t.toList.isEmpty = false := by simpa using f1
          have f3 : ((t[0].toNat : Int) == 43) = false := by rw [byte_get t 0 hts, t0]; rfl
          have f4 : (t[0].toNat : Int) = 45 := by rw [byte_get t 0 hts, t0]; rfl
          have f5 : ((t[0].toNat : Int) == 45) = true := by rw [f4]; rfl
          have HIT := Lib.hid (intB_yes ti)
          have TB := Lib.hid tb
          clear tb t0 ti f4
          go_wp2_with (go_at_call 5; refine (isInt_any _ _ (by first | exact hc16 | exact ht16 | exact hu16)).mono ?_; (first | rw [HIC.out] | rw [HIT.out]); rintro e w' ⟨rfl, rfl⟩)
          go_ret3
          exact ⟨ret_two CA.out.symm TB.out.symm, rfl⟩
      · have e1 : ¬ c.toList = [] := by rw [toList_data]; exact fun e => int_short (.inl e) c0
        have e2 : c.toList.isEmpty = false := by simpa using e1
        have e3 : ¬ c.toList = [45] := by rw [toList_data]; exact fun e => int_short (.inr e) c0
        have e4 : (c.toList == [45]) = false := by simpa using e3
        have HIC := Lib.hid (intB_yes c0)
        have CA := Lib.hid ca
        clear ca c0
        rcases HT.out with ⟨t0, tb⟩ | ⟨t0, ti, t45⟩ | ⟨t0, ti, tb⟩
        · have f1 : t.toList = [] := by rw [toList_data]; exact t0
          have f2 : t.toList.isEmpty = true := by rw [f1]; rfl
          have TB := Lib.hid tb
          clear tb t0
          go_wp2_with (go_at_call 5; refine (isInt_any _ _ (by first | exact hc16 | exact ht16 | exact hu16)).mono ?_; (first | rw [HIC.out] | rw [HIT.out]); rintro e w' ⟨rfl, rfl⟩)
          go_ret3
          exact ⟨ret_two CA.out.symm TB.out.symm, rfl⟩
        · have hb : b = t.extract 1 t.size := ext_bytes (by rw [extract_list, ← byte_size t, List.take_length, t0]; rfl)
          have f1 : ¬ t.toList = [] := by rw [toList_data, t0]; simp
          have f2 : t.toList.isEmpty = false := by simpa using f1
          have hts : 0 < t.size := by rw [← byte_size, t0]; simp
          have f3 : ((t[0].toNat : Int) == 43) = true := by rw [byte_get t 0 hts, t0]; rfl
          have hbs : 0 < b.size := by
            rcases Nat.eq_zero_or_pos b.size with h | h
            · exact absurd ti (int_short (.inl (no_byte h)))
            · exact h
          have hts2 : t.size - 1 = b.size := by rw [← byte_size, t0]; simp [byte_size]
          have f4 : ¬ t.size - 1 = 0 := by omega
          have f5 : 0 < t.size - 1 := by omega
          have f8 : 0 < (t.extract 1 t.size).size := by rw [← hb]; exact hbs
          have f6 : ((t.extract 1 t.size)[0].toNat : Int) ≠ 45 := by
            rw [byte_get (t.extract 1 t.size) 0 f8, ← hb]
            intro e; exact t45 (UInt8.toNat_inj.1 (by have : (45 : UInt8).toNat = 45 := rfl; omega))
          have f7 : (((t.extract 1 t.size)[0].toNat : Int) == 45) = false := beq_eq_false_iff_ne.2 f6
          have f9 : ((0 : Int) == ((t.size - 1 : Nat) : Int)) = false := by rw [beq_eq_false_iff_ne]; omega
          have HIT : Hid (intB (t.extract 1 t.size).data.toList = true) := Lib.hid (by rw [← hb]; exact intB_yes ti)
          have TB := Lib.hid hb
          clear hb t0 ti t45 hbs hts2
          go_wp2_with (go_at_call 5; refine (isInt_any _ _ (by first | exact hc16 | exact ht16 | exact hu16)).mono ?_; (first | rw [HIC.out] | rw [HIT.out]); rintro e w' ⟨rfl, rfl⟩)
          go_ret3
          exact ⟨ret_two CA.out.symm TB.out.symm, rfl⟩
        · have hts : 0 < t.size := by
            rcases Nat.eq_zero_or_pos t.size with h | h
            · rw [no_byte h] at t0; cases t0
            · exact h
          have f1 : ¬ t.toList = [] := by rw [toList_data]; intro e; rw [e] at t0; cases t0
          have f2 : t.toList.isEmpty = false := by simpa using f1
          have f3 : ((t[0].toNat : Int) == 43) = false := by rw [byte_get t 0 hts, t0]; rfl
          have f4 : (t[0].toNat : Int) = 45 := by rw [byte_get t 0 hts, t0]; rfl
          have f5 : ((t[0].toNat : Int) == 45) = true := by rw [f4]; rfl
          have HIT := Lib.hid (intB_yes ti)
          have TB := Lib.hid tb
          clear tb t0 ti f4
          go_wp2_with (go_at_call 5; refine (isInt_any _ _ (by first | exact hc16 | exact ht16 | exact hu16)).mono ?_; (first | rw [HIC.out] | rw [HIT.out]); rintro e w' ⟨rfl, rfl⟩)
          go_ret3
          exact ⟨ret_two CA.out.symm TB.out.symm, rfl⟩
end Go.Proofs.Ytgooblhfogmanaa
