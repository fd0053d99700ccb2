/- reportExplicitPhaseImport (n011_151): every phase; reportCount -/
import Derived.Test.YtoailijfbbdapaaFmtRep
import Derived.Test.YtoailijfbbdapaaFmtRpa
import Derived.Test.YtoailijfbbdapaaFmtRpb
namespace Go.Proofs.YtoailijfbbdapaaFmt
open Go.RowKit Go.MuLone
open Go.Extern.Stop Go.Stop Go.Extern
set_option linter.unusedVariables false
set_option linter.unusedSimpArgs false

set_option maxHeartbeats 4000000 in
set_option maxRecDepth 100000 in
theorem rep_any (F : Interp) (ph : Int) (ext : Bool) (fm : Int) (s : Nat) (h : Bool) (w : World) (hF : F.answers w.tape) (hl : LogS w s 0 h (.slice none 0 0) 0 []) :
    Calls Tryf.prog 14 #[logV s, .pointer none, (.agg #[.int .i32 0, .int .i32 0]), .int .u8 ph, .bool ext, .int .u8 fm] w (RepPost w s (cntR ph ext fm)) := by
  by_cases h1 : ph = 1
  · subst h1; exact rep_1 F ext fm s h w hF hl
  by_cases h2 : ph = 2
  · subst h2; exact rep_2 F ext fm s h w hF hl
  obtain ⟨fs, hfs⟩ := fmt_any fm
  obtain ⟨X, hX⟩ : ∃ X, X = (w.alloc (.cells (logC s) 33)).alloc (.cells #[.int .i32 0, .int .i32 0] 40) := ⟨_, rfl⟩
  have HGX : Hid (w.grownBy X none) := Lib.hid (by rw [hX]; exact only_alloc (only_alloc (World.grownBy.refl _ _) _) _)
  obtain ⟨l0, l1, l2, l3, l4, l5, hL⟩ : ∃ l0 l1 l2 l3 l4 l5, logV s = .agg #[l0, l1, l2, l3, l4, l5] := ⟨_, _, _, _, _, _, rfl⟩
  have HADD : Hid (∀ (W : World) (tx : ByteArray), w.grownBy W none → Calls Tryf.prog 18 #[.agg #[l0, l1, l2, l3, l4, l5], .pointer none, (.agg #[.int .i32 0, .int .i32 0]), .string tx] W (AddE W s none tx)) := Lib.hid (fun W tx hg => by rw [← hL]; exact adde_any s h (.slice none 0 0) tx W (hl.grown hg))
  have HBG : Hid (∀ W : World, w.grownBy W none → (Below s w W ∧ Keeps s none w W) ∧ LogS W s 0 h (.slice none 0 0) 0 []) := Lib.hid (fun W hg => ⟨⟨(Below.refl s w).grown hg (by have := hl.b4.lt; omega) (fun k hk => by cases hk), (Keeps.refl _ _ _).grownN hg⟩, hl.grown hg⟩)
  clear hX hl HGX
  clear X
  rw [hL]
  clear hL
  have HC : Hid (cntR ph ext fm = 0) := Lib.hid (by unfold cntR; rw [if_neg (by omega)])
  rw [HC.out]
  have e1 : (ph == 1) = false := by rw [beq_eq_false_iff_ne]; exact h1
  have e2 : (ph == 2) = false := by rw [beq_eq_false_iff_ne]; exact h2
  go_enter Tryf.func14, Tryf.ntmps14
  go_wp2
  go_end0
  exact ⟨rfl, ⟨_, _, ⟨#[]⟩, (HBG.out _ (by repeat (first | exact World.grownBy.refl _ _ | refine only_drew ?_ | refine only_alloc ?_ _))).2⟩, (HBG.out _ (by repeat (first | exact World.grownBy.refl _ _ | refine only_drew ?_ | refine only_alloc ?_ _))).1⟩
set_option maxHeartbeats 2000000 in
set_option maxRecDepth 100000 in
theorem zz_any (F : Interp) (ph : Int) (ext : Bool) (fm : Int) (s : Nat) (h : Bool) (w : World) (hF : F.answers w.tape) (hl : LogS w s 0 h (.slice none 0 0) 0 []) :
    Calls Tryf.prog 6 #[logV s, .pointer none, (.agg #[.int .i32 0, .int .i32 0]), .int .u8 ph, .bool ext, .int .u8 fm] w (RepPost w s (cntR ph ext fm)) := by
  obtain ⟨l0, l1, l2, l3, l4, l5, hL⟩ : ∃ l0 l1 l2 l3 l4 l5, logV s = .agg #[l0, l1, l2, l3, l4, l5] := ⟨_, _, _, _, _, _, rfl⟩
  have HRP : Hid (∀ W : World, w.grownBy W none → Calls Tryf.prog 14 #[.agg #[l0, l1, l2, l3, l4, l5], .pointer none, (.agg #[.int .i32 0, .int .i32 0]), .int .u8 ph, .bool ext, .int .u8 fm] W (RepPost W s (cntR ph ext fm))) := Lib.hid (fun W hg => by rw [← hL]; exact rep_any F ph ext fm s h W (by rw [hg.tape]; exact hF) (hl.grown hg))
  have HBG : Hid (∀ W : World, w.grownBy W none → Below s w W ∧ Keeps s none w W) := Lib.hid (fun W hg => ⟨(Below.refl s w).grown hg (by have := hl.b4.lt; omega) (fun k hk => by cases hk), (Keeps.refl _ _ _).grownN hg⟩)
  rw [hL]
  clear hL hl
  go_enter Tryf.func6, Tryf.ntmps6
  go_wp2_with (go_at_call 14; refine (HRP.out _ (by repeat (first | exact World.grownBy.refl _ _ | refine only_drew ?_ | refine only_alloc ?_ _))).mono ?_; rintro e w6 ⟨rfl, ⟨h', v', tx, hv⟩, hb6, hk6⟩; have HV := Lib.hid hv; have HB6 := Lib.hid (And.intro ((HBG.out _ (by repeat (first | exact World.grownBy.refl _ _ | refine only_drew ?_ | refine only_alloc ?_ _))).1.trans hb6) ((HBG.out _ (by repeat (first | exact World.grownBy.refl _ _ | refine only_drew ?_ | refine only_alloc ?_ _))).2.trans hk6)); clear hv hb6 hk6)
  go_end0
  exact ⟨rfl, ⟨_, _, _, HV.out⟩, HB6.out⟩
def RcPost (w : World) (n : Nat) (e : Ending) (w' : World) : Prop := ∃ b, e = .returned (.tuple #[.int .i64 (n : Int), .bool b]) ∧ Below w.heap.size w w'
set_option maxHeartbeats 4000000 in
set_option maxRecDepth 100000 in
theorem rc_any (F : Interp) (ph : Int) (ext : Bool) (fm : Int) (w : World) (hF : F.answers w.tape) (hs : w.tape = w.tape) :
    Calls Tryf.prog 4 #[.int .u8 ph, .bool ext, .int .u8 fm] w (RcPost w (cntR ph ext fm)) := by
  have hcn : cntR ph ext fm ≤ 1 := by unfold cntR; split; (split; (split <;> omega); omega); omega
  obtain ⟨n, hn⟩ : ∃ n, n = cntR ph ext fm := ⟨_, rfl⟩
  have hL : logV w.heap.size = .agg #[.func (.func 7) #[] #[.pointer (some ⟨w.heap.size, 0, none⟩), .pointer (some ⟨w.heap.size + 3, 0, none⟩), .pointer (some ⟨w.heap.size + 4, 0, none⟩), .pointer (some ⟨w.heap.size + 2, 0, none⟩)], .func (.func 10) #[] #[.pointer (some ⟨w.heap.size + 3, 0, none⟩), .pointer (some ⟨w.heap.size + 4, 0, none⟩)], .func (.func 11) #[] #[.pointer (some ⟨w.heap.size + 3, 0, none⟩), .pointer (some ⟨w.heap.size + 2, 0, none⟩)], .func (.func 12) #[] #[.pointer (some ⟨w.heap.size + 3, 0, none⟩), .pointer (some ⟨w.heap.size + 2, 0, none⟩)], .int .i8 3, .map none] := rfl
  have HNEW : Hid (Calls Tryf.prog 5 #[.int .u8 0, .map none] w fun e w' => e = .returned (.agg #[.func (.func 7) #[] #[.pointer (some ⟨w.heap.size, 0, none⟩), .pointer (some ⟨w.heap.size + 3, 0, none⟩), .pointer (some ⟨w.heap.size + 4, 0, none⟩), .pointer (some ⟨w.heap.size + 2, 0, none⟩)], .func (.func 10) #[] #[.pointer (some ⟨w.heap.size + 3, 0, none⟩), .pointer (some ⟨w.heap.size + 4, 0, none⟩)], .func (.func 11) #[] #[.pointer (some ⟨w.heap.size + 3, 0, none⟩), .pointer (some ⟨w.heap.size + 2, 0, none⟩)], .func (.func 12) #[] #[.pointer (some ⟨w.heap.size + 3, 0, none⟩), .pointer (some ⟨w.heap.size + 2, 0, none⟩)], .int .i8 3, .map none]) ∧ LogS w' w.heap.size 0 false (.slice none 0 0) 0 [] ∧ Below w.heap.size w w') := Lib.hid (by rw [← hL]; exact new_any w)
  have HZZ : Hid (∀ W : World, W.tape = w.tape → LogS W w.heap.size 0 false (.slice none 0 0) 0 [] → Calls Tryf.prog 6 #[.agg #[.func (.func 7) #[] #[.pointer (some ⟨w.heap.size, 0, none⟩), .pointer (some ⟨w.heap.size + 3, 0, none⟩), .pointer (some ⟨w.heap.size + 4, 0, none⟩), .pointer (some ⟨w.heap.size + 2, 0, none⟩)], .func (.func 10) #[] #[.pointer (some ⟨w.heap.size + 3, 0, none⟩), .pointer (some ⟨w.heap.size + 4, 0, none⟩)], .func (.func 11) #[] #[.pointer (some ⟨w.heap.size + 3, 0, none⟩), .pointer (some ⟨w.heap.size + 2, 0, none⟩)], .func (.func 12) #[] #[.pointer (some ⟨w.heap.size + 3, 0, none⟩), .pointer (some ⟨w.heap.size + 2, 0, none⟩)], .int .i8 3, .map none], .pointer none, (.agg #[.int .i32 0, .int .i32 0]), .int .u8 ph, .bool ext, .int .u8 fm] W (RepPost W w.heap.size n)) := Lib.hid (fun W ht hl => by rw [← hL, hn]; exact zz_any F ph ext fm w.heap.size false W (by rw [ht]; exact hF) hl)
  rw [← hn] at hcn ⊢
  clear hL hn
  go_enter Tryf.func4, Tryf.ntmps4
  go_wp2_with (go_at_call 5; refine HNEW.out.mono ?_; rintro e w1 ⟨rfl, hl1, hb1⟩; have HL1 := Lib.hid hl1; have HB1 := Lib.hid hb1; clear hl1 hb1)
  have hl1 := HL1.out; have hb1 := HB1.out
  clear HL1 HB1
  obtain ⟨X, hX⟩ : ∃ X, X = w1.alloc (.cells #[.func (.func 7) #[] #[.pointer (some ⟨w.heap.size, 0, none⟩), .pointer (some ⟨w.heap.size + 3, 0, none⟩), .pointer (some ⟨w.heap.size + 4, 0, none⟩), .pointer (some ⟨w.heap.size + 2, 0, none⟩)], .func (.func 10) #[] #[.pointer (some ⟨w.heap.size + 3, 0, none⟩), .pointer (some ⟨w.heap.size + 4, 0, none⟩)], .func (.func 11) #[] #[.pointer (some ⟨w.heap.size + 3, 0, none⟩), .pointer (some ⟨w.heap.size + 2, 0, none⟩)], .func (.func 12) #[] #[.pointer (some ⟨w.heap.size + 3, 0, none⟩), .pointer (some ⟨w.heap.size + 2, 0, none⟩)], .int .i8 3, .map none] 33) := ⟨_, rfl⟩
  have HLX : Hid (LogS X w.heap.size 0 false (.slice none 0 0) 0 []) := Lib.hid (by rw [hX]; exact hl1.alloc _)
  have HMX : Hid (Blk X w1.heap.size 33 #[.func (.func 7) #[] #[.pointer (some ⟨w.heap.size, 0, none⟩), .pointer (some ⟨w.heap.size + 3, 0, none⟩), .pointer (some ⟨w.heap.size + 4, 0, none⟩), .pointer (some ⟨w.heap.size + 2, 0, none⟩)], .func (.func 10) #[] #[.pointer (some ⟨w.heap.size + 3, 0, none⟩), .pointer (some ⟨w.heap.size + 4, 0, none⟩)], .func (.func 11) #[] #[.pointer (some ⟨w.heap.size + 3, 0, none⟩), .pointer (some ⟨w.heap.size + 2, 0, none⟩)], .func (.func 12) #[] #[.pointer (some ⟨w.heap.size + 3, 0, none⟩), .pointer (some ⟨w.heap.size + 2, 0, none⟩)], .int .i8 3, .map none]) := Lib.hid (by rw [hX]; exact Blk.new _ _ _)
  have hsz := hl1.b4.lt
  have HBX : Hid (Below w.heap.size w X) := Lib.hid (by rw [hX]; exact hb1.alloc (by omega) _)
  have HX := Lib.hid hX
  clear hX hl1 hb1 HNEW
  have k0 := HMX.out.cell 0
  have k1 := HMX.out.cell 1
  have k2 := HMX.out.cell 2
  have k3 : X.cell? ⟨w1.heap.size, 3, none⟩ = some (.func (.func 12) #[] #[.pointer (some ⟨w.heap.size + 3, 0, none⟩), .pointer (some ⟨w.heap.size + 2, 0, none⟩)]) := HMX.out.cell 3
  have k4 := HMX.out.cell 4
  have k5 := HMX.out.cell 5
  simp only [List.getElem?_toArray, List.getElem?_cons_zero, List.getElem?_cons_succ] at k0 k1 k2 k4 k5
  go_upto_region 2 with fail
  rw [← HX.out]
  clear HX
  go_wp2_with (go_at_call 6; refine (HZZ.out X HBX.out.tape HLX.out).mono ?_)
  rintro e w2 ⟨rfl, ⟨h', v', tx, hv⟩, hb2, hk2⟩
  have kd : w2.cell? ⟨w1.heap.size, 3, none⟩ = some (.func (.func 12) #[] #[.pointer (some ⟨w.heap.size + 3, 0, none⟩), .pointer (some ⟨w.heap.size + 2, 0, none⟩)]) := (World.cell?_of_block (hk2.2 w1.heap.size HMX.out.lt (by omega) (by simp))).trans k3
  have HL2 := Lib.hid hv
  have HB2 := Lib.hid (HBX.out.trans hb2)
  clear hv hb2 hk2 k0 k1 k2 k3 k4 k5 HLX HMX HBX HZZ
  go_wp2_with (go_at_call 12; refine (done_any w.heap.size n h' v' (rowsOf n tx) _ HL2.out hcn).mono ?_)
  rintro e w3 ⟨v3, rfl, hl3, hb3⟩
  obtain ⟨A, c, rfl⟩ : ∃ A c, v3 = .slice A n c := by
    rcases hl3.own.2 with ⟨rfl, h0⟩ | ⟨g, cap, cur, rfl, _⟩
    · exact ⟨none, 0, by rw [h0]⟩
    · exact ⟨_, _, rfl⟩
  have HB3 := Lib.hid (HB2.out.trans hb3)
  have HR : Hid (0 < n → ∃ g, A = some ⟨g, 0, none⟩ ∧ w3.cell? ⟨g, 6, none⟩ = some (.int .u8 0)) := Lib.hid (fun hn => by
    obtain ⟨g, cap, hv, _, hlt⟩ := hl3.own.form hn
    have hA : A = some ⟨g, 0, none⟩ := by injection hv
    refine ⟨g, hA, ?_⟩
    have h1 : n = 1 := by omega
    subst h1
    have h2 := hl3.own.cells (g := g) (by rw [hA]; rfl) 6 (.int .u8 0) rfl
    simpa [Addr.add] using h2)
  clear hl3 hb3 HB2 HL2 kd
  go_wp2_with fail
  go_loopw [10, 11] (fun a i wr => ∃ (b : Bool) (k : Nat), a = .bool b ∧ i = .int .i64 k ∧ k ≤ n ∧ wr = w3) (fun a i _ => n - (intOf i).toNat)
  case atStart => exact ⟨true, 0, rfl, rfl, by omega, rfl⟩
  case round =>
    obtain ⟨b, k, rfl, rfl, hk, rfl⟩ := hrel
    by_cases hlt : k < n
    · obtain ⟨g, rfl, hc⟩ := HR.out (by omega)
      obtain rfl : k = 0 := by omega
      have h0 : (0 : Int) < (n : Int) := by omega
      go_wp2_with fail
      go_roundw
      case rel => exact ⟨b, 1, rfl, rfl, by omega, by trivial⟩
      case measure => simp [intOf]; omega
    · obtain rfl : k = n := by omega
      go_wp2
      go_ret2
      exact ⟨b, rfl, HB3.out⟩
end Go.Proofs.YtoailijfbbdapaaFmt
