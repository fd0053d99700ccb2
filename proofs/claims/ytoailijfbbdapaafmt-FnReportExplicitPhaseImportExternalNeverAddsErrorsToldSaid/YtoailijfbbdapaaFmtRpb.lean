/- reportExplicitPhaseImport (n011_151): phase 2 -/
import Derived.Test.YtoailijfbbdapaaFmtRep
namespace Go.Proofs.YtoailijfbbdapaaFmt
open Go.RowKit Go.MuLone
open Go.Extern.Stop Go.Stop Go.Extern
set_option linter.unusedVariables false
set_option linter.unusedSimpArgs false

set_option maxHeartbeats 4000000 in
set_option maxRecDepth 100000 in
theorem rep_2 (F : Interp) (ext : Bool) (fm : Int) (s : Nat) (h : Bool) (w : World) (hF : F.answers w.tape) (hl : LogS w s 0 h (.slice none 0 0) 0 []) :
    Calls Tryf.prog 14 #[logV s, .pointer none, (.agg #[.int .i32 0, .int .i32 0]), .int .u8 2, .bool ext, .int .u8 fm] w (RepPost w s (cntR 2 ext fm)) := by
  obtain ⟨fs, hfs⟩ := fmt_any fm
  obtain ⟨X, hX⟩ : ∃ X, X = (w.alloc (.cells (logC s) 33)).alloc (.cells #[.int .i32 0, .int .i32 0] 40) := ⟨_, rfl⟩
  have HGX : Hid (w.grownBy X none) := Lib.hid (by rw [hX]; exact only_alloc (only_alloc (World.grownBy.refl _ _) _) _)
  obtain ⟨l0, l1, l2, l3, l4, l5, hL⟩ : ∃ l0 l1 l2 l3 l4 l5, logV s = .agg #[l0, l1, l2, l3, l4, l5] := ⟨_, _, _, _, _, _, rfl⟩
  have HADD : Hid (∀ (W : World) (tx : ByteArray), w.grownBy W none → Calls Tryf.prog 18 #[.agg #[l0, l1, l2, l3, l4, l5], .pointer none, (.agg #[.int .i32 0, .int .i32 0]), .string tx] W (AddE W s none tx)) := Lib.hid (fun W tx hg => by rw [← hL]; exact adde_any s h (.slice none 0 0) tx W (hl.grown hg))
  have HBG : Hid (∀ W : World, w.grownBy W none → (Below s w W ∧ Keeps s none w W) ∧ LogS W s 0 h (.slice none 0 0) 0 []) := Lib.hid (fun W hg => ⟨⟨(Below.refl s w).grown hg (by have := hl.b4.lt; omega) (fun k hk => by cases hk), (Keeps.refl _ _ _).grownN hg⟩, hl.grown hg⟩)
  clear hX hl HGX
  clear X
  rw [hL]
  clear hL
  · skip
    have q10 := spf_one F ⟨#[115, 111, 117, 114, 99, 101, 32, 112, 104, 97, 115, 101]⟩ (((w.alloc (.cells #[l0, l1, l2, l3, l4, l5] 33)).alloc (.cells #[.int .i32 0, .int .i32 0] 40)).alloc (.cells #[.iface 9 (.string ⟨#[115, 111, 117, 114, 99, 101, 32, 112, 104, 97, 115, 101]⟩)] 20)) (w.heap.size + 1 + 1) (by simpa using hF) (by simp [go_sem])
    have q20 := spf_two F ⟨#[115, 111, 117, 114, 99, 101, 32, 112, 104, 97, 115, 101]⟩ fs (((w.alloc (.cells #[l0, l1, l2, l3, l4, l5] 33)).alloc (.cells #[.int .i32 0, .int .i32 0] 40)).alloc (.cells #[.iface 9 (.string ⟨#[115, 111, 117, 114, 99, 101, 32, 112, 104, 97, 115, 101]⟩), .iface 9 (.string fs)] 20)) (w.heap.size + 1 + 1) (by simpa using hF) (by simp [go_sem]) (by simp [go_sem])
    have q11 := spf_one F ⟨#[115, 111, 117, 114, 99, 101, 32, 112, 104, 97, 115, 101]⟩ (((w.alloc (.cells #[l0, l1, l2, l3, l4, l5] 33)).alloc (.cells #[.int .i32 0, .int .i32 0] 40)).alloc (.cells #[.iface 9 (.string ⟨#[115, 111, 117, 114, 99, 101, 32, 112, 104, 97, 115, 101]⟩)] 20)).drew (w.heap.size + 1 + 1) (by simpa using hF) (by simp [go_sem])
    have q21 := spf_two F ⟨#[115, 111, 117, 114, 99, 101, 32, 112, 104, 97, 115, 101]⟩ fs (((w.alloc (.cells #[l0, l1, l2, l3, l4, l5] 33)).alloc (.cells #[.int .i32 0, .int .i32 0] 40)).alloc (.cells #[.iface 9 (.string ⟨#[115, 111, 117, 114, 99, 101, 32, 112, 104, 97, 115, 101]⟩), .iface 9 (.string fs)] 20)).drew (w.heap.size + 1 + 1) (by simpa using hF) (by simp [go_sem]) (by simp [go_sem])
    have q12 := spf_one F ⟨#[115, 111, 117, 114, 99, 101, 32, 112, 104, 97, 115, 101]⟩ (((w.alloc (.cells #[l0, l1, l2, l3, l4, l5] 33)).alloc (.cells #[.int .i32 0, .int .i32 0] 40)).alloc (.cells #[.iface 9 (.string ⟨#[115, 111, 117, 114, 99, 101, 32, 112, 104, 97, 115, 101]⟩)] 20)).drew.drew (w.heap.size + 1 + 1) (by simpa using hF) (by simp [go_sem])
    have q22 := spf_two F ⟨#[115, 111, 117, 114, 99, 101, 32, 112, 104, 97, 115, 101]⟩ fs (((w.alloc (.cells #[l0, l1, l2, l3, l4, l5] 33)).alloc (.cells #[.int .i32 0, .int .i32 0] 40)).alloc (.cells #[.iface 9 (.string ⟨#[115, 111, 117, 114, 99, 101, 32, 112, 104, 97, 115, 101]⟩), .iface 9 (.string fs)] 20)).drew.drew (w.heap.size + 1 + 1) (by simpa using hF) (by simp [go_sem]) (by simp [go_sem])
    have q13 := spf_one F ⟨#[115, 111, 117, 114, 99, 101, 32, 112, 104, 97, 115, 101]⟩ (((w.alloc (.cells #[l0, l1, l2, l3, l4, l5] 33)).alloc (.cells #[.int .i32 0, .int .i32 0] 40)).alloc (.cells #[.iface 9 (.string ⟨#[115, 111, 117, 114, 99, 101, 32, 112, 104, 97, 115, 101]⟩)] 20)).drew.drew.drew (w.heap.size + 1 + 1) (by simpa using hF) (by simp [go_sem])
    have q23 := spf_two F ⟨#[115, 111, 117, 114, 99, 101, 32, 112, 104, 97, 115, 101]⟩ fs (((w.alloc (.cells #[l0, l1, l2, l3, l4, l5] 33)).alloc (.cells #[.int .i32 0, .int .i32 0] 40)).alloc (.cells #[.iface 9 (.string ⟨#[115, 111, 117, 114, 99, 101, 32, 112, 104, 97, 115, 101]⟩), .iface 9 (.string fs)] 20)).drew.drew.drew (w.heap.size + 1 + 1) (by simpa using hF) (by simp [go_sem]) (by simp [go_sem])
    have HFS := Lib.hid hfs
    clear hfs
    by_cases h3 : fm = 3
    · subst h3
      cases ext
      · have HC : Hid (cntR 2 false 3 = 1) := Lib.hid rfl
        rw [HC.out]
        go_enter Tryf.func14, Tryf.ntmps14
        go_upto_region 10 with fail
        go_region_with (go_at_call 18; refine (HADD.out _ _ (by repeat (first | exact World.grownBy.refl _ _ | refine only_drew ?_ | refine only_alloc ?_ _))).mono ?_; rintro e w6 ⟨rfl, ⟨v', hv⟩, hb6, hk6⟩; have HV := Lib.hid hv; have HB6 := Lib.hid (And.intro ((HBG.out _ (by repeat (first | exact World.grownBy.refl _ _ | refine only_drew ?_ | refine only_alloc ?_ _))).1.1.trans hb6) ((HBG.out _ (by repeat (first | exact World.grownBy.refl _ _ | refine only_drew ?_ | refine only_alloc ?_ _))).1.2.trans hk6)); clear hv hb6 hk6)
        all_goals
          go_wp2
          go_end0
          exact ⟨rfl, ⟨_, _, _, HV.out⟩, HB6.out⟩
      · have HC : Hid (cntR 2 true 3 = 0) := Lib.hid rfl
        rw [HC.out]
        go_enter Tryf.func14, Tryf.ntmps14
        go_wp2
        go_end0
        exact ⟨rfl, ⟨_, _, ⟨#[]⟩, (HBG.out _ (by repeat (first | exact World.grownBy.refl _ _ | refine only_drew ?_ | refine only_alloc ?_ _))).2⟩, (HBG.out _ (by repeat (first | exact World.grownBy.refl _ _ | refine only_drew ?_ | refine only_alloc ?_ _))).1⟩
    · have HC : Hid (cntR 2 ext fm = 1) := Lib.hid (by unfold cntR; rw [if_pos (by omega), if_neg h3])
      rw [HC.out]
      have e3 : (fm != 3) = true := by rw [bne_iff_ne]; exact h3
      go_enter Tryf.func14, Tryf.ntmps14
      go_upto_region 8 with fail
      go_region_with (first | (go_at_call 20; refine (HFS.out _).mono ?_; rintro e w5 ⟨rfl, rfl⟩) | (go_at_call 18; refine (HADD.out _ _ (by repeat (first | exact World.grownBy.refl _ _ | refine only_drew ?_ | refine only_alloc ?_ _))).mono ?_; rintro e w6 ⟨rfl, ⟨v', hv⟩, hb6, hk6⟩; have HV := Lib.hid hv; have HB6 := Lib.hid (And.intro ((HBG.out _ (by repeat (first | exact World.grownBy.refl _ _ | refine only_drew ?_ | refine only_alloc ?_ _))).1.1.trans hb6) ((HBG.out _ (by repeat (first | exact World.grownBy.refl _ _ | refine only_drew ?_ | refine only_alloc ?_ _))).1.2.trans hk6)); clear hv hb6 hk6))
      all_goals
        go_wp2
        go_end0
        exact ⟨rfl, ⟨_, _, _, HV.out⟩, HB6.out⟩
end Go.Proofs.YtoailijfbbdapaaFmt
