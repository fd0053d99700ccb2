/- AccumulateSymbolCount in one contract, of a symbol without flags. -/
import Derived.Test.YtljgaldndgbcjaaDoorAct
namespace Go.Proofs.YtljgaldndgbcjaaDoor
open Go.RowKit
set_option linter.unusedVariables false
set_option linter.unusedSimpArgs false
def jOf (kd : Int) : Nat := if kd = 18 then 1 else 0
/-- What AccumulateSymbolCount does to the list and to the counts. -/
def AccOut (kd ns count : Int) (L Lf : Nat) (xs xs' news : List Value) (cf cf' : Nat → Nat → Int) : Prop :=
  (kd = 0 ∧ Lf = L ∧ xs' = xs ∧ cf' = cf) ∨
  (kd ≠ 0 ∧ ns ≠ 0 ∧ Lf = L ∧ xs' = xs ∧ cf' = upd2 cf (jOf kd) (4294967295 - ns).toNat (IntKind.u32.wrap (cf (jOf kd) (4294967295 - ns).toNat + count))) ∨
  (kd ≠ 0 ∧ ns = 0 ∧ Lf = L + 1 ∧ xs' = xs ++ news ∧ cf' = cf)
def AccAll (w : World) (o : Nat) (mo : Option Nat) (br gm : Nat) (gs cn : Nat → Nat) (cf pf : Nat → Nat → Int) (g n : Nat) (S0 : Nat → SymR) (R M : Nat → Nat) (B pt L : Nat) (v : Value) (xs news : List Value) (kd ns count : Int) (e : Ending) (w' : World) : Prop :=
  e = .returned (.tuple #[]) ∧ ∃ v' Lf xs' cf', Blk w' pt 38 #[v'] ∧ w'.ownsRow B 47 4 v' Lf xs' ∧ Lk w' g n S0 R M ∧ RS o mo br gm gs cn cf' pf w' ∧
    Turned (fun b => b = g ∨ b = pt ∨ v.ownBlock = some b ∨ b = gs 0 ∨ b = gs 1) w w' ∧ AccOut kd ns count L Lf xs xs' news cf cf'
set_option maxHeartbeats 2000000 in
theorem acc_all (br o : Nat) (mo : Option Nat) (gm : Nat) (gs cn : Nat → Nat) (cf pf : Nat → Nat → Int) (g n : Nat) (S0 : Nat → SymR) (R M : Nat → Nat) (i : Nat) (w : World) (hn : n ≤ 16777216) (ho : o ≠ g) (h0 : g ≠ 0) (hR : Roots n R M) (hi : i < n) (hinv : Inv w) (hout : Out1 w o g n) (htab : Lk w g n S0 R M) (hrs : RS o mo br gm gs cn cf pf w) (pt sb : Nat) (count stable : Int) (B L cap : Nat) (SA : Option Addr) (xs : List Value)
    (hkd : (S0 (R i)).kd = 0 ∨ (S0 (R i)).kd = 27 ∨ (S0 (R i)).kd = 18) (hfl : (S0 (R i)).fl = 0) (hns : 0 ≤ (S0 (R i)).ns ∧ (S0 (R i)).ns ≤ 4294967295)
    (hrg : (S0 (R i)).kd = 0 ∨ (S0 (R i)).ns = 0 ∨ 4294967295 - (S0 (R i)).ns < cn (jOf (S0 (R i)).kd)) (hcn : ∀ j, j < 4 → cn j ≤ 65536)
    (hpt : Blk w pt 38 #[.slice SA L cap]) (hsb0 : Blk w sb 24 #[.int .u32 stable]) (hown : w.ownsRow B 47 4 (.slice SA L cap) L xs) (hL : L ≤ 16777216) (hB : B ≤ w.heap.size) :
    Calls Tryd.prog 13 #[.pointer (some ⟨br, 0, none⟩), .pointer (some ⟨pt, 0, none⟩), .agg #[.int .u32 0, .int .u32 i], .int .u32 count, .slice (some ⟨sb, 0, none⟩) 1 1] w (AccAll w o mo br gm gs cn cf pf g n S0 R M B pt L (.slice SA L cap) xs [.int .u32 stable, .int .u32 0, .int .u32 (R i : Nat), .int .u32 count] (S0 (R i)).kd (S0 (R i)).ns count) := by
  obtain ⟨tcs, htb⟩ := htab.blk
  have b1 : bits .and .u16 (S0 (R i)).fl 1 = 0 := by rw [hfl]; rfl
  have b2 : bits .and .u16 (S0 (R i)).fl 2 = 0 := by rw [hfl]; rfl
  have e1 : pt ≠ g := Blk.ne_ hpt htb (by decide)
  have e2 := own_blk_ne hown htb (by decide)
  have nest : ∀ j, j < 2 → j = jOf (S0 (R i)).kd → ∀ cf', (∀ e w', NestPost2 w o mo br gm gs cn cf' pf g n S0 R M j e w' → AccOut (S0 (R i)).kd (S0 (R i)).ns count L L xs xs [.int .u32 stable, .int .u32 0, .int .u32 (R i : Nat), .int .u32 count] cf cf' → AccAll w o mo br gm gs cn cf pf g n S0 R M B pt L (.slice SA L cap) xs [.int .u32 stable, .int .u32 0, .int .u32 (R i : Nat), .int .u32 count] (S0 (R i)).kd (S0 (R i)).ns count e w') := by
    rintro j hj hjk cf' e w' ⟨he, h1, h2, h3⟩ ho'
    obtain ⟨scs, hsb⟩ := (hrs.slt j (by omega)).blk
    have e3 : pt ≠ gs j := Blk.ne_ hpt hsb (by decide)
    have e4 := own_blk_ne hown hsb (by decide)
    refine ⟨he, _, L, xs, cf', h3.blk hpt (by rintro (e | e); exact e1 e; exact e3 e), own_kept hown (fun k hk hlt => h3.block k hlt (by
      rintro (e | e)
      · exact e2 (by rw [hk, e])
      · exact e4 (by rw [hk, e]))), h1, h2, h3.more (fun b _ hb => ?_), ho'⟩
    rcases hb with hb | hb
    · exact .inl hb
    · rcases (by omega : j = 0 ∨ j = 1) with rfl | rfl
      · exact .inr (.inr (.inr (.inl hb)))
      · exact .inr (.inr (.inr (.inr hb)))
  have top : ∀ e w', TopPost w o mo br gm gs cn cf pf g n S0 R M B pt L (.slice SA L cap) xs [.int .u32 stable, .int .u32 0, .int .u32 (R i : Nat), .int .u32 count] e w' → AccOut (S0 (R i)).kd (S0 (R i)).ns count L (L + 1) xs (xs ++ [.int .u32 stable, .int .u32 0, .int .u32 (R i : Nat), .int .u32 count]) [.int .u32 stable, .int .u32 0, .int .u32 (R i : Nat), .int .u32 count] cf cf → AccAll w o mo br gm gs cn cf pf g n S0 R M B pt L (.slice SA L cap) xs [.int .u32 stable, .int .u32 0, .int .u32 (R i : Nat), .int .u32 count] (S0 (R i)).kd (S0 (R i)).ns count e w' := by
    rintro e w' ⟨he, q, cap2, h1, h2, h3, h4, h5⟩ ho'
    refine ⟨he, _, L + 1, _, cf, h1, h2, h3, h4, h5.more (fun b _ hb => ?_), ho'⟩
    rcases hb with hb | hb | hb
    · exact .inl hb
    · exact .inr (.inl hb)
    · exact .inr (.inr (.inl hb))
  rcases hkd with hk | hk | hk
  · refine (acc_pin br o mo gm gs cn cf pf g n S0 R M i w hn ho h0 hR hi hinv hout htab hrs (.pointer (some ⟨pt, 0, none⟩)) (.slice (some ⟨sb, 0, none⟩) 1 1) count 0 (.inl hk) b1).mono ?_
    rintro e w' ⟨he, h1, h2⟩
    exact ⟨he, _, L, xs, cf, hpt.grown h2 (fun e => e1 (Option.some.inj e)), own_kept hown (fun k hk hlt => h2.block k hlt (fun e => e2 (by rw [hk]; exact e))), h1, hrs.other htb (by decide) (by decide) h2, Turned.of_grown h2 (fun _ e => .inl (Option.some.inj e).symm), .inl ⟨hk, rfl, rfl, rfl⟩⟩
  · have hj : jOf (S0 (R i)).kd = 0 := by rw [hk]; rfl
    by_cases hz : (S0 (R i)).ns = 0
    · exact (acc_top0 br o mo gm gs cn cf pf g n S0 R M i w hn ho h0 hR hi hinv hout htab hrs pt sb count stable B L cap SA xs hk hz b1 hpt hsb0 hown hL hB).mono (fun e w' h => top e w' h (.inr (.inr ⟨by rw [hk]; decide, hz, rfl, rfl, rfl⟩)))
    · obtain ⟨k, hkk⟩ : ∃ k : Nat, 4294967295 - (S0 (R i)).ns = k := ⟨(4294967295 - (S0 (R i)).ns).toNat, by omega⟩
      have hkc : k < cn 0 := by
        rcases hrg with h | h | h
        · rw [hk] at h; cases h
        · exact absurd h hz
        · rw [hj] at h; omega
      refine (acc_nest0 br o mo gm gs cn cf pf g n S0 R M i w hn ho h0 hR hi hinv hout htab hrs (.pointer (some ⟨pt, 0, none⟩)) (.slice (some ⟨sb, 0, none⟩) 1 1) count 0 k hk b1 b2 hns hz hkk hkc (hcn 0 (by omega))).mono ?_
      intro e w' h
      rw [if_pos rfl] at h
      exact nest 0 (by omega) hj.symm _ e w' h (.inr (.inl ⟨by rw [hk]; decide, hz, rfl, rfl, by rw [hj, hkk]; rfl⟩))
  · have hj : jOf (S0 (R i)).kd = 1 := by rw [hk]; rfl
    by_cases hz : (S0 (R i)).ns = 0
    · exact (acc_top1 br o mo gm gs cn cf pf g n S0 R M i w hn ho h0 hR hi hinv hout htab hrs pt sb count stable B L cap SA xs hk hz b1 hpt hsb0 hown hL hB).mono (fun e w' h => top e w' h (.inr (.inr ⟨by rw [hk]; decide, hz, rfl, rfl, rfl⟩)))
    · obtain ⟨k, hkk⟩ : ∃ k : Nat, 4294967295 - (S0 (R i)).ns = k := ⟨(4294967295 - (S0 (R i)).ns).toNat, by omega⟩
      have hkc : k < cn 1 := by
        rcases hrg with h | h | h
        · rw [hk] at h; cases h
        · exact absurd h hz
        · rw [hj] at h; omega
      refine (acc_nest1 br o mo gm gs cn cf pf g n S0 R M i w hn ho h0 hR hi hinv hout htab hrs (.pointer (some ⟨pt, 0, none⟩)) (.slice (some ⟨sb, 0, none⟩) 1 1) count 0 k hk b1 b2 hns hz hkk hkc (hcn 1 (by omega))).mono ?_
      intro e w' h
      rw [if_pos rfl] at h
      exact nest 1 (by omega) hj.symm _ e w' h (.inr (.inl ⟨by rw [hk]; decide, hz, rfl, rfl, by rw [hj, hkk]; rfl⟩))
end Go.Proofs.YtljgaldndgbcjaaDoor
