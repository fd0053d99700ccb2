/- AccumulateSymbolCount in one contract, with flags: one step of a state. -/
import Derived.Test.YtdmllmipcfkaaaaDoorAct
namespace Go.Proofs.YtdmllmipcfkaaaaDoor
open Go.RowKit
set_option linter.unusedVariables false
set_option linter.unusedSimpArgs false
def jOf (kd : Int) : Nat := if kd = 18 then 1 else 0
/-- What a renamer and its list have gathered. -/
structure AS where
  L : Nat
  xs : List Value
  cf : Nat → Nat → Int
  pf : Nat → Nat → Int
def accStep (stable : Int) (r : SymR) (root : Nat) (count : Int) (s : AS) : AS :=
  if r.kd = 0 ∨ bits .and .u16 r.fl 1 ≠ 0 then s
  else if r.ns = 0 then ⟨s.L + 1, s.xs ++ [.int .u32 stable, .int .u32 0, .int .u32 root, .int .u32 count], s.cf, s.pf⟩
  else ⟨s.L, s.xs, upd2 s.cf (jOf r.kd) (4294967295 - r.ns).toNat (IntKind.u32.wrap (s.cf (jOf r.kd) (4294967295 - r.ns).toNat + count)), if bits .and .u16 r.fl 2 = 0 then s.pf else upd2 s.pf (jOf r.kd) (4294967295 - r.ns).toNat 1⟩
/-- A renamer, its table and its list. -/
structure Side (B o : Nat) (mo : Option Nat) (br gm : Nat) (gs cn : Nat → Nat) (g n : Nat) (S0 : Nat → SymR) (R M : Nat → Nat) (pt : Nat) (s : AS) (v : Value) (w : World) : Prop where
  out : Out1 w o g n
  tab : Lk w g n S0 R M
  rs : RS o mo br gm gs cn s.cf s.pf w
  lst : Blk w pt 39 #[v]
  own : w.ownsRow B 47 4 v s.L s.xs
theorem Side.turned {B o : Nat} {mo : Option Nat} {br gm : Nat} {gs cn : Nat → Nat} {g n : Nat} {S0 : Nat → SymR} {R M : Nat → Nat} {pt : Nat} {s : AS} {v : Value} {w w' : World} {T : Nat → Prop} (h : Side B o mo br gm gs cn g n S0 R M pt s v w) (ht : Turned T w w')
    (h1 : ¬ T o) (h2 : ¬ T g) (h3 : ¬ T br) (h4 : ∀ j, j < 4 → ¬ T (gs j)) (h5 : ¬ T pt) (h6 : ∀ b, v.ownBlock = some b → ¬ T b) : Side B o mo br gm gs cn g n S0 R M pt s v w' :=
  ⟨ht.blk h.out h1, ht.lk h.tab h2, h.rs.turned ht h3 h4, ht.blk h.lst h5, own_kept h.own (fun k hk hlt => ht.block k hlt (h6 k hk))⟩
def SidePost (w : World) (B o : Nat) (mo : Option Nat) (br gm : Nat) (gs cn : Nat → Nat) (g n : Nat) (S0 : Nat → SymR) (R M : Nat → Nat) (pt : Nat) (s' : AS) (v : Value) (e : Ending) (w' : World) : Prop :=
  e = .returned (.tuple #[]) ∧ ∃ v', Side B o mo br gm gs cn g n S0 R M pt s' v' w' ∧ Turned (fun b => b = g ∨ b = pt ∨ v.ownBlock = some b ∨ b = gs 0 ∨ b = gs 1) w w' ∧ ∀ q, v'.ownBlock = some q → v.ownBlock = some q ∨ w.heap.size ≤ q
set_option maxHeartbeats 4000000 in
theorem acc_step (br o : Nat) (mo : Option Nat) (gm : Nat) (gs cn : Nat → Nat) (g n : Nat) (S0 : Nat → SymR) (R M : Nat → Nat) (i : Nat) (w : World) (hn : n ≤ 16777216) (ho : o ≠ g) (h0 : g ≠ 0) (hR : Roots n R M) (hi : i < n) (hinv : Inv w) (pt sb : Nat) (count stable : Int) (B : Nat) (s : AS) (v : Value)
    (hside : Side B o mo br gm gs cn g n S0 R M pt s v w)
    (hkd : (S0 (R i)).kd = 0 ∨ (S0 (R i)).kd = 27 ∨ (S0 (R i)).kd = 18) (hns : 0 ≤ (S0 (R i)).ns ∧ (S0 (R i)).ns ≤ 4294967295)
    (hrg : (S0 (R i)).ns = 0 ∨ (4294967295 - (S0 (R i)).ns < cn 0 ∧ 4294967295 - (S0 (R i)).ns < cn 1)) (hcn : ∀ j, j < 4 → cn j ≤ 65536)
    (hsb0 : Blk w sb 24 #[.int .u32 stable]) (hL : s.L ≤ 16777216) (hB : B ≤ w.heap.size) :
    Calls Tryd.prog 10 #[.pointer (some ⟨br, 0, none⟩), .pointer (some ⟨pt, 0, none⟩), .agg #[.int .u32 0, .int .u32 i], .int .u32 count, .slice (some ⟨sb, 0, none⟩) 1 1] w (SidePost w B o mo br gm gs cn g n S0 R M pt (accStep stable (S0 (R i)) (R i) count s) v) := by
  obtain ⟨hout, htab, hrs, hpt, hown⟩ := hside
  obtain ⟨SA, cap, rfl⟩ : ∃ SA cap, v = .slice SA s.L cap := by
    rcases hown.2 with ⟨hv, hl⟩ | ⟨q, cap, cur, hv, _⟩
    · exact ⟨none, 0, by rw [hv, hl]⟩
    · exact ⟨_, _, hv⟩
  obtain ⟨tcs, htb⟩ := htab.blk
  have e1 : pt ≠ g := Blk.ne_ hpt htb (by decide)
  have e2 := own_blk_ne hown htb (by decide)
  have e3 : o ≠ pt := Blk.ne_ hout hpt (by decide)
  have e4 := own_blk_ne hown hout (by decide)
  have e5 : ∀ j, j < 4 → o ≠ gs j := fun j hj => by obtain ⟨cs, hb⟩ := (hrs.slt j hj).blk; exact Blk.ne_ hout hb (by decide)
  have fout : ∀ w', Turned (fun b => b = g ∨ b = pt ∨ Value.ownBlock (.slice SA s.L cap) = some b ∨ b = gs 0 ∨ b = gs 1) w w' → Out1 w' o g n := fun w' ht => ht.blk hout (by
    rintro (e | e | e | e | e)
    · exact ho e
    · exact e3 e
    · exact e4 e
    · exact e5 0 (by omega) e
    · exact e5 1 (by omega) e)
  by_cases hp : (S0 (R i)).kd = 0 ∨ bits .and .u16 (S0 (R i)).fl 1 ≠ 0
  · have hpin : (S0 (R i)).kd = 0 ∨ (((S0 (R i)).kd = 27 ∨ (S0 (R i)).kd = 18) ∧ bits .and .u16 (S0 (R i)).fl 1 ≠ 0) := by
      rcases hkd with h | h
      · exact .inl h
      · rcases hp with h' | h'
        · exact .inl h'
        · exact .inr ⟨h, h'⟩
    have hs : accStep stable (S0 (R i)) (R i) count s = s := if_pos hp
    rw [hs]
    refine (acc_pin br o mo gm gs cn s.cf s.pf g n S0 R M i w hn ho h0 hR hi hinv hout htab hrs (.pointer (some ⟨pt, 0, none⟩)) (.slice (some ⟨sb, 0, none⟩) 1 1) count _ hpin rfl).mono ?_
    rintro e w' ⟨he, h1, h2⟩
    have ht : Turned (fun b => b = g ∨ b = pt ∨ Value.ownBlock (.slice SA s.L cap) = some b ∨ b = gs 0 ∨ b = gs 1) w w' := Turned.of_grown h2 (fun _ e => .inl (Option.some.inj e).symm)
    exact ⟨he, _, ⟨fout _ ht, h1, hrs.other htb (by decide) (by decide) h2, hpt.grown h2 (fun e => e1 (Option.some.inj e)), own_kept hown (fun k hk hlt => h2.block k hlt (fun e => e2 (by rw [hk]; exact e)))⟩, ht, fun q hq => .inl hq⟩
  · have hk0 : (S0 (R i)).kd ≠ 0 := fun e => hp (.inl e)
    have hb1 : bits .and .u16 (S0 (R i)).fl 1 = 0 := by
      rcases Classical.em (bits .and .u16 (S0 (R i)).fl 1 = 0) with e | e
      · exact e
      · exact absurd (.inr e) hp
    by_cases hz : (S0 (R i)).ns = 0
    · have hs : accStep stable (S0 (R i)) (R i) count s = ⟨s.L + 1, s.xs ++ [.int .u32 stable, .int .u32 0, .int .u32 (R i : Nat), .int .u32 count], s.cf, s.pf⟩ := by unfold accStep; rw [if_neg hp, if_pos hz]
      rw [hs]
      have top : ∀ e w', TopPost w o mo br gm gs cn s.cf s.pf g n S0 R M B pt s.L (.slice SA s.L cap) s.xs [.int .u32 stable, .int .u32 0, .int .u32 (R i : Nat), .int .u32 count] e w' → SidePost w B o mo br gm gs cn g n S0 R M pt ⟨s.L + 1, s.xs ++ [.int .u32 stable, .int .u32 0, .int .u32 (R i : Nat), .int .u32 count], s.cf, s.pf⟩ (.slice SA s.L cap) e w' := by
        rintro e w' ⟨he, q, cap2, h1, h2, h3, h4, h5, h6⟩
        have ht : Turned (fun b => b = g ∨ b = pt ∨ Value.ownBlock (.slice SA s.L cap) = some b ∨ b = gs 0 ∨ b = gs 1) w w' := h5.more (fun b _ hb => by
          rcases hb with hb | hb | hb
          · exact .inl hb
          · exact .inr (.inl hb)
          · exact .inr (.inr (.inl hb)))
        refine ⟨he, _, ⟨fout _ ht, h3, h4, h1, h2⟩, ht, fun q' hq => ?_⟩
        have e : q = q' := Option.some.inj (show some q = some q' from hq)
        rw [← e]
        exact h6
      rcases hkd with hk | hk | hk
      · exact absurd hk hk0
      · exact (acc_top0 br o mo gm gs cn s.cf s.pf g n S0 R M i w hn ho h0 hR hi hinv hout htab hrs pt sb count stable B s.L cap SA s.xs hk hz hb1 hpt hsb0 hown hL hB).mono top
      · exact (acc_top1 br o mo gm gs cn s.cf s.pf g n S0 R M i w hn ho h0 hR hi hinv hout htab hrs pt sb count stable B s.L cap SA s.xs hk hz hb1 hpt hsb0 hown hL hB).mono top
    · obtain ⟨k, hkk⟩ : ∃ k : Nat, 4294967295 - (S0 (R i)).ns = k := ⟨(4294967295 - (S0 (R i)).ns).toNat, by omega⟩
      have hkt : (4294967295 - (S0 (R i)).ns).toNat = k := by omega
      have hkc : k < cn 0 ∧ k < cn 1 := by
        rcases hrg with h | h
        · exact absurd h hz
        · omega
      have nest : ∀ j, j < 2 → j = jOf (S0 (R i)).kd → ∀ e w', NestPost2 w o mo br gm gs cn (upd2 s.cf j k (IntKind.u32.wrap (s.cf j k + count))) (if bits .and .u16 (S0 (R i)).fl 2 = 0 then s.pf else upd2 s.pf j k 1) g n S0 R M j e w' → SidePost w B o mo br gm gs cn g n S0 R M pt (accStep stable (S0 (R i)) (R i) count s) (.slice SA s.L cap) e w' := by
        rintro j hj hjk e w' ⟨he, h1, h2, h3⟩
        obtain ⟨scs, hsb⟩ := (hrs.slt j (by omega)).blk
        have e6 : pt ≠ gs j := Blk.ne_ hpt hsb (by decide)
        have e7 := own_blk_ne hown hsb (by decide)
        have ht : Turned (fun b => b = g ∨ b = pt ∨ Value.ownBlock (.slice SA s.L cap) = some b ∨ b = gs 0 ∨ b = gs 1) w w' := h3.more (fun b _ hb => by
          rcases hb with hb | hb
          · exact .inl hb
          · rcases (by omega : j = 0 ∨ j = 1) with rfl | rfl
            · exact .inr (.inr (.inr (.inl hb)))
            · exact .inr (.inr (.inr (.inr hb))))
        unfold accStep
        rw [if_neg hp, if_neg hz, hkt, ← hjk]
        exact ⟨he, _, ⟨fout _ ht, h1, h2, h3.blk hpt (by rintro (e | e); exact e1 e; exact e6 e), own_kept hown (fun k hk hlt => h3.block k hlt (by
          rintro (e | e)
          · exact e2 (by rw [hk, e])
          · exact e7 (by rw [hk, e])))⟩, ht, fun q hq => .inl hq⟩
      rcases hkd with hk | hk | hk
      · exact absurd hk hk0
      · exact (acc_nest0 br o mo gm gs cn s.cf s.pf g n S0 R M i w hn ho h0 hR hi hinv hout htab hrs (.pointer (some ⟨pt, 0, none⟩)) (.slice (some ⟨sb, 0, none⟩) 1 1) count _ k hk hb1 rfl hns hz hkk hkc.1 (hcn 0 (by omega))).mono (nest 0 (by omega) (by rw [hk]; rfl))
      · exact (acc_nest1 br o mo gm gs cn s.cf s.pf g n S0 R M i w hn ho h0 hR hi hinv hout htab hrs (.pointer (some ⟨pt, 0, none⟩)) (.slice (some ⟨sb, 0, none⟩) 1 1) count _ k hk hb1 rfl hns hz hkk hkc.2 (hcn 1 (by omega))).mono (nest 1 (by omega) (by rw [hk]; rfl))
end Go.Proofs.YtdmllmipcfkaaaaDoor
