/- zzRun: a script of AddSourceMapping on a builder that remaps through a map without mappings. -/
import Derived.Test.YtgdcpladehcegaaDoorAsm
import Derived.Test.YtgdcpladehcegaaDoorStp
import Derived.WalkKit
import Derived.WalkSpells
import Derived.LoopTactic
import Derived.WalkMore
import Derived.Deep.Light
import Derived.StillTailTactics
import Derived.Outline
import Derived.IntWalk
namespace Go.Proofs.YtgdcpladehcegaaDoor
open Go.RowKit
set_option linter.unusedVariables false
set_option linter.unusedSimpArgs false
structure FitsZ (a0 s : ByteArray) (Z : List Stp) : Prop where
  st : ∀ r ∈ Z, ∃ k0 : Nat, r.a = (pos a0 k0 : Nat)
  cut : ∀ r ∈ Z, ∃ m : Nat, r.b = (pos s m : Nat) ∧ Clean s (pos s m)
  mono : ∀ (k : Nat) (r r' : Stp), Z[k]? = some r → Z[k + 1]? = some r' → r.b ≤ r'.b
set_option maxHeartbeats 1000000 in
set_option maxRecDepth 100000 in
theorem zas_any (s a0 : ByteArray) (B g j m k0 smb tbk tc : Nat) (R : List (Value × Nat × Nat)) (sm nm : Value) (pn nam : ByteArray) (pgl : Nat) (ploc : Int) (asc lsm : Bool) (A : Option Addr) (cap : Nat) (w : World) (hs : s.size ≤ 1048576) (ha : a0.size ≤ 1048576) (hjm : j ≤ m)
    (hb : BS s B g (.pointer (some ⟨smb, 0, none⟩)) sm nm (.slice (some ⟨tbk, 0, none⟩) R.length tc) pn j (pos s j) pgl ploc asc lsm false w) (hgB : B ≤ g) (ho : Out w B A (pos s m) cap s) (hcl : Clean s (pos s m)) (hn : A = none → pos s m = 0)
    (htb : TabIn w B a0 tbk R) (htc : R.length ≤ tc) (hR : 1 ≤ R.length ∧ R.length ≤ a0.size + 1) (hsb : smb < B) (c2 : w.cell? ⟨smb, 2, none⟩ = some (.slice none 0 0)) :
    Calls Tryd.prog 19 #[.pointer (some ⟨g, 0, none⟩), .int .i32 (pos a0 k0 : Nat), .string nam, .slice A (pos s m) cap] w (AsPost s B g j m (.pointer (some ⟨smb, 0, none⟩)) nm (.slice (some ⟨tbk, 0, none⟩) R.length tc) asc w) := by
  have HA := Lib.hid (asm_any s a0 B g j m k0 smb tbk tc R sm nm pn nam pgl ploc asc lsm A cap w hs ha hjm hb hgB ho hcl hn htb htc hR hsb c2)
  clear hb ho hcl hn htb c2
  obtain ⟨st, hst⟩ : ∃ st, st = pos a0 k0 := ⟨_, rfl⟩
  obtain ⟨n, hnn⟩ : ∃ n, n = pos s m := ⟨_, rfl⟩
  rw [← hst, ← hnn] at HA ⊢
  clear hst hnn
  go_enter Tryd.func19, Tryd.ntmps19
  go_wp2_with (go_at_call 24; refine HA.out.mono ?_)
  rintro e w' ⟨rfl, h1, h2⟩
  have H := Lib.hid (show AsPost s B g j m (.pointer (some ⟨smb, 0, none⟩)) nm (.slice (some ⟨tbk, 0, none⟩) R.length tc) asc w (.returned (.tuple #[])) w' from ⟨rfl, h1, h2⟩)
  clear h1 h2
  go_wp2
  go_end0
  exact H.out
def RunPost (s : ByteArray) (B g : Nat) (im nm tb : Value) (asc : Bool) (w : World) (e : Ending) (w' : World) : Prop :=
  e = .returned (.tuple #[]) ∧ (∃ (j : Nat) (sm : Value) (lsm : Bool) (pn : ByteArray) (pgl : Nat) (ploc : Int), BS s B g im sm nm tb pn j (pos s j) pgl ploc asc lsm false w') ∧ Below B w w'
theorem slice_hi (A : Option Addr) (n cap c : Nat) (hc : c ≤ cap) (W : World) : (Instr.slice 22 (.slice A n cap) none (some (.int .i32 (c : Int))) none).run Tryd.prog W = .ok (.slice A c cap) W := by
  have he : Tryd.prog.elem 22 = 5 := by kernel_rfl
  have hu : Tryd.prog.underlying 22 = some (.slice (Tryd.prog.elem 22)) := by kernel_rfl
  rw [run_slice_h W 22 A n cap hu .i32 (c : Int) (by omega) (by omega), he, Tryd.sizeOf5]
  by_cases h0 : cap = 0 <;> cases A <;> simp [sliced, h0, Addr.add]
/-- A rune start at or behind another, with an index that is not smaller. -/
theorem pos_up (s : ByteArray) (j m : Nat) (h : pos s j ≤ pos s m) : ∃ m', j ≤ m' ∧ pos s m' = pos s m := by
  by_cases hj : j ≤ m
  · exact ⟨m, hj, rfl⟩
  · have := pos_mono s (show m ≤ j by omega)
    exact ⟨j, Nat.le_refl _, by omega⟩
set_option maxHeartbeats 4000000 in
set_option maxRecDepth 100000 in
theorem run_any (s a0 : ByteArray) (B g smb tbk tc : Nat) (R : List (Value × Nat × Nat)) (sm nm : Value) (pn : ByteArray) (pgl : Nat) (ploc : Int) (asc lsm : Bool) (A : Option Addr) (n cap : Nat) (D : Option Addr) (m mc : Nat) (Z : List Stp) (w : World) (hs : s.size ≤ 1048576) (ha : a0.size ≤ 1048576)
    (hb : BS s B g (.pointer (some ⟨smb, 0, none⟩)) sm nm (.slice (some ⟨tbk, 0, none⟩) R.length tc) pn 0 (pos s 0) pgl ploc asc lsm false w) (hgB : B ≤ g) (ho : Out w B A n cap s) (hn : A = none → s.size = 0) (hns : n = s.size)
    (htb : TabIn w B a0 tbk R) (htc : R.length ≤ tc) (hR : 1 ≤ R.length ∧ R.length ≤ a0.size + 1) (hsb : smb < B) (c2 : w.cell? ⟨smb, 2, none⟩ = some (.slice none 0 0))
    (hz : Reads w B 3 D m (row3 Z)) (hm : m ≤ 65536) (hzl : Z.length = m) (hmc : m ≤ mc) (hf : FitsZ a0 s Z) :
    Calls Tryd.prog 15 #[.pointer (some ⟨g, 0, none⟩), .slice A n cap, .slice D m mc] w (RunPost s B g (.pointer (some ⟨smb, 0, none⟩)) nm (.slice (some ⟨tbk, 0, none⟩) R.length tc) asc w) := by
  have hnc := ho.1
  have HB := Lib.hid hb; have HO := Lib.hid ho; have HN := Lib.hid hn; have HTB := Lib.hid htb; have HC2 := Lib.hid c2; have HZ := Lib.hid hz; have HF := Lib.hid hf; have HZL := Lib.hid hzl; have HNS := Lib.hid hns
  clear hb ho hn htb c2 hz hf hzl
  go_enter Tryd.func15, Tryd.ntmps15
  go_wp2
  go_loopw [6] (fun i wr => ∃ (k j : Nat) (sm : Value) (lsm : Bool) (pn : ByteArray) (pgl : Nat) (ploc : Int), i = .int .i64 (k : Int) ∧ k ≤ m ∧ BS s B g (.pointer (some ⟨smb, 0, none⟩)) sm nm (.slice (some ⟨tbk, 0, none⟩) R.length tc) pn j (pos s j) pgl ploc asc lsm false wr ∧ Below B w wr ∧ ∀ r, Z[k]? = some r → ((pos s j : Nat) : Int) ≤ r.b) (fun i _ => m - (intOf i).toNat)
  case atStart => exact ⟨0, 0, sm, lsm, pn, pgl, ploc, rfl, Nat.zero_le _, HB.out, Below.refl _ _, fun r hr => by
    obtain ⟨m1, h1, _⟩ := HF.out.cut r (List.mem_of_getElem? hr)
    rw [h1]; show ((0 : Nat) : Int) ≤ _; omega⟩
  case round =>
    obtain ⟨k, j, sm1, lsm1, pn1, pgl1, ploc1, rfl, hk, hbs, hbe, hle⟩ := hrel
    have HBS := Lib.hid hbs; have HBE := Lib.hid hbe; have HLE := Lib.hid hle
    clear hbs hbe hle
    by_cases hlt : k < m
    · obtain ⟨b, off, rfl, hbk, hx⟩ := reads3 (HZ.out.below HBE.out) (by omega)
      obtain ⟨r, hr⟩ : ∃ r, Z[k]? = some r := ⟨_, List.getElem?_eq_getElem (by have := HZL.out; omega)⟩
      obtain ⟨q0, q1, q2⟩ := hx k r hr
      obtain ⟨k0, hk0⟩ := HF.out.st r (List.mem_of_getElem? hr)
      obtain ⟨m1, hm1, hcl⟩ := HF.out.cut r (List.mem_of_getElem? hr)
      have hle1 := HLE.out r hr
      rw [hm1] at hle1
      obtain ⟨m2, hjm, he⟩ := pos_up s j m1 (by omega)
      rw [← he] at hm1 hcl
      rw [hk0] at q0
      rw [hm1] at q1
      have hps := pos_le s m2
      have HCALL := Lib.hid (fun (W : World) (hW : W = wr.drew) => zas_any s a0 B g j m2 k0 smb tbk tc R sm1 nm pn1 r.nm pgl1 ploc1 asc lsm1 A cap W hs ha hjm (by rw [hW]; exact ⟨HBS.out.blk, HBS.out.own, HBS.out.cov_⟩) hgB (by rw [hW]; exact (HO.out.below HBE.out.drew).cut (by have := HNS.out; omega)) hcl (fun h => by have := HN.out h; omega) (by rw [hW]; exact HTB.out.below HBE.out.drew) htc hR hsb (by rw [hW]; exact (HBE.out.cell (p := ⟨smb, 2, none⟩) hsb).trans HC2.out))
      obtain ⟨st, hst⟩ : ∃ st, st = pos a0 k0 := ⟨_, rfl⟩
      obtain ⟨ct, hct⟩ : ∃ n, n = pos s m2 := ⟨_, rfl⟩
      rw [← hct] at hm1 hps
      rw [← hst] at q0
      rw [← hct] at q1
      rw [← hst, ← hct] at HCALL
      have hctc : ct ≤ cap := by omega
      have hsl := fun W => slice_hi A n cap ct hctc W
      have HR := Lib.hid hr; have HM1 := Lib.hid hm1; have HCT := Lib.hid hct
      have HBW : Hid (Below B w wr.drew) := Lib.hid HBE.out.drew
      have hwk : IntKind.i64.wrap ((k : Int) + 1) = ((k + 1 : Nat) : Int) := by rw [IntKind.wrap_i64]; omega
      have hlt' : (k : Int) < (m : Int) := by omega
      have hoff : off + k * 3 + 0 = off + k * 3 := rfl
      clear hx hr hk0 hm1 he hle1 hst hct hcl hns
      go_wp2
      go_still_tail 18, (by kernel_rfl)
      change wpList _ _ _ _ _ wr.drew
      go_wp2_with (go_at_call 19; refine (HCALL.out _ rfl).mono ?_)
      rintro e w7 ⟨rfl, ⟨j', sm7, lsm7, pn7, pgl7, ploc7, hj', hb7⟩, hbe7⟩
      have HB7 := Lib.hid hb7; have HBE7 := Lib.hid (HBW.out.trans hbe7); have HJ := Lib.hid hj'
      clear hb7 hbe7 hj'
      go_wp2
      go_roundw
      case rel =>
        refine ⟨k + 1, j', sm7, lsm7, pn7, pgl7, ploc7, rfl, by omega, HB7.out, HBE7.out, fun r' hr' => ?_⟩
        have h1 := HF.out.mono k r r' HR.out hr'
        have h2 := HM1.out
        have h3 := HCT.out
        have h4 := pos_mono s hjm
        rcases HJ.out with h | h
        · rw [h]; omega
        · rw [h]; omega
      case measure => simp [intOf]; omega
    · obtain rfl : k = m := by omega
      have hlt' : ¬ ((k : Int) < (k : Int)) := by omega
      go_wp2
      go_end0
      exact ⟨rfl, ⟨j, sm1, lsm1, pn1, pgl1, ploc1, HBS.out⟩, HBE.out⟩
end Go.Proofs.YtgdcpladehcegaaDoor
